import PyProof.Rows.All
import Wide.All
import OpenK.AllK
import Wide.FinOn
import PySem.Challenge.RW_mq0425_01
set_option Elab.async false
set_option compiler.extract_closed false
local macro_rules | `(tactic| walk_at $s:str) => `(tactic| k_extra $s)
local macro_rules | `(tactic| omega) => `(tactic| k_extra "om")
local macro_rules | `(tactic| k_lt $h:ident) => `(tactic| (replace $h := PySem.W.allLt_of $h; dsimp only [PySem.W.AllLt] at $h:ident))
section
open PySem PySem.W PyProof.Rows PySem.Calls PySem.W.Fast
set_option maxRecDepth 100000
set_option maxHeartbeats 0
namespace Mine
noncomputable abbrev lit {α : Type} {a b : α} (_ : a = b) : α := b
noncomputable def nthS : List Stmt → Nat → Stmt
  | [], _ => .Pass ⟨0, 0, 0, 0⟩
  | s :: _, 0 => s
  | _ :: r, n + 1 => nthS r n
noncomputable def bodyS : Stmt → List Stmt
  | .FunctionDef _ _ b _ _ _ _ _ _ _ => b
  | .ClassDef _ _ _ b _ _ _ _ _ _ _ => b
  | _ => []
noncomputable def argsS : Stmt → Arguments
  | .FunctionDef _ a _ _ _ _ _ _ _ _ => a
  | _ => ⟨[], [], none, [], [], none, []⟩
noncomputable def scopeS : Stmt → Scope
  | .FunctionDef _ _ _ _ _ _ s _ _ _ => s
  | _ => ⟨.function, [], false, false, []⟩
noncomputable abbrev pwB : List Stmt := PySem.Challenge.pw_mq0425_01.main.body
noncomputable abbrev p56 : Arguments := lit (show argsS (nthS (bodyS (nthS pwB 3)) 1) = _ by conv => lhs; whnf)
noncomputable abbrev b56 : List Stmt := lit (show bodyS (nthS (bodyS (nthS pwB 3)) 1) = _ by conv => lhs; whnf)
noncomputable abbrev s56 : Scope := lit (show scopeS (nthS (bodyS (nthS pwB 3)) 1) = _ by conv => lhs; whnf)
noncomputable abbrev p63 : Arguments := lit (show argsS (nthS (bodyS (nthS pwB 3)) 2) = _ by conv => lhs; whnf)
noncomputable abbrev b63 : List Stmt := lit (show bodyS (nthS (bodyS (nthS pwB 3)) 2) = _ by conv => lhs; whnf)
noncomputable abbrev s63 : Scope := lit (show scopeS (nthS (bodyS (nthS pwB 3)) 2) = _ by conv => lhs; whnf)
noncomputable abbrev p70 : Arguments := lit (show argsS (nthS (bodyS (nthS pwB 3)) 3) = _ by conv => lhs; whnf)
noncomputable abbrev b70 : List Stmt := lit (show bodyS (nthS (bodyS (nthS pwB 3)) 3) = _ by conv => lhs; whnf)
noncomputable abbrev s70 : Scope := lit (show scopeS (nthS (bodyS (nthS pwB 3)) 3) = _ by conv => lhs; whnf)
noncomputable abbrev p77 : Arguments := lit (show argsS (nthS (bodyS (nthS pwB 3)) 4) = _ by conv => lhs; whnf)
noncomputable abbrev b77 : List Stmt := lit (show bodyS (nthS (bodyS (nthS pwB 3)) 4) = _ by conv => lhs; whnf)
noncomputable abbrev s77 : Scope := lit (show scopeS (nthS (bodyS (nthS pwB 3)) 4) = _ by conv => lhs; whnf)
noncomputable abbrev p84 : Arguments := lit (show argsS (nthS (bodyS (nthS pwB 3)) 5) = _ by conv => lhs; whnf)
noncomputable abbrev b84 : List Stmt := lit (show bodyS (nthS (bodyS (nthS pwB 3)) 5) = _ by conv => lhs; whnf)
noncomputable abbrev s84 : Scope := lit (show scopeS (nthS (bodyS (nthS pwB 3)) 5) = _ by conv => lhs; whnf)
noncomputable abbrev p119 : Arguments := lit (show argsS (nthS pwB 6) = _ by conv => lhs; whnf)
noncomputable abbrev b119 : List Stmt := lit (show bodyS (nthS pwB 6) = _ by conv => lhs; whnf)
noncomputable abbrev s119 : Scope := lit (show scopeS (nthS pwB 6) = _ by conv => lhs; whnf)
noncomputable abbrev p146 : Arguments := lit (show argsS (nthS (bodyS (nthS pwB 8)) 1) = _ by conv => lhs; whnf)
noncomputable abbrev b146 : List Stmt := lit (show bodyS (nthS (bodyS (nthS pwB 8)) 1) = _ by conv => lhs; whnf)
noncomputable abbrev s146 : Scope := lit (show scopeS (nthS (bodyS (nthS pwB 8)) 1) = _ by conv => lhs; whnf)
noncomputable abbrev p423 : Arguments := lit (show argsS (nthS (bodyS (nthS pwB 12)) 1) = _ by conv => lhs; whnf)
noncomputable abbrev b423 : List Stmt := lit (show bodyS (nthS (bodyS (nthS pwB 12)) 1) = _ by conv => lhs; whnf)
noncomputable abbrev s423 : Scope := lit (show scopeS (nthS (bodyS (nthS pwB 12)) 1) = _ by conv => lhs; whnf)
noncomputable abbrev p430 : Arguments := lit (show argsS (nthS (bodyS (nthS pwB 12)) 2) = _ by conv => lhs; whnf)
noncomputable abbrev b430 : List Stmt := lit (show bodyS (nthS (bodyS (nthS pwB 12)) 2) = _ by conv => lhs; whnf)
noncomputable abbrev s430 : Scope := lit (show scopeS (nthS (bodyS (nthS pwB 12)) 2) = _ by conv => lhs; whnf)
noncomputable abbrev p437 : Arguments := lit (show argsS (nthS (bodyS (nthS pwB 12)) 3) = _ by conv => lhs; whnf)
noncomputable abbrev b437 : List Stmt := lit (show bodyS (nthS (bodyS (nthS pwB 12)) 3) = _ by conv => lhs; whnf)
noncomputable abbrev s437 : Scope := lit (show scopeS (nthS (bodyS (nthS pwB 12)) 3) = _ by conv => lhs; whnf)
noncomputable abbrev p451 : Arguments := lit (show argsS (nthS (bodyS (nthS pwB 12)) 5) = _ by conv => lhs; whnf)
noncomputable abbrev b451 : List Stmt := lit (show bodyS (nthS (bodyS (nthS pwB 12)) 5) = _ by conv => lhs; whnf)
noncomputable abbrev s451 : Scope := lit (show scopeS (nthS (bodyS (nthS pwB 12)) 5) = _ by conv => lhs; whnf)
noncomputable abbrev p599 : Arguments := lit (show argsS (nthS (bodyS (nthS pwB 12)) 25) = _ by conv => lhs; whnf)
noncomputable abbrev b599 : List Stmt := lit (show bodyS (nthS (bodyS (nthS pwB 12)) 25) = _ by conv => lhs; whnf)
noncomputable abbrev s599 : Scope := lit (show scopeS (nthS (bodyS (nthS pwB 12)) 25) = _ by conv => lhs; whnf)
noncomputable abbrev p607 : Arguments := lit (show argsS (nthS (bodyS (nthS pwB 12)) 26) = _ by conv => lhs; whnf)
noncomputable abbrev b607 : List Stmt := lit (show bodyS (nthS (bodyS (nthS pwB 12)) 26) = _ by conv => lhs; whnf)
noncomputable abbrev s607 : Scope := lit (show scopeS (nthS (bodyS (nthS pwB 12)) 26) = _ by conv => lhs; whnf)
noncomputable abbrev p712 : Arguments := lit (show argsS (nthS (bodyS (nthS pwB 21)) 0) = _ by conv => lhs; whnf)
noncomputable abbrev b712 : List Stmt := lit (show bodyS (nthS (bodyS (nthS pwB 21)) 0) = _ by conv => lhs; whnf)
noncomputable abbrev s712 : Scope := lit (show scopeS (nthS (bodyS (nthS pwB 21)) 0) = _ by conv => lhs; whnf)
noncomputable abbrev p719 : Arguments := lit (show argsS (nthS (bodyS (nthS pwB 21)) 1) = _ by conv => lhs; whnf)
noncomputable abbrev b719 : List Stmt := lit (show bodyS (nthS (bodyS (nthS pwB 21)) 1) = _ by conv => lhs; whnf)
noncomputable abbrev s719 : Scope := lit (show scopeS (nthS (bodyS (nthS pwB 21)) 1) = _ by conv => lhs; whnf)
noncomputable abbrev p749 : Arguments := lit (show argsS (nthS (bodyS (nthS pwB 21)) 5) = _ by conv => lhs; whnf)
noncomputable abbrev b749 : List Stmt := lit (show bodyS (nthS (bodyS (nthS pwB 21)) 5) = _ by conv => lhs; whnf)
noncomputable abbrev s749 : Scope := lit (show scopeS (nthS (bodyS (nthS pwB 21)) 5) = _ by conv => lhs; whnf)
noncomputable abbrev p756 : Arguments := lit (show argsS (nthS (bodyS (nthS pwB 21)) 6) = _ by conv => lhs; whnf)
noncomputable abbrev b756 : List Stmt := lit (show bodyS (nthS (bodyS (nthS pwB 21)) 6) = _ by conv => lhs; whnf)
noncomputable abbrev s756 : Scope := lit (show scopeS (nthS (bodyS (nthS pwB 21)) 6) = _ by conv => lhs; whnf)
noncomputable abbrev p797 : Arguments := lit (show argsS (nthS pwB 23) = _ by conv => lhs; whnf)
noncomputable abbrev b797 : List Stmt := lit (show bodyS (nthS pwB 23) = _ by conv => lhs; whnf)
noncomputable abbrev s797 : Scope := lit (show scopeS (nthS pwB 23) = _ by conv => lhs; whnf)
noncomputable abbrev p802 : Arguments := lit (show argsS (nthS pwB 24) = _ by conv => lhs; whnf)
noncomputable abbrev b802 : List Stmt := lit (show bodyS (nthS pwB 24) = _ by conv => lhs; whnf)
noncomputable abbrev s802 : Scope := lit (show scopeS (nthS pwB 24) = _ by conv => lhs; whnf)
noncomputable abbrev p809 : Arguments := lit (show argsS (nthS pwB 25) = _ by conv => lhs; whnf)
noncomputable abbrev b809 : List Stmt := lit (show bodyS (nthS pwB 25) = _ by conv => lhs; whnf)
noncomputable abbrev s809 : Scope := lit (show scopeS (nthS pwB 25) = _ by conv => lhs; whnf)
noncomputable abbrev p816 : Arguments := lit (show argsS (nthS pwB 26) = _ by conv => lhs; whnf)
noncomputable abbrev b816 : List Stmt := lit (show bodyS (nthS pwB 26) = _ by conv => lhs; whnf)
noncomputable abbrev s816 : Scope := lit (show scopeS (nthS pwB 26) = _ by conv => lhs; whnf)
noncomputable abbrev p823 : Arguments := lit (show argsS (nthS pwB 27) = _ by conv => lhs; whnf)
noncomputable abbrev b823 : List Stmt := lit (show bodyS (nthS pwB 27) = _ by conv => lhs; whnf)
noncomputable abbrev s823 : Scope := lit (show scopeS (nthS pwB 27) = _ by conv => lhs; whnf)
noncomputable abbrev p828 : Arguments := lit (show argsS (nthS pwB 28) = _ by conv => lhs; whnf)
noncomputable abbrev b828 : List Stmt := lit (show bodyS (nthS pwB 28) = _ by conv => lhs; whnf)
noncomputable abbrev s828 : Scope := lit (show scopeS (nthS pwB 28) = _ by conv => lhs; whnf)
noncomputable abbrev p833 : Arguments := lit (show argsS (nthS pwB 29) = _ by conv => lhs; whnf)
noncomputable abbrev b833 : List Stmt := lit (show bodyS (nthS pwB 29) = _ by conv => lhs; whnf)
noncomputable abbrev s833 : Scope := lit (show scopeS (nthS pwB 29) = _ by conv => lhs; whnf)
noncomputable abbrev p840 : Arguments := lit (show argsS (nthS pwB 30) = _ by conv => lhs; whnf)
noncomputable abbrev b840 : List Stmt := lit (show bodyS (nthS pwB 30) = _ by conv => lhs; whnf)
noncomputable abbrev s840 : Scope := lit (show scopeS (nthS pwB 30) = _ by conv => lhs; whnf)
noncomputable def hd.heap_39 : Params → Frag := fun P =>
  (nat_lit 2, ⟨.none, none, (.dict (List.toArray [⟨PyData.keyHash P (Str.ofString "\x69mport.loaded._collections"), (.str (Str.ofString "\x69mport.loaded._collections") 185), (.bool true)⟩, ⟨PyData.keyHash P (Str.ofString "class._frozen_importlib.BuiltinImporter"), (.str (Str.ofString "class._frozen_importlib.BuiltinImporter") 187), (.ref 15)⟩, ⟨PyData.keyHash P (Str.ofString "watched.\x69mport"), (.str (Str.ofString "watched.\x69mport") 208), (.ref 19)⟩, ⟨PyData.keyHash P (Str.ofString "class._frozen_importlib.ModuleSpec"), (.str (Str.ofString "class._frozen_importlib.ModuleSpec") 218), (.ref 23)⟩, ⟨PyData.keyHash P (Str.ofString "sys.modules.booked-epoch"), (.str (Str.ofString "sys.modules.booked-epoch") 247), (.int 3 0)⟩, ⟨PyData.keyHash P (Str.ofString "sys.modules.landed._collections"), (.str (Str.ofString "sys.modules.landed._collections") 248), (.bool true)⟩, ⟨PyData.keyHash P (Str.ofString "\x69mport.later-laid._collections"), (.str (Str.ofString "\x69mport.later-laid._collections") 263), (.bool true)⟩, ⟨PyData.keyHash P (Str.ofString "watched.library"), (.str (Str.ofString "watched.library") 265), (.ref 28)⟩, ⟨PyData.keyHash P (Str.ofString "watched.library-objects"), (.str (Str.ofString "watched.library-objects") 0), (.str (Str.ofString "\x0d") 0)⟩, ⟨PyData.keyHash P (Str.ofString "watched.library-deep._collections"), (.str (Str.ofString "watched.library-deep._collections") 266), (.str (Str.ofString "\x04\x00\x00\x0c\x04\x00\x00\x0c\x04\x00\x00\x03\x04\x00\x00\x0c\x08\x04dict\x02") 0)⟩, ⟨PyData.keyHash P (Str.ofString "type.__subclasses__.OSError.0"), (.str (Str.ofString "type.__subclasses__.OSError.0") 425), (.int 129 0)⟩, ⟨PyData.keyHash P (Str.ofString "type.__subclasses__.OSError.n"), (.str (Str.ofString "type.__subclasses__.OSError.n") 426), (.int 1 0)⟩]) 12), List.toArray []⟩) ::
  (nat_lit 3, ⟨(.type "dict"), none, (.dict (List.toArray [⟨PyData.keyHash P (Str.ofString "__name__"), (.str (Str.ofString "__name__") 165), (.str (Str.ofString "law_mq0425_01") 1245)⟩, ⟨PyData.keyHash P (Str.ofString "__doc__"), (.str (Str.ofString "__doc__") 166), .none⟩, ⟨PyData.keyHash P (Str.ofString "__package__"), (.str (Str.ofString "__package__") 167), .none⟩, ⟨PyData.keyHash P (Str.ofString "__loader__"), (.str (Str.ofString "__loader__") 168), (.builtin "__main__.__loader__#opaque")⟩, ⟨PyData.keyHash P (Str.ofString "__spec__"), (.str (Str.ofString "__spec__") 169), .none⟩, ⟨PyData.keyHash P (Str.ofString "__annotations__"), (.str (Str.ofString "__annotations__") 170), (.ref 6)⟩, ⟨PyData.keyHash P (Str.ofString "__builtins__"), (.str (Str.ofString "__builtins__") 171), (.ref 4)⟩, ⟨PyData.keyHash P (Str.ofString "__file__"), (.str (Str.ofString "__file__") 173), (.str (Str.ofString "/claim/cut.py") 172)⟩, ⟨PyData.keyHash P (Str.ofString "__cached__"), (.str (Str.ofString "__cached__") 174), .none⟩, ⟨PyData.keyHash P (Str.ofString "deque"), (.str (Str.ofString "deque") 272), (.type "collections.deque")⟩, ⟨PyData.keyHash P (Str.ofString "_wall"), (.str (Str.ofString "_wall") 285), (.ref 39)⟩, ⟨PyData.keyHash P (Str.ofString "Whitespace"), (.str (Str.ofString "Whitespace") 388), (.ref 101)⟩, ⟨PyData.keyHash P (Str.ofString "_whence"), (.str (Str.ofString "_whence") 398), (.ref 112)⟩, ⟨PyData.keyHash P (Str.ofString "_index"), (.str (Str.ofString "_index") 406), (.ref 119)⟩, ⟨PyData.keyHash P (Str.ofString "UnsupportedOperation"), (.str (Str.ofString "UnsupportedOperation") 428), (.ref 129)⟩, ⟨PyData.keyHash P (Str.ofString "IOBase"), (.str (Str.ofString "IOBase") 460), (.ref 149)⟩, ⟨PyData.keyHash P (Str.ofString "BufferedIOBase"), (.str (Str.ofString "BufferedIOBase") 478), (.ref 164)⟩, ⟨PyData.keyHash P (Str.ofString "TextIOBase"), (.str (Str.ofString "TextIOBase") 496), (.ref 176)⟩, ⟨PyData.keyHash P (Str.ofString "BytesIO"), (.str (Str.ofString "BytesIO") 758), (.ref 406)⟩, ⟨PyData.keyHash P (Str.ofString "StringIO"), (.str (Str.ofString "StringIO") 1045), (.ref 653)⟩, ⟨PyData.keyHash P (Str.ofString "_kind"), (.str (Str.ofString "_kind") 1056), (.ref 662)⟩, ⟨PyData.keyHash P (Str.ofString "_fspath"), (.str (Str.ofString "_fspath") 1065), (.ref 669)⟩, ⟨PyData.keyHash P (Str.ofString "_check_arg_types"), (.str (Str.ofString "_check_arg_types") 1075), (.ref 676)⟩, ⟨PyData.keyHash P (Str.ofString "isabs"), (.str (Str.ofString "isabs") 1082), (.ref 683)⟩, ⟨PyData.keyHash P (Str.ofString "join"), (.str (Str.ofString "join") 1093), (.ref 690)⟩, ⟨PyData.keyHash P (Str.ofString "dirname"), (.str (Str.ofString "dirname") 1103), (.ref 697)⟩, ⟨PyData.keyHash P (Str.ofString "shlex"), (.str (Str.ofString "shlex") 1244), (.ref 788)⟩, ⟨PyData.keyHash P (Str.ofString "_law_spelled"), (.str (Str.ofString "_law_spelled") 1252), (.ref 797)⟩, ⟨PyData.keyHash P (Str.ofString "_law_cell"), (.str (Str.ofString "_law_cell") 1258), (.ref 802)⟩, ⟨PyData.keyHash P (Str.ofString "_law_line"), (.str (Str.ofString "_law_line") 1271), (.ref 809)⟩, ⟨PyData.keyHash P (Str.ofString "_law_told"), (.str (Str.ofString "_law_told") 1284), (.ref 816)⟩, ⟨PyData.keyHash P (Str.ofString "_law_walked"), (.str (Str.ofString "_law_walked") 1296), (.ref 823)⟩, ⟨PyData.keyHash P (Str.ofString "_law_longest"), (.str (Str.ofString "_law_longest") 1302), (.ref 828)⟩, ⟨PyData.keyHash P (Str.ofString "_law_seen"), (.str (Str.ofString "_law_seen") 1308), (.ref 833)⟩, ⟨PyData.keyHash P (Str.ofString "_law_unlike"), (.str (Str.ofString "_law_unlike") 1318), (.ref 840)⟩, ⟨PyData.keyHash P (Str.ofString "law"), (.str (Str.ofString "law") 1324), (.ref 845)⟩]) 36), List.toArray []⟩) ::
  (nat_lit 55, ⟨(.type "code"), none, (.fields (List.toArray [(.str (Str.ofString "__init__") 305), (.str (Str.ofString "Whitespace.__init__") 306), (.str (Str.ofString "/claim/cut.py") 307), (.int 9 0), (.int 2 0), (.int 0 0), (.int 0 0), (.int 3 0), (.ref 50), (.bool true), (.int 273 0), (.ref 51), .none, (.ref 52), (.ref 53), (.ref 54), (.int 317 0), (.int 9 0), (.str (Str.ofString "/claim/cut.py") 318)])), List.toArray []⟩) ::
  (nat_lit 56, ⟨(.type "function"), none, (.func (fnOf (Str.ofString "__init__") (Str.ofString "Whitespace.__init__") p56 b56 s56 .none .none .none (.str (Str.ofString "cpy313.tabnanny") 286) none (.ref 55) .none)), List.toArray []⟩) ::
  (nat_lit 62, ⟨(.type "code"), none, (.fields (List.toArray [(.str (Str.ofString "longest_run_of_spaces") 320), (.str (Str.ofString "Whitespace.longest_run_of_spaces") 321), (.str (Str.ofString "/claim/cut.py") 322), (.int 32 0), (.int 1 0), (.int 0 0), (.int 0 0), (.int 3 0), (.ref 57), (.bool true), (.int 273 0), (.ref 58), .none, (.ref 59), (.ref 60), (.ref 61), (.int 326 0), (.int 32 0), (.str (Str.ofString "/claim/cut.py") 327)])), List.toArray []⟩) ::
  (nat_lit 63, ⟨(.type "function"), none, (.func (fnOf (Str.ofString "longest_run_of_spaces") (Str.ofString "Whitespace.longest_run_of_spaces") p63 b63 s63 .none .none .none (.str (Str.ofString "cpy313.tabnanny") 286) none (.ref 62) .none)), List.toArray []⟩) ::
  (nat_lit 69, ⟨(.type "code"), none, (.fields (List.toArray [(.str (Str.ofString "indent_level") 329), (.str (Str.ofString "Whitespace.indent_level") 330), (.str (Str.ofString "/claim/cut.py") 331), (.int 36 0), (.int 2 0), (.int 0 0), (.int 0 0), (.int 3 0), (.ref 64), (.bool true), (.int 273 0), (.ref 65), .none, (.ref 66), (.ref 67), (.ref 68), (.int 338 0), (.int 36 0), (.str (Str.ofString "/claim/cut.py") 339)])), List.toArray []⟩) ::
  (nat_lit 70, ⟨(.type "function"), none, (.func (fnOf (Str.ofString "indent_level") (Str.ofString "Whitespace.indent_level") p70 b70 s70 .none .none .none (.str (Str.ofString "cpy313.tabnanny") 286) none (.ref 69) .none)), List.toArray []⟩) ::
  (nat_lit 76, ⟨(.type "code"), none, (.fields (List.toArray [(.str (Str.ofString "equal") 341), (.str (Str.ofString "Whitespace.equal") 342), (.str (Str.ofString "/claim/cut.py") 343), (.int 43 0), (.int 2 0), (.int 0 0), (.int 0 0), (.int 3 0), (.ref 71), (.bool true), (.int 273 0), (.ref 72), .none, (.ref 73), (.ref 74), (.ref 75), (.int 346 0), (.int 43 0), (.str (Str.ofString "/claim/cut.py") 347)])), List.toArray []⟩) ::
  (nat_lit 77, ⟨(.type "function"), none, (.func (fnOf (Str.ofString "equal") (Str.ofString "Whitespace.equal") p77 b77 s77 .none .none .none (.str (Str.ofString "cpy313.tabnanny") 286) none (.ref 76) .none)), List.toArray []⟩) ::
  (nat_lit 83, ⟨(.type "code"), none, (.fields (List.toArray [(.str (Str.ofString "not_equal_witness") 349), (.str (Str.ofString "Whitespace.not_equal_witness") 350), (.str (Str.ofString "/claim/cut.py") 351), (.int 46 0), (.int 2 0), (.int 0 0), (.int 0 0), (.int 3 0), (.ref 78), (.bool true), (.int 273 0), (.ref 79), .none, (.ref 80), (.ref 81), (.ref 82), (.int 357 0), (.int 46 0), (.str (Str.ofString "/claim/cut.py") 358)])), List.toArray []⟩) ::
  (nat_lit 84, ⟨(.type "function"), none, (.func (fnOf (Str.ofString "not_equal_witness") (Str.ofString "Whitespace.not_equal_witness") p84 b84 s84 .none .none .none (.str (Str.ofString "cpy313.tabnanny") 286) none (.ref 83) .none)), List.toArray []⟩) ::
  (nat_lit 100, ⟨(.type "dict"), none, (.dict (List.toArray [⟨PyData.keyHash P (Str.ofString "__module__"), (.str (Str.ofString "__module__") 295), (.str (Str.ofString "cpy313.tabnanny") 286)⟩, ⟨PyData.keyHash P (Str.ofString "__firstlineno__"), (.str (Str.ofString "__firstlineno__") 299), (.int 6 298)⟩, ⟨PyData.keyHash P (Str.ofString "S"), (.str (Str.ofString "S") 303), (.str (Str.ofString " ") 301)⟩, ⟨PyData.keyHash P (Str.ofString "T"), (.str (Str.ofString "T") 304), (.str (Str.ofString "\t") 302)⟩, ⟨PyData.keyHash P (Str.ofString "__init__"), (.str (Str.ofString "__init__") 319), (.ref 56)⟩, ⟨PyData.keyHash P (Str.ofString "longest_run_of_spaces"), (.str (Str.ofString "longest_run_of_spaces") 328), (.ref 63)⟩, ⟨PyData.keyHash P (Str.ofString "indent_level"), (.str (Str.ofString "indent_level") 340), (.ref 70)⟩, ⟨PyData.keyHash P (Str.ofString "equal"), (.str (Str.ofString "equal") 348), (.ref 77)⟩, ⟨PyData.keyHash P (Str.ofString "not_equal_witness"), (.str (Str.ofString "not_equal_witness") 359), (.ref 84)⟩, ⟨PyData.keyHash P (Str.ofString "less"), (.str (Str.ofString "less") 367), (.ref 91)⟩, ⟨PyData.keyHash P (Str.ofString "not_less_witness"), (.str (Str.ofString "not_less_witness") 375), (.ref 98)⟩, ⟨PyData.keyHash P (Str.ofString "__static_attributes__"), (.str (Str.ofString "__static_attributes__") 381), (.ref 99)⟩, ⟨PyData.keyHash P (Str.ofString "__dict__"), (.str (Str.ofString "__dict__") 383), (.ref 102)⟩, ⟨PyData.keyHash P (Str.ofString "__weakref__"), (.str (Str.ofString "__weakref__") 385), (.ref 103)⟩, ⟨PyData.keyHash P (Str.ofString "__doc__"), (.str (Str.ofString "__doc__") 386), .none⟩]) 4), List.toArray []⟩) ::
  (nat_lit 101, ⟨(.type "type"), none, (.cls ⟨(Str.ofString "Whitespace"), [(.type "object")], [(.ref 101), (.type "object")], 100, (Str.ofString "Whitespace"), true, [], [], false, none, false⟩), List.toArray [none, none, (some (.str (Str.ofString "Whitespace") 288)), (some (.str (Str.ofString "Whitespace") 296)), (some (.builtin "object.__new__")), (some (.bool true))]⟩) ::
  (nat_lit 118, ⟨(.type "code"), none, (.fields (List.toArray [(.str (Str.ofString "_index") 399), (.str (Str.ofString "_index") 400), (.str (Str.ofString "/claim/cut.py") 401), (.int 65 0), (.int 2 0), (.int 0 0), (.int 0 0), (.int 3 0), (.ref 113), (.bool true), (.int 273 0), (.ref 114), .none, (.ref 115), (.ref 116), (.ref 117), (.int 404 0), (.int 65 0), (.str (Str.ofString "/claim/cut.py") 405)])), List.toArray []⟩) ::
  (nat_lit 119, ⟨(.type "function"), none, (.func (fnOf (Str.ofString "_index") (Str.ofString "_index") p119 b119 s119 .none .none .none (.str (Str.ofString "io") 389) none (.ref 118) .none)), List.toArray []⟩) ::
  (nat_lit 145, ⟨(.type "code"), none, (.fields (List.toArray [(.str (Str.ofString "__new__") 443), (.str (Str.ofString "IOBase.__new__") 444), (.str (Str.ofString "/claim/cut.py") 445), (.int 77 0), (.int 1 0), (.int 1 0), (.int 0 0), (.int 15 0), (.ref 140), (.bool true), (.int 273 0), (.ref 141), .none, (.ref 142), (.ref 143), (.ref 144), (.int 449 0), (.int 77 0), (.str (Str.ofString "/claim/cut.py") 450)])), List.toArray []⟩) ::
  (nat_lit 146, ⟨(.type "function"), none, (.func (fnOf (Str.ofString "__new__") (Str.ofString "IOBase.__new__") p146 b146 s146 .none .none .none (.str (Str.ofString "io") 389) none (.ref 145) .none)), List.toArray []⟩) ::
  (nat_lit 148, ⟨(.type "dict"), none, (.dict (List.toArray [⟨PyData.keyHash P (Str.ofString "__module__"), (.str (Str.ofString "__module__") 436), (.str (Str.ofString "io") 441)⟩, ⟨PyData.keyHash P (Str.ofString "__firstlineno__"), (.str (Str.ofString "__firstlineno__") 440), (.int 74 439)⟩, ⟨PyData.keyHash P (Str.ofString "__new__"), (.str (Str.ofString "__new__") 451), (.ref 150)⟩, ⟨PyData.keyHash P (Str.ofString "__static_attributes__"), (.str (Str.ofString "__static_attributes__") 452), (.ref 147)⟩, ⟨PyData.keyHash P (Str.ofString "__dict__"), (.str (Str.ofString "__dict__") 455), (.ref 151)⟩, ⟨PyData.keyHash P (Str.ofString "__weakref__"), (.str (Str.ofString "__weakref__") 457), (.ref 152)⟩, ⟨PyData.keyHash P (Str.ofString "__doc__"), (.str (Str.ofString "__doc__") 458), .none⟩]) 4), List.toArray []⟩) ::
  (nat_lit 149, ⟨(.type "type"), none, (.cls ⟨(Str.ofString "IOBase"), [(.type "object")], [(.ref 149), (.type "object")], 148, (Str.ofString "IOBase"), true, [], [(.ref 164), (.ref 176)], false, none, false⟩), List.toArray [none, none, (some (.str (Str.ofString "IOBase") 429)), (some (.str (Str.ofString "IOBase") 437)), (some .none), (some (.bool true))]⟩) ::
  (nat_lit 150, ⟨(.type "staticmethod"), none, (.fields (List.toArray [(.ref 146)])), List.toArray []⟩) ::
  (nat_lit 175, ⟨(.type "dict"), none, (.dict (List.toArray [⟨PyData.keyHash P (Str.ofString "__module__"), (.str (Str.ofString "__module__") 486), (.str (Str.ofString "io") 491)⟩, ⟨PyData.keyHash P (Str.ofString "__firstlineno__"), (.str (Str.ofString "__firstlineno__") 490), (.int 83 489)⟩, ⟨PyData.keyHash P (Str.ofString "__static_attributes__"), (.str (Str.ofString "__static_attributes__") 493), (.ref 174)⟩, ⟨PyData.keyHash P (Str.ofString "__doc__"), (.str (Str.ofString "__doc__") 494), .none⟩]) 2), List.toArray []⟩) ::
  (nat_lit 176, ⟨(.type "type"), none, (.cls ⟨(Str.ofString "TextIOBase"), [(.ref 149)], [(.ref 176), (.ref 149), (.type "object")], 175, (Str.ofString "TextIOBase"), true, [], [(.ref 653)], false, none, false⟩), List.toArray [(some (.ref 167)), none, (some (.str (Str.ofString "TextIOBase") 479)), (some (.str (Str.ofString "TextIOBase") 487)), (some .none), (some (.bool true))]⟩) ::
  (nat_lit 406, ⟨(.type "type"), none, (.cls ⟨(Str.ofString "BytesIO"), [(.ref 164)], [(.ref 406), (.ref 164), (.ref 149), (.type "object")], 405, (Str.ofString "BytesIO"), true, [], [], false, none, false⟩), List.toArray [(some (.ref 179)), none, (some (.str (Str.ofString "BytesIO") 497)), (some (.str (Str.ofString "BytesIO") 505)), (some .none), (some (.bool true))]⟩) ::
  (nat_lit 416, ⟨(.type "tuple"), none, (.seq (List.toArray [(.str (Str.ofString "") 773), (.str (Str.ofString "\n") 774)]) 0), List.toArray []⟩) ::
  (nat_lit 422, ⟨(.type "code"), none, (.fields (List.toArray [(.str (Str.ofString "__init__") 775), (.str (Str.ofString "StringIO.__init__") 776), (.str (Str.ofString "/claim/cut.py") 777), (.int 258 0), (.int 3 0), (.int 0 0), (.int 0 0), (.int 3 0), (.ref 417), (.bool true), (.int 273 0), (.ref 418), .none, (.ref 419), (.ref 420), (.ref 421), (.int 781 0), (.int 258 0), (.str (Str.ofString "/claim/cut.py") 782)])), List.toArray []⟩) ::
  (nat_lit 423, ⟨(.type "function"), none, (.func (fnOf (Str.ofString "__init__") (Str.ofString "StringIO.__init__") p423 b423 s423 (.ref 416) .none .none (.str (Str.ofString "io") 389) none (.ref 422) .none)), List.toArray []⟩) ::
  (nat_lit 429, ⟨(.type "code"), none, (.fields (List.toArray [(.str (Str.ofString "__translated") 784), (.str (Str.ofString "StringIO.__translated") 785), (.str (Str.ofString "/claim/cut.py") 786), (.int 271 0), (.int 2 0), (.int 0 0), (.int 0 0), (.int 3 0), (.ref 424), (.bool true), (.int 273 0), (.ref 425), .none, (.ref 426), (.ref 427), (.ref 428), (.int 790 0), (.int 271 0), (.str (Str.ofString "/claim/cut.py") 791)])), List.toArray []⟩) ::
  (nat_lit 430, ⟨(.type "function"), none, (.func (fnOf (Str.ofString "__translated") (Str.ofString "StringIO.__translated") p430 b430 s430 .none .none .none (.str (Str.ofString "io") 389) none (.ref 429) .none)), List.toArray []⟩) ::
  (nat_lit 436, ⟨(.type "code"), none, (.fields (List.toArray [(.str (Str.ofString "__check") 793), (.str (Str.ofString "StringIO.__check") 794), (.str (Str.ofString "/claim/cut.py") 795), (.int 279 0), (.int 1 0), (.int 0 0), (.int 0 0), (.int 3 0), (.ref 431), (.bool true), (.int 273 0), (.ref 432), .none, (.ref 433), (.ref 434), (.ref 435), (.int 797 0), (.int 279 0), (.str (Str.ofString "/claim/cut.py") 798)])), List.toArray []⟩) ::
  (nat_lit 437, ⟨(.type "function"), none, (.func (fnOf (Str.ofString "__check") (Str.ofString "StringIO.__check") p437 b437 s437 .none .none .none (.str (Str.ofString "io") 389) none (.ref 436) .none)), List.toArray []⟩) ::
  (nat_lit 450, ⟨(.type "code"), none, (.fields (List.toArray [(.str (Str.ofString "__line") 807), (.str (Str.ofString "StringIO.__line") 808), (.str (Str.ofString "/claim/cut.py") 809), (.int 287 0), (.int 2 0), (.int 0 0), (.int 0 0), (.int 3 0), (.ref 445), (.bool true), (.int 273 0), (.ref 446), .none, (.ref 447), (.ref 448), (.ref 449), (.int 819 0), (.int 287 0), (.str (Str.ofString "/claim/cut.py") 820)])), List.toArray []⟩) ::
  (nat_lit 451, ⟨(.type "function"), none, (.func (fnOf (Str.ofString "__line") (Str.ofString "StringIO.__line") p451 b451 s451 .none .none .none (.str (Str.ofString "io") 389) none (.ref 450) .none)), List.toArray []⟩) ::
  (nat_lit 592, ⟨(.type "tuple"), none, (.seq (List.toArray [(.int (-1) 966)]) 0), List.toArray []⟩) ::
  (nat_lit 598, ⟨(.type "code"), none, (.fields (List.toArray [(.str (Str.ofString "read") 967), (.str (Str.ofString "StringIO.read") 968), (.str (Str.ofString "/claim/cut.py") 969), (.int 401 0), (.int 2 0), (.int 2 0), (.int 0 0), (.int 3 0), (.ref 593), (.bool true), (.int 273 0), (.ref 594), .none, (.ref 595), (.ref 596), (.ref 597), (.int 974 0), (.int 401 0), (.str (Str.ofString "/claim/cut.py") 975)])), List.toArray []⟩) ::
  (nat_lit 599, ⟨(.type "function"), none, (.func (fnOf (Str.ofString "read") (Str.ofString "StringIO.read") p599 b599 s599 (.ref 592) .none .none (.str (Str.ofString "io") 389) none (.ref 598) .none)), List.toArray []⟩) ::
  (nat_lit 600, ⟨(.type "tuple"), none, (.seq (List.toArray [(.int (-1) 978)]) 0), List.toArray []⟩) ::
  (nat_lit 606, ⟨(.type "code"), none, (.fields (List.toArray [(.str (Str.ofString "readline") 979), (.str (Str.ofString "StringIO.readline") 980), (.str (Str.ofString "/claim/cut.py") 981), (.int 415 0), (.int 2 0), (.int 2 0), (.int 0 0), (.int 3 0), (.ref 601), (.bool true), (.int 273 0), (.ref 602), .none, (.ref 603), (.ref 604), (.ref 605), (.int 984 0), (.int 415 0), (.str (Str.ofString "/claim/cut.py") 985)])), List.toArray []⟩) ::
  (nat_lit 607, ⟨(.type "function"), none, (.func (fnOf (Str.ofString "readline") (Str.ofString "StringIO.readline") p607 b607 s607 (.ref 600) .none .none (.str (Str.ofString "io") 389) none (.ref 606) .none)), List.toArray []⟩) ::
  (nat_lit 652, ⟨(.type "dict"), none, (.dict (List.toArray [⟨PyData.keyHash P (Str.ofString "__module__"), (.str (Str.ofString "__module__") 766), (.str (Str.ofString "_io") 771)⟩, ⟨PyData.keyHash P (Str.ofString "__firstlineno__"), (.str (Str.ofString "__firstlineno__") 770), (.int 255 769)⟩, ⟨PyData.keyHash P (Str.ofString "__init__"), (.str (Str.ofString "__init__") 783), (.ref 423)⟩, ⟨PyData.keyHash P (Str.ofString "_StringIO__translated"), (.str (Str.ofString "_StringIO__translated") 792), (.ref 430)⟩, ⟨PyData.keyHash P (Str.ofString "_StringIO__check"), (.str (Str.ofString "_StringIO__check") 799), (.ref 437)⟩, ⟨PyData.keyHash P (Str.ofString "_StringIO__check_dot"), (.str (Str.ofString "_StringIO__check_dot") 806), (.ref 444)⟩, ⟨PyData.keyHash P (Str.ofString "_StringIO__line"), (.str (Str.ofString "_StringIO__line") 821), (.ref 451)⟩, ⟨PyData.keyHash P (Str.ofString "closed"), (.str (Str.ofString "closed") 829), (.ref 459)⟩, ⟨PyData.keyHash P (Str.ofString "line_buffering"), (.str (Str.ofString "line_buffering") 837), (.ref 467)⟩, ⟨PyData.keyHash P (Str.ofString "newlines"), (.str (Str.ofString "newlines") 845), (.ref 475)⟩, ⟨PyData.keyHash P (Str.ofString "encoding"), (.str (Str.ofString "encoding") 853), (.ref 483)⟩, ⟨PyData.keyHash P (Str.ofString "errors"), (.str (Str.ofString "errors") 861), (.ref 491)⟩, ⟨PyData.keyHash P (Str.ofString "close"), (.str (Str.ofString "close") 868), (.ref 498)⟩, ⟨PyData.keyHash P (Str.ofString "__enter__"), (.str (Str.ofString "__enter__") 875), (.ref 505)⟩, ⟨PyData.keyHash P (Str.ofString "__exit__"), (.str (Str.ofString "__exit__") 883), (.ref 512)⟩, ⟨PyData.keyHash P (Str.ofString "readable"), (.str (Str.ofString "readable") 890), (.ref 519)⟩, ⟨PyData.keyHash P (Str.ofString "writable"), (.str (Str.ofString "writable") 897), (.ref 526)⟩, ⟨PyData.keyHash P (Str.ofString "seekable"), (.str (Str.ofString "seekable") 904), (.ref 533)⟩, ⟨PyData.keyHash P (Str.ofString "isatty"), (.str (Str.ofString "isatty") 911), (.ref 540)⟩, ⟨PyData.keyHash P (Str.ofString "flush"), (.str (Str.ofString "flush") 918), (.ref 547)⟩, ⟨PyData.keyHash P (Str.ofString "fileno"), (.str (Str.ofString "fileno") 925), (.ref 554)⟩, ⟨PyData.keyHash P (Str.ofString "detach"), (.str (Str.ofString "detach") 932), (.ref 561)⟩, ⟨PyData.keyHash P (Str.ofString "getvalue"), (.str (Str.ofString "getvalue") 939), (.ref 568)⟩, ⟨PyData.keyHash P (Str.ofString "tell"), (.str (Str.ofString "tell") 946), (.ref 575)⟩, ⟨PyData.keyHash P (Str.ofString "seek"), (.str (Str.ofString "seek") 956), (.ref 583)⟩, ⟨PyData.keyHash P (Str.ofString "truncate"), (.str (Str.ofString "truncate") 964), (.ref 591)⟩, ⟨PyData.keyHash P (Str.ofString "read"), (.str (Str.ofString "read") 976), (.ref 599)⟩, ⟨PyData.keyHash P (Str.ofString "readline"), (.str (Str.ofString "readline") 986), (.ref 607)⟩, ⟨PyData.keyHash P (Str.ofString "readlines"), (.str (Str.ofString "readlines") 996), (.ref 615)⟩, ⟨PyData.keyHash P (Str.ofString "__iter__"), (.str (Str.ofString "__iter__") 1003), (.ref 622)⟩, ⟨PyData.keyHash P (Str.ofString "__next__"), (.str (Str.ofString "__next__") 1011), (.ref 629)⟩, ⟨PyData.keyHash P (Str.ofString "write"), (.str (Str.ofString "write") 1023), (.ref 636)⟩, ⟨PyData.keyHash P (Str.ofString "writelines"), (.str (Str.ofString "writelines") 1031), (.ref 643)⟩, ⟨PyData.keyHash P (Str.ofString "__repr__"), (.str (Str.ofString "__repr__") 1038), (.ref 650)⟩, ⟨PyData.keyHash P (Str.ofString "__static_attributes__"), (.str (Str.ofString "__static_attributes__") 1042), (.ref 651)⟩, ⟨PyData.keyHash P (Str.ofString "__doc__"), (.str (Str.ofString "__doc__") 1043), .none⟩]) 2), List.toArray []⟩) ::
  (nat_lit 653, ⟨(.type "type"), none, (.cls ⟨(Str.ofString "StringIO"), [(.ref 176)], [(.ref 653), (.ref 176), (.ref 149), (.type "object")], 652, (Str.ofString "StringIO"), true, [], [], false, none, false⟩), List.toArray [(some (.ref 409)), none, (some (.str (Str.ofString "StringIO") 759)), (some (.str (Str.ofString "StringIO") 767)), (some .none), (some (.bool true))]⟩) ::
  (nat_lit 705, ⟨(.type "tuple"), none, (.seq (List.toArray [.none, .none, (.bool false), (.bool false)]) 0), List.toArray []⟩) ::
  (nat_lit 711, ⟨(.type "code"), none, (.fields (List.toArray [(.str (Str.ofString "__init__") 1118), (.str (Str.ofString "shlex.__init__") 1119), (.str (Str.ofString "/claim/cut.py") 1120), (.int 526 0), (.int 5 0), (.int 0 0), (.int 0 0), (.int 3 0), (.ref 706), (.bool true), (.int 273 0), (.ref 707), .none, (.ref 708), (.ref 709), (.ref 710), (.int 1127 0), (.int 526 0), (.str (Str.ofString "/claim/cut.py") 1128)])), List.toArray []⟩) ::
  (nat_lit 712, ⟨(.type "function"), none, (.func (fnOf (Str.ofString "__init__") (Str.ofString "shlex.__init__") p712 b712 s712 (.ref 705) .none .none (.str (Str.ofString "cpy313.shlex") 1104) none (.ref 711) .none)), List.toArray []⟩) ::
  (nat_lit 718, ⟨(.type "code"), none, (.fields (List.toArray [(.str (Str.ofString "punctuation_chars") 1130), (.str (Str.ofString "shlex.punctuation_chars") 1131), (.str (Str.ofString "/claim/cut.py") 1132), (.int 567 0), (.int 1 0), (.int 0 0), (.int 0 0), (.int 3 0), (.ref 713), (.bool true), (.int 273 0), (.ref 714), .none, (.ref 715), (.ref 716), (.ref 717), (.int 1134 0), (.int 567 0), (.str (Str.ofString "/claim/cut.py") 1135)])), List.toArray []⟩) ::
  (nat_lit 719, ⟨(.type "function"), none, (.func (fnOf (Str.ofString "punctuation_chars") (Str.ofString "shlex.punctuation_chars") p719 b719 s719 .none .none .none (.str (Str.ofString "cpy313.shlex") 1104) none (.ref 718) .none)), List.toArray []⟩) ::
  (nat_lit 720, ⟨(.type "property"), none, (.fields (List.toArray [(.ref 719), .none, .none, .none, (.str (Str.ofString "punctuation_chars") 1137), (.bool false)])), List.toArray []⟩) ::
  (nat_lit 748, ⟨(.type "code"), none, (.fields (List.toArray [(.str (Str.ofString "get_token") 1162), (.str (Str.ofString "shlex.get_token") 1163), (.str (Str.ofString "/claim/cut.py") 1164), (.int 594 0), (.int 1 0), (.int 0 0), (.int 0 0), (.int 3 0), (.ref 743), (.bool true), (.int 273 0), (.ref 744), .none, (.ref 745), (.ref 746), (.ref 747), (.int 1171 0), (.int 594 0), (.str (Str.ofString "/claim/cut.py") 1172)])), List.toArray []⟩) ::
  (nat_lit 749, ⟨(.type "function"), none, (.func (fnOf (Str.ofString "get_token") (Str.ofString "shlex.get_token") p749 b749 s749 .none .none .none (.str (Str.ofString "cpy313.shlex") 1104) none (.ref 748) .none)), List.toArray []⟩) ::
  (nat_lit 755, ⟨(.type "code"), none, (.fields (List.toArray [(.str (Str.ofString "read_token") 1174), (.str (Str.ofString "shlex.read_token") 1175), (.str (Str.ofString "/claim/cut.py") 1176), (.int 621 0), (.int 1 0), (.int 0 0), (.int 0 0), (.int 3 0), (.ref 750), (.bool true), (.int 273 0), (.ref 751), .none, (.ref 752), (.ref 753), (.ref 754), (.int 1182 0), (.int 621 0), (.str (Str.ofString "/claim/cut.py") 1183)])), List.toArray []⟩) ::
  (nat_lit 756, ⟨(.type "function"), none, (.func (fnOf (Str.ofString "read_token") (Str.ofString "shlex.read_token") p756 b756 s756 .none .none .none (.str (Str.ofString "cpy313.shlex") 1104) none (.ref 755) .none)), List.toArray []⟩) ::
  (nat_lit 787, ⟨(.type "dict"), none, (.dict (List.toArray [⟨PyData.keyHash P (Str.ofString "__module__"), (.str (Str.ofString "__module__") 1113), (.str (Str.ofString "cpy313.shlex") 1104)⟩, ⟨PyData.keyHash P (Str.ofString "__firstlineno__"), (.str (Str.ofString "__firstlineno__") 1117), (.int 524 1116)⟩, ⟨PyData.keyHash P (Str.ofString "__init__"), (.str (Str.ofString "__init__") 1129), (.ref 712)⟩, ⟨PyData.keyHash P (Str.ofString "punctuation_chars"), (.str (Str.ofString "punctuation_chars") 1137), (.ref 720)⟩, ⟨PyData.keyHash P (Str.ofString "push_token"), (.str (Str.ofString "push_token") 1145), (.ref 727)⟩, ⟨PyData.keyHash P (Str.ofString "push_source"), (.str (Str.ofString "push_source") 1154), (.ref 735)⟩, ⟨PyData.keyHash P (Str.ofString "pop_source"), (.str (Str.ofString "pop_source") 1161), (.ref 742)⟩, ⟨PyData.keyHash P (Str.ofString "get_token"), (.str (Str.ofString "get_token") 1173), (.ref 749)⟩, ⟨PyData.keyHash P (Str.ofString "read_token"), (.str (Str.ofString "read_token") 1184), (.ref 756)⟩, ⟨PyData.keyHash P (Str.ofString "sourcehook"), (.str (Str.ofString "sourcehook") 1192), (.ref 763)⟩, ⟨PyData.keyHash P (Str.ofString "error_leader"), (.str (Str.ofString "error_leader") 1201), (.ref 771)⟩, ⟨PyData.keyHash P (Str.ofString "__iter__"), (.str (Str.ofString "__iter__") 1208), (.ref 778)⟩, ⟨PyData.keyHash P (Str.ofString "__next__"), (.str (Str.ofString "__next__") 1216), (.ref 785)⟩, ⟨PyData.keyHash P (Str.ofString "__static_attributes__"), (.str (Str.ofString "__static_attributes__") 1237), (.ref 786)⟩, ⟨PyData.keyHash P (Str.ofString "__dict__"), (.str (Str.ofString "__dict__") 1239), (.ref 789)⟩, ⟨PyData.keyHash P (Str.ofString "__weakref__"), (.str (Str.ofString "__weakref__") 1241), (.ref 790)⟩, ⟨PyData.keyHash P (Str.ofString "__doc__"), (.str (Str.ofString "__doc__") 1242), .none⟩]) 4), List.toArray []⟩) ::
  (nat_lit 788, ⟨(.type "type"), none, (.cls ⟨(Str.ofString "shlex"), [(.type "object")], [(.ref 788), (.type "object")], 787, (Str.ofString "shlex"), true, [], [], false, none, false⟩), List.toArray [none, none, (some (.str (Str.ofString "shlex") 1106)), (some (.str (Str.ofString "shlex") 1114)), (some (.builtin "object.__new__")), (some (.bool true))]⟩) ::
  (nat_lit 796, ⟨(.type "code"), none, (.fields (List.toArray [(.str (Str.ofString "_law_spelled") 1247), (.str (Str.ofString "_law_spelled") 1248), (.str (Str.ofString "/claim/cut.py") 1249), (.int 777 0), (.int 2 0), (.int 0 0), (.int 0 0), (.int 3 0), (.ref 793), (.bool true), (.int 273 0), (.ref 794), .none, .none, .none, (.ref 795), (.int 1250 0), (.int 777 0), (.str (Str.ofString "/claim/cut.py") 1251)])), List.toArray []⟩) ::
  (nat_lit 797, ⟨(.type "function"), none, (.func (fnOf (Str.ofString "_law_spelled") (Str.ofString "_law_spelled") p797 b797 s797 .none .none .none (.str (Str.ofString "law_mq0425_01") 1245) none (.ref 796) .none)), List.toArray []⟩) ::
  (nat_lit 801, ⟨(.type "code"), none, (.fields (List.toArray [(.str (Str.ofString "_law_cell") 1253), (.str (Str.ofString "_law_cell") 1254), (.str (Str.ofString "/claim/cut.py") 1255), (.int 783 0), (.int 1 0), (.int 0 0), (.int 0 0), (.int 3 0), (.ref 798), (.bool true), (.int 273 0), (.ref 799), .none, .none, .none, (.ref 800), (.int 1256 0), (.int 783 0), (.str (Str.ofString "/claim/cut.py") 1257)])), List.toArray []⟩) ::
  (nat_lit 802, ⟨(.type "function"), none, (.func (fnOf (Str.ofString "_law_cell") (Str.ofString "_law_cell") p802 b802 s802 .none .none .none (.str (Str.ofString "law_mq0425_01") 1245) none (.ref 801) .none)), List.toArray []⟩) ::
  (nat_lit 808, ⟨(.type "code"), none, (.fields (List.toArray [(.str (Str.ofString "_law_line") 1259), (.str (Str.ofString "_law_line") 1260), (.str (Str.ofString "/claim/cut.py") 1261), (.int 789 0), (.int 2 0), (.int 0 0), (.int 0 0), (.int 3 0), (.ref 803), (.bool true), (.int 273 0), (.ref 804), .none, (.ref 805), (.ref 806), (.ref 807), (.int 1269 0), (.int 789 0), (.str (Str.ofString "/claim/cut.py") 1270)])), List.toArray []⟩) ::
  (nat_lit 809, ⟨(.type "function"), none, (.func (fnOf (Str.ofString "_law_line") (Str.ofString "_law_line") p809 b809 s809 .none .none .none (.str (Str.ofString "law_mq0425_01") 1245) none (.ref 808) .none)), List.toArray []⟩) ::
  (nat_lit 815, ⟨(.type "code"), none, (.fields (List.toArray [(.str (Str.ofString "_law_told") 1272), (.str (Str.ofString "_law_told") 1273), (.str (Str.ofString "/claim/cut.py") 1274), (.int 795 0), (.int 1 0), (.int 0 0), (.int 0 0), (.int 3 0), (.ref 810), (.bool true), (.int 273 0), (.ref 811), .none, (.ref 812), (.ref 813), (.ref 814), (.int 1282 0), (.int 795 0), (.str (Str.ofString "/claim/cut.py") 1283)])), List.toArray []⟩) ::
  (nat_lit 816, ⟨(.type "function"), none, (.func (fnOf (Str.ofString "_law_told") (Str.ofString "_law_told") p816 b816 s816 .none .none .none (.str (Str.ofString "law_mq0425_01") 1245) none (.ref 815) .none)), List.toArray []⟩) ::
  (nat_lit 822, ⟨(.type "code"), none, (.fields (List.toArray [(.str (Str.ofString "_law_walked") 1285), (.str (Str.ofString "_law_walked") 1286), (.str (Str.ofString "/claim/cut.py") 1287), (.int 806 0), (.int 3 0), (.int 0 0), (.int 0 0), (.int 3 0), (.ref 817), (.bool true), (.int 273 0), (.ref 818), .none, (.ref 819), (.ref 820), (.ref 821), (.int 1294 0), (.int 806 0), (.str (Str.ofString "/claim/cut.py") 1295)])), List.toArray []⟩) ::
  (nat_lit 823, ⟨(.type "function"), none, (.func (fnOf (Str.ofString "_law_walked") (Str.ofString "_law_walked") p823 b823 s823 .none .none .none (.str (Str.ofString "law_mq0425_01") 1245) none (.ref 822) .none)), List.toArray []⟩) ::
  (nat_lit 827, ⟨(.type "code"), none, (.fields (List.toArray [(.str (Str.ofString "_law_longest") 1297), (.str (Str.ofString "_law_longest") 1298), (.str (Str.ofString "/claim/cut.py") 1299), (.int 813 0), (.int 2 0), (.int 0 0), (.int 0 0), (.int 3 0), (.ref 824), (.bool true), (.int 273 0), (.ref 825), .none, .none, .none, (.ref 826), (.int 1300 0), (.int 813 0), (.str (Str.ofString "/claim/cut.py") 1301)])), List.toArray []⟩) ::
  (nat_lit 828, ⟨(.type "function"), none, (.func (fnOf (Str.ofString "_law_longest") (Str.ofString "_law_longest") p828 b828 s828 .none .none .none (.str (Str.ofString "law_mq0425_01") 1245) none (.ref 827) .none)), List.toArray []⟩) ::
  (nat_lit 832, ⟨(.type "code"), none, (.fields (List.toArray [(.str (Str.ofString "_law_seen") 1303), (.str (Str.ofString "_law_seen") 1304), (.str (Str.ofString "/claim/cut.py") 1305), (.int 815 0), (.int 3 0), (.int 0 0), (.int 0 0), (.int 3 0), (.ref 829), (.bool true), (.int 273 0), (.ref 830), .none, .none, .none, (.ref 831), (.int 1306 0), (.int 815 0), (.str (Str.ofString "/claim/cut.py") 1307)])), List.toArray []⟩) ::
  (nat_lit 833, ⟨(.type "function"), none, (.func (fnOf (Str.ofString "_law_seen") (Str.ofString "_law_seen") p833 b833 s833 .none .none .none (.str (Str.ofString "law_mq0425_01") 1245) none (.ref 832) .none)), List.toArray []⟩) ::
  (nat_lit 839, ⟨(.type "code"), none, (.fields (List.toArray [(.str (Str.ofString "_law_unlike") 1309), (.str (Str.ofString "_law_unlike") 1310), (.str (Str.ofString "/claim/cut.py") 1311), (.int 823 0), (.int 2 0), (.int 0 0), (.int 0 0), (.int 3 0), (.ref 834), (.bool true), (.int 273 0), (.ref 835), .none, (.ref 836), (.ref 837), (.ref 838), (.int 1316 0), (.int 823 0), (.str (Str.ofString "/claim/cut.py") 1317)])), List.toArray []⟩) ::
  (nat_lit 840, ⟨(.type "function"), none, (.func (fnOf (Str.ofString "_law_unlike") (Str.ofString "_law_unlike") p840 b840 s840 .none .none .none (.str (Str.ofString "law_mq0425_01") 1245) none (.ref 839) .none)), List.toArray []⟩) :: []
noncomputable def hd.as39 : List Nat := [2, 3, 55, 56, 62, 63, 69, 70, 76, 77, 83, 84, 100, 101, 118, 119, 145, 146, 148, 149, 150, 175, 176, 406, 416, 422, 423, 429, 430, 436, 437, 450, 451, 592, 598, 599, 600, 606, 607, 652, 653, 705, 711, 712, 718, 719, 720, 748, 749, 755, 756, 787, 788, 796, 797, 801, 802, 808, 809, 815, 816, 822, 823, 827, 828, 832, 833, 839, 840]
/-- a list of objects as a tree -/
noncomputable def treeOf : List Obj → Nat → BT → Option (BT × Nat)
  | [], n, t => some (t, n)
  | o :: r, n, t => match ((t.ins n o).get n).isSome with
    | true => treeOf r (n + 1) (t.ins n o)
    | false => none
theorem treeOf_abs (life : Life) : ∀ (l : List Obj) (n : Nat) (t t' : BT) (n' : Nat), treeOf l n t = some (t', n') → absHeap t' n' life = ⟨((absHeap t n life).objs.toList ++ l).toArray, life⟩
  | [], n, t, t', n', h => by
    cases h
    rw [List.append_nil]
    rfl
  | o :: r, n, t, t', n', h => by
    unfold treeOf at h
    cases q : ((t.ins n o).get n).isSome with
    | false => rw [q] at h; cases h
    | true =>
      rw [q] at h
      rw [treeOf_abs life r _ _ _ _ h, absHeap_ins q]
      show (⟨_, _⟩ : Heap) = ⟨_, _⟩
      congr 1
      show List.toArray (((absHeap t n life).objs.push o).toList ++ r) = _
      rw [Array.toList_push, List.append_assoc]
      rfl
noncomputable def goF (st : SharedT → Thread → Option (SharedT × Thread)) (ok : Thread → Bool) : Nat → SharedT → Thread → Option SharedT
  | 0, _, _ => none
  | n + 1, s, t => match through t with
    | true => some s
    | false => match ok t with
      | false => none
      | true => match st s t with
        | some (s', t') => goF st ok n s' t'
        | none => none
theorem goF_of {p : Program} {w : World} {n₀ : Nat} {ann : Option Value} : ∀ {n : Nat} {s s' : SharedT} {t : Thread}, goF (stepT (denote treeTable) p w) (stepOk n₀ ann) n s t = some s' → topRun treeTable p w n₀ ann n s.abs t = some s'.abs
  | 0, _, _, _, h => by cases h
  | n + 1, s, s', t, h => by
    unfold goF at h
    unfold topRun
    cases ht : through t with
    | true => rw [ht] at h; cases h; rfl
    | false =>
      rw [ht] at h
      cases hk : stepOk n₀ ann t with
      | false => rw [hk] at h; cases h
      | true =>
        rw [hk] at h
        cases hs : stepT (denote treeTable) p w s t with
        | none => rw [hs] at h; cases h
        | some r => obtain ⟨s₂, t₂⟩ := r; rw [hs] at h; dsimp only; rw [stepT_spec hs]; exact goF_of h
/-- the whole top in one go, and what is seen of it -/
noncomputable def seenAll {β : Type} (imp : (String → Option Builtin) → Program → World → Nat → Shared → Thread → Option Shared) (strt : Program → Shared × Thread) (fen : Program → Shared → Option Shared) (tb : String → Option Builtin) (den : (String → Option Builtin) → Code → Sem Fin)
    (st : (Code → Sem Fin) → Program → World → SharedT → Thread → Option (SharedT × Thread)) (ok : Nat → Option Value → Thread → Bool) (p : Program) (w : World) (N : Nat) (f : Shared → Shared → Option β) : Option β :=
  ((imp tb (opening p) w N (strt (opening p)).1 (strt (opening p)).2).bind (fen p)).bind fun s₀ => match s₀.heap.isNs mainGlobals && s₀.gens.size == 0 with
    | false => none
    | true => match treeOf s₀.heap.objs.toList 0 .nil with
      | none => none
      | some (t, n) => match goF (st (den tb) p w) (ok s₀.heap.objs.size (s₀.heap.nsMap mainGlobals "__annotations__")) N ⟨t, n, s₀.heap.life, s₀.gens, s₀.drawn, s₀.toks, s₀.os⟩ (topStub p) with
        | none => none
        | some s₁ => f s₀ s₁.abs
noncomputable def lookAll {γ α : Type} (sn : Program → List Str → List Str → (Shared → Bool) → Bool → Shared → γ) (p q : Program) (loose : List Str) (Xt : Shared → Bool) (Yf : Shared → α) (s₀ s₁ : Shared) : Option (γ × α) :=
  match staticsOk (importedModules p.main.body) s₀.heap s₁.heap && namesBound p s₁.heap && gensDone s₁ && laidKept s₀.heap s₁.heap with
  | true => some (sn q loose (importedModules p.main.body) Xt true s₁, Yf s₁)
  | false => none
theorem left_all {p q : Program} {loose : List Str} {Xt : Shared → Bool} {α : Type} {Yf : Shared → α} {Ya : World → α} {N : Nat}
    (h : ∀ w, seenAll importEnds start fenceModules? treeTable denote stepT stepOk p w N (lookAll openSeen p q loose Xt Yf) = some (openGood q loose, Ya w)) : LeftO p q loose Xt Yf Ya N := by
  intro w
  have e := h w
  unfold seenAll at e
  unfold openEnds fencedOpening
  cases q1 : (importEnds treeTable (opening p) w N (start (opening p)).1 (start (opening p)).2).bind (fenceModules? p) with
  | none => rw [q1] at e; cases e
  | some s₀ =>
    rw [q1] at e
    show (topFrom treeTable p w N s₀).map _ = _
    unfold topFrom
    replace e : (match s₀.heap.isNs mainGlobals && s₀.gens.size == 0 with
      | false => none
      | true => match treeOf s₀.heap.objs.toList 0 .nil with
        | none => none
        | some (t, n) => match goF (stepT (denote treeTable) p w) (stepOk s₀.heap.objs.size (s₀.heap.nsMap mainGlobals "__annotations__")) N ⟨t, n, s₀.heap.life, s₀.gens, s₀.drawn, s₀.toks, s₀.os⟩ (topStub p) with
          | none => none
          | some s₁ => lookAll openSeen p q loose Xt Yf s₀ s₁.abs) = some (openGood q loose, Ya w) := e
    cases q2 : s₀.heap.isNs mainGlobals && s₀.gens.size == 0 with
    | false => rw [q2] at e; cases e
    | true =>
      rw [q2] at e
      dsimp only at e ⊢
      cases q3 : treeOf s₀.heap.objs.toList 0 .nil with
      | none => rw [q3] at e; cases e
      | some r =>
        obtain ⟨t, n⟩ := r
        rw [q3] at e
        dsimp only at e
        have hT := treeOf_abs s₀.heap.life _ _ _ _ _ q3
        have hA : (⟨t, n, s₀.heap.life, s₀.gens, s₀.drawn, s₀.toks, s₀.os⟩ : SharedT).abs = s₀ := by
          show (⟨absHeap t n s₀.heap.life, s₀.gens, s₀.drawn, s₀.toks, s₀.os⟩ : Shared) = s₀
          rw [hT]
          rfl
        cases q4 : goF (stepT (denote treeTable) p w) (stepOk s₀.heap.objs.size (s₀.heap.nsMap mainGlobals "__annotations__")) N ⟨t, n, s₀.heap.life, s₀.gens, s₀.drawn, s₀.toks, s₀.os⟩ (topStub p) with
        | none => rw [q4] at e; cases e
        | some s₁ =>
          rw [q4] at e
          have hr := goF_of q4
          rw [hA] at hr
          rw [hr]
          replace e : lookAll openSeen p q loose Xt Yf s₀ s₁.abs = some (openGood q loose, Ya w) := e
          unfold lookAll at e
          show ((match staticsOk (importedModules p.main.body) s₀.heap s₁.abs.heap && namesBound p s₁.abs.heap && gensDone s₁.abs && laidKept s₀.heap s₁.abs.heap with
            | true => some s₁.abs
            | false => none) : Option Shared).map _ = _
          cases q5 : staticsOk (importedModules p.main.body) s₀.heap s₁.abs.heap && namesBound p s₁.abs.heap && gensDone s₁.abs && laidKept s₀.heap s₁.abs.heap with
          | false => rw [q5] at e; cases e
          | true => rw [q5] at e; exact e
/-- the same by the library's fast twins -/
theorem left_fast {p q : Program} {loose : List Str} {Xt : Shared → Bool} {α : Type} {Yf : Shared → α} {Ya : World → α} {N : Nat}
    (h : ∀ w, seenAll tw10274390034422433532 tw1435165496053646825 tw14289696077712309145 tw14364793385576792824 tw11892475500146522536 tw10156331382660048174 tw6613529449190102663 p w N (lookAll tw4187177175401517315 p q loose Xt Yf) = some (openGood q loose, Ya w)) : LeftO p q loose Xt Yf Ya N := by
  refine left_all fun w => ?_
  rw [te10274390034422433532, te1435165496053646825, te14289696077712309145, te14364793385576792824, te11892475500146522536, te10156331382660048174, te6613529449190102663, te4187177175401517315]
  exact h w
noncomputable def hd.view_39 : Program := view PySem.Challenge.rw_mq0425_01.row.prog [0, 1, 3, 5, 6, 7, 8, 9, 10, 11, 12, 14, 15, 16, 17, 18, 19, 21, 23, 24, 25, 26, 27, 28, 29, 30, 31]
noncomputable abbrev lo39 : List Str := [Str.ofString "Whitespace", Str.ofString "UnsupportedOperation", Str.ofString "IOBase", Str.ofString "BufferedIOBase", Str.ofString "TextIOBase", Str.ofString "BytesIO", Str.ofString "StringIO", Str.ofString "shlex"]
theorem hd.as_ok (P : Params) : hd.as39 = (hd.heap_39 P).map (·.1) := by kernel_rfl
noncomputable abbrev hk39 : Hook := kHook hd.heap_39 hd.as39 hd.as_ok
noncomputable abbrev Xt39 : Shared → Bool := fun s => xlAt hd.view_39 [] s && recOk PySem.Challenge.rw_mq0425_01.row.toRowW.records s
noncomputable abbrev ev39 (w : World) := seenAll tw10274390034422433532 tw1435165496053646825 tw14289696077712309145 tw14364793385576792824 tw11892475500146522536 tw10156331382660048174 tw6613529449190102663 PySem.Challenge.rw_mq0425_01.row.prog w 11046 (lookAll tw4187177175401517315 PySem.Challenge.rw_mq0425_01.row.prog hd.view_39 lo39 Xt39 hk39.obs)
theorem ev39_f (w : World) : ev39 (w.withFollow "special-get-raises" false) = some (openGood hd.view_39 lo39, hk39.val (w.withFollow "special-get-raises" false)) := by kernel_rfl
theorem ev39_t (w : World) : ev39 (w.withFollow "special-get-raises" true) = some (openGood hd.view_39 lo39, hk39.val (w.withFollow "special-get-raises" true)) := by kernel_rfl
theorem left39 : LeftO PySem.Challenge.rw_mq0425_01.row.prog hd.view_39 lo39 Xt39 hk39.obs hk39.val 11046 := left_fast fun w => byRow2 "special-get-raises" (P := fun w => ev39 w = some (openGood hd.view_39 lo39, hk39.val w)) ev39_f ev39_t w
theorem said39 : PySem.Challenge.rw_mq0425_01.wellSaid = true := by
  rw [te9446332074065402090]
  kernel_rfl
/-- fills the workbench's memory of the written part -/
theorem kfilled : PySem.Challenge.rw_mq0425_01 = PySem.Challenge.rw_mq0425_01 ∧ hd.heap_39 = hd.heap_39 := by
  k_fill
  exact ⟨rfl, rfl⟩
end Mine
end
section
set_option autoImplicit false
namespace Mine
inductive All2 {α β : Type} (R : α → β → Prop) : List α → List β → Prop
  | nil : All2 R [] []
  | cons {a : α} {b : β} {l : List α} {r : List β} : R a b → All2 R l r → All2 R (a :: l) (b :: r)
section
variable {α β : Type} {R R' : α → β → Prop} {l l' : List α} {r r' : List β}
theorem All2.len (h : All2 R l r) : l.length = r.length := by
  induction h with
  | nil => rfl
  | cons _ _ ih => simp [ih]
theorem All2.at (h : All2 R l r) : ∀ {i : Nat} {a : α}, l[i]? = some a → ∃ b, r[i]? = some b ∧ R a b := by
  induction h with
  | nil => intro i a e; simp at e
  | cons q _ ih =>
    intro i a e
    cases i with
    | zero => simp at e; subst e; exact ⟨_, rfl, q⟩
    | succ i => simp at e; simpa using ih e
theorem All2.at' (h : All2 R l r) : ∀ {i : Nat} {b : β}, r[i]? = some b → ∃ a, l[i]? = some a ∧ R a b := by
  induction h with
  | nil => intro i a e; simp at e
  | cons q _ ih =>
    intro i a e
    cases i with
    | zero => simp at e; subst e; exact ⟨_, rfl, q⟩
    | succ i => simp at e; simpa using ih e
theorem All2.app (h : All2 R l r) (h' : All2 R l' r') : All2 R (l ++ l') (r ++ r') := by
  induction h with
  | nil => exact h'
  | cons q _ ih => exact .cons q ih
theorem All2.snoc {a : α} {b : β} (h : All2 R l r) (q : R a b) : All2 R (l ++ [a]) (r ++ [b]) := h.app (.cons q .nil)
theorem All2.mono (h : All2 R l r) (k : ∀ a b, R a b → R' a b) : All2 R' l r := by
  induction h with
  | nil => exact .nil
  | cons q _ ih => exact .cons (k _ _ q) ih
theorem All2.rev (h : All2 R l r) : All2 R l.reverse r.reverse := by
  induction h with
  | nil => exact .nil
  | cons q _ ih => rw [List.reverse_cons, List.reverse_cons]; exact ih.snoc q
theorem All2.take (h : All2 R l r) : ∀ n, All2 R (l.take n) (r.take n) := by
  induction h with
  | nil => intro n; simpa using All2.nil
  | cons q _ ih =>
    intro n
    cases n with
    | zero => exact .nil
    | succ n => exact .cons q (ih n)
theorem All2.drop (h : All2 R l r) : ∀ n, All2 R (l.drop n) (r.drop n) := by
  induction h with
  | nil => intro n; simpa using All2.nil
  | cons q t ih =>
    intro n
    cases n with
    | zero => exact .cons q t
    | succ n => exact ih n
theorem All2.of_at (hl : l.length = r.length) (h : ∀ (i : Nat) (a : α) (b : β), l[i]? = some a → r[i]? = some b → R a b) : All2 R l r := by
  induction l generalizing r with
  | nil =>
    cases r with
    | nil => exact .nil
    | cons _ _ => simp at hl
  | cons a l ih =>
    cases r with
    | nil => simp at hl
    | cons b r => exact .cons (h 0 a b rfl rfl) (ih (by simpa using hl) fun i a' b' e1 e2 => h (i + 1) a' b' (by simpa using e1) (by simpa using e2))
end
end Mine
end
section
set_option autoImplicit false
namespace Mine

/-! the shade of a text: its runs between tabs -/

/-- the runs closed by a tab, newest first, and the open run -/
noncomputable def runsGo : List Nat → List Nat → Nat → List Nat × Nat
  | [], rs, b => (rs, b)
  | c :: t, rs, b => if c = 9 then runsGo t (b :: rs) 0 else runsGo t rs (b + 1)

noncomputable def bump (l : List Int) (b : Nat) : List Int :=
  let l' := if l.length ≤ b then l ++ List.replicate (b - l.length + 1) 0 else l
  l'.set b ((l'.getD b 0) + 1)

structure Ws where
  cnt : List Int
  b : Nat
  n : Nat
  nt : Nat

noncomputable def wsRun : List Nat → Ws → Ws
  | [], w => w
  | c :: t, w => if c = 32 then wsRun t ⟨w.cnt, w.b + 1, w.n + 1, w.nt⟩ else if c = 9 then wsRun t ⟨bump w.cnt w.b, 0, w.n + 1, w.nt + 1⟩ else w

noncomputable def ws0 : Ws := ⟨[], 0, 0, 0⟩
noncomputable def wsOf (p : List Nat) : Ws := wsRun p ws0

noncomputable def shadeOf (p : List Nat) : List Nat := p.map fun c => if c = 9 then 9 else 32

noncomputable def colGo (size : Nat) : List Nat → Nat → Nat
  | [], k => k
  | c :: t, k => colGo size t (if c = 9 then k + (size - k % size) else k + 1)
noncomputable def colOf (size : Nat) (p : List Nat) : Nat := colGo size p 0

/-- sum over i < n of f i -/
noncomputable def sumTo (f : Nat → Int) : Nat → Int
  | 0 => 0
  | n + 1 => sumTo f n + f n

theorem sumTo_congr {f g : Nat → Int} {n : Nat} (h : ∀ i, i < n → f i = g i) : sumTo f n = sumTo g n := by
  induction n with
  | zero => rfl
  | succ n ih => simp only [sumTo]; rw [ih fun i hi => h i (by lia), h n (by lia)]
theorem sumTo_zero {f : Nat → Int} {n : Nat} (h : ∀ i, i < n → f i = 0) : sumTo f n = 0 := by
  induction n with
  | zero => rfl
  | succ n ih => simp only [sumTo]; rw [ih fun i hi => h i (by lia), h n (by lia)]; rfl
theorem sumTo_ext {f : Nat → Int} {n m : Nat} (hm : n ≤ m) (h : ∀ i, n ≤ i → i < m → f i = 0) : sumTo f m = sumTo f n := by
  induction m with
  | zero => have : n = 0 := by lia
            subst this; rfl
  | succ m ih =>
    by_cases e : n = m + 1
    · subst e; rfl
    · simp only [sumTo]; rw [ih (by lia) fun i h1 h2 => h i h1 (by lia), h m (by lia) (by lia)]; lia

/-- the count of the run length i -/
noncomputable def cntAt (rs : List Nat) (i : Nat) : Int := (rs.filter (· == i)).length
theorem cntAt_cons (r : Nat) (rs : List Nat) (i : Nat) : cntAt (r :: rs) i = (if r = i then 1 else 0) + cntAt rs i := by
  unfold cntAt
  by_cases h : r = i
  · subst h; simp; lia
  · simp [h]

noncomputable def maxOf : List Nat → Nat
  | [] => 0
  | r :: rs => max r (maxOf rs)
/-- one more than the greatest run, or none -/
noncomputable def lenOf : List Nat → Nat
  | [] => 0
  | r :: rs => max (r + 1) (lenOf rs)

/-- the table of counts -/
noncomputable def Tab (l : List Int) (rs : List Nat) : Prop := l.length = lenOf rs ∧ ∀ i, l.getD i 0 = cntAt rs i

theorem cntAt_big {rs : List Nat} {i : Nat} (h : lenOf rs ≤ i) : cntAt rs i = 0 := by
  induction rs with
  | nil => rfl
  | cons r rs ih => rw [cntAt_cons]; simp only [lenOf] at h; rw [ih (by lia), if_neg (by lia)]; rfl

theorem bump_tab {l : List Int} {rs : List Nat} {b : Nat} (h : Tab l rs) : Tab (bump l b) (b :: rs) := by
  obtain ⟨hl, hg⟩ := h
  unfold bump
  by_cases hb : l.length ≤ b
  · simp only [hb, if_true]
    constructor
    · simp only [List.length_set, List.length_append, List.length_replicate, lenOf]; lia
    · intro i
      rw [cntAt_cons]
      rw [List.getD_eq_getElem?_getD, List.getElem?_set]
      by_cases e : b = i
      · subst e
        have : b < (l ++ List.replicate (b - l.length + 1) (0 : Int)).length := by simp; lia
        simp only [if_true, this]
        have h1 := hg b
        rw [show (l ++ List.replicate (b - l.length + 1) (0 : Int)).getD b 0 = 0 from by
          rw [List.getD_eq_getElem?_getD, List.getElem?_append_right hb]
          simp]
        rw [List.getD_eq_getElem?_getD, List.getElem?_eq_none hb] at h1
        simp at h1 ⊢
        lia
      · simp only [e, if_false]
        rw [← hg i, List.getD_eq_getElem?_getD]
        by_cases hi : i < l.length
        · rw [List.getElem?_append_left hi]; simp
        · rw [List.getElem?_append_right (by lia), List.getElem?_eq_none (l := l) (by lia), List.getElem?_replicate]
          split <;> simp
  · simp only [hb, if_false]
    constructor
    · simp only [List.length_set, lenOf]; lia
    · intro i
      rw [cntAt_cons, List.getD_eq_getElem?_getD, List.getElem?_set]
      by_cases e : b = i
      · subst e
        have : b < l.length := by lia
        simp only [if_true, this]
        rw [← hg b]; simp; lia
      · simp only [e, if_false]
        rw [← hg i, List.getD_eq_getElem?_getD]; simp

theorem tab_nil : Tab [] [] := ⟨rfl, fun i => by simp [cntAt]⟩

/-- a shade's run -/
theorem wsRun_shade (p : List Nat) : ∀ (w : Ws) (rs : List Nat), Tab w.cnt rs → w.nt = rs.length →
    Tab (wsRun (shadeOf p) w).cnt (runsGo p rs w.b).1 ∧ (wsRun (shadeOf p) w).b = (runsGo p rs w.b).2 ∧ (wsRun (shadeOf p) w).nt = (runsGo p rs w.b).1.length := by
  induction p with
  | nil => intro w rs h1 h2; exact ⟨h1, rfl, h2⟩
  | cons c t ih =>
    intro w rs h1 h2
    by_cases e : c = 9
    · subst e
      have := ih ⟨bump w.cnt w.b, 0, w.n + 1, w.nt + 1⟩ (w.b :: rs) (bump_tab h1) (by simp [h2])
      simpa [shadeOf, wsRun, runsGo] using this
    · have := ih ⟨w.cnt, w.b + 1, w.n + 1, w.nt⟩ rs h1 h2
      simpa [shadeOf, wsRun, runsGo, e] using this

noncomputable def sumDiv (ts : Nat) (rs : List Nat) : Nat := (rs.map (· / ts)).sum

theorem colGo_runs (ts : Nat) (hts : 0 < ts) (p : List Nat) : ∀ (rs : List Nat) (b : Nat),
    colGo ts p (ts * (sumDiv ts rs + rs.length) + b) = ts * (sumDiv ts (runsGo p rs b).1 + (runsGo p rs b).1.length) + (runsGo p rs b).2 := by
  induction p with
  | nil => intro rs b; rfl
  | cons c t ih =>
    intro rs b
    by_cases e : c = 9
    · subst e
      simp only [colGo, runsGo, if_true]
      have h := ih (b :: rs) 0
      have e1 : ts * (sumDiv ts rs + rs.length) + b + (ts - (ts * (sumDiv ts rs + rs.length) + b) % ts) = ts * (sumDiv ts (b :: rs) + (b :: rs).length) + 0 := by
        rw [Nat.mul_add_mod]
        have h1 := Nat.div_add_mod b ts
        have h2 := Nat.mod_lt b hts
        have e2 : sumDiv ts (b :: rs) = b / ts + sumDiv ts rs := by simp [sumDiv]
        rw [e2, List.length_cons]
        have e3 : ts * (b / ts + sumDiv ts rs + (rs.length + 1)) = ts * (b / ts) + ts * (sumDiv ts rs + rs.length) + ts := by
          simp only [Nat.mul_add, Nat.mul_one]; lia
        lia
      rw [e1]; exact h
    · simp only [colGo, runsGo, e, if_false]
      exact ih rs (b + 1)

theorem lenOf_le_of_mem {rs : List Nat} {r : Nat} (h : r ∈ rs) : r < lenOf rs := by
  induction rs with
  | nil => cases h
  | cons q rs ih =>
    simp only [lenOf]
    rcases List.mem_cons.mp h with rfl | h
    · lia
    · have := ih h; lia

theorem sumTo_add (f g : Nat → Int) (n : Nat) : sumTo (fun i => f i + g i) n = sumTo f n + sumTo g n := by
  induction n with
  | zero => rfl
  | succ n ih => simp only [sumTo]; rw [ih]; lia
theorem sumTo_one {f : Nat → Int} {r n : Nat} (h : r < n) : sumTo (fun i => f i * (if r = i then 1 else 0)) n = f r := by
  induction n with
  | zero => lia
  | succ n ih =>
    simp only [sumTo]
    by_cases e : r = n
    · subst e
      rw [sumTo_zero (fun i hi => by rw [if_neg (by lia)]; lia)]; simp
    · rw [ih (by lia), if_neg e]; lia
/-- a sum over the runs as a sum over the table -/
theorem sum_runs (f : Nat → Nat) (rs : List Nat) : ∀ n, lenOf rs ≤ n → (((rs.map f).sum : Nat) : Int) = sumTo (fun i => (f i : Int) * cntAt rs i) n := by
  induction rs with
  | nil => intro n _; rw [sumTo_zero (fun i _ => by simp [cntAt])]; rfl
  | cons r rs ih =>
    intro n hn
    simp only [lenOf] at hn
    have e : (fun i => (f i : Int) * cntAt (r :: rs) i) = fun i => (f i : Int) * (if r = i then 1 else 0) + (f i : Int) * cntAt rs i := by
      funext i; rw [cntAt_cons, Int.mul_add]
    rw [e, sumTo_add, sumTo_one (f := fun i => (f i : Int)) (by lia), ← ih n (by lia)]
    simp

/-- what indent_level sums -/
noncomputable def ilTo (ts : Nat) (cnt : List Int) (n : Nat) : Int := sumTo (fun i => if i < ts then 0 else ((i / ts : Nat) : Int) * cnt.getD i 0) n
noncomputable def indentOf (w : Ws) (ts : Nat) : Int := (w.b : Int) + (ts : Int) * (ilTo ts w.cnt w.cnt.length + (w.nt : Int))

theorem ilTo_eq {ts : Nat} {l : List Int} {rs : List Nat} (h : Tab l rs) : ilTo ts l l.length = (sumDiv ts rs : Int) := by
  unfold ilTo sumDiv
  rw [sum_runs (· / ts) rs l.length (by rw [h.1]; exact Nat.le_refl _)]
  refine sumTo_congr fun i _ => ?_
  rw [h.2 i]
  by_cases e : i < ts
  · rw [if_pos e, Nat.div_eq_of_lt e]; simp
  · rw [if_neg e]

noncomputable def runsOf (p : List Nat) : List Nat × Nat := runsGo p [] 0
theorem ws_shade (p : List Nat) : Tab (wsOf (shadeOf p)).cnt (runsOf p).1 ∧ (wsOf (shadeOf p)).b = (runsOf p).2 ∧ (wsOf (shadeOf p)).nt = (runsOf p).1.length :=
  wsRun_shade p ws0 [] tab_nil rfl

/-- indent_level is the column -/
theorem indent_col (p : List Nat) (ts : Nat) (hts : 0 < ts) : indentOf (wsOf (shadeOf p)) ts = (colOf ts p : Int) := by
  obtain ⟨h1, h2, h3⟩ := ws_shade p
  have hc := colGo_runs ts hts p [] 0
  have hc' : colOf ts p = ts * (sumDiv ts (runsOf p).1 + (runsOf p).1.length) + (runsOf p).2 := by
    have e : ts * (sumDiv ts [] + ([] : List Nat).length) + 0 = 0 := by simp [sumDiv]
    rw [e] at hc; exact hc
  unfold indentOf
  rw [ilTo_eq h1, h2, h3, hc']
  push_cast
  lia

/-! the longest run -/
noncomputable def longOf (p : List Nat) : Nat := max (maxOf (runsOf p).1) (runsOf p).2
theorem lenOf_max (rs : List Nat) (h : rs ≠ []) : lenOf rs = maxOf rs + 1 := by
  induction rs with
  | nil => exact absurd rfl h
  | cons r rs ih =>
    simp only [lenOf, maxOf]
    cases rs with
    | nil => simp [lenOf, maxOf]
    | cons q t => rw [ih (by simp)]; lia
theorem long_ws (p : List Nat) : max (((wsOf (shadeOf p)).cnt.length : Int) - 1) ((wsOf (shadeOf p)).b : Int) = (longOf p : Int) := by
  obtain ⟨h1, h2, h3⟩ := ws_shade p
  unfold longOf
  rw [h1.1, h2]
  cases e : (runsOf p).1 with
  | nil => simp [lenOf, maxOf]; lia
  | cons r rs => rw [lenOf_max (r :: rs) (by simp)]; lia

/-! equal norms -/
theorem maxOf_len (rs : List Nat) : lenOf rs ≤ maxOf rs + 1 := by
  cases rs with
  | nil => simp [lenOf]
  | cons r t => rw [lenOf_max _ (by simp)]; exact Nat.le_refl _

theorem tab_ext {l l' : List Int} {rs rs' : List Nat} (h : Tab l rs) (h' : Tab l' rs') (e : ∀ i, cntAt rs i = cntAt rs' i) : l = l' := by
  have hlen : ∀ {rs rs' : List Nat}, (∀ i, cntAt rs i = cntAt rs' i) → lenOf rs ≤ lenOf rs' := by
    intro rs rs' e
    rcases Nat.lt_or_ge (lenOf rs') (lenOf rs) with hlt | hge
    · exfalso
      have hne : rs ≠ [] := by intro h; subst h; simp [lenOf] at hlt
      have h1 : cntAt rs (lenOf rs - 1) = 0 := by rw [e]; exact cntAt_big (by lia)
      have h2 : ∃ r ∈ rs, r = lenOf rs - 1 := by
        clear e hlt h1
        induction rs with
        | nil => exact absurd rfl hne
        | cons r t ih =>
          cases t with
          | nil => exact ⟨r, .head _, by simp [lenOf]⟩
          | cons q u =>
            obtain ⟨x, hx, hx'⟩ := ih (by simp)
            simp only [lenOf] at hx' ⊢
            by_cases hh : r + 1 ≥ max (q + 1) (lenOf u)
            · exact ⟨r, .head _, by lia⟩
            · exact ⟨x, .tail _ hx, by lia⟩
      obtain ⟨r, hr, hr'⟩ := h2
      subst hr'
      have : 0 < (rs.filter (· == lenOf rs - 1)).length := List.length_pos_of_mem (List.mem_filter.mpr ⟨hr, by simp⟩)
      unfold cntAt at h1
      lia
    · exact hge
  have hl : l.length = l'.length := by
    rw [h.1, h'.1]; exact Nat.le_antisymm (hlen e) (hlen fun i => (e i).symm)
  refine List.ext_getElem hl fun i h1 h2 => ?_
  have q := (h.2 i).trans ((e i).trans (h'.2 i).symm)
  simp only [List.getD_eq_getElem?_getD, List.getElem?_eq_getElem h1, List.getElem?_eq_getElem h2, Option.getD_some] at q
  exact q

theorem cnt_len (rs : List Nat) (n : Nat) (h : lenOf rs ≤ n) : (rs.length : Int) = sumTo (fun i => cntAt rs i) n := by
  have := sum_runs (fun _ => 1) rs n h
  rw [show (rs.map fun _ => 1).sum = rs.length from by
    clear this h
    induction rs with
    | nil => rfl
    | cons r t ih => rw [List.map_cons, List.sum_cons, ih, List.length_cons]; lia] at this
  rw [this]
  exact sumTo_congr fun i _ => by lia

theorem sumTo_split {f g : Nat → Int} {n t : Nat} (ht : t < n) (hlo : ∀ i, i < t → f i = g i) (hhi : ∀ i, t < i → i < n → f i = g i) (h : sumTo f n = sumTo g n) : f t = g t := by
  induction n with
  | zero => lia
  | succ n ih =>
    simp only [sumTo] at h
    by_cases e : t = n
    · subst e
      rw [sumTo_congr hlo] at h; lia
    · rw [hhi n (by lia) (by lia)] at h
      exact ih (by lia) (fun i h1 h2 => hhi i h1 (by lia)) (by lia)

/-- the runs are told by the sums of their quotients -/
theorem cnt_eq {rs rs' : List Nat} {M : Nat} (hM : lenOf rs ≤ M + 1) (hM' : lenOf rs' ≤ M + 1) (hlen : rs.length = rs'.length)
    (hs : ∀ t, 1 ≤ t → t ≤ M → sumDiv t rs = sumDiv t rs') : ∀ i, cntAt rs i = cntAt rs' i := by
  have step : ∀ k t, t + k = M + 1 → 1 ≤ t → ∀ i, t ≤ i → cntAt rs i = cntAt rs' i := by
    intro k
    induction k with
    | zero => intro t ht _ i hi; rw [cntAt_big (by lia), cntAt_big (by lia)]
    | succ k ih =>
      intro t ht h1 i hi
      by_cases e : i = t
      · subst e
        have h := hs i h1 (by lia)
        have h' : ((sumDiv i rs : Nat) : Int) = ((sumDiv i rs' : Nat) : Int) := by rw [h]
        unfold sumDiv at h'
        rw [sum_runs (· / i) rs (M + 1) hM, sum_runs (· / i) rs' (M + 1) hM'] at h'
        have q := sumTo_split (t := i) (by lia) (fun j hj => by simp only [Nat.div_eq_of_lt hj]; lia) (fun j hj _ => by rw [ih (i + 1) (by lia) (by lia) j (by lia)]) h'
        rw [Nat.div_self (by lia)] at q
        simpa using q
      · exact ih (t + 1) (by lia) (by lia) i (by lia)
  intro i
  by_cases e : i = 0
  · subst e
    have h1 := cnt_len rs (M + 1) hM
    have h2 := cnt_len rs' (M + 1) hM'
    rw [hlen, h2] at h1
    exact (sumTo_split (t := 0) (by lia) (fun j hj => by lia) (fun j hj hj' => (step M 1 (by lia) (by lia) j (by lia)).symm) h1).symm
  · exact step M 1 (by lia) (by lia) i (by lia)

theorem sumDiv_big {rs : List Nat} {ts : Nat} (h : lenOf rs ≤ ts) : sumDiv ts rs = 0 := by
  induction rs with
  | nil => rfl
  | cons r rs ih =>
    simp only [lenOf] at h
    have := ih (by lia)
    unfold sumDiv at this ⊢
    simp only [List.map_cons, List.sum_cons]
    rw [this, Nat.div_eq_of_lt (by lia)]

/-- two texts: the same columns at every size up to one more than the longest run: the same norms -/
theorem norm_iff (p q : List Nat) : ((wsOf (shadeOf p)).cnt = (wsOf (shadeOf q)).cnt ∧ (wsOf (shadeOf p)).b = (wsOf (shadeOf q)).b) ↔
    ∀ ts, 1 ≤ ts → ts ≤ max (longOf p) (longOf q) + 1 → colOf ts p = colOf ts q := by
  obtain ⟨h1, h2, h3⟩ := ws_shade p
  obtain ⟨k1, k2, k3⟩ := ws_shade q
  have hc : ∀ (p : List Nat) ts, 1 ≤ ts → colOf ts p = ts * (sumDiv ts (runsOf p).1 + (runsOf p).1.length) + (runsOf p).2 := by
    intro p ts hts
    have hc := colGo_runs ts hts p [] 0
    have e : ts * (sumDiv ts [] + ([] : List Nat).length) + 0 = 0 := by simp [sumDiv]
    rw [e] at hc; exact hc
  constructor
  · rintro ⟨e1, e2⟩ ts hts _
    have q1 : indentOf (wsOf (shadeOf p)) ts = indentOf (wsOf (shadeOf q)) ts := by
      have nt : (wsOf (shadeOf p)).nt = (wsOf (shadeOf q)).nt := by
        rw [h3, k3]
        have a1 := cnt_len (runsOf p).1 _ (Nat.le_refl _)
        have a2 := cnt_len (runsOf q).1 _ (Nat.le_refl _)
        have el : lenOf (runsOf p).1 = lenOf (runsOf q).1 := by rw [← h1.1, ← k1.1, e1]
        have : ((runsOf p).1.length : Int) = ((runsOf q).1.length : Int) := by
          rw [a1, a2, el]
          exact sumTo_congr fun i _ => by rw [← h1.2 i, ← k1.2 i, e1]
        lia
      unfold indentOf
      rw [e1, e2, nt]
    rw [indent_col p ts hts, indent_col q ts hts] at q1
    lia
  · intro h
    have hM : max (longOf p) (longOf q) + 1 ≥ 1 := by lia
    have hlp : maxOf (runsOf p).1 ≤ max (longOf p) (longOf q) := by unfold longOf; lia
    have hlq : maxOf (runsOf q).1 ≤ max (longOf p) (longOf q) := by unfold longOf; lia
    have htp : (runsOf p).2 ≤ max (longOf p) (longOf q) := by unfold longOf; lia
    have htq : (runsOf q).2 ≤ max (longOf p) (longOf q) := by unfold longOf; lia
    generalize max (longOf p) (longOf q) = M at *
    have top := h (M + 1) (by lia) (Nat.le_refl _)
    rw [hc p _ (by lia), hc q _ (by lia), sumDiv_big (by have := maxOf_len (runsOf p).1; lia), sumDiv_big (by have := maxOf_len (runsOf q).1; lia), Nat.zero_add, Nat.zero_add] at top
    have hb : (runsOf p).2 = (runsOf q).2 := by
      have e1 : ((M + 1) * (runsOf p).1.length + (runsOf p).2) % (M + 1) = ((M + 1) * (runsOf q).1.length + (runsOf q).2) % (M + 1) := by rw [top]
      rw [Nat.mul_add_mod, Nat.mul_add_mod, Nat.mod_eq_of_lt (by lia), Nat.mod_eq_of_lt (by lia)] at e1
      exact e1
    have hk : (runsOf p).1.length = (runsOf q).1.length := by
      have : (M + 1) * (runsOf p).1.length = (M + 1) * (runsOf q).1.length := by lia
      exact Nat.eq_of_mul_eq_mul_left (by lia) this
    refine ⟨tab_ext h1 k1 (cnt_eq (M := M) (by have := maxOf_len (runsOf p).1; lia) (by have := maxOf_len (runsOf q).1; lia) hk fun t ht ht' => ?_), by rw [h2, k2, hb]⟩
    have e := h t ht (by lia)
    rw [hc p _ ht, hc q _ ht, hb, hk] at e
    have : t * (sumDiv t (runsOf p).1 + (runsOf q).1.length) = t * (sumDiv t (runsOf q).1 + (runsOf q).1.length) := by lia
    have := Nat.eq_of_mul_eq_mul_left (by lia) this
    lia

/-! prefixes -/
theorem runsGo_append (p q : List Nat) : ∀ rs b, runsGo (p ++ q) rs b = runsGo q (runsGo p rs b).1 (runsGo p rs b).2 := by
  induction p with
  | nil => intro rs b; rfl
  | cons c t ih =>
    intro rs b
    simp only [List.cons_append, runsGo]
    split
    · exact ih _ _
    · exact ih _ _
theorem runsGo_mono (q : List Nat) : ∀ rs b, max (maxOf rs) b ≤ max (maxOf (runsGo q rs b).1) (runsGo q rs b).2 := by
  induction q with
  | nil => intro rs b; exact Nat.le_refl _
  | cons c t ih =>
    intro rs b
    simp only [runsGo]
    split
    · exact Nat.le_trans (by simp only [maxOf]; lia) (ih (b :: rs) 0)
    · exact Nat.le_trans (by lia) (ih rs (b + 1))
theorem long_prefix (p q : List Nat) : longOf p ≤ longOf (p ++ q) := by
  unfold longOf runsOf
  rw [runsGo_append]
  exact runsGo_mono q _ _
theorem colGo_append (ts : Nat) (p q : List Nat) : ∀ k, colGo ts (p ++ q) k = colGo ts q (colGo ts p k) := by
  induction p with
  | nil => intro k; rfl
  | cons c t ih => intro k; simp only [List.cons_append, colGo]; exact ih _
end Mine
end
section
open PySem PySem.W PyProof.Rows PySem.Calls PySem.Spec
namespace Mine
noncomputable abbrev PR : Program := Challenge.rw_mq0425_01.row.prog
noncomputable abbrev VW : Program := Mine.hd.view_39
noncomputable abbrev LS : List Str := looseW VW [Str.ofString "Whitespace", Str.ofString "UnsupportedOperation", Str.ofString "IOBase",
      Str.ofString "BufferedIOBase", Str.ofString "TextIOBase", Str.ofString "BytesIO", Str.ofString "StringIO",
      Str.ofString "shlex"]
noncomputable abbrev KK := Mine.hd.heap_39
theorem sub_cons {α : Type} {a : α} {r l : List α} (h : a ∈ l) (k : ∀ p ∈ r, p ∈ l) : ∀ p ∈ a :: r, p ∈ l := List.forall_mem_cons.mpr ⟨h, k⟩
/-- the goal behind a bare name -/
theorem opq {G : Prop} (h : ∀ P : Prop, (G → P) → P) : G := h G id
theorem up0 {n b c : Nat} (h : n + b < c) : n < c := Nat.lt_of_le_of_lt (Nat.le_add_right n b) h
theorem up1 {n a b c : Nat} (h : n + b < c) (e : Nat.ble a b = true) : n + a < c := Nat.lt_of_le_of_lt (Nat.add_le_add_left (Nat.le_of_ble_eq_true e) n) h
theorem up2 {n k a b c : Nat} (h : n + b < c) (e : Nat.ble (k + a) b = true) : n + k + a < c := Nat.add_assoc n k a ▸ up1 h e
theorem up3 {n j k a b c : Nat} (h : n + b < c) (e : Nat.ble (j + k + a) b = true) : n + j + k + a < c := by
  rw [Nat.add_assoc n j k, Nat.add_assoc n (j + k) a]; exact up1 h e
theorem ar1 {a b : Prop} (h : a ∧ b) : a := h.1
theorem ar2 {a b c : Prop} (h : a ∧ b ∧ c) : b := h.2.1
theorem ar3 {a b c d : Prop} (h : a ∧ b ∧ c ∧ d) : c := h.2.2.1
theorem ar4 {a b c d e : Prop} (h : a ∧ b ∧ c ∧ d ∧ e) : d := h.2.2.2.1
theorem ar5 {a b c d e f : Prop} (h : a ∧ b ∧ c ∧ d ∧ e ∧ f) : e := h.2.2.2.2.1
theorem al2 {a b : Prop} (h : a ∧ b) : b := h.2
theorem al3 {a b c : Prop} (h : a ∧ b ∧ c) : c := h.2.2
theorem al4 {a b c d : Prop} (h : a ∧ b ∧ c ∧ d) : d := h.2.2.2
theorem al5 {a b c d e : Prop} (h : a ∧ b ∧ c ∧ d ∧ e) : e := h.2.2.2.2
theorem al6 {a b c d e f : Prop} (h : a ∧ b ∧ c ∧ d ∧ e ∧ f) : f := h.2.2.2.2.2
end Mine
end
section
open PySem PySem.W PyProof.Rows PySem.Calls PySem.Spec
set_option maxRecDepth 100000
namespace Mine
noncomputable abbrev S (l : List Nat) : Str := ⟨l.toArray⟩
noncomputable abbrev AA (dp un : Nat) (fr : Option (List Env)) (gd : Option (List Code)) : Around := { handled := none, depth := dp, frames := fr, guards := gd, units := un }

/-- what stands of the top at a heap -/
structure G (w : World) (mean : ExcName → Option Value) (mg mb : Str → Option Value) (hT h : Heap) : Prop where
  X : (Mine.hd.heap_39 w.params).In hT
  T : Top VW LS mean mg mb hT
  st : ∀ b o, hT.get? b = some o → h.get? b = some o

noncomputable def KB (D : List Addr) (h h' : Heap) : Prop := ∀ b o, b ∉ D → h.get? b = some o → h'.get? b = some o

section
variable {w : World} {mean : ExcName → Option Value} {mg mb : Str → Option Value} {hT h h' h₀ : Heap} {L : Addr} {m : Str → Option Value} {news : List (Addr × Obj)} {D : List Addr}
theorem G.X' (g : G w mean mg mb hT h) : (Mine.hd.heap_39 w.params).In h := g.X.keeps g.st
theorem G.T' (g : G w mean mg mb hT h) : Top VW LS mean mg mb h := g.T.keeps g.st
theorem G.of (F : Fr h₀ L h m) (X : (Mine.hd.heap_39 w.params).In h₀) (T : Top VW LS mean mg mb h₀) : G w mean mg mb h₀ h := ⟨X, T, F.keep⟩
theorem KB.nil (k : KB [] h h') : ∀ b o, h.get? b = some o → h'.get? b = some o := fun b o e => k b o (by simp) e
theorem Fr.kb (F : Fr h₀ L h m) (k : KB D h h') (hL : L ∉ D) (hD : ∀ a ∈ D, h₀.get? a = none) : Fr h₀ L h' m :=
  ⟨F.ns.at' fun o e => k L o hL e, fun b o e => k b o (fun hb => by rw [hD b hb] at e; cases e) (F.keep b o e), F.above⟩
theorem News.kb (N : News h₀ L h news) (k : KB D h h') (hD : ∀ p ∈ news, p.1 ∉ D) : News h₀ L h' news := fun p hp => ⟨k _ _ (hD p hp) (N p hp).1, (N p hp).2⟩
theorem fresh_off (F : Fr h₀ L h m) {a : Addr} (ha : h.get? a = none) : a ≠ L ∧ h₀.get? a = none := by
  constructor
  · rintro rfl
    obtain ⟨o, _, _, e, _⟩ := F.ns
    rw [ha] at e; cases e
  · cases e : h₀.get? a with
    | none => rfl
    | some o => have := F.keep a o e; rw [ha] at this; cases this
/-- a fresh object onto the ledger -/
theorem News.put (F : Fr h₀ L h m) (N : News h₀ L h' news) {a : Addr} {o : Obj} (ha : h.get? a = none) (e : h'.get? a = some o) : News h₀ L h' ((a, o) :: news) := by
  intro p hp
  rcases List.mem_cons.mp hp with rfl | hp
  · exact ⟨e, (fresh_off F ha).1, (fresh_off F ha).2⟩
  · exact N p hp
end

section
variable {w : World} {mean : ExcName → Option Value} {mg mb : Str → Option Value} {hT : Heap} {dp un : Nat} {fr : Option (List Env)} {gd : Option (List Code)} {s : Shared} {A : Around}
  {R : Result → Shared → Prop} {name qual : Str} {params : Arguments} {body : List Stmt} {scope : Scope} {dV kV doc pm cdv ct oc : Value} {an od : Option Addr} {osl : Array (Option Value)} {f : Addr} {args : Args}

/-- a call of a def of the text's that changes nothing that stands -/
theorem enter0 (binds : List (Str × Value)) (g : G w mean mg mb hT s.heap)
    (ho : (Mine.hd.heap_39 w.params).lookup f = some ⟨oc, od, .func (fnOf name qual params body scope dV kV doc pm an cdv ct), osl⟩) (hcd : codeIn (Mine.hd.heap_39 w.params) cdv qual = true) (hroom : A.depth < recursionLimit)
    (hbind : BindsTo s (fnOf name qual params body scope dV kV doc pm an cdv ct) args binds) (hloc : ∀ y ∈ binds, scope.names.lookup y.1 = some .local)
    (hco : scope.isCoroutine = false) (hgen : scope.isGenerator = false) (hk : scope.kind = .function) (hcell : ∀ x ∈ scope.names, x.2 ≠ .cell)
    (h : ∀ h₁, (Mine.hd.heap_39 w.params).In s.heap → Top VW LS mean mg mb s.heap → Fr s.heap s.heap.objs.size h₁ (fun y => binds.reverse.lookup y) → News s.heap s.heap.objs.size h₁ [] →
      wpAny (model PR w) (A.deeper (envOf qual scope s.heap.objs.size f cdv)) (execs body (envOf qual scope s.heap.objs.size f cdv))
        (fun fl s' => R (.ok (.ret (match fl with | .ret v => v | _ => .none))) s') (fun _ _ => False)
        { s with heap := h₁, toks := s.toks + binds.length }) : codeAny (model PR w) A (.call (.ref f) args) R s := by
  have X := g.X'
  refine codeAny_call_def (fd := fnOf name qual params body scope dV kV doc pm an cdv ct) (body := body) (binds := binds) hroom (X _ _ ho) rfl g.T'.nolimit (codeRec_of X hcd) rfl hbind hcell hloc (fun h₁ hns hk₁ => ?_) hco hgen hk
  exact wpAny_mono (h h₁ X g.T' ⟨hns, hk₁, Nat.le_refl _⟩ News.nil) (fun _ _ x => x) (fun _ _ x => x.elim)

/-- a call of a def of the text's that may change the objects told -/
theorem enterD (binds : List (Str × Value)) (objs : List (Addr × Obj)) (g : G w mean mg mb hT s.heap) (hO : ∀ p ∈ objs, s.heap.get? p.1 = some p.2 ∧ hT.get? p.1 = none)
    (ho : (Mine.hd.heap_39 w.params).lookup f = some ⟨oc, od, .func (fnOf name qual params body scope dV kV doc pm an cdv ct), osl⟩) (hcd : codeIn (Mine.hd.heap_39 w.params) cdv qual = true) (hroom : A.depth < recursionLimit)
    (hbind : BindsTo s (fnOf name qual params body scope dV kV doc pm an cdv ct) args binds) (hloc : ∀ y ∈ binds, scope.names.lookup y.1 = some .local)
    (hco : scope.isCoroutine = false) (hgen : scope.isGenerator = false) (hk : scope.kind = .function) (hcell : ∀ x ∈ scope.names, x.2 ≠ .cell)
    (h : ∀ g₀ L' h₁, (Mine.hd.heap_39 w.params).In g₀ → Top VW LS mean mg mb g₀ → Fr g₀ L' h₁ (fun y => binds.reverse.lookup y) → News g₀ L' h₁ objs → (∀ p ∈ objs, p.1 < L') →
      (∀ h', (∀ b o, g₀.get? b = some o → h'.get? b = some o) → KB (objs.map (·.1)) s.heap h') → (∀ a, g₀.get? a = none → a ∉ objs.map (·.1) → s.heap.get? a = none) →
      wpAny (model PR w) (A.deeper (envOf qual scope L' f cdv)) (execs body (envOf qual scope L' f cdv))
        (fun fl s' => R (.ok (.ret (match fl with | .ret v => v | _ => .none))) s') (fun _ _ => False)
        { s with heap := h₁, toks := s.toks + binds.length }) : codeAny (model PR w) A (.call (.ref f) args) R s := by
  have X := g.X'
  refine codeAny_call_def (fd := fnOf name qual params body scope dV kV doc pm an cdv ct) (body := body) (binds := binds) hroom (X _ _ ho) rfl g.T'.nolimit (codeRec_of X hcd) rfl hbind hcell hloc (fun h₁ hns hk₁ => ?_) hco hgen hk
  have st : ∀ b o, hT.get? b = some o → (hideAll s.heap (objs.map (·.1))).get? b = some o := fun b o e => hideAll_get _ (g.st b o e) fun q => by
    obtain ⟨p, hp, rfl⟩ := List.mem_map.mp q
    rw [(hO p hp).2] at e; cases e
  refine wpAny_mono (h (hideAll s.heap (objs.map (·.1))) s.heap.objs.size h₁ (g.X.keeps st) (g.T.keeps st) ⟨hns, fun b o e => hk₁ b o (of_hideAll _ e), Nat.le_of_eq (hideAll_size _ _)⟩
    (fun p hp => ⟨hk₁ _ _ (hO p hp).1, Nat.ne_of_lt (Heap.lt_size (hO p hp).1), hideAll_none _ (List.mem_map_of_mem hp)⟩) (fun p hp => Heap.lt_size (hO p hp).1) (fun h' k b o hb e => k b o (hideAll_get _ e hb)) (fun a e ha => ?_)) (fun _ _ x => x) (fun _ _ x => x.elim)
  cases q : s.heap.get? a with
  | none => rfl
  | some o => rw [hideAll_get _ q ha] at e; cases e

/-- the same, where the binding of the arguments makes objects -/
theorem enterB (binds : List (Str × Value)) (hB : Heap) (g : G w mean mg mb hT s.heap)
    (ho : (Mine.hd.heap_39 w.params).lookup f = some ⟨oc, od, .func (fnOf name qual params body scope dV kV doc pm an cdv ct), osl⟩) (hcd : codeIn (Mine.hd.heap_39 w.params) cdv qual = true) (hroom : A.depth < recursionLimit)
    (hkB : ∀ b o, s.heap.get? b = some o → hB.get? b = some o) (hzB : s.heap.objs.size ≤ hB.objs.size)
    (hbind : ∀ (A' : Around) (E' : Value → Shared → Prop) (Q' : List (Str × Value) → Shared → Prop), Q' binds { s with heap := hB } → wpAny (model PR w) A' (bindArgs (fnOf name qual params body scope dV kV doc pm an cdv ct) args) Q' E' s) (hloc : ∀ y ∈ binds, scope.names.lookup y.1 = some .local)
    (hco : scope.isCoroutine = false) (hgen : scope.isGenerator = false) (hk : scope.kind = .function) (hcell : ∀ x ∈ scope.names, x.2 ≠ .cell)
    (h : ∀ h₁, (Mine.hd.heap_39 w.params).In s.heap → Top VW LS mean mg mb s.heap → Fr s.heap hB.objs.size h₁ (fun y => binds.reverse.lookup y) → News s.heap hB.objs.size h₁ [] → (∀ b o, hB.get? b = some o → h₁.get? b = some o) →
      wpAny (model PR w) (A.deeper (envOf qual scope hB.objs.size f cdv)) (execs body (envOf qual scope hB.objs.size f cdv))
        (fun fl s' => R (.ok (.ret (match fl with | .ret v => v | _ => .none))) s') (fun _ _ => False)
        { s with heap := h₁, toks := s.toks + binds.length }) : codeAny (model PR w) A (.call (.ref f) args) R s := by
  have X := g.X'
  refine codeAny_call_function (fd := fnOf name qual params body scope dV kV doc pm an cdv ct) (body := body) hroom (X _ _ ho) rfl hco hgen rfl (codeRec_of X hcd) (hbind _ _ _ ?_)
  refine wpAny_newFunctionEnv hcell hloc (fun h₁ hns hsb => ?_) hk
  have hk₁ : ∀ b o, hB.get? b = some o → h₁.get? b = some o := fun b o e => hsb.extBut b o (Nat.ne_of_lt (Heap.lt_size e)) (Heap.get?_push_of_some _ e)
  refine ⟨(g.T'.nolimit.keeps hkB).keeps hk₁, codeAny_func ?_⟩
  exact wpAny_mono (h h₁ X g.T' ⟨hns, fun b o e => hk₁ b o (hkB b o e), hzB⟩ News.nil hk₁) (fun _ _ x => x) (fun _ _ x => x.elim)

theorem kb_all {objs : List (Addr × Obj)} {h h' : Heap} (k : KB (objs.map (·.1)) h h') (h1 : ∀ p ∈ objs, h.get? p.1 = some p.2) (h2 : ∀ p ∈ objs, h'.get? p.1 = some p.2) : ∀ b o, h.get? b = some o → h'.get? b = some o := by
  intro b o e
  by_cases hb : b ∈ objs.map (·.1)
  · obtain ⟨p, hp, rfl⟩ := List.mem_map.mp hb
    rw [h1 p hp] at e
    rw [h2 p hp]; exact e
  · exact k b o hb e
theorem kb_mono {D D' : List Addr} {h h' : Heap} (k : KB D h h') (hs : ∀ a ∈ D, a ∈ D') : KB D' h h' := fun b o hb e => k b o (fun q => hb (hs b q)) e

noncomputable def AllNe (a : Nat) : List (Addr × Obj) → Prop
  | [] => True
  | p :: r => (@Ne Nat p.1 a) ∧ AllNe a r
theorem allNe_of {h₀ h : Heap} {L a : Addr} : ∀ {news : List (Addr × Obj)}, News h₀ L h news → h.get? a = none → AllNe a news
  | [], _, _ => trivial
  | p :: r, N, f => ⟨(fun e => by have := (N p (.head _)).1; rw [show p.1 = a from e, f] at this; exact nomatch this), allNe_of (fun q hq => N q (.tail _ hq)) f⟩
end
end Mine
end
section
open PySem PySem.W PyProof.Rows PySem.Calls PySem.Spec
set_option maxRecDepth 100000
namespace Mine
section
variable {w : World} {mean : ExcName → Option Value} {mg mb : Str → Option Value} {hT : Heap} {dp un : Nat} {fr : Option (List Env)} {gd : Option (List Code)} {s : Shared} {A : Around}
  {R : Result → Shared → Prop} {name qual : Str} {params : Arguments} {body : List Stmt} {scope : Scope} {dV kV doc pm cdv ct oc : Value} {an od : Option Addr} {osl : Array (Option Value)} {f : Addr} {args : Args}
/-- a call of a def of the text's that has cells and may change the objects told -/
theorem enterC (binds : List (Str × Value)) (objs : List (Addr × Obj)) (g : G w mean mg mb hT s.heap) (hO : ∀ p ∈ objs, s.heap.get? p.1 = some p.2 ∧ hT.get? p.1 = none)
    (ho : (Mine.hd.heap_39 w.params).lookup f = some ⟨oc, od, .func (fnOf name qual params body scope dV kV doc pm an cdv ct), osl⟩) (hcd : codeIn (Mine.hd.heap_39 w.params) cdv qual = true) (hroom : A.depth < recursionLimit)
    (hbind : BindsTo s (fnOf name qual params body scope dV kV doc pm an cdv ct) args binds) (hkind : (binds.all fun y => scope.names.lookup y.1 == some .local || scope.names.lookup y.1 == some .cell) = true)
    (hnd : ((cellsFrom 0 scope.names []).map (·.1)).Nodup)
    (hco : scope.isCoroutine = false) (hgen : scope.isGenerator = false) (hk : scope.kind = .function)
    (h : ∀ g₀ L' h₁ tk cells, (Mine.hd.heap_39 w.params).In g₀ → Top VW LS mean mg mb g₀ → Fr g₀ L' h₁ (bindL (envOfC qual scope L' f cdv).kindOf binds fun _ => none) → News g₀ L' h₁ (cells ++ objs) →
      CellsAre (bindC (envOfC qual scope L' f cdv).kindOf binds fun _ => none) (cellsFrom (L' + 1) scope.names []) cells → (∀ p ∈ objs, p.1 < L') →
      (∀ h', (∀ b o, g₀.get? b = some o → h'.get? b = some o) → KB (objs.map (·.1)) s.heap h') → (∀ a, g₀.get? a = none → a ∉ objs.map (·.1) → s.heap.get? a = none) →
      wpAny (model PR w) (A.deeper (envOfC qual scope L' f cdv)) (execs body (envOfC qual scope L' f cdv))
        (fun fl s' => R (.ok (.ret (match fl with | .ret v => v | _ => .none))) s') (fun _ _ => False)
        { s with heap := h₁, toks := tk }) : codeAny (model PR w) A (.call (.ref f) args) R s := by
  have X := g.X'
  refine codeAny_call_function (fd := fnOf name qual params body scope dV kV doc pm an cdv ct) (body := body) hroom (X _ _ ho) rfl hco hgen rfl (codeRec_of X hcd) (hbind _ _ _ _ ?_)
  refine wpAny_newFunctionEnv_cells hk (kindsX hkind _) fun env' he s' x => ?_
  subst he
  refine ⟨g.T'.nolimit.keeps x.toInCall.keep, codeAny_func ?_⟩
  obtain ⟨h₁, tk, rfl, _⟩ := x.done
  have hk₁ := x.toInCall.keep
  obtain ⟨cells, NC, Y⟩ := Cl.news (h₀ := s.heap) (Nat.le_refl _) fun n c hm => ⟨x.cell n c (lookup_of_mem_nodup (cellsFrom_names scope.names 0 (s.heap.objs.size + 1) [] [] rfl ▸ hnd) hm), x.above n c hm⟩
  have st : ∀ b o, hT.get? b = some o → (hideAll s.heap (objs.map (·.1))).get? b = some o := fun b o e => hideAll_get _ (g.st b o e) fun q => by
    obtain ⟨p, hp, rfl⟩ := List.mem_map.mp q
    rw [(hO p hp).2] at e; cases e
  refine wpAny_mono (h (hideAll s.heap (objs.map (·.1))) s.heap.objs.size h₁ tk cells (g.X.keeps st) (g.T.keeps st) ⟨x.toInCall.ns, fun b o e => hk₁ b o (of_hideAll _ e), Nat.le_of_eq (hideAll_size _ _)⟩ (fun p hp => ?_) Y (fun p hp => Heap.lt_size (hO p hp).1) (fun h' k b o hb e => k b o (hideAll_get _ e hb)) (fun a e ha => ?_)) (fun _ _ y => y) (fun _ _ y => y.elim)
  · rcases List.mem_append.mp hp with hp | hp
    · refine ⟨(NC p hp).1, (NC p hp).2.1, ?_⟩
      cases q : (hideAll s.heap (objs.map (·.1))).get? p.1 with
      | none => rfl
      | some o => have := of_hideAll _ q; rw [(NC p hp).2.2] at this; cases this
    · exact ⟨hk₁ _ _ (hO p hp).1, Nat.ne_of_lt (Heap.lt_size (hO p hp).1), hideAll_none _ (List.mem_map_of_mem hp)⟩
  · cases q : s.heap.get? a with
    | none => rfl
    | some o => rw [hideAll_get _ q ha] at e; cases e
end
end Mine
end
section
open PySem PySem.W PyProof.Rows PySem.Calls PySem.Spec
namespace Mine
theorem runs_toks {M : Model} {Γ : PySem.Ctx} {p : Pos} {t : Sem Fin} {fs : List Frame} {s s' : Shared} {e : End} (h : Runs M Γ p t fs s e s') : s.toks ≤ s'.toks := by
  induction h with
  | fresh _ ih => exact Nat.le_trans (Nat.le_succ _) ih
  | call _ _ ih1 ih2 => exact Nat.le_trans ih1 ih2
  | resumeFresh _ _ _ _ ih1 ih2 => exact Nat.le_trans ih1 ih2
  | resumeSuspended _ _ _ _ ih1 ih2 => exact Nat.le_trans ih1 ih2
  | segRet _ _ ih1 ih2 => exact Nat.le_trans ih1 ih2
  | segGen _ _ ih1 ih2 => exact Nat.le_trans ih1 ih2
  | segSuspGen _ _ _ _ ih1 ih2 => exact Nat.le_trans ih1 ih2
  | done => exact Nat.le_refl _
  | raise => exact Nat.le_refl _
  | yield => exact Nat.le_refl _
  | _ => assumption
theorem wakes_toks {M : Model} {Γ : PySem.Ctx} {p : Pos} {g : Nat} {r : Resume} {s s' : Shared} {res : GenResult} (h : Wakes M Γ p g r s res s') : s.toks ≤ s'.toks := by
  unfold Wakes at h
  split at h
  · exact h.elim
  · split at h
    · obtain ⟨e₁, s₁, hr, _, _, rfl⟩ := h; have q := runs_toks hr; exact q
    · obtain ⟨_, rfl⟩ := h; exact Nat.le_refl _
    · obtain ⟨_, rfl⟩ := h; exact Nat.le_refl _
  · obtain ⟨e₁, s₁, hr, _, _, rfl⟩ := h; have q := runs_toks hr; exact q
  · obtain ⟨_, rfl⟩ := h; exact Nat.le_refl _
  · obtain ⟨_, rfl⟩ := h; exact Nat.le_refl _
theorem wp_toks {α : Type} {M : Model} {Γ : PySem.Ctx} (t : Sem α) : ∀ {Q : α → Pos → Shared → Prop} {E : Value → Pos → Shared → Prop} {p : Pos} {s : Shared} {n : Nat}, n ≤ s.toks → Sem.wp M Γ t (fun a p' s' => n ≤ s'.toks → Q a p' s') E p s → Sem.wp M Γ t Q E p s := by
  induction t with
  | pure a => intro Q E p s n hn h; exact h hn
  | raise e => intro Q E p s n hn h; exact h
  | unsupported w => intro Q E p s n hn h; exact h
  | finish e => intro Q E p s n hn h; exact h
  | rule _ k ih => intro Q E p s n hn h; exact ih () hn h
  | «at» _ k ih => intro Q E p s n hn h; exact ih () hn h
  | load a _ k ih => intro Q E p s n hn h; obtain ⟨o, ho, h⟩ := h; exact ⟨o, ho, ih o hn h⟩
  | update a _ f k ih => intro Q E p s n hn h; exact ⟨h.1, ih () hn h.2⟩
  | alloc o k ih => intro Q E p s n hn h; exact ih _ hn h
  | loadIfAlive a k ih => intro Q E p s n hn h; exact ih _ hn h
  | point _ k ih => intro Q E p s n hn h; exact ih () hn h
  | register a k ih => intro Q E p s n hn h; exact h
  | fresh k ih => intro Q E p s n hn h; exact ih _ (Nat.le_succ_of_le hn) h
  | ask k ih => intro Q E p s n hn h; exact ih _ hn h
  | choose src k f ih => intro Q E p s n hn h; exact ⟨h.1, ih _ hn h.2⟩
  | os q l k ih => intro Q E p s n hn h; exact ih _ hn h
  | call c hd g l k ih => intro Q E p s n hn h; obtain ⟨r, s', hr, h⟩ := h; exact ⟨r, s', hr, ih r (Nat.le_trans hn (runs_toks hr)) h⟩
  | handled o k ih => intro Q E p s n hn h; exact ih _ hn h
  | newGen c k ih => intro Q E p s n hn h; exact ih _ hn h
  | genState g k ih => intro Q E p s n hn h; obtain ⟨st, hs, h⟩ := h; exact ⟨st, hs, ih _ hn h⟩
  | resume g r l k ih => intro Q E p s n hn h; obtain ⟨res, s', hw, h⟩ := h; exact ⟨res, s', hw, ih res (Nat.le_trans hn (wakes_toks hw)) h⟩
  | yield v g l k ih => intro Q E p s n hn h; exact h
  | stack k ih => intro Q E p s n hn h; exact ih _ hn h
  | fork c k ih => intro Q E p s n hn h; exact h
  | thread k ih => intro Q E p s n hn h; exact ih _ hn h
  | await a t d l k ih => intro Q E p s n hn h; exact h
/-- what is behind has drawn no fewer tokens -/
theorem wpAny_tk {α : Type} {M : Model} {A : Around} {t : Sem α} {Q : α → Shared → Prop} {E : Value → Shared → Prop} {s : Shared} (h : wpAny M A t (fun a s' => s.toks ≤ s'.toks → Q a s') E s) : wpAny M A t Q E s :=
  fun Γ p hΓ => wp_toks t (Nat.le_refl _) (h Γ p hΓ)
theorem wpAny_tkn {α : Type} {M : Model} {A : Around} {t : Sem α} {Q : α → Shared → Prop} {E : Value → Shared → Prop} {s : Shared} {n : Nat} (hn : n ≤ s.toks) (h : wpAny M A t (fun a s' => n ≤ s'.toks → Q a s') E s) : wpAny M A t Q E s :=
  fun Γ p hΓ => wp_toks t hn (h Γ p hΓ)
end Mine
end
section
open PySem PySem.W PyProof.Rows PySem.Calls PySem.Spec
namespace Mine
theorem S_toList (l : List Nat) : (S l).cps.toList = l := rfl
theorem S_length (l : List Nat) : (S l).length = l.length := by simp [PySem.Str.length]
theorem S_append (a b : List Nat) : S a ++ S b = S (a ++ b) := PySem.Str.ext' (by rw [PySem.Str.cps_append]; simp)
theorem S_inj {a b : List Nat} : S a = S b ↔ a = b := ⟨fun h => by have := congrArg (fun x : Str => x.cps.toList) h; simpa using this, fun h => h ▸ rfl⟩
theorem S_of (x : Str) : x = S x.cps.toList := by cases x; rfl
theorem S_beq (a b : List Nat) : (S a == S b) = decide (a = b) := by
  rw [Bool.eq_iff_iff, beq_iff_eq, decide_eq_true_eq]; exact S_inj

noncomputable def splitL (k : Nat) : List Nat → List (List Nat)
  | [] => [[]]
  | c :: t => if c = k then [] :: splitL k t else match splitL k t with
    | p :: ps => (c :: p) :: ps
    | [] => [[c]]
theorem splitL_ne (k : Nat) (l : List Nat) : splitL k l ≠ [] := by
  cases l with
  | nil => simp [splitL]
  | cons c t => simp only [splitL]; split <;> (try split) <;> simp
noncomputable def joinL (z : List Nat) : List (List Nat) → List Nat
  | [] => []
  | [p] => p
  | p :: q :: r => p ++ z ++ joinL z (q :: r)
theorem joinL_cons (z p : List Nat) {ps : List (List Nat)} (h : ps ≠ []) : joinL z (p :: ps) = p ++ z ++ joinL z ps := by
  cases ps with
  | nil => exact absurd rfl h
  | cons q r => rfl
theorem join_S (z : List Nat) (ps : List (List Nat)) : Str.join (S z) (ps.map S) = S (joinL z ps) := by
  induction ps with
  | nil => rfl
  | cons p ps ih =>
    cases ps with
    | nil => rfl
    | cons q r =>
      show S p ++ S z ++ Str.join (S z) ((q :: r).map S) = _
      rw [ih, S_append, S_append, joinL_cons z p (by simp)]
theorem splitL_app (k : Nat) (p l : List Nat) (hp : k ∉ p) : splitL k (p ++ k :: l) = p :: splitL k l := by
  induction p with
  | nil => simp [splitL]
  | cons c t ih =>
    have hc : c ≠ k := fun e => hp (e ▸ .head _)
    simp only [List.cons_append, splitL, hc, if_false]
    rw [ih fun h => hp (.tail _ h)]
theorem splitL_free (k : Nat) (p : List Nat) (hp : k ∉ p) : splitL k p = [p] := by
  induction p with
  | nil => rfl
  | cons c t ih =>
    have hc : c ≠ k := fun e => hp (e ▸ .head _)
    simp only [splitL, hc, if_false]
    rw [ih fun h => hp (.tail _ h)]
theorem splitL_join (k : Nat) (ps : List (List Nat)) (hne : ps ≠ []) (hf : ∀ p ∈ ps, k ∉ p) : splitL k (joinL [k] ps) = ps := by
  induction ps with
  | nil => exact absurd rfl hne
  | cons p ps ih =>
    cases ps with
    | nil => exact splitL_free k p (hf p (.head _))
    | cons q r =>
      rw [joinL_cons _ _ (by simp), List.append_assoc, List.singleton_append, splitL_app k p _ (hf p (.head _)), ih (by simp) fun x hx => hf x (.tail _ hx)]
theorem split_S (l : List Nat) (k : Nat) : Txt.split (S l) (S [k]) = (splitL k l).map S := by
  have hj := StrLaws.join_split (S l) (S [k])
  have hf := StrLaws.split_free (S l) k
  have hf' : ∀ p ∈ Txt.split (S l) (S [k]), k ∉ p.cps.toList := hf
  generalize hps : Txt.split (S l) (S [k]) = ps at hj hf'
  have e1 : ps = (ps.map fun x => x.cps.toList).map S := by
    rw [List.map_map]
    conv => lhs; rw [← List.map_id ps]
    exact List.map_congr_left fun x _ => (S_of x)
  rw [e1] at hj
  rw [join_S] at hj
  have hj' : joinL [k] (ps.map fun x => x.cps.toList) = l := S_inj.mp hj
  have hne : ps ≠ [] := by
    intro e
    subst e
    have hl : l = [] := by simpa [joinL] using hj'.symm
    subst hl
    unfold Txt.split at hps
    rw [if_pos (by simp [PySem.Str.length])] at hps
    cases hps
  rw [e1]
  congr 1
  rw [← hj']
  exact (splitL_join k _ (by simpa using hne) (fun p hp => by
    obtain ⟨x, hx, rfl⟩ := List.mem_map.mp hp
    exact hf' x hx)).symm
theorem joinL_split (k : Nat) (z l : List Nat) : joinL z (splitL k l) = l.flatMap fun c => if c = k then z else [c] := by
  induction l with
  | nil => rfl
  | cons c t ih =>
    simp only [splitL, List.flatMap_cons]
    by_cases h : c = k
    · simp only [h, if_true]
      rw [joinL_cons _ _ (splitL_ne k t), ih]; simp
    · simp only [h, if_false]
      cases e : splitL k t with
      | nil => exact absurd e (splitL_ne k t)
      | cons p ps =>
        rw [e] at ih
        cases ps with
        | nil => simp only [joinL] at ih ⊢; rw [← ih]; rfl
        | cons q r => simp only [joinL] at ih ⊢; rw [← ih]; simp
theorem replace_S (l z : List Nat) (k : Nat) : Txt.replace (S l) (S [k]) (S z) = S (l.flatMap fun c => if c = k then z else [c]) := by
  have h := StrLaws.replace_one (S l) (S z) k
  have e : Txt.split (S l) ⟨#[k]⟩ = (splitL k l).map S := split_S l k
  rw [e, join_S, joinL_split] at h
  exact h
theorem txtjoin_S (z : List Nat) (ps : List (List Nat)) : Txt.join (S z) (ps.map S) = S (joinL z ps) := by
  rw [← join_S]
  exact beq_iff_eq.mp (join_closes rfl)
theorem joinL_nil (ps : List (List Nat)) : joinL [] ps = ps.flatten := by
  induction ps with
  | nil => rfl
  | cons p ps ih =>
    cases ps with
    | nil => simp [joinL]
    | cons q r => rw [joinL_cons _ _ (by simp), ih]; simp

/-- the longest run, by the split -/
noncomputable def maxLen (ps : List (List Nat)) : Nat := maxOf (ps.map (·.length))
theorem long_split_go (l : List Nat) : ∀ rs b, max (maxOf (runsGo l rs b).1) (runsGo l rs b).2 = max (maxOf rs) (match splitL 9 l with | p :: ps => max (b + p.length) (maxLen ps) | [] => 0) := by
  induction l with
  | nil => intro rs b; simp [splitL, runsGo, maxLen, maxOf]
  | cons c t ih =>
    intro rs b
    simp only [runsGo, splitL]
    by_cases h : c = 9
    · simp only [h, if_true]
      rw [ih]
      cases e : splitL 9 t with
      | nil => exact absurd e (splitL_ne 9 t)
      | cons p ps => simp only [maxLen, List.map_cons, maxOf, List.length_nil]; lia
    · simp only [h, if_false]
      rw [ih]
      cases e : splitL 9 t with
      | nil => exact absurd e (splitL_ne 9 t)
      | cons p ps => simp only [List.length_cons]; lia
theorem long_split (l : List Nat) : maxLen (splitL 9 l) = longOf l := by
  have h := long_split_go l [] 0
  unfold longOf runsOf
  rw [h]
  cases e : splitL 9 l with
  | nil => exact absurd e (splitL_ne 9 l)
  | cons p ps => simp only [maxLen, List.map_cons, maxOf]; lia

theorem slice_S (l : List Nat) {a b : Nat} (hab : a ≤ b) (hb : b ≤ l.length) : Txt.slice (S l) (some (a : Int)) (some (b : Int)) = S ((l.drop a).take (b - a)) :=
  StrLaws.sliceText_nat (S l) hab (by rw [S_length]; exact hb)
theorem slice_to_S (l : List Nat) {b : Nat} (hb : b ≤ l.length) : Txt.slice (S l) none (some (b : Int)) = S (l.take b) := by
  have h := StrLaws.sliceText_to (x := S l) (j := (b : Int)) ⟨by lia, by simpa using hb⟩
  have e : Txt.slice (S l) none (some (b : Int)) = StrLaws.sliceText (S l) none (some (b : Int)) := rfl
  rw [e, h]
  simp
end Mine
end
section
open PySem PySem.W PyProof.Rows PySem.Calls PySem.Spec
namespace Mine
section
variable {prog : Program} {w : World} {A : Around} {E : Value → Shared → Prop} {s : Shared} {h₀ : Heap} {L : Addr} {m : Str → Option Value} {env : Env}

theorem comp_inv {elt : Expr} {x : Str} {scope : Scope} {cl : List (Str × Addr)} {Sg : List (Addr × Obj) → Prop} {P : Nat → Value → Prop} {Fin : List Value → List (Addr × Obj) → Prop} {n : Nat}
    (J : Nat → List Value → List (Addr × Obj) → Prop)
    (step : ∀ i ys news v I oI C oC D m₂ h tk (E' : Value → Shared → Prop), i < n → J i ys news → P i v → LCg.NsObj oC m₂ → m₂ x = some v → Fr h₀ L h m → News h₀ L h ((I, oI) :: (C, oC) :: (D, LCg.lst ys) :: news) → LCg.Off3 I C D news → ((@Ne Nat I C) ∧ (@Ne Nat I D) ∧ (@Ne Nat C D)) →
      wpAny (model prog w) A (eval elt (compEnvC scope cl C env)) (LCg.CompEnd h₀ L m { s with heap := h, toks := tk } I oI C oC D (LCg.lst ys) Sg (fun y news' => J (i + 1) (ys ++ [y]) news')) E' { s with heap := h, toks := tk })
    (fin : ∀ ys news, J n ys news → Fin ys news) :
    ∀ k i ys news, i + k = n → J i ys news → LCg.CompRest prog w A h₀ L m env elt x scope cl s Sg P Fin k i ys news := by
  intro k
  induction k with
  | zero => intro i ys news hi hj; exact LCg.CompRest.zero (fin ys news (by rw [← hi]; exact hj))
  | succ k ih =>
    intro i ys news hi hj
    refine LCg.CompRest.succ fun v I oI C oC D m₂ h tk E' hP hC hx F N off ne => ?_
    refine wpAny_mono (step i ys news v I oI C oC D m₂ h tk E' (by lia) hj hP hC hx F N off ne) (fun y s₂ z => ?_) fun _ _ e => e
    obtain ⟨h', tk', news', e, F', N', off', hS, r⟩ := z
    exact ⟨h', tk', news', e, F', N', off', hS, ih (i + 1) (ys ++ [y]) news' (by lia) r⟩

noncomputable def SrcS (prog : Program) (w : World) (A : Around) (h₀ : Heap) (L : Addr) (m : Str → Option Value) (env : Env) (elt : Expr) (x : Str) (scope : Scope) (cl : List (Str × Addr)) (Fin : Shared → List Value → List (Addr × Obj) → Prop) (xv : Value) (s₁ : Shared) : Prop :=
  ∃ z t news, xv = .str z t ∧ A.handled = none ∧ Fr h₀ L s₁.heap m ∧ News h₀ L s₁.heap news ∧ z.cps.size ≤ sizeLine ∧
    ∀ s₂ : Shared, (∃ h, s₂ = { s₁ with heap := h }) → LCg.CompRest prog w A h₀ L m env elt x scope cl s₂ (fun _ => True) (SignAt z) (Fin s₂) z.cps.size 0 [] news

theorem ListComp_S {elt iter : Expr} {x : Str} {px : Pos} {scope : Scope} {cl : List (Str × Addr)} {pos : Pos} {Q : Value → Shared → Prop} (F₀ : Fr h₀ L s.heap m)
    (hclos : closureFor scope env = pure cl) (hcell : ∀ y ∈ scope.names, y.2 ≠ .cell) (hkind : scope.kind = .function)
    (hnames : ∀ y ∈ scope.names, y.2 = .local → scope.names.lookup y.1 = some .local) (hx : scope.names.lookup x = some .local)
    (h : wpAny (model prog w) A (eval iter env) (SrcS prog w A h₀ L m env elt x scope cl (fun s₂ => LCg.FinE h₀ L m s₂ Q)) E s)
    (hs : ∀ x, foldedSetIterable iter env x = pure x := by intro _; rfl) :
    wpAny (model prog w) A (eval (.ListComp elt [⟨.Name x px, iter, [], 0⟩] scope pos) env) Q E s := by
  rw [eval_ListComp]
  refine wpAny_comprehension_free (use := none) rfl hs hclos hkind hnames (wpAny_mono h (fun xv s₁ h₁ => ?_) fun _ _ e => e)
  obtain ⟨z, t, news, rfl, hh, F, N, hsz, R⟩ := h₁
  have fin : ∀ (s₂ : Shared), ∀ D C h tk m' ys news', Fr h₀ L h m → News h₀ L h ((D, LCg.lst ys) :: news') → LCg.Off1 D news' → h.Ns C m' → h₀.get? C = none → h₀.get? D = none → C ≠ L → D ≠ L → C ≠ D → (∀ p ∈ news', p.1 ≠ C) → LCg.FinE h₀ L m s₂ Q ys news' →
      ∃ m', h.Ns C m' ∧ ∀ h'', Heap.SameBut C h h'' → Q (.ref D) { s₂ with heap := h'', toks := tk } := by
    intro s₂ D C h tk m' ys news' F' N' o1 hn hC₀ hD₀ hCL hDL hCD offC fin
    refine ⟨m', hn, fun h'' hs'' => fin D h'' tk (F'.change hs'' hCL hC₀) (fun p hp => ?_) o1⟩
    refine ⟨hs''.extBut _ _ ?_ (N' p hp).1, (N' p hp).2⟩
    rcases List.mem_cons.mp hp with rfl | hp
    · exact Ne.symm hCD
    · exact offC p hp
  have go : ∀ (o : Obj) (St : Nat → Heap → Prop), Walks prog w A s₁.heap.objs.size [s₁.heap.objs.size] [s₁.heap.objs.size] z.cps.size (SignAt z) St → (∀ i h, St i h → ∃ o, h.get? s₁.heap.objs.size = some o) → St 0 (s₁.heap.push o) →
      wpAny (model prog w) A (newList []) (fun acc s₃ => wpAny (model prog w) A (newFunctionEnv scope env.globals cl [] env.qual none .none (some env)) (fun cenv s₄ =>
        codeAny (model prog w) A (.compStart (.ListComp elt [⟨.Name x px, iter, [], 0⟩] scope pos) 0 (.ref s₁.heap.objs.size) acc { cenv with scope := relabel scope env })
          (compPost (model prog w) A E none Q acc cenv.locals) s₄) E s₃) E { s₁ with heap := s₁.heap.push o } := by
    intro o St W hIo hst
    refine LCg.block_U (RR := compPost (model prog w) A E none Q) W hsz hIo ?_ hcell hkind hx hst (fun b hb => ?_)
      (F.keeps fun _ _ e => Heap.get?_push_of_some _ e) (N.grown fun _ _ e => Heap.get?_push_of_some _ e) (Nat.ne_of_lt F.ns.lt) (next_is_new F) (fun p hp => Nat.ne_of_lt (Heap.lt_size (N p hp).1)) trivial (R _ ⟨_, rfl⟩) ?_
    · intro i h h' o' nw st e e' _ _ _
      exact W.frame _ _ _ st fun b hb o'' q => by
        rw [List.mem_singleton.mp hb] at q ⊢
        rw [e] at q; cases q; exact e'
    · rw [List.mem_singleton.mp hb]
      show s₁.heap.objs.size < (s₁.heap.push _).objs.size
      rw [Heap.size_push]; exact Nat.lt_succ_self _
    · intro D C h tk m' ys news' F' N' o1 hn hC₀ hD₀ hCL hDL hCD offC fn
      exact fin _ D C h tk m' ys news' F' N' o1 hn hC₀ hD₀ hCL hDL hCD offC fn
  cases ha : z.cps.all (· < 128)
  · exact wpAny_pyIter_wide ha (wpAny_mono (go _ _ (Walks.strWide hh _ z t) (fun i h st => by obtain ⟨o, e, _⟩ := st; exact ⟨o, e⟩) ⟨_, Heap.get?_push_size _ rfl, rfl, rfl⟩) (fun acc s₃ q => q) fun _ _ e => e)
  · exact wpAny_pyIter_ascii ha (wpAny_mono (go _ _ (Walks.strAscii hh _ z t) (fun i h st => by obtain ⟨o, e, _⟩ := st; exact ⟨o, e⟩) ⟨_, Heap.get?_push_size _ rfl, rfl, rfl⟩) (fun acc s₃ q => q) fun _ _ e => e)
theorem comp_end {h₀ : Heap} {L I C D : Addr} {m : Str → Option Value} {s₁ : Shared} {oI oC oD : Obj} {Sg : List (Addr × Obj) → Prop} {rest : Value → List (Addr × Obj) → Prop} {y : Value} {h' : Heap} {tk : Nat} {news : List (Addr × Obj)}
    (F : Fr h₀ L h' m) (N : News h₀ L h' ((I, oI) :: (C, oC) :: (D, oD) :: news)) (off : LCg.Off3 I C D news) (hS : Sg news) (r : rest y news) :
    LCg.CompEnd h₀ L m s₁ I oI C oC D oD Sg rest y { s₁ with heap := h', toks := tk } := ⟨h', tk, news, rfl, F, N, off, hS, r⟩
end
end Mine
end
section
open PySem PySem.W PyProof.Rows PySem.Calls PySem.Spec
set_option maxRecDepth 100000
set_option maxHeartbeats 0
namespace Mine
theorem lit39 : Str.ofString "'" = S [39] := by decide +kernel
theorem lit34 : Str.ofString "\"" = S [34] := by decide +kernel
theorem lit92 : Str.ofString "\\" = S [92] := by decide +kernel
theorem lit9292 : Str.ofString "\\\\" = S [92, 92] := by decide +kernel
theorem lit9234 : Str.ofString "\\\"" = S [92, 34] := by decide +kernel
theorem litQ : Str.ofString "'\"'\"'" = S [39, 34, 39, 34, 39] := by decide +kernel
theorem litE : Str.ofString "" = S [] := by decide +kernel

noncomputable def q39 (l : List Nat) : List Nat := l.flatMap fun c => if c = 39 then [39, 34, 39, 34, 39] else [c]
noncomputable def q92 (l : List Nat) : List Nat := l.flatMap fun c => if c = 92 then [92, 92] else [c]
noncomputable def q34 (l : List Nat) : List Nat := l.flatMap fun c => if c = 34 then [92, 34] else [c]
noncomputable def spell (l : List Nat) (way : Int) : List Nat :=
  if way = 0 ∨ l = [] then [39] ++ q39 l ++ [39] else if way = 1 then [34] ++ q34 (q92 l) ++ [34] else (l.map fun c => [92, c]).flatten

theorem spell_way0 {l : List Nat} {way : Int} (e : way = 0) : spell l way = [39] ++ q39 l ++ [39] := by rw [spell, if_pos (.inl e)]
theorem spell_nil {l : List Nat} {way : Int} (e : (S l == Str.ofString "") = true) : spell l way = [39] ++ q39 l ++ [39] := by
  have e' : l = [] := by rw [litE, S_beq, decide_eq_true_eq] at e; exact e
  rw [spell, if_pos (.inr e')]
theorem spell_1 {l : List Nat} {way : Int} (e0 : way ≠ 0) (e1 : (S l == Str.ofString "") = false) (e2 : way = 1) : spell l way = [34] ++ q34 (q92 l) ++ [34] := by
  have e' : l ≠ [] := by rw [litE, S_beq, decide_eq_false_iff_not] at e1; exact e1
  rw [spell, if_neg (by rintro (h | h); exact e0 h; exact e' h), if_pos e2]
theorem spell_2 {l : List Nat} {way : Int} (e0 : way ≠ 0) (e1 : (S l == Str.ofString "") = false) (e2 : way ≠ 1) : spell l way = (l.map fun c => [92, c]).flatten := by
  have e' : l ≠ [] := by rw [litE, S_beq, decide_eq_false_iff_not] at e1; exact e1
  rw [spell, if_neg (by rintro (h | h); exact e0 h; exact e' h), if_neg e2]
theorem esc_len (l : List Nat) : (l.map ((fun x : Str => x.length) ∘ fun c => S [92, c])).sum = 2 * l.length := by
  induction l with
  | nil => rfl
  | cons c t ih => rw [List.map_cons, List.sum_cons, ih, List.length_cons]; simp only [Function.comp, S_length, List.length_cons, List.length_nil]; omega

theorem flatMap_len (l : List Nat) (f : Nat → List Nat) (k : Nat) (h : ∀ c, (f c).length ≤ k) : (l.flatMap f).length ≤ k * l.length := by
  induction l with
  | nil => simp
  | cons c t ih => rw [List.flatMap_cons, List.length_append, List.length_cons, Nat.mul_succ]; have := h c; omega
theorem q39_len (l : List Nat) : (q39 l).length ≤ 5 * l.length := flatMap_len l _ 5 fun c => by split <;> simp
theorem q92_len (l : List Nat) : (q92 l).length ≤ 2 * l.length := flatMap_len l _ 2 fun c => by split <;> simp
theorem q34_len (l : List Nat) : (q34 l).length ≤ 2 * l.length := flatMap_len l _ 2 fun c => by split <;> simp
section
variable {w : World} {mean : ExcName → Option Value} {mg mb : Str → Option Value} {hT : Heap} {dp un : Nat} {fr : Option (List Env)} {gd : Option (List Code)} {s : Shared} {Q E : Value → Shared → Prop}

theorem rep_S {prog : Program} {A : Around} {l z : List Nat} {k : Nat} {y zz : Str} {t u v : Tok} (hy : y = S [k]) (hz : zz = S z) (hyz : ([k] : List Nat) ≠ z) (hl : l.length ≤ 1000) (hzl : z.length ≤ 14) (hu : u ≠ 0) (hv : v ≠ 0) (huv : u ≠ v)
    (h : ∀ t' tk, s.toks ≤ tk → Q (.str (S (l.flatMap fun c => if c = k then z else [c])) t') { s with toks := tk }) :
    wpAny (model prog w) A (call (.builtin "str.replace") [.str (S l) t, .str y u, .str zz v]) Q E s := by
  subst hy hz
  refine wpAny_tk (SC.replaceW hu hv huv (by rw [S_beq]; exact decide_eq_false hyz) (by rw [S_length]; omega) (by rw [S_length]; omega) fun t' tk hk => ?_)
  rw [replace_S]
  exact h t' tk hk
theorem add_S {prog : Program} {A : Around} {x y : Str} {t u : Tok} {a b : List Nat} (hx : x = S a) (hy : y = S b) (hs : a.length + b.length ≤ 16777216) (h : ∀ t' tk, s.toks ≤ tk → Q (.str (S (a ++ b)) t') { s with toks := tk }) :
    wpAny (model prog w) A (binaryOp .Add (.str x t) (.str y u)) Q E s := by
  subst hx hy
  refine wpAny_tk (add_str (fun t' tk hk => ?_) (by rw [S_length, S_length, sizeLine_eq]; exact hs))
  rw [S_append]
  exact h t' tk hk
theorem lnSpell1 : True := by
  k_with_none
  k_with "lit" => (with_reducible first | exact lit39 | exact lit34 | exact lit92 | exact lit9292 | exact lit9234 | exact litQ | exact rfl)
  k_with "call builtin:str.replace" => (k_dflt (refine rep_S (by walk_at "lit") (by walk_at "lit") (by decide) (by omega) (by decide) (by refine neN ?_; omega) (by refine neN ?_; omega) (by refine neN ?_; omega) ?_; intro _ _ hk9; dsimp only at hk9 ⊢))
  k_with "binaryOp Add str str" => (k_dflt (with_reducible refine add_S (by walk_at "lit") (by walk_at "lit") (by with_unfolding_all (simp only [List.length_append, List.length_cons, List.length_nil]; omega)) ?_; intro _ _ hk9_q; dsimp only at hk9_q ⊢))
  k_with "eval ListComp" => (k_dflt (refine ListComp_S rfl (by decide) rfl (by decide) rfl ?_))
  trivial
theorem c_spelled {l : List Nat} {t1 : Tok} {way : Int} {t2 : Tok} (g : G w mean mg mb hT s.heap) (hd : dp + 10 < recursionLimit) (hu : un + 60 < cLine) (hl : l.length ≤ 100)
    (hret : ∀ t h' tk', (∀ b o, s.heap.get? b = some o → h'.get? b = some o) → Q (.str (S (spell l way)) t) { s with heap := h', toks := tk' }) :
    wpAny (model PR w) (AA dp un fr gd) (call (.ref 797) [.str (S l) t1, .int way t2]) Q E s := by
  refine wpAny_call ?_
  refine enter0 [(Str.ofString "word", .str (S l) t1), (Str.ofString "way", .int way t2)] g (by k_is) (by k_is) (by show dp < _; omega) (BindsTo.of_eq rfl) (locs rfl) rfl rfl rfl (by decide) ?_
  intro h₁ X T F N
  dsimp only
  have h92 := q92_len l
  have h39 := q39_len l
  have h34 := q34_len (q92 l)
  simp only [q92, q39, q34] at h92 h39 h34
  generalize hk0 : s.toks + [(Str.ofString "word", Value.str (S l) t1), (Str.ofString "way", Value.int way t2)].length = k0
  clear hk0
  repeat' ((fail_if_success (with_reducible show wpAny _ _ (eval (Expr.ListComp _ _ _ _) _) _ _ _)); (first | (k_unfold; (try dsimp only)) | walk1 | (dsimp only; walk1) | fail "no step"))
  · rw [spell_way0 (by assumption)] at hret; exact hret _ _ _ F.keep
  · rw [spell_nil (by assumption)] at hret; exact hret _ _ _ F.keep
  · rw [spell_1 (by assumption) (by assumption) (by assumption)] at hret; exact hret _ _ _ F.keep
  · rw [spell_2 (by assumption) (by assumption) (by assumption)] at hret
    refine ListComp_S F rfl (by decide) rfl (by decide) rfl ?_
    refine wpAny_mono (Q := fun v s' => v = .str (S l) t1 ∧ s' = _) (by walk1; exact ⟨rfl, rfl⟩) (fun v s' hv => ?_) fun _ _ e => e
    obtain ⟨rfl, rfl⟩ := hv
    refine ⟨S l, t1, [], rfl, rfl, F, N, by show (S l).length ≤ _; rw [S_length, sizeLine_eq]; omega, ?_⟩
    rintro s₂ ⟨h₂, rfl⟩
    refine comp_inv (n := (S l).cps.size) (fun i ys news => StrsAre ys ((l.take i).map fun c => S [92, c]) ∧ news = []) ?_ ?_ _ 0 [] [] (Nat.zero_add _) ⟨StrsAre.nil, rfl⟩
    · rintro i ys news v I oI C oC D m₂ h tk E' hi ⟨hy, rfl⟩ ⟨c, u, hc, rfl⟩ hC hx F₂ N₂ off ne
      have hc' : l[i]? = some c := by simpa using hc
      dsimp only
      repeat' (first | (k_unfold; (try dsimp only)) | walk1 | (dsimp only; walk1) | fail "no step")
      rw [List.take_add_one, hc', List.map_append]
      exact hy.append' (.cons _ _ .nil)
    · rintro ys news ⟨hy, rfl⟩ D h tk F₂ N₂ off
      dsimp only
      rw [show (S l).cps.size = l.length by simp, List.take_length] at hy
      walk1
      refine join_listW (ys := l.map fun c => S [92, c]) ⟨_, (N₂ _ (.head _)).1, rfl, _, rfl⟩ hy (by decide) ?_ ?_
      · rw [List.map_map, esc_len, List.length_map]; omega
      · intro t' k
        dsimp only
        rw [litE, show (l.map fun c => S [92, c]) = (l.map fun c => [92, c]).map S by rw [List.map_map]; rfl, txtjoin_S, joinL_nil]
        exact hret t' h k F₂.keep
end
end Mine
end
theorem Mine.lnEndSpell : True := by
  k_with_none
  trivial
section
open PySem PySem.W PyProof.Rows PySem.Calls PySem.Spec
set_option maxRecDepth 100000
set_option maxHeartbeats 0
namespace Mine
section
variable {w : World} {mean : ExcName → Option Value} {mg mb : Str → Option Value} {hT : Heap} {dp un : Nat} {fr : Option (List Env)} {gd : Option (List Code)} {s : Shared} {Q E : Value → Shared → Prop} {M : Model} {h : Heap}
theorem lnCell1 : True := by
  k_with_none
  k_with "ar" => (((try dsimp only [AA, Around.deeper, Around.in1]); omega))
  k_with "om" => (with_reducible first | assumption | exact Ne.symm (by assumption) | exact Mine.up0 (by assumption) | exact Mine.up1 (by assumption) rfl | exact Mine.up2 (by assumption) rfl | exact Mine.up3 (by assumption) rfl | fail)
  trivial
theorem pow10 (k : Nat) : (10 : Int) ^ k ≠ 0 := Int.ne_of_gt (Int.pow_pos (by decide))
theorem pow10_lt {k : Int} (h0 : 0 ≤ k) (h : k < 5) : ((10 : Int) ^ k.toNat).natAbs < 1073741824 := by
  have : k.toNat < 5 := by omega
  generalize k.toNat = j at this ⊢
  match j, this with
  | 0, _ => decide
  | 1, _ => decide
  | 2, _ => decide
  | 3, _ => decide
  | 4, _ => decide
  | j + 5, h => omega
theorem lnCell2 : True := by
  k_with "binaryOp FloorDiv int int" => (k_dflt (refine floordiv_int (pow10 _) ?_ (Or.inl (PyProof.noPylong_small (pow10_lt (by omega) (by omega))))))
  trivial
theorem seqIdx {k : Int} {n : Nat} (h0 : 0 ≤ k) (h1 : k < n) : seqIndex? k n = some k.toNat := by
  unfold seqIndex?
  simp only [show ¬ k < 0 by omega, if_false]
  simp [h0, h1]
theorem item_any {prog : Program} {A : Around} {value slice : Expr} {t : Addr} {items : List Value} {k : Int} {u : Tok} (P : Value → Prop) (ht : IsTup s.heap t items.toArray) (h0 : 0 ≤ k) (h1 : k < items.length) (hz : items.length < 100000) (hP : ∀ v ∈ items, P v) (h : ∀ v, P v → Q v s)
    (hs : subscripted slice false (.ref t) (.int k u) = operate [.ref t, .int k u] (getItem (.ref t) (.int k u)) := by with_unfolding_all rfl) :
    wpAny (model prog w) A (subscriptTail value slice (.ref t) (.int k u)) Q E s := by
  have hk : k.toNat < items.length := by omega
  exact item_tupleT (j := k.toNat) (x := items[k.toNat]) ht (by omega) (by omega : k < 9223372036854775808) (seqIdx h0 h1) (List.getElem?_eq_getElem hk) (h _ (hP _ (List.getElem_mem hk))) hs
/-- one sign that is no line's end -/
noncomputable def Sg (v : Value) : Prop := ∃ c t, v = .str (S [c]) t ∧ c ≠ 10 ∧ c < 1114112
noncomputable def one10 : List Nat → Bool
  | [c] => c != 10 && decide (c < 1114112)
  | _ => false
theorem sgL {x : Str} {t : Tok} (h : one10 x.cps.toList = true) : Sg (.str x t) := by
  cases x with
  | mk a =>
    obtain ⟨l⟩ := a
    match l, h with
    | [c], h => exact ⟨c, t, rfl, by simpa [one10] using h⟩
/-- a gap -/
noncomputable def Gp (v : Value) : Prop := ∃ g t, v = .str (S g) t ∧ g ≠ [] ∧ (∀ x ∈ g, x = 32 ∨ x = 9) ∧ g.length ≤ 3
noncomputable def gapOk (l : List Nat) : Bool := l != [] && l.all (fun x => x == 32 || x == 9) && decide (l.length ≤ 3)
theorem gpL {x : Str} {t : Tok} (h : gapOk x.cps.toList = true) : Gp (.str x t) := by
  cases x with
  | mk a =>
    obtain ⟨l⟩ := a
    simp only [gapOk, Bool.and_eq_true, decide_eq_true_eq, bne_iff_ne, List.all_eq_true, Bool.or_eq_true, beq_iff_eq] at h
    exact ⟨l, t, rfl, h.1.1, h.1.2, h.2⟩
theorem slice2 {a b : Nat} {k : Int} (h0 : 0 ≤ k) (h1 : k < 3) : Txt.slice (S [a] ++ S [b]) none (some k) = S (([a, b] : List Nat).take k.toNat) := by
  rw [S_append]
  have := slice_to_S ([a] ++ [b]) (b := k.toNat) (by simp; omega)
  rw [show ((k.toNat : Nat) : Int) = k by omega] at this
  exact this
theorem sg256 {n : Nat} {t : Tok} : Sg (.str ⟨#[(256 + (n : Int).fmod 50000).toNat]⟩ t) := ⟨_, t, rfl, by
  have := fmod_lo (n : Int) (n := 50000) (by decide)
  have := fmod_hi (n : Int) (n := 50000) (by decide)
  omega⟩
theorem lnCell3 : True := by
  k_with "subscriptTail Name Constant ref int" => (k_here; kri_at)
  k_with "subscriptTail Name Subscript" => (k_here; (with_reducible rename News _ _ _ _ => kN_q); k_dflt (refine item_any Sg (News.isTup kN_q (List.Mem.head _)) (fmod_lo _ (by decide)) (fmod_hi _ (by decide)) (Nat.le_of_ble_eq_true rfl) (by (iterate 9 refine List.forall_mem_cons.mpr ⟨sgL (by decide +kernel), ?_⟩); refine List.forall_mem_cons.mpr ⟨sg256, List.forall_mem_nil _⟩) ?_; intro v'_q hv'_q; obtain ⟨c', tc', he', hc', hd'⟩ := hv'_q; subst he'))
  k_with "subscriptTail Tuple" => (k_here; (with_reducible rename News _ _ _ _ => kN_q); k_dflt (refine item_any Gp (News.isTup kN_q (List.Mem.head _)) (fmod_lo _ (by decide)) (fmod_hi _ (by decide)) (Nat.le_of_ble_eq_true rfl) (by (iterate 6 refine List.forall_mem_cons.mpr ⟨gpL (by decide +kernel), ?_⟩); exact List.forall_mem_nil _) ?_; intro v'_q hv'_q; obtain ⟨gp', tg', he', hg1', hg2', hg3'⟩ := hv'_q; subst he'))
  k_with "call ref" => ((k_here; (with_reducible rename Fr _ _ _ _ => kF_q); (with_reducible rename News _ _ _ _ => kN_q); (try dsimp only [List.append_nil, List.append]); k_dflt (rw [slice2 (fmod_lo _ (by decide)) (fmod_hi _ (by decide))]; refine c_spelled (G.of kF_q (by k_asm) (by k_asm)) (by walk_at "ar") (by walk_at "ar") (by simp only [List.length_take, List.length_cons, List.length_nil]; omega) ?_); intro t'_q h'_q tk'_q hk'_q; (have F'_q := Fr.keeps kF_q hk'_q); (have N'_q := News.grown kN_q hk'_q); clear kF_q kN_q hk'_q; (try dsimp only)))
  trivial
theorem c_cell {n : Nat} {t : Tok} (hn : n < 1000000000) (g : G w mean mg mb hT s.heap) (hd : dp + 60 < recursionLimit) (hu : un + 300 < cLine)
    (hq : ∀ h' tk' T word way gap t1 t2 t3, (∀ b o, s.heap.get? b = some o → h'.get? b = some o) → s.heap.get? T = none → h'.get? T = some { cls := .type "tuple", data := .seq #[.str (S word) t1, .str (S (spell word way)) t2, .str (S gap) t3] } → word.length ≤ 2 → 10 ∉ word → (∀ x ∈ word, x < 1114112) → gap ≠ [] → (∀ x ∈ gap, x = 32 ∨ x = 9) → gap.length ≤ 3 → Q (.ref T) { s with heap := h', toks := tk' }) :
    wpAny (model PR w) (AA dp un fr gd) (call (.ref 802) [.int (n : Int) t]) Q E s := by
  refine wpAny_call ?_
  refine enterC [(Str.ofString "number", .int (n : Int) t)] [] g (fun p hp => nomatch hp) (by k_is) (by k_is) (by show dp < _; omega) (BindsTo.of_eq rfl) rfl (by decide +kernel) rfl rfl rfl ?_
  intro g₀ L' h₁ tk cells X T F N Y hlt' hkb hfr
  k_cells Y
  simp only [List.cons_append, List.nil_append] at N
  dsimp only
  repeat' (first | (k_unfold; (try dsimp only)) | walk1 | (dsimp only; walk1) | fail "no step")
  rename Fr _ _ _ _ => F9
  rename News _ _ _ _ => N9
  refine hq _ _ _ (([_, _] : List Nat).take _) _ _ _ _ _ (KB.nil (hkb _ F9.keep)) (hfr _ (N9 _ (.head _)).2.2 (by simp)) (N9 _ (.head _)).1 (by simp; omega) (fun hm => ?_) (fun x hm => ?_) (by assumption) (by assumption) (by assumption)
  · have := List.mem_of_mem_take hm
    simp only [List.mem_cons, List.not_mem_nil, or_false] at this
    rcases this with e | e
    · exact absurd e.symm (by assumption)
    · exact absurd e.symm (by assumption)
  · have := List.mem_of_mem_take hm
    simp only [List.mem_cons, List.not_mem_nil, or_false] at this
    rcases this with e | e
    · rw [e]; assumption
    · rw [e]; assumption
end
end Mine
end
theorem Mine.lnEndCell : True := by
  k_with_none
  trivial
section
open PySem PySem.W PyProof.Rows PySem.Calls PySem.Spec
set_option maxRecDepth 100000
set_option maxHeartbeats 0
namespace Mine
section
variable {w : World} {mean : ExcName → Option Value} {mg mb : Str → Option Value} {hT : Heap} {dp un : Nat} {fr : Option (List Env)} {gd : Option (List Code)} {s : Shared} {Q E : Value → Shared → Prop} {M : Model} {h : Heap}
theorem io_made (X : (Mine.hd.heap_39 w.params).In h) : Looks (model PR w) h (Bind.madeBy (.ref 653)) none := Looks.of_peek X (by kernel_rfl)
theorem io_here (X : (Mine.hd.heap_39 w.params).In h) : Looks (model PR w) h (Bind.madeHere "object.__new__" (.ref 653)) () := Looks.of_peek X (by kernel_rfl)
theorem io_mro (X : (Mine.hd.heap_39 w.params).In h) : Looks (model PR w) h (mroOf (.ref 653)) [.ref 653, .ref 176, .ref 149, .type "object"] := Looks.of_peek X (by kernel_rfl)
theorem io_call (X : (Mine.hd.heap_39 w.params).In h) : Looks (model PR w) h (specialOf (.ref 653) "__call__") (some (.builtin "type.__call__")) := Looks.of_peek X (by kernel_rfl)
theorem io_typ (X : (Mine.hd.heap_39 w.params).In h) : Looks (model PR w) h (isInstance (.ref 653) (.type "type")) true := Looks.of_peek X (by kernel_rfl)
theorem io_isty (X : (Mine.hd.heap_39 w.params).In h) : Looks (model PR w) h (isType (.ref 653)) true := Looks.of_peek X (by kernel_rfl)
theorem io_self (X : (Mine.hd.heap_39 w.params).In h) : Looks (model PR w) h (isSubtype (.ref 653) (.ref 653)) true := Looks.of_peek X (by kernel_rfl)


theorem io_sub (X : (Mine.hd.heap_39 w.params).In h) : Looks (model PR w) h (isSubtype (.ref 653) (.type "object")) true := Looks.of_peek X (by kernel_rfl)
theorem io_chk (X : (Mine.hd.heap_39 w.params).In h) : Looks (model PR w) h (checkBuiltinCall "object.__new__" ⟨[.ref 653], []⟩) () := Looks.of_peek X (by kernel_rfl)
theorem io_cls : ∃ oc od cd sl, (Mine.hd.heap_39 w.params).lookup 653 = some ⟨oc, od, .cls cd, sl⟩ ∧ cd.abstract = false ∧ cd.hasDel = false := ⟨_, _, _, _, by k_is, rfl, rfl⟩
theorem io_objnew {A : Around} {R : Result → Shared → Prop} (X : (Mine.hd.heap_39 w.params).In s.heap)
    (hq : R (.ok (.ret (.ref (s.heap.objs.size + 1)))) { s with heap := (s.heap.push emptyDict).push (instObj 653 s.heap.objs.size) }) :
    codeAny (model PR w) A (.call (.builtin "object.__new__") ⟨[.ref 653], []⟩) R s := by
  obtain ⟨h, g, d, t, os⟩ := s
  obtain ⟨oc, od, cd, sl, hK, e1, e2⟩ := io_cls (w := w)
  have hC : h.get? 653 = _ := X _ _ hK
  have here := io_here (w := w) X
  have top := io_sub (w := w) X
  have isty := io_isty (w := w) X
  have FF := PySem.F.objNew
  refine codeAny_call_builtin_code (Code.quiet_builtin _ FF.quiet) ?_
  refine (io_chk (w := w) X).here ?_
  refine codeAny_builtin FF.entry ?_
  unfold Builtin.«object.__new__»
  have fin : ∀ A', wpAny (model PR w) A' (do
      let d ← if typeHasDict (.ref 653) then some <$> alloc { cls := .type "dict", data := .dict #[] } else pure none
      ret (← newObj (.ref 653) .plain d)) (fun fin s' => match fin with | .done f => R (.ok f) s' | .again c' => c'.quiet = true ∧ codeAny (model PR w) A c' R s') (fun e s' => R (.error e) s') ⟨h, g, d, t, os⟩ := by
    intro A'
    show wpAny _ _ ((alloc emptyDict >>= fun x => pure (some x)) >>= _) _ _ _
    refine wpAny_bind (wpAny_bind (wpAny_alloc (wpAny_pure (wpAny_bind ?_))))
    show wpAny _ _ (newObjAsIs _ _ _) _ _ _
    unfold newObjAsIs classHasDel
    refine wpAny_bind (wpAny_alloc (wpAny_bind (wpAny_bind (wpAny_load (Heap.get?_push_of_some _ (Heap.get?_push_of_some _ hC)) (wpAny_pure ?_)))))
    rw [e2]
    refine wpAny_pure (wpAny_pure ?_)
    show R _ _
    rw [Heap.size_push]
    exact hq
  repeat (first | simp only [e1, Bool.false_eq_true, if_false] | exact fin _ | lk)

theorem io_new {R : Result → Shared → Prop} {v : Value} (g : G w mean mg mb hT s.heap) (hd : dp + 10 < recursionLimit) (hu : un + 60 < cLine)
    (hq : ∀ io dx h' tk', (∀ b o, s.heap.get? b = some o → h'.get? b = some o) → s.heap.get? io = none → s.heap.get? dx = none → dx < io → h'.get? io = some (instObj 653 dx) → h'.get? dx = some emptyDict → R (.ok (.ret (.ref io))) { s with heap := h', toks := tk' }) :
    codeAny (model PR w) (AA dp un fr gd) (.call (.ref 146) ⟨[.ref 653, v], []⟩) R s := by
  refine enterB [(Str.ofString "cls", Value.ref 653), (Str.ofString "args", .ref s.heap.objs.size), (Str.ofString "kwargs", Value.ref (s.heap.objs.size + 1))] ((s.heap.push { cls := .type "tuple", data := .seq [v].toArray }).push { cls := .type "dict", data := .dict #[] })
    g (by k_is) (by k_is) (by show dp < _; omega) (fun b o e => Heap.get?_push_of_some _ (Heap.get?_push_of_some _ e)) (by rw [Heap.size_push, Heap.size_push]; omega) ?_ (locs rfl) rfl rfl rfl (by decide) ?_
  · intro A' E' Q' hQ'
    rw [show bindArgs _ (⟨[.ref 653, v], []⟩ : Args) = (newTuple [v] >>= fun tp => alloc { cls := .type "dict", data := .dict #[] } >>= fun d => pure [(Str.ofString "cls", Value.ref 653), (Str.ofString "args", tp), (Str.ofString "kwargs", Value.ref d)]) from by kernel_rfl]
    refine wpAny_bind (wpAny_newObj_type (wpAny_bind (wpAny_alloc (wpAny_pure ?_))) ?_)
    · dsimp only
      rw [Heap.size_push]
      exact hQ'
    · show [v].toArray.size ≤ sizeLine
      rw [sizeLine_eq]; exact Nat.le_of_ble_eq_true rfl
  · intro h₁ X T F N hkB
    try dsimp only
    k_steps
    refine wpAny_call (io_objnew (X.keeps F.keep) ?_)
    have e0 : ∀ a, h₁.objs.size ≤ a → h₁.get? a = none := fun a ha => by
      cases e : h₁.get? a with
      | none => rfl
      | some o => exact absurd (Heap.lt_size e) (Nat.not_lt.mpr ha)
    have e1 : ∀ a, h₁.objs.size ≤ a → s.heap.get? a = none := fun a ha => by
      cases e : s.heap.get? a with
      | none => rfl
      | some o => have := F.keep a o e; rw [e0 a ha] at this; cases this
    refine hq _ h₁.objs.size _ _ (fun b o e => Heap.get?_push_of_some _ (Heap.get?_push_of_some _ (F.keep b o e))) (e1 _ (Nat.le_succ _)) (e1 _ (Nat.le_refl _)) (Nat.lt_succ_self _) ?_ ?_
    · have := Heap.get?_push_size (h₁.push emptyDict) (o := instObj 653 h₁.objs.size) rfl
      rwa [Heap.size_push] at this
    · exact Heap.get?_push_of_some _ (Heap.get?_push_size _ rfl)

theorem io_init (X : (Mine.hd.heap_39 w.params).In h) : Looks (model PR w) h (typeLookup (.ref 653) "__init__") (some (.ref 423)) := Looks.of_peek X (by kernel_rfl)
theorem wt_tc (a : Addr) (vs : List Value) (kw : List (Str × Value)) : (Code.builtin "type.__call__" ⟨.ref a :: vs, kw⟩).weight = 1 := by
  rfl
theorem un_tc (a : Addr) (vs : List Value) (kw : List (Str × Value)) : (Code.builtin "type.__call__" ⟨.ref a :: vs, kw⟩).cUnits = 1 := by
  rfl
theorem io_make {R : Result → Shared → Prop} {v : Value} (g : G w mean mg mb hT s.heap) (hd : dp + 20 < recursionLimit) (hu : un + 100 < cLine)
    (hq : ∀ io dx h' tk' fr' gd', (∀ b o, s.heap.get? b = some o → h'.get? b = some o) → s.heap.get? io = none → s.heap.get? dx = none → dx < io → h'.get? io = some (instObj 653 dx) → h'.get? dx = some emptyDict →
      codeAny (model PR w) (AA (dp + 1) (un + 1) fr' gd') (.call (.ref 423) ⟨[.ref io, v], []⟩) (InitBack io R) { s with heap := h', toks := tk' }) :
    codeAny (model PR w) (AA dp un fr gd) (.call (.ref 653) ⟨[v], []⟩) R s := by
  have X := g.X'
  obtain ⟨h, gs, d, t, os⟩ := s
  refine codeAny_of_tree ?_
  show wpAny _ _ (callAny (.ref 653) _) _ _ _
  refine nd_load (X _ _ (by k_is)) ?_
  show wpAny _ _ (callAny.viaDunder (.ref 653) _) _ _ _
  unfold callAny.viaDunder
  refine wpAny_bind ((io_call X).at ?_)
  dsimp only
  rw [tc_bind]
  refine wpAny_bind (wpAny_pure (wpAny_bind (wpAny_pure ?_)))
  refine wpAny_pure (a := Fin.again (.call (.builtin "type.__call__") ⟨.ref 653 :: [v], []⟩)) (And.intro rfl ?_)
  refine codeAny_call_builtin_at (Code.quiet_builtin _ (by decide +kernel)) entry_typeCall ?_
  with_reducible refine check_slot (owner := "type") (n := "__call__") ?c1 ?c2 ?c3 ?c4 ?_
  case c1 => exact tc_kind
  case c2 => exact tc_split
  case c3 => exact io_typ X
  case c4 => exact tc_args _ _ _
  unfold Builtin.«type.__call__»
  have l1 := io_mro (w := w) X
  have l2 := io_made (w := w) X
  show wpAny _ _ (mroOf (.ref 653) >>= _) _ _ _
  refine wpAny_bind (l1.at ?_)
  rw [if_neg (by simp)]
  refine wpAny_bind (l2.at ?_)
  dsimp only
  have r1 : readsIn (Mine.hd.heap_39 w.params) 653 (.type "type") = true := by k_is
  have r2 : findCls (Mine.hd.heap_39 w.params) (.ref 653) (.type "type") "__new__" = some (.get (.builtin "staticmethod.__get__") (.ref 150) .none (.ref 653)) := by k_is
  have r3 : recIn (Mine.hd.heap_39 w.params) 150 "staticmethod" = some [.ref 146] := by k_is
  refine wpAny_bind (cls_bind X r1 r2 (wpAny_call (sm_get (s := ⟨h, gs, d, t + 1, os⟩) X r3 (handed_on rfl ?_))))
  refine wpAny_bind (wpAny_holding (wpAny_call ?_))
  have eA : (AA dp un fr gd).under (.builtin "type.__call__" ⟨.ref 653 :: [v], []⟩) = AA (dp + 1) (un + 1) (pushEnvs (Code.envs (.builtin "type.__call__" ⟨.ref 653 :: [v], []⟩)) fr) (pushGuards (Code.guards (.builtin "type.__call__" ⟨.ref 653 :: [v], []⟩)) gd) := by
    unfold Around.under; rw [wt_tc, un_tc]
  rw [eA]
  refine io_new (s := ⟨h, gs, d, t + 1, os⟩) ⟨g.X, g.T, g.st⟩ (by omega) (by omega) ?_
  intro io dx h' tk' k f1 f2 lt e1 e2
  have X' := X.keeps k
  have t1 : Looks (model PR w) h' (typeOf (.ref io)) (.ref 653) := (Looks.ld e1).andThen .now
  have s1 := io_self (w := w) X'
  have i1 := io_init (w := w) X'
  have b1 := bind_fn (M := model PR w) (f := 423) X' (.ref io) (by k_is)
  dsimp only
  unfold isInstance callSpecial? specialOf
  refine wpAny_bind (wpAny_bind (t1.at (s1.at ?_)))
  rw [if_neg (by simp)]
  refine wpAny_bind (wpAny_holding (wpAny_bind (wpAny_bind (t1.at (i1.at ?_)))))
  dsimp only
  refine wpAny_holding (wpAny_bind (b1.at ?_))
  dsimp only
  refine wpAny_bind (wpAny_call ?_)
  refine codeAny_mono (hq io dx h' tk' _ _ k f1 f2 lt e1 e2) fun r s' z => ?_
  rcases r with e | (v | _ | _ | _) <;> first | exact z | exact z.elim | skip
  obtain ⟨rfl, z⟩ := z
  exact wpAny_pure (wpAny_pure z)
end
end Mine
end
section
open PySem PySem.W PyProof.Rows PySem.Calls PySem.Spec
set_option maxRecDepth 100000
set_option maxHeartbeats 0
namespace Mine
noncomputable abbrev ioEs (a1 a2 a3 : Int) (t1 t2 t3 u1 u2 u3 : Tok) (x : Str) (p : Int) : List DictEntry :=
  [⟨a1, .str (Str.ofString "_StringIO__newline") t1, .str (Str.ofString "\n") u1⟩, ⟨a2, .str (Str.ofString "_StringIO__buf") t2, .str x u2⟩, ⟨a3, .str (Str.ofString "_StringIO__pos") t3, .int p u3⟩]
section
variable {w : World} {mean : ExcName → Option Value} {mg mb : Str → Option Value} {hT : Heap} {dp un : Nat} {fr : Option (List Env)} {gd : Option (List Code)} {s : Shared} {Q E : Value → Shared → Prop} {M : Model} {h : Heap}

theorem objs2 {s hT : Heap} {a b : Addr} {o o' : Obj} (h1 : s.get? a = some o) (h2 : s.get? b = some o') (h3 : hT.get? a = none) (h4 : hT.get? b = none) : ∀ q ∈ [(a, o), (b, o')], s.get? q.1 = some q.2 ∧ hT.get? q.1 = none := by
  intro q hq
  rcases List.mem_cons.mp hq with rfl | hq
  · exact ⟨h1, h3⟩
  · rw [List.mem_singleton.mp hq]; exact ⟨h2, h4⟩
theorem c_translated {R : Result → Shared → Prop} {io dx : Addr} {n : Nat} {x y : Str} {ps : Int} {t : Tok} {a1 a2 a3 : Int} {t1 t2 t3 u1 u2 u3 : Tok} (g : G w mean mg mb hT s.heap) (hd : dp + 10 < recursionLimit) (hu : un + 60 < cLine)
    (h1 : s.heap.get? io = some (instObj 653 dx)) (h2 : s.heap.get? dx = some (dictOf (ioEs a1 a2 a3 t1 t2 t3 u1 u2 u3 y ps) n)) (h3 : hT.get? io = none) (h4 : hT.get? dx = none)
    (hq : ∀ h' tk', (∀ b o, s.heap.get? b = some o → h'.get? b = some o) → R (.ok (.ret (.str x t))) { s with heap := h', toks := tk' }) :
    codeAny (model PR w) (AA dp un fr gd) (.call (.ref 430) ⟨[.ref io, .str x t], []⟩) R s := by
  have hO := objs2 h1 h2 h3 h4
  refine enterD [(Str.ofString "self", .ref io), (Str.ofString "s", .str x t)] _ g hO (by k_is) (by k_is) (by show dp < _; omega) (BindsTo.of_eq rfl) (locs rfl) rfl rfl rfl (by decide) ?_
  intro g₀ L' h₁ X T F N hlt hkb hfr
  try dsimp only
  k_steps
  rename Fr _ _ _ _ => F9
  rename News _ _ _ _ => N9
  exact hq _ _ (kb_all (hkb _ F9.keep) (fun q hq => (hO q hq).1) fun q hq => (N9 q hq).1)

theorem lnIo21 : True := by
  k_with_none
  k_with "ar" => (((try dsimp only [AA, Around.deeper, Around.in1]); omega))
  k_with "om" => (with_reducible first | assumption | exact Ne.symm (by assumption) | exact Mine.up0 (by assumption) | exact Mine.up1 (by assumption) rfl | exact Mine.up2 (by assumption) rfl | exact Mine.up3 (by assumption) rfl | fail)
  trivial
theorem lnIo22 : True := by
  k_with "call ref" => ((k_here; (with_reducible rename Fr _ _ _ _ => kF_q); (with_reducible rename News _ _ _ _ => kN_q); k_dflt (refine wpAny_call (c_translated (G.of kF_q (by k_asm) (by k_asm)) (by walk_at "ar") (by walk_at "ar") (News.get kN_q (by k_mem)) (News.get kN_q (by k_mem)) (News.fresh kN_q (by k_mem)) (News.fresh kN_q (by k_mem)) ?_)); intro h'_q tk'_q hk'_q; (have F'_q := Fr.keeps kF_q hk'_q); (have N'_q := News.grown kN_q hk'_q); clear kF_q kN_q hk'_q; (try dsimp only)))
  trivial
theorem c_sioinit {R : Result → Shared → Prop} {io dx : Addr} {x : Str} {t : Tok} (g : G w mean mg mb hT s.heap) (hd : dp + 20 < recursionLimit) (hu : un + 100 < cLine)
    (h1 : s.heap.get? io = some (instObj 653 dx)) (h2 : s.heap.get? dx = some (dictOf [] 0)) (h3 : hT.get? io = none) (h4 : hT.get? dx = none) (hlt : dx < io)
    (hq : ∀ h' tk' a1 a2 a3 t1 t2 t3 u1 u2 u3 n, KB [io, dx] s.heap h' → h'.get? io = some (instObj 653 dx) → h'.get? dx = some (dictOf (ioEs a1 a2 a3 t1 t2 t3 u1 u2 u3 x 0) n) → R (.ok (.ret .none)) { s with heap := h', toks := tk' }) :
    codeAny (model PR w) (AA dp un fr gd) (.call (.ref 423) ⟨[.ref io, .str x t], []⟩) R s := by
  have hO := objs2 h1 h2 h3 h4
  refine enterD [(Str.ofString "self", .ref io), (Str.ofString "initial_value", .str x t), (Str.ofString "newline", .str (Str.ofString "\n") 774)] _ g hO (by k_is) (by k_is) (by show dp < _; omega) (kp_binds g.X' (fun S => by kernel_rfl)) (locs rfl) rfl rfl rfl (by decide) ?_
  intro g₀ L' h₁ X T F N hlt' hkb hfr
  have hi1 := ltN (hlt' _ (.head _))
  have hi2 := ltN (hlt' _ (.tail _ (.head _)))
  replace hlt := ltN hlt
  dsimp only at hi1 hi2
  k_steps
  rename Fr _ _ _ _ => F9
  rename News _ _ _ _ => N9
  exact hq _ _ _ _ _ _ _ _ _ _ _ _ (hkb _ F9.keep) (N9 _ (.head _)).1 (N9 _ (.tail _ (.head _))).1
/-- a StringIO of a text -/
theorem c_sio {x : Str} {t : Tok} (g : G w mean mg mb hT s.heap) (hd : dp + 40 < recursionLimit) (hu : un + 200 < cLine)
    (hq : ∀ io dx h' tk' a1 a2 a3 t1 t2 t3 u1 u2 u3 n, (∀ b o, s.heap.get? b = some o → h'.get? b = some o) → s.heap.get? io = none → s.heap.get? dx = none → dx < io → h'.get? io = some (instObj 653 dx) → h'.get? dx = some (dictOf (ioEs a1 a2 a3 t1 t2 t3 u1 u2 u3 x 0) n) → Q (.ref io) { s with heap := h', toks := tk' }) :
    wpAny (model PR w) (AA dp un fr gd) (call (.ref 653) [.str x t]) Q E s := by
  refine wpAny_call (io_make g (by omega) (by omega) ?_)
  intro io dx h' tk' fr' gd' k f1 f2 lt e1 e2
  have hn : ∀ {a : Addr}, s.heap.get? a = none → hT.get? a = none := fun {a} f => by
    cases q : hT.get? a with
    | none => rfl
    | some o => rw [g.st a o q] at f; cases f
  refine c_sioinit (s := { s with heap := h', toks := tk' }) ⟨g.X, g.T, fun b o e => k b o (g.st b o e)⟩ (by omega) (by omega) e1 e2 (hn f1) (hn f2) lt ?_
  intro h'' tk'' a1 a2 a3 t1 t2 t3 u1 u2 u3 n kb e1' e2'
  refine ⟨rfl, ?_⟩
  refine hq io dx h'' tk'' a1 a2 a3 t1 t2 t3 u1 u2 u3 n (fun b o e => kb b o (fun hb => ?_) (k b o e)) f1 f2 lt e1' e2'
  rcases List.mem_cons.mp hb with rfl | hb
  · rw [f1] at e; cases e
  · rw [List.mem_singleton.mp hb, f2] at e; cases e
end
end Mine
end
theorem Mine.lnEndIo2 : True := by
  k_with_none
  trivial
section
open PySem PySem.W PyProof.Rows PySem.Calls PySem.Spec
set_option maxRecDepth 100000
set_option maxHeartbeats 0
namespace Mine
section
variable {w : World} {mean : ExcName → Option Value} {mg mb : Str → Option Value} {hT : Heap} {dp un : Nat} {fr : Option (List Env)} {gd : Option (List Code)} {s : Shared} {Q E : Value → Shared → Prop} {M : Model} {h : Heap}
theorem c_index {n : Int} {t t' : Tok} {x : Str} (g : G w mean mg mb hT s.heap) (hd : dp + 10 < recursionLimit) (hu : un + 60 < cLine) (h1 : -1099511627776 ≤ n) (h2 : n ≤ 1099511627776)
    (hret : ∀ t h' tk', (∀ b o, s.heap.get? b = some o → h'.get? b = some o) → Q (.int n t) { s with heap := h', toks := tk' }) :
    wpAny (model PR w) (AA dp un fr gd) (call (.ref 119) [.int n t, .str x t']) Q E s := by
  refine wpAny_call ?_
  refine enter0 [(Str.ofString "n", .int n t), (Str.ofString "what", .str x t')] g (by k_is) (by k_is) (by show dp < _; omega) (BindsTo.of_eq rfl) (locs rfl) rfl rfl rfl (by decide) ?_
  intro h₁ X T F N
  try dsimp only
  k_steps
  rename Fr _ _ _ _ => F9
  exact hret _ _ _ F9.keep
theorem c_check {io dx : Addr} {n : Nat} {y : Str} {ps : Int} {a1 a2 a3 : Int} {t1 t2 t3 u1 u2 u3 : Tok} (g : G w mean mg mb hT s.heap) (hd : dp + 10 < recursionLimit) (hu : un + 60 < cLine)
    (h1 : s.heap.get? io = some (instObj 653 dx)) (h2 : s.heap.get? dx = some (dictOf (ioEs a1 a2 a3 t1 t2 t3 u1 u2 u3 y ps) n)) (h3 : hT.get? io = none) (h4 : hT.get? dx = none)
    (hq : ∀ h' tk', (∀ b o, s.heap.get? b = some o → h'.get? b = some o) → Q .none { s with heap := h', toks := tk' }) :
    wpAny (model PR w) (AA dp un fr gd) (call (.ref 437) [.ref io]) Q E s := by
  have hO := objs2 h1 h2 h3 h4
  refine wpAny_call ?_
  refine enterD [(Str.ofString "self", .ref io)] _ g hO (by k_is) (by k_is) (by show dp < _; omega) (BindsTo.of_eq rfl) (locs rfl) rfl rfl rfl (by decide) ?_
  intro g₀ L' h₁ X T F N hlt hkb hfr
  try dsimp only
  k_steps
  rename Fr _ _ _ _ => F9
  rename News _ _ _ _ => N9
  exact hq _ _ (kb_all (hkb _ F9.keep) (fun q hq => (hO q hq).1) fun q hq => (N9 q hq).1)
theorem lnIo31 : True := by
  k_with_none
  k_with "ar" => (((try dsimp only [AA, Around.deeper, Around.in1]); omega))
  k_with "om" => (with_reducible first | assumption | exact Ne.symm (by assumption) | exact Mine.up0 (by assumption) | exact Mine.up1 (by assumption) rfl | exact Mine.up2 (by assumption) rfl | exact Mine.up3 (by assumption) rfl | fail)
  trivial
theorem lnIo32 : True := by
  k_with "call ref" => ((k_here; (with_reducible rename Fr _ _ _ _ => kF_q); (with_reducible rename News _ _ _ _ => kN_q); k_dflt (refine c_check (G.of kF_q (by k_asm) (by k_asm)) (by walk_at "ar") (by walk_at "ar") (News.get kN_q (by k_mem)) (News.get kN_q (by k_mem)) (News.fresh kN_q (by k_mem)) (News.fresh kN_q (by k_mem)) ?_); intro h'_q tk'_q hk'_q; (have F'_q := Fr.keeps kF_q hk'_q); (have N'_q := News.grown kN_q hk'_q); clear kF_q kN_q hk'_q; (try dsimp only)))
  k_with "call ref" => ((k_here; (with_reducible rename Fr _ _ _ _ => kF_q); (with_reducible rename News _ _ _ _ => kN_q); k_dflt (refine c_index (G.of kF_q (by k_asm) (by k_asm)) (by walk_at "ar") (by walk_at "ar") (by decide) (by decide) ?_); intro t'_q h'_q tk'_q hk'_q; (have F'_q := Fr.keeps kF_q hk'_q); (have N'_q := News.grown kN_q hk'_q); clear kF_q kN_q hk'_q; (try dsimp only)))
  k_with "subscriptTail Attribute" => walk_at "last subscriptTail"
  trivial
theorem put_pos {a1 a2 a3 hs : Int} {t1 t2 t3 u1 u2 u3 u : Tok} {x : Str} {ps qs : Int} {n : Nat} {key : Value} :
    (putL (Str.ofString "_StringIO__pos") hs key (.int qs u) (ioEs a1 a2 a3 t1 t2 t3 u1 u2 u3 x ps), putN (Str.ofString "_StringIO__pos") (ioEs a1 a2 a3 t1 t2 t3 u1 u2 u3 x ps) n) = (ioEs a1 a2 a3 t1 t2 t3 u1 u2 u x qs, n) := by kernel_rfl
theorem lnIo33 : True := by
  k_with "setAttr ref" => ((k_here; k_dflt (refine' set_dict ?k1 ?k2 ?k3 ?k4 ?k5 ?k6 ?k7 ?k8 ?k9 ?k10 ?k11 ?k12 ?k13 ?_; (case k1 => k_asm); (case k2 => k_asm); (case k3 => k_asm); (case k4 => k_inst); (case k5 => exact rfl); (case k6 => k_is); (case k7 => k_is); (case k8 => k_is); (case k9 => k_is); (case k10 => k_get); (case k11 => exact put_pos); (case k12 => k_upd); (case k13 => exact Nat.le_of_ble_eq_true rfl); k_whole; intro h'_q F'_q N'_q; (try k_sweep))))
  trivial
theorem c_read {io dx : Addr} {n : Nat} {l : List Nat} {p : Nat} {t : Tok} {a1 a2 a3 : Int} {t1 t2 t3 u1 u2 u3 : Tok} (g : G w mean mg mb hT s.heap) (hd : dp + 20 < recursionLimit) (hu : un + 100 < cLine)
    (h1 : s.heap.get? io = some (instObj 653 dx)) (h2 : s.heap.get? dx = some (dictOf (ioEs a1 a2 a3 t1 t2 t3 u1 u2 u3 (S l) (p : Int)) n)) (h3 : hT.get? io = none) (h4 : hT.get? dx = none) (hne : dx ≠ io) (hp : p < 1000000) (hl : l.length < 1000000)
    (hq : ∀ h' tk' t' u3', KB [io, dx] s.heap h' → h'.get? io = some (instObj 653 dx) → h'.get? dx = some (dictOf (ioEs a1 a2 a3 t1 t2 t3 u1 u2 u3' (S l) (if p < l.length then (p : Int) + 1 else p)) n) → Q (.str (S ((l.drop p).take 1)) t') { s with heap := h', toks := tk' }) :
    wpAny (model PR w) (AA dp un fr gd) (call (.ref 599) [.ref io, .int 1 t]) Q E s := by
  have hO := objs2 h1 h2 h3 h4
  refine wpAny_call ?_
  refine enterD [(Str.ofString "self", .ref io), (Str.ofString "size", .int 1 t)] _ g hO (by k_is) (by k_is) (by show dp < _; omega) (kp_binds g.X' (fun S => by kernel_rfl)) (locs rfl) rfl rfl rfl (by decide) ?_
  intro g₀ L' h₁ X T F N hlt' hkb hfr
  have hi1 := ltN (hlt' _ (.head _))
  have hi2 := ltN (hlt' _ (.tail _ (.head _)))
  replace hne := neN hne
  have hlS : (S l).length < 1000000 := by rw [S_length]; exact hl
  dsimp only at hi1 hi2
  k_steps
  all_goals (rename Fr _ _ _ _ => F9; rename News _ _ _ _ => N9; simp only [S_length] at *)
  · have hp' : l.length ≤ p := by omega
    have e : (l.drop p).take 1 = [] := by rw [List.drop_eq_nil_of_le hp']; rfl
    rw [e, if_neg (by omega)] at hq
    exact hq _ _ _ _ (hkb _ F9.keep) (N9 _ (.head _)).1 (N9 _ (.tail _ (.head _))).1
  · have e := slice_S l (a := p) (b := p + 1) (by omega) (by omega)
    rw [show p + 1 - p = 1 by omega] at e
    rw [if_pos (by omega), ← e] at hq
    exact hq _ _ _ _ (hkb _ F9.keep) (N9 _ (.head _)).1 (N9 _ (.tail _ (.head _))).1
  · have hp' : l.length = p + 1 := by omega
    have e := slice_S l (a := p) (b := l.length) (by omega) (by omega)
    rw [show l.length - p = 1 by omega] at e
    rw [if_pos (by omega), ← e, show ((p : Int) + 1) = (l.length : Int) by omega] at hq
    exact hq _ _ _ _ (hkb _ F9.keep) (N9 _ (.head _)).1 (N9 _ (.tail _ (.head _))).1
theorem gives_find4 (x y : Str) (i j : Int) (t u v v' : Tok) : Gives (Builtin.«str.find» ⟨[.str x t, .str y u, .int i v, .int j v'], []⟩) (.int (match Builtin.Str.occurrences x y (fromIndex x.length i) (min (fromIndex x.length j) x.length) 1 with | k :: _ => (k : Int) | [] => -1)) := by
  show Gives (match Builtin.Str.occurrences x y (fromIndex x.length i) (min (fromIndex x.length j) x.length) 1 with | k :: _ => retInt k | [] => (do rule "str.find.not-found"; retInt (-1))) _
  cases Builtin.Str.occurrences x y (fromIndex x.length i) (min (fromIndex x.length j) x.length) 1 with
  | nil => exact .rule (.of_eq rfl)
  | cons k _ => exact .of_eq rfl
theorem find4_none {l : List Nat} {i : Int} {t u v v' : Tok} {A : Around} (h10 : 10 ∉ l) (hq : Q (.int (-1) s.toks) { s with toks := s.toks + 1 }) :
    wpAny (model PR w) A (call (.builtin "str.find") [.str (S l) t, .str (Str.ofString "\n") u, .int i v, .int ((S l).length : Int) v']) Q E s := by
  refine call_gives F.slot_str_find (typeIs_str _ _ _) F.entry_str_find (F.args_str_find_4 _ _ _ _) (gives_find4 (S l) (Str.ofString "\n") i _ t u v v') ?_
  have e : fromIndex (S l).length ((S l).length : Int) = (S l).length := by unfold fromIndex; omega
  rw [e, Nat.min_self]
  have h0 : Builtin.Str.occurrences (S l) (Str.ofString "\n") (fromIndex (S l).length i) (S l).length 1 = [] := by
    rcases StrLaws.occ_head_from (S l) (Str.ofString "\n") (fromIndex (S l).length i) 1 (Nat.le_refl _) with ⟨h, _⟩ | ⟨k, r, _, _, hA, _⟩
    · exact h
    · exfalso
      have e10 : Str.ofString "\n" = ⟨#[10]⟩ := by decide +kernel
      rw [e10] at hA
      have h1 := (StrLaws.subAt_one (S l) 10 k).mp hA
      exact h10 (List.mem_of_getElem? (by simpa using h1))
  rw [h0]
  exact hq
theorem lnIo34 : True := by
  k_with "call builtin:str.find" => (k_dflt (refine find4_none (by assumption) ?_; try dsimp only))
  trivial
theorem c_line {io dx : Addr} {n : Nat} {l : List Nat} {p : Nat} {t : Tok} {a1 a2 a3 : Int} {t1 t2 t3 u1 u2 u3 : Tok} (g : G w mean mg mb hT s.heap) (hd : dp + 20 < recursionLimit) (hu : un + 100 < cLine)
    (h1 : s.heap.get? io = some (instObj 653 dx)) (h2 : s.heap.get? dx = some (dictOf (ioEs a1 a2 a3 t1 t2 t3 u1 u2 u3 (S l) (p : Int)) n)) (h3 : hT.get? io = none) (h4 : hT.get? dx = none) (hne : dx ≠ io) (hp : p ≤ l.length) (hl : l.length < 1000000) (h10 : 10 ∉ l)
    (hq : ∀ h' tk' t', KB [io, dx] s.heap h' → Q (.str (S (l.drop p)) t') { s with heap := h', toks := tk' }) :
    wpAny (model PR w) (AA dp un fr gd) (call (.ref 451) [.ref io, .int (-1) t]) Q E s := by
  have hO := objs2 h1 h2 h3 h4
  refine wpAny_call ?_
  refine enterD [(Str.ofString "self", .ref io), (Str.ofString "limit", .int (-1) t)] _ g hO (by k_is) (by k_is) (by show dp < _; omega) (BindsTo.of_eq rfl) (locs rfl) rfl rfl rfl (by decide) ?_
  intro g₀ L' h₁ X T F N hlt' hkb hfr
  have hi1 := ltN (hlt' _ (.head _))
  have hi2 := ltN (hlt' _ (.tail _ (.head _)))
  replace hne := neN hne
  have hlS : (S l).length < 1000000 := by rw [S_length]; exact hl
  dsimp only at hi1 hi2
  k_steps
  all_goals (rename Fr _ _ _ _ => F9; rename News _ _ _ _ => N9; simp only [S_length] at *)
  · have e : l.drop p = [] := List.drop_eq_nil_of_le (by omega)
    rw [e] at hq
    exact hq _ _ _ (hkb _ F9.keep)
  · have e := slice_S l (a := p) (b := l.length) (by omega) (by omega)
    rw [List.take_of_length_le (by rw [List.length_drop]; exact Nat.le_refl _)] at e
    rw [← e] at hq
    exact hq _ _ _ (hkb _ F9.keep)
theorem lnIo35 : True := by
  k_with "call ref" => ((k_here; (with_reducible rename Fr _ _ _ _ => kF_q); (with_reducible rename News _ _ _ _ => kN_q); k_dflt (refine c_line (G.of kF_q (by k_asm) (by k_asm)) (by walk_at "ar") (by walk_at "ar") (News.get kN_q (by k_mem)) (News.get kN_q (by k_mem)) (News.fresh kN_q (by k_mem)) (News.fresh kN_q (by k_mem)) (by assumption) (by assumption) (by assumption) (by assumption) ?_); intro h'_q tk'_q t'_q hk'_q; (try dsimp only)))
  trivial
theorem c_readline {io dx : Addr} {n : Nat} {l : List Nat} {p : Nat} {a1 a2 a3 : Int} {t1 t2 t3 u1 u2 u3 : Tok} (g : G w mean mg mb hT s.heap) (hd : dp + 40 < recursionLimit) (hu : un + 200 < cLine)
    (h1 : s.heap.get? io = some (instObj 653 dx)) (h2 : s.heap.get? dx = some (dictOf (ioEs a1 a2 a3 t1 t2 t3 u1 u2 u3 (S l) (p : Int)) n)) (h3 : hT.get? io = none) (h4 : hT.get? dx = none) (hne : dx ≠ io) (hp : p ≤ l.length) (hl : l.length < 1000000) (h10 : 10 ∉ l)
    (hq : ∀ h' tk' t', KB [io, dx] s.heap h' → Q (.str (S (l.drop p)) t') { s with heap := h', toks := tk' }) :
    wpAny (model PR w) (AA dp un fr gd) (call (.ref 607) [.ref io]) Q E s := by
  have hO := objs2 h1 h2 h3 h4
  refine wpAny_call ?_
  refine enterD [(Str.ofString "self", .ref io), (Str.ofString "size", .int (-1) 978)] _ g hO (by k_is) (by k_is) (by show dp < _; omega) (kp_binds g.X' (fun S => by kernel_rfl)) (locs rfl) rfl rfl rfl (by decide) ?_
  intro g₀ L' h₁ X T F N hlt' hkb hfr
  dsimp only
  k_steps
  rename Fr _ _ _ _ => F9
  rename KB _ _ _ => k9
  exact hq _ _ _ (fun b o hb e => k9 b o hb (hkb _ F9.keep b o hb e))
end
end Mine
end
theorem Mine.lnEndIo3 : True := by
  k_with_none
  trivial
section
open PySem PySem.W PyProof.Rows PySem.Calls PySem.Spec
set_option maxRecDepth 100000
set_option maxHeartbeats 0
namespace Mine
noncomputable abbrev dqObj : Obj := { cls := .type "collections.deque", data := .fields #[.none, rawInt 0] }
theorem mro_dq : mroOf (.type "collections.deque") = pure [.type "collections.deque", .type "object"] := by rw [mroOf_type]; kernel_rfl
theorem lookup_dq_new : typeLookup (.type "collections.deque") "__new__" = pure (some (.builtin "collections.deque.__new__")) := by rw [typeLookup_type, builtinLookup_eq_fast]; kernel_rfl
theorem slot_dq_init : Slot "collections.deque" "__init__" "collections.deque.__init__" :=
  .of (owner := "collections.deque") (n := "__init__") (by rw [typeLookup_type, builtinLookup_eq_fast]; kernel_rfl) (by decide +kernel) (by decide +kernel) (by decide +kernel)
    (by first | exact .inl (by decide +kernel) | exact .inr (by decide +kernel)) (by rw [isSubtype_type]; kernel_rfl)
theorem slot_dq_len : Slot "collections.deque" "__len__" "collections.deque.__len__" :=
  .of (owner := "collections.deque") (n := "__len__") (by rw [typeLookup_type, builtinLookup_eq_fast]; kernel_rfl) (by decide +kernel) (by decide +kernel) (by decide +kernel)
    (by first | exact .inl (by decide +kernel) | exact .inr (by decide +kernel)) (by rw [isSubtype_type]; kernel_rfl)
theorem called_dq : TypeCalled "collections.deque" "collections.deque.__new__" "collections.deque.__init__" := by
  exact ⟨by decide +kernel, by decide +kernel, ⟨_, _, mro_dq⟩, madeBy_type mro_dq lookup_dq_new (by decide +kernel), by decide +kernel, by rw [isSubtype_type]; kernel_rfl, slot_dq_init⟩
theorem typeCall_dq : checkTypeCall "collections.deque" ⟨[], []⟩ = pure () := by kernel_rfl
theorem newCall_dq : checkBuiltinCall "collections.deque.__new__" ⟨[.type "collections.deque"], []⟩ = pure () := by kernel_rfl
theorem entry_dq_new : entryFor table "collections.deque.__new__" = some Builtin.«collections.deque.__new__» := entryFor_of_tree (by kernel_rfl)
theorem entry_dq_init : entryFor table "collections.deque.__init__" = some Builtin.«collections.deque.__init__» := entryFor_of_tree (by kernel_rfl)
theorem entry_dq_len : entryFor table "collections.deque.__len__" = some Builtin.«collections.deque.__len__» := entryFor_of_tree (by kernel_rfl)
theorem args_dq_init (a : Value) : argsOk "collections.deque.__init__" ⟨[a], []⟩ := by unfold argsOk; kernel_rfl
theorem args_dq_len (a : Value) : argsOk "collections.deque.__len__" ⟨[a], []⟩ := by unfold argsOk; kernel_rfl
theorem new_tree_dq : Builtin.«collections.deque.__new__» ⟨[.type "collections.deque"], []⟩ = (newObj (.type "collections.deque") (.fields #[.none, rawInt 0]) none >>= fun v => ret v) := by kernel_rfl
theorem init_tree_dq (a : Addr) : Builtin.«collections.deque.__init__» ⟨[.ref a], []⟩ = (setField (.ref a) 0 .none >>= fun _ => Builtin.Deque.clear (.ref a) >>= fun _ => ret .none) := by kernel_rfl

section
variable {prog : Program} {w : World} {A : Around} {E : Value → Shared → Prop} {s : Shared} {Q : Value → Shared → Prop}
theorem dq_make (hq : ∀ h', (∀ b o, s.heap.get? b = some o → h'.get? b = some o) → s.heap.get? s.heap.objs.size = none → h'.get? s.heap.objs.size = some dqObj → Q (.ref s.heap.objs.size) { s with heap := h' }) :
    wpAny (model prog w) A (call (.type "collections.deque") []) Q E s := by
  refine callType_meets (Bn := Builtin.«collections.deque.__new__») (Bi := Builtin.«collections.deque.__init__») (S := fun A R s => R (.ok (.ret (.ref s.heap.objs.size))) { s with heap := s.heap.push dqObj }) (Q₁ := fun v s₁ => v = .ref s.heap.objs.size ∧ s₁ = { s with heap := s.heap.push dqObj })
    called_dq typeCall_dq newCall_dq entry_dq_new entry_dq_init ?_ ⟨rfl, rfl⟩ ?_
  · intro prog w A R s h
    rw [new_tree_dq]
    exact wpAny_bind (wpAny_newObj_type (wpAny_pure h) (by size_fits))
  · rintro obj s₁ ⟨rfl, rfl⟩
    have ho : (s.heap.push dqObj).get? s.heap.objs.size = some dqObj := Heap.get?_push_size _ rfl
    refine ⟨⟨_, ho, rfl⟩, args_dq_init _, fun A R s₁ => s₁.heap.get? s.heap.objs.size = some dqObj ∧ ∀ h', h'.get? s.heap.objs.size = some dqObj → Heap.SameBut s.heap.objs.size s₁.heap h' → R (.ok (.ret .none)) { s₁ with heap := h' }, ?_, ho, fun h' e hs => ⟨rfl, hq h' (fun b o q => ?_) ?_ e⟩⟩
    · intro prog w A R s₁ ⟨e, h⟩
      rw [init_tree_dq]
      refine wpAny_bind (wpAny_setField_rec e (by decide) fun h' e' hs => ?_)
      refine wpAny_bind ?_
      unfold Builtin.Deque.clear Builtin.Deque.items
      refine wpAny_bind (wpAny_bind (wpAny_fieldsOf (s := { s₁ with heap := h' }) e' rfl (wpAny_pure ?_)))
      exact wpAny_pure (wpAny_pure (h h' e' hs))
    · exact hs.extBut _ _ (Nat.ne_of_lt (Heap.lt_size q)) (Heap.get?_push_of_some _ q)
    · cases q : s.heap.get? s.heap.objs.size with
      | none => rfl
      | some o => exact absurd (Heap.lt_size q) (Nat.lt_irrefl _)

theorem noBool_dq : typeLookup (.type "collections.deque") "__bool__" = pure none := by rw [typeLookup_type, builtinLookup_eq_fast]; kernel_rfl
theorem len_tree_dq (a : Addr) : Builtin.«collections.deque.__len__» ⟨[.ref a], []⟩ = (do retInt (← Builtin.Deque.size (.ref a))) := by kernel_rfl
theorem dq_truthy {l : Addr} {Q : Bool → Shared → Prop} (ho : s.heap.get? l = some dqObj) (h : Q false { s with toks := s.toks + 1 + 1 }) : wpAny (model prog w) A (truthy (.ref l)) Q E s := by
  have hT : s.TypeIs (.ref l) "collections.deque" := ⟨_, ho, rfl⟩
  have key : wpAny (model prog w) A (runValue (.builtin "len" ⟨[.ref l], []⟩)) (fun r s' => r = .int 0 (s.toks + 1) ∧ Q false s') E s := by
    refine wpAny_runValue (codeAny_builtin entry_len ?_)
    rw [Around.under_plainId plain_len _]
    unfold Builtin.«len»
    refine wpAny_bind (m := oneArg "len" _) (wpAny_pure ?_)
    refine wpAny_bind (m := callSpecial? (.ref l) (Str.ofString "__len__")) (wpAny_callSpecial?_slot (name := Str.ofString "__len__") hT slot_dq_len
      (wpAny_call_entry slot_dq_len hT entry_dq_len ?_ (args_dq_len _)))
    rw [len_tree_dq]
    unfold Builtin.Deque.size
    refine wpAny_bind (wpAny_bind (wpAny_fieldsOf ho rfl (wpAny_pure ?_)))
    refine wpAny_bind (wpAny_mkInt (wpAny_pure ⟨_, rfl, ?_⟩))
    refine wpAny_bind (wpAny_holding (wpAny_pure ?_))
    refine wpAny_bind (wpAny_letGo ?_)
    exact wpAny_bind (wpAny_mkInt (wpAny_pure ⟨rfl, h⟩))
  unfold truthy
  first
    | refine wpAny_bind (wpAny_callSpecial?_none (name := Str.ofString "__bool__") hT noBool_dq ?_)
    | refine wpAny_bind (wpAny_pure (wpAny_bind (wpAny_callSpecial?_none (name := Str.ofString "__bool__") hT noBool_dq ?_)))
  first
    | refine wpAny_bind (wpAny_specialOf (name := Str.ofString "__len__") hT slot_dq_len.lookup ?_)
    | refine wpAny_bind (wpAny_pure (wpAny_bind (wpAny_specialOf (name := Str.ofString "__len__") hT slot_dq_len.lookup ?_)))
  first
    | exact wpAny_bind (wpAny_mono key (fun r s' h' => by obtain ⟨rfl, hq⟩ := h'; exact wpAny_pure hq) fun _ _ e => e)
    | exact wpAny_bind (wpAny_pure (wpAny_bind (wpAny_mono key (fun r s' h' => by obtain ⟨rfl, hq⟩ := h'; exact wpAny_pure hq) fun _ _ e => e)))
end
end Mine
end
section
open PySem PySem.W PyProof.Rows PySem.Calls PySem.Spec
set_option maxRecDepth 100000
set_option maxHeartbeats 0
namespace Mine
noncomputable abbrev WC : Str := Str.ofString "abcdfeghijklmnopqrstuvwxyzABCDEFGHIJKLMNOPQRSTUVWXYZ0123456789_ßàáâãäåæçèéêëìíîïðñòóôõöøùúûüýþÿÀÁÂÃÄÅÆÇÈÉÊËÌÍÎÏÐÑÒÓÔÕÖØÙÚÛÜÝÞ"
noncomputable abbrev lexEs (w : World) (ts : Nat → Tok) (io q1 q2 : Addr) (st tv : Value) : List DictEntry :=
  [⟨PyData.keyHash w.params (Str.ofString "instream"), .str (Str.ofString "instream") (ts 0), .ref io⟩,
   ⟨PyData.keyHash w.params (Str.ofString "infile"), .str (Str.ofString "infile") (ts 1), .none⟩,
   ⟨PyData.keyHash w.params (Str.ofString "posix"), .str (Str.ofString "posix") (ts 2), .bool true⟩,
   ⟨PyData.keyHash w.params (Str.ofString "eof"), .str (Str.ofString "eof") (ts 3), .none⟩,
   ⟨PyData.keyHash w.params (Str.ofString "commenters"), .str (Str.ofString "commenters") (ts 4), .str (Str.ofString "#") (ts 19)⟩,
   ⟨PyData.keyHash w.params (Str.ofString "wordchars"), .str (Str.ofString "wordchars") (ts 5), .str WC (ts 20)⟩,
   ⟨PyData.keyHash w.params (Str.ofString "whitespace"), .str (Str.ofString "whitespace") (ts 6), .str (Str.ofString " \t\x0d\n") (ts 21)⟩,
   ⟨PyData.keyHash w.params (Str.ofString "whitespace_split"), .str (Str.ofString "whitespace_split") (ts 7), .bool false⟩,
   ⟨PyData.keyHash w.params (Str.ofString "quotes"), .str (Str.ofString "quotes") (ts 8), .str (Str.ofString "'\"") (ts 22)⟩,
   ⟨PyData.keyHash w.params (Str.ofString "escape"), .str (Str.ofString "escape") (ts 9), .str (Str.ofString "\\") (ts 23)⟩,
   ⟨PyData.keyHash w.params (Str.ofString "escapedquotes"), .str (Str.ofString "escapedquotes") (ts 10), .str (Str.ofString "\"") (ts 24)⟩,
   ⟨PyData.keyHash w.params (Str.ofString "state"), .str (Str.ofString "state") (ts 11), st⟩,
   ⟨PyData.keyHash w.params (Str.ofString "pushback"), .str (Str.ofString "pushback") (ts 12), .ref q1⟩,
   ⟨PyData.keyHash w.params (Str.ofString "lineno"), .str (Str.ofString "lineno") (ts 13), .int 1 (ts 25)⟩,
   ⟨PyData.keyHash w.params (Str.ofString "debug"), .str (Str.ofString "debug") (ts 14), .int 0 (ts 26)⟩,
   ⟨PyData.keyHash w.params (Str.ofString "token"), .str (Str.ofString "token") (ts 15), tv⟩,
   ⟨PyData.keyHash w.params (Str.ofString "filestack"), .str (Str.ofString "filestack") (ts 16), .ref q2⟩,
   ⟨PyData.keyHash w.params (Str.ofString "source"), .str (Str.ofString "source") (ts 17), .none⟩,
   ⟨PyData.keyHash w.params (Str.ofString "_punctuation_chars"), .str (Str.ofString "_punctuation_chars") (ts 18), .str (Str.ofString "") (ts 27)⟩]
section
variable {w : World} {mean : ExcName → Option Value} {mg mb : Str → Option Value} {hT : Heap} {dp un : Nat} {fr : Option (List Env)} {gd : Option (List Code)} {s : Shared} {Q E : Value → Shared → Prop} {M : Model} {h : Heap}
theorem lnLex1 : True := by
  k_with_none
  k_with "ar" => (((try dsimp only [AA, Around.deeper, Around.in1]); omega))
  k_with "om" => (with_reducible first | assumption | exact Ne.symm (by assumption) | exact Mine.up0 (by assumption) | exact Mine.up1 (by assumption) rfl | exact Mine.up2 (by assumption) rfl | exact Mine.up3 (by assumption) rfl | fail)
  k_with "om" => (with_reducible first | ((show _ ≠ _); first | assumption | exact Ne.symm (by assumption) | exact Mine.ar1 (by assumption) | exact Mine.ar2 (by assumption) | exact Mine.ar3 (by assumption) | exact Mine.ar4 (by assumption) | exact Mine.ar5 (by assumption) | exact Mine.al2 (by assumption) | exact Mine.al3 (by assumption) | exact Mine.al4 (by assumption) | exact Mine.al5 (by assumption) | exact Mine.al6 (by assumption) | exact Ne.symm (Mine.ar1 (by assumption)) | exact Ne.symm (Mine.ar2 (by assumption)) | exact Ne.symm (Mine.ar3 (by assumption)) | exact Ne.symm (Mine.ar4 (by assumption)) | exact Ne.symm (Mine.ar5 (by assumption)) | exact Ne.symm (Mine.al2 (by assumption)) | exact Ne.symm (Mine.al3 (by assumption)) | exact Ne.symm (Mine.al4 (by assumption)) | exact Ne.symm (Mine.al5 (by assumption)) | exact Ne.symm (Mine.al6 (by assumption)) | exact Nat.ne_of_lt (by assumption) | exact Nat.ne_of_gt (by assumption) | exact Nat.ne_of_lt (Nat.lt_of_lt_of_le (by assumption) (by assumption)) | exact Nat.ne_of_gt (Nat.lt_of_lt_of_le (by assumption) (by assumption)) | fail) | ((show _ < _); first | assumption | exact Mine.up0 (by assumption) | exact Mine.up1 (by assumption) rfl | exact Mine.up2 (by assumption) rfl | exact Mine.up3 (by assumption) rfl | fail) | fail)
  trivial
theorem lnLex2 : True := by
  k_with "call ref" => ((k_here; (with_reducible rename Fr _ _ _ _ => kF_q); (with_reducible rename News _ _ _ _ => kN_q); k_dflt (refine c_sio (G.of kF_q (by k_asm) (by k_asm)) (by walk_at "ar") (by walk_at "ar") ?_); intro io'_q dx'_q h'_q tk'_q a1'_q a2'_q a3'_q t1'_q t2'_q t3'_q u1'_q u2'_q u3'_q n'_q hk'_q f1'_q f2'_q lt'_q e1'_q e2'_q; (have l1'_q := allNe_of kN_q f1'_q); (have l2'_q := allNe_of kN_q f2'_q); (simp only [AllNe, and_true] at l1'_q l2'_q); (replace lt'_q := ltN lt'_q); (have N'_q := News.put kF_q (News.put kF_q (News.grown kN_q hk'_q) f2'_q e2'_q) f1'_q e1'_q); (have F'_q := Fr.keeps kF_q hk'_q); clear kF_q kN_q hk'_q; (try dsimp only)))
  k_with "call type:collections.deque" => ((k_here; (with_reducible rename Fr _ _ _ _ => kF_q); (with_reducible rename News _ _ _ _ => kN_q); k_dflt (refine dq_make ?_); intro h'_q hk'_q f1'_q e1'_q; (have l1'_q := allNe_of kN_q f1'_q); (simp only [AllNe, and_true] at l1'_q); (have N'_q := News.put kF_q (News.grown kN_q hk'_q) f1'_q e1'_q); (have F'_q := Fr.keeps kF_q hk'_q); clear kF_q kN_q hk'_q; (try dsimp only)))
  trivial
theorem nm2 {a x y : Nat} (h1 : a ≠ x) (h2 : a ≠ y) : a ∉ [x, y] := by simp [h1, h2]
theorem c_lexinit {R : Result → Shared → Prop} {lx ld : Addr} {x : Str} {t : Tok} (g : G w mean mg mb hT s.heap) (hd : dp + 60 < recursionLimit) (hu : un + 300 < cLine)
    (h1 : s.heap.get? lx = some (instObj 788 ld)) (h2 : s.heap.get? ld = some (dictOf [] 0)) (h3 : hT.get? lx = none) (h4 : hT.get? ld = none) (hlt : ld < lx)
    (hq : ∀ h' tk' ts st tv io dx q1 q2 a1 a2 a3 t1 t2 t3 u1 u2 u3 n, KB [lx, ld] s.heap h' → h'.get? lx = some (instObj 788 ld) → h'.get? ld = some (dictOf (lexEs w ts io q1 q2 (.str (Str.ofString " ") st) (.str (Str.ofString "") tv)) 19) →
      h'.get? io = some (instObj 653 dx) → h'.get? dx = some (dictOf (ioEs a1 a2 a3 t1 t2 t3 u1 u2 u3 x 0) n) → h'.get? q1 = some dqObj → h'.get? q2 = some dqObj →
      s.heap.get? io = none → s.heap.get? dx = none → s.heap.get? q1 = none → s.heap.get? q2 = none → (@Ne Nat dx io) → R (.ok (.ret .none)) { s with heap := h', toks := tk' }) :
    codeAny (model PR w) (AA dp un fr gd) (.call (.ref 712) ⟨[.ref lx, .str x t], [(Str.ofString "posix", .bool true)]⟩) R s := by
  have hO := objs2 h1 h2 h3 h4
  refine enterD [(Str.ofString "self", .ref lx), (Str.ofString "instream", .str x t), (Str.ofString "infile", .none), (Str.ofString "posix", .bool true), (Str.ofString "punctuation_chars", .bool false)] _ g hO (by k_is) (by k_is) (by show dp < _; omega) (kp_binds g.X' (fun S => by kernel_rfl)) (locs rfl) rfl rfl rfl (by decide) ?_
  intro g₀ L' h₁ X T F N hlt' hkb hfr
  have hi1 := ltN (hlt' _ (.head _))
  have hi2 := ltN (hlt' _ (.tail _ (.head _)))
  replace hlt := ltN hlt
  dsimp only at hi1 hi2
  k_steps
  rename News _ _ _ _ => N9
  rename Fr _ _ _ _ => F9
  refine hq _ _ (fun i => [_, _, _, _, _, _, _, _, _, _, _, _, _, _, _, _, _, _, _, _, _, _, _, _, _, _, _, _].getD i 0) _ _ _ _ _ _ _ _ _ _ _ _ _ _ _ _ (hkb _ F9.keep) (N9 _ (.tail _ (.tail _ (.tail _ (.tail _ (.head _)))))).1 (N9 _ (.tail _ (.tail _ (.tail _ (.tail _ (.tail _ (.head _))))))).1 (N9 _ (.tail _ (.tail _ (.head _)))).1 (N9 _ (.tail _ (.tail _ (.tail _ (.head _))))).1 (N9 _ (.tail _ (.head _))).1 (N9 _ (.head _)).1 (hfr _ (N9 _ (.tail _ (.tail _ (.head _)))).2.2 (nm2 ?_ ?_)) (hfr _ (N9 _ (.tail _ (.tail _ (.tail _ (.head _))))).2.2 (nm2 ?_ ?_)) (hfr _ (N9 _ (.tail _ (.head _))).2.2 (nm2 ?_ ?_)) (hfr _ (N9 _ (.head _)).2.2 (nm2 ?_ ?_)) ?_
  all_goals (refine neN ?_; (try dsimp only); omega)
/-- a lexer of a text, posix -/
theorem c_shlex {x : Str} {t : Tok} (g : G w mean mg mb hT s.heap) (hd : dp + 100 < recursionLimit) (hu : un + 400 < cLine)
    (hq : ∀ h' tk' ts st tv lx ld io dx q1 q2 a1 a2 a3 t1 t2 t3 u1 u2 u3 n, (∀ b o, s.heap.get? b = some o → h'.get? b = some o) → h'.get? lx = some (instObj 788 ld) → h'.get? ld = some (dictOf (lexEs w ts io q1 q2 (.str (Str.ofString " ") st) (.str (Str.ofString "") tv)) 19) →
      h'.get? io = some (instObj 653 dx) → h'.get? dx = some (dictOf (ioEs a1 a2 a3 t1 t2 t3 u1 u2 u3 x 0) n) → h'.get? q1 = some dqObj → h'.get? q2 = some dqObj →
      s.heap.get? lx = none → s.heap.get? ld = none → s.heap.get? io = none → s.heap.get? dx = none → s.heap.get? q1 = none → s.heap.get? q2 = none → (@Ne Nat ld lx) → (@Ne Nat dx io) → Q (.ref lx) { s with heap := h', toks := tk' }) :
    wpAny (model PR w) (AA dp un fr gd) (call (.ref 788) [.str x t] [(Str.ofString "posix", .bool true)]) Q E s := by
  have X := g.X'
  refine wpAny_call ?_
  obtain ⟨h, gs, d, tk, os⟩ := s
  refine make_core (makes_of X (by k_is)) (looks_findIn X (by k_is)) (fun self => bind_fn (f := 712) X self (by k_is)) (.inl rfl) ?_
  have e0 : ∀ a, h.objs.size ≤ a → h.get? a = none := fun a ha => by
    cases e : h.get? a with
    | none => rfl
    | some o => exact absurd (Heap.lt_size e) (Nat.not_lt.mpr ha)
  have k1 : ∀ b o, h.get? b = some o → ((h.push emptyDict).push (instObj 788 h.objs.size)).get? b = some o := fun b o e => Heap.get?_push_of_some _ (Heap.get?_push_of_some _ e)
  have hn : ∀ {a : Addr}, h.get? a = none → hT.get? a = none := fun {a} f => by
    cases q : hT.get? a with
    | none => rfl
    | some o => rw [g.st a o q] at f; cases f
  have eA : (AA dp un fr gd).under (.builtin "type.__call__" ⟨.ref 788 :: [.str x t], [(Str.ofString "posix", .bool true)]⟩) = AA (dp + 1) (un + 1) (pushEnvs (Code.envs (.builtin "type.__call__" ⟨.ref 788 :: [.str x t], [(Str.ofString "posix", .bool true)]⟩)) fr) (pushGuards (Code.guards (.builtin "type.__call__" ⟨.ref 788 :: [.str x t], [(Str.ofString "posix", .bool true)]⟩)) gd) := by
    unfold Around.under; rw [wt_tc, un_tc]
  rw [eA]
  have f1 := e0 (h.objs.size + 1) (Nat.le_succ _)
  have f2 := e0 h.objs.size (Nat.le_refl _)
  refine c_lexinit (lx := h.objs.size + 1) (ld := h.objs.size) ⟨g.X, g.T, fun b o e => k1 b o (g.st b o e)⟩ (by omega) (by omega) ?_ ?_ (hn f1) (hn f2) (Nat.lt_succ_self _) ?_
  · have := Heap.get?_push_size (h.push emptyDict) (o := instObj 788 h.objs.size) rfl
    rwa [Heap.size_push] at this
  · exact Heap.get?_push_of_some _ (Heap.get?_push_size _ rfl)
  intro h' tk' ts st tv io dx q1 q2 a1 a2 a3 t1 t2 t3 u1 u2 u3 n kb x1 x2 x3 x4 x5 x6 y1 y2 y3 y4 ne
  have z : ∀ {a : Addr}, ((h.push emptyDict).push (instObj 788 h.objs.size)).get? a = none → h.get? a = none := fun {a} f => by
    cases q : h.get? a with
    | none => rfl
    | some o => rw [k1 a o q] at f; cases f
  refine ⟨rfl, hq h' tk' ts st tv _ _ io dx q1 q2 a1 a2 a3 t1 t2 t3 u1 u2 u3 n (fun b o e => kb b o (fun hb => ?_) (k1 b o e)) x1 x2 x3 x4 x5 x6 f1 f2 (z y1) (z y2) (z y3) (z y4) ?_ ne⟩
  · rcases List.mem_cons.mp hb with rfl | hb
    · rw [f1] at e; cases e
    · rw [List.mem_singleton.mp hb, f2] at e; cases e
  · refine neN ?_; omega
end
end Mine
end
theorem Mine.lnEndLex : True := by
  k_with_none
  trivial
section
open PySem PySem.W PyProof.Rows PySem.Calls PySem.Spec
set_option maxRecDepth 100000
set_option maxHeartbeats 0
namespace Mine
section
variable {w : World} {mean : ExcName → Option Value} {mg mb : Str → Option Value} {hT : Heap} {dp un : Nat} {fr : Option (List Env)} {gd : Option (List Code)} {s : Shared} {Q E : Value → Shared → Prop} {M : Model} {h : Heap}
theorem c_punct {R : Result → Shared → Prop} {lx ld io q1 q2 : Addr} {ts : Nat → Tok} {sv tv : Value} (g : G w mean mg mb hT s.heap) (hd : dp + 10 < recursionLimit) (hu : un + 60 < cLine)
    (h1 : s.heap.get? lx = some (instObj 788 ld)) (h2 : s.heap.get? ld = some (dictOf (lexEs w ts io q1 q2 sv tv) 19)) (h3 : hT.get? lx = none) (h4 : hT.get? ld = none)
    (hq : ∀ h' tk', (∀ b o, s.heap.get? b = some o → h'.get? b = some o) → R (.ok (.ret (.str (Str.ofString "") (ts 27)))) { s with heap := h', toks := tk' }) :
    codeAny (model PR w) (AA dp un fr gd) (.call (.ref 719) ⟨[.ref lx], []⟩) R s := by
  have hO := objs2 h1 h2 h3 h4
  refine enterD [(Str.ofString "self", .ref lx)] _ g hO (by k_is) (by k_is) (by show dp < _; omega) (BindsTo.of_eq rfl) (locs rfl) rfl rfl rfl (by decide) ?_
  intro g₀ L' h₁ X T F N hlt hkb hfr
  try dsimp only
  k_steps
  rename Fr _ _ _ _ => F9
  rename News _ _ _ _ => N9
  exact hq _ _ (kb_all (hkb _ F9.keep) (fun q hq => (hO q hq).1) fun q hq => (N9 q hq).1)
end
end Mine
end
section
open PySem PySem.W PyProof.Rows PySem.Calls PySem.Spec
set_option maxRecDepth 100000
set_option maxHeartbeats 0
namespace Mine
inductive LSt where
  | ws | sq | dq | ea | ed | wd
noncomputable def LSt.st : LSt → Str
  | .ws => Str.ofString " "
  | .sq => S [39]
  | .dq => S [34]
  | .ea => S [92]
  | .ed => S [92]
  | .wd => Str.ofString "a"
noncomputable def LSt.esc (e : Str) : LSt → Str
  | .ea => Str.ofString "a"
  | .ed => S [34]
  | _ => e
/-- the lexer's run from a state: the text left, the word, what is left behind the sign that ends it -/
inductive Lex : LSt → List Nat → Bool → List Nat → List Nat → List Nat → Prop
  | ws_skip {c r t r'} : c = 32 ∨ c = 9 → Lex .ws [] false r t r' → Lex .ws [] false (c :: r) t r'
  | ws_sq {r t r'} : Lex .sq [] false r t r' → Lex .ws [] false (39 :: r) t r'
  | ws_dq {r t r'} : Lex .dq [] false r t r' → Lex .ws [] false (34 :: r) t r'
  | ws_esc {r t r'} : Lex .ea [] false r t r' → Lex .ws [] false (92 :: r) t r'
  | sq_end {k q r t r'} : Lex .wd k true r t r' → Lex .sq k q (39 :: r) t r'
  | sq_chr {c k q r t r'} : c ≠ 39 → c ≠ 10 → Lex .sq (k ++ [c]) true r t r' → Lex .sq k q (c :: r) t r'
  | dq_end {k q r t r'} : Lex .wd k true r t r' → Lex .dq k q (34 :: r) t r'
  | dq_esc {k q r t r'} : Lex .ed k true r t r' → Lex .dq k q (92 :: r) t r'
  | dq_chr {c k q r t r'} : c ≠ 34 → c ≠ 92 → c ≠ 10 → Lex .dq (k ++ [c]) true r t r' → Lex .dq k q (c :: r) t r'
  | ea_chr {c k q r t r'} : c ≠ 10 → Lex .wd (k ++ [c]) q r t r' → Lex .ea k q (c :: r) t r'
  | ed_chr {c k q r t r'} : c = 34 ∨ c = 92 → Lex .dq (k ++ [c]) q r t r' → Lex .ed k q (c :: r) t r'
  | wd_end {c k q r} : c = 32 ∨ c = 9 → k ≠ [] ∨ q = true → Lex .wd k q (c :: r) k r
  | wd_sq {k q r t r'} : Lex .sq k q r t r' → Lex .wd k q (39 :: r) t r'
  | wd_dq {k q r t r'} : Lex .dq k q r t r' → Lex .wd k q (34 :: r) t r'
  | wd_esc {k q r t r'} : Lex .ea k q r t r' → Lex .wd k q (92 :: r) t r'

noncomputable abbrev lexM (lx : Addr) (q : Bool) (esc : Str) (t : Tok) (m : Str → Option Value) : Str → Option Value :=
  fun y => if y = Str.ofString "self" then some (.ref lx) else if y = Str.ofString "quoted" then some (.bool q) else if y = Str.ofString "escapedstate" then some (.str esc t) else m y
theorem fr_lexM {g h : Heap} {L lx : Addr} {q : Bool} {esc : Str} {t : Tok} {m : Str → Option Value} (F : Fr g L h m) (h1 : m (Str.ofString "self") = some (.ref lx)) (h2 : m (Str.ofString "quoted") = some (.bool q)) (h3 : m (Str.ofString "escapedstate") = some (.str esc t)) :
    Fr g L h (lexM lx q esc t m) := by
  have e : lexM lx q esc t m = m := by
    funext y
    unfold lexM
    split
    · rename_i e; rw [e, h1]
    · split
      · rename_i e; rw [e, h2]
      · split
        · rename_i e; rw [e, h3]
        · rfl
  rw [e]; exact F
section
variable {w : World} {mean : ExcName → Option Value} {mg mb : Str → Option Value} {hT : Heap} {dp un : Nat} {fr : Option (List Env)} {gd : Option (List Code)} {s : Shared} {Q E : Value → Shared → Prop} {M : Model} {h : Heap}
theorem objs4 {s hT : Heap} {a b c d : Addr} {o o' o'' o''' : Obj} (h1 : s.get? a = some o) (h2 : s.get? b = some o') (h3 : s.get? c = some o'') (h4 : s.get? d = some o''') (k1 : hT.get? a = none) (k2 : hT.get? b = none) (k3 : hT.get? c = none) (k4 : hT.get? d = none) : ∀ q ∈ [(a, o), (b, o'), (c, o''), (d, o''')], s.get? q.1 = some q.2 ∧ hT.get? q.1 = none := by
  intro q hq
  simp only [List.mem_cons, List.not_mem_nil, or_false] at hq
  rcases hq with rfl | rfl | rfl | rfl
  · exact ⟨h1, k1⟩
  · exact ⟨h2, k2⟩
  · exact ⟨h3, k3⟩
  · exact ⟨h4, k4⟩
theorem news_read {h₀ h h' : Heap} {L lx ld io dx : Addr} {o1 o2 o3 o4 o5 : Obj} (N : News h₀ L h [(lx, o1), (ld, o2), (io, o3), (dx, o4)]) (k : KB [io, dx] h h') (e1 : h'.get? io = some o3) (e2 : h'.get? dx = some o5)
    (n1 : lx ∉ [io, dx]) (n2 : ld ∉ [io, dx]) : News h₀ L h' [(lx, o1), (ld, o2), (io, o3), (dx, o5)] := by
  intro q hq
  simp only [List.mem_cons, List.not_mem_nil, or_false] at hq
  rcases hq with rfl | rfl | rfl | rfl
  · exact ⟨k _ _ n1 (N _ (.head _)).1, (N _ (.head _)).2⟩
  · exact ⟨k _ _ n2 (N _ (.tail _ (.head _))).1, (N _ (.tail _ (.head _))).2⟩
  · exact ⟨e1, (N _ (.tail _ (.tail _ (.head _)))).2⟩
  · exact ⟨e2, (N _ (.tail _ (.tail _ (.tail _ (.head _))))).2⟩
theorem fr_read {h₀ h h' : Heap} {L lx ld io dx : Addr} {o1 o2 o3 o4 : Obj} {m : Str → Option Value} (F : Fr h₀ L h m) (N : News h₀ L h [(lx, o1), (ld, o2), (io, o3), (dx, o4)]) (k : KB [io, dx] h h') : Fr h₀ L h' m := by
  refine Fr.kb F k (fun q => ?_) fun a ha => ?_
  · rcases List.mem_cons.mp q with rfl | q
    · exact (N _ (.tail _ (.tail _ (.head _)))).2.1 rfl
    · exact (N _ (.tail _ (.tail _ (.tail _ (.head _))))).2.1 (List.mem_singleton.mp q).symm
  · rcases List.mem_cons.mp ha with rfl | ha
    · exact (N _ (.tail _ (.tail _ (.head _)))).2.2
    · rw [List.mem_singleton.mp ha]; exact (N _ (.tail _ (.tail _ (.tail _ (.head _))))).2.2

theorem lit10 : Str.ofString "\n" = S [10] := by decide +kernel
theorem litSp : Str.ofString " " = S [32] := by decide +kernel
theorem litA : Str.ofString "a" = S [97] := by decide +kernel
theorem litWs : Str.ofString " \t\x0d\n" = S [32, 9, 13, 10] := by decide +kernel
theorem litHash : Str.ofString "#" = S [35] := by decide +kernel
theorem litQs : Str.ofString "'\"" = S [39, 34] := by decide +kernel
theorem litBs : Str.ofString "\\" = S [92] := by decide +kernel
theorem litDq : Str.ofString "\"" = S [34] := by decide +kernel
theorem litNil : Str.ofString "" = S [] := by decide +kernel
theorem eq_1 {prog : Program} {A : Around} {c k : Nat} {y : Str} {t u : Tok} (hy : y = S [k]) (h : Q (.bool (decide (c = k))) s) : wpAny (model prog w) A (compareOp .Eq (.str (S [c]) t) (.str y u)) Q E s := by
  subst hy
  refine eq_str ?_
  rw [S_beq]
  simpa using h
theorem ne_1 {prog : Program} {A : Around} {c k : Nat} {y : Str} {t u : Tok} (hy : y = S [k]) (h : Q (.bool (!decide (c = k))) s) : wpAny (model prog w) A (compareOp .NotEq (.str (S [c]) t) (.str y u)) Q E s := by
  subst hy
  refine ne_str ?_
  have e : (S [c] != S [k]) = !decide (c = k) := by
    show (!(S [c] == S [k])) = _
    rw [S_beq]; simp
  rw [e]; exact h
theorem in_1 {prog : Program} {A : Around} {c : Nat} {L : List Nat} {y : Str} {t u : Tok} (hy : y = S L) (h : Q (.bool (decide (c ∈ L))) s) : wpAny (model prog w) A (compareOp .In (.str (S [c]) u) (.str y t)) Q E s := by
  subst hy
  refine in_str ?_
  have e := StrLaws.found_one (S L) c
  have e' : (S L).cps.toList = L := rfl
  rw [e'] at e
  have e2 : (⟨#[c]⟩ : Str) = S [c] := rfl
  rw [e2] at e
  rw [e]; exact h
theorem in_ws {prog : Program} {A : Around} {c : Nat} {t u : Tok} (h : Q (.bool (decide (c = 32 ∨ c = 9 ∨ c = 13 ∨ c = 10))) s) : wpAny (model prog w) A (compareOp .In (.str (S [c]) u) (.str (Str.ofString " \t\x0d\n") t)) Q E s :=
  in_1 litWs (by simpa using h)
theorem in_one {prog : Program} {A : Around} {c k : Nat} {y : Str} {t u : Tok} (hy : y = S [k]) (h : Q (.bool (decide (c = k))) s) : wpAny (model prog w) A (compareOp .In (.str (S [c]) u) (.str y t)) Q E s :=
  in_1 hy (by simpa using h)
theorem in_qs {prog : Program} {A : Around} {c : Nat} {t u : Tok} (h : Q (.bool (decide (c = 39 ∨ c = 34))) s) : wpAny (model prog w) A (compareOp .In (.str (S [c]) u) (.str (Str.ofString "'\"") t)) Q E s :=
  in_1 litQs (by simpa using h)
theorem in_nil {prog : Program} {A : Around} {c : Nat} {t u : Tok} (h : Q (.bool false) s) : wpAny (model prog w) A (compareOp .In (.str (S [c]) u) (.str (Str.ofString "") t)) Q E s :=
  in_1 litNil (by simpa using h)
theorem truthy_S {prog : Program} {A : Around} {l : List Nat} {t : Tok} {Q : Bool → Shared → Prop} (hl : l.length < 1000000) (h : ∀ tk, Q (!l.isEmpty) { s with toks := tk }) : wpAny (model prog w) A (truthy (.str (S l) t)) Q E s := by
  refine P.truthy_str (by rw [S_length]; omega) ?_
  have e : (((S l).length : Int) != 0) = !l.isEmpty := by
    rw [S_length]
    cases l with
    | nil => rfl
    | cons c r => simp; omega
  rw [e]; exact h _
theorem iadd_S {prog : Program} {A : Around} {a b : List Nat} {t u : Tok} (hs : a.length + b.length ≤ 16777216) (h : ∀ t' tk, Q (.str (S (a ++ b)) t') { s with toks := tk }) :
    wpAny (model prog w) A (inplaceOp .Add (.str (S a) t) (.str (S b) u)) Q E s := by
  refine iadd_str (fun t' tk => ?_) (by rw [S_length, S_length, sizeLine_eq]; exact hs)
  rw [S_append]
  exact h t' tk
theorem c_read1 {io dx : Addr} {n : Nat} {l : List Nat} {p c : Nat} {r : List Nat} {t : Tok} {a1 a2 a3 : Int} {t1 t2 t3 u1 u2 u3 : Tok} (hdr : l.drop p = c :: r) (g : G w mean mg mb hT s.heap) (hd : dp + 20 < recursionLimit) (hu : un + 100 < cLine)
    (h1 : s.heap.get? io = some (instObj 653 dx)) (h2 : s.heap.get? dx = some (dictOf (ioEs a1 a2 a3 t1 t2 t3 u1 u2 u3 (S l) (p : Int)) n)) (h3 : hT.get? io = none) (h4 : hT.get? dx = none) (hne : dx ≠ io) (hl : l.length < 1000000)
    (hq : ∀ h' tk' t' u3', KB [io, dx] s.heap h' → h'.get? io = some (instObj 653 dx) → h'.get? dx = some (dictOf (ioEs a1 a2 a3 t1 t2 t3 u1 u2 u3' (S l) ((p + 1 : Nat) : Int)) n) → Q (.str (S [c]) t') { s with heap := h', toks := tk' }) :
    wpAny (model PR w) (AA dp un fr gd) (call (.ref 599) [.ref io, .int 1 t]) Q E s := by
  have hp : p < l.length := by
    rcases Nat.lt_or_ge p l.length with h | h
    · exact h
    · rw [List.drop_eq_nil_of_le h] at hdr; cases hdr
  refine c_read g hd hu h1 h2 h3 h4 hne (by omega) hl ?_
  intro h' tk' t' u3' k e1 e2
  rw [if_pos hp] at e2
  rw [hdr]
  exact hq h' tk' t' u3' k e1 e2
theorem drop_next {l : List Nat} {p c : Nat} {r : List Nat} (h : l.drop p = c :: r) : l.drop (p + 1) = r ∧ p + 1 ≤ l.length := by
  constructor
  · have := congrArg List.tail h
    rw [List.tail_drop] at this
    exact this
  · rcases Nat.lt_or_ge p l.length with h' | h'
    · exact h'
    · rw [List.drop_eq_nil_of_le h'] at h; cases h
end
end Mine
end
section
open PySem PySem.W PyProof.Rows PySem.Calls PySem.Spec
set_option maxRecDepth 100000
set_option maxHeartbeats 0
namespace Mine
section
variable {w : World} {mean : ExcName → Option Value} {mg mb : Str → Option Value} {hT : Heap} {dp un : Nat} {fr : Option (List Env)} {gd : Option (List Code)} {s : Shared} {Q E : Value → Shared → Prop} {M : Model} {h : Heap}
theorem lnTokn31 : True := by
  k_with_none
  k_with "ar" => (((try dsimp only [AA, Around.deeper, Around.in1]); omega))
  k_with "om" => (with_reducible first | assumption | exact Ne.symm (by assumption) | exact Mine.up0 (by assumption) | exact Mine.up1 (by assumption) rfl | exact Mine.up2 (by assumption) rfl | exact Mine.up3 (by assumption) rfl | fail)
  trivial
theorem lnTokn32 : True := by
  k_with "getAttr ref" => ((k_here; (with_reducible show wpAny _ _ (getAttr _ (Str.ofString "punctuation_chars") _) _ _ _); (with_reducible rename Fr _ _ _ _ => kF_q); (with_reducible rename News _ _ _ _ => kN_q); k_dflt (refine' get_prop kF_q ?k2 ?k3 ?k4 ?k5 ?k6 ?k7 ?k8 ?k9 ?_; (case k2 => k_asm); (case k3 => k_inst); (case k4 => k_is); (case k5 => k_is); (case k6 => k_is); (case k7 => k_is); (case k8 => k_is); (case k9 => k_is); k_whole); k_dflt (refine c_punct (G.of kF_q (by k_asm) (by k_asm)) (by walk_at "ar") (by walk_at "ar") (News.get kN_q (.head _)) (News.get kN_q (.tail _ (.head _))) (News.fresh kN_q (.head _)) (News.fresh kN_q (.tail _ (.head _))) ?_); intro h'_q tk'_q hk'_q; (have F'_q := Fr.keeps kF_q hk'_q); (have N'_q := News.grown kN_q hk'_q); clear kF_q kN_q hk'_q; (try dsimp only); refine handed_on rfl ?_; (try dsimp only)))
  k_with "call ref" => ((k_here; (with_reducible rename Fr _ _ _ _ => kF_q); (with_reducible rename News _ _ _ _ => kN_q); k_dflt (refine c_read1 (by assumption) (G.of kF_q (by k_asm) (by k_asm)) (by walk_at "ar") (by walk_at "ar") (News.get kN_q (.tail _ (.tail _ (.head _)))) (News.get kN_q (.tail _ (.tail _ (.tail _ (.head _))))) (News.fresh kN_q (.tail _ (.tail _ (.head _)))) (News.fresh kN_q (.tail _ (.tail _ (.tail _ (.head _))))) (by assumption) (by omega) ?_); intro h'_q tk'_q t'_q u3'_q hk'_q e1'_q e2'_q; (have F'_q := fr_read kF_q kN_q hk'_q); (have N'_q := news_read kN_q hk'_q e1'_q e2'_q (by assumption) (by assumption)); clear kF_q kN_q hk'_q e1'_q e2'_q; (try dsimp only)))
  k_with "compareOp Eq str str" => (k_dflt (first | with_reducible refine eq_1 lit10 ?_ | with_reducible refine eq_1 litSp ?_ | with_reducible refine eq_1 (rfl : S [_] = S [_]) ?_))
  k_with "compareOp NotEq str str" => (k_dflt (first | with_reducible refine ne_1 (rfl : S [_] = S [_]) ?_))
  k_with "compareOp In str str" => (k_dflt (first | with_reducible refine in_ws ?_ | with_reducible refine in_qs ?_ | with_reducible refine in_nil ?_ | with_reducible refine in_one litHash ?_ | with_reducible refine in_one litBs ?_ | with_reducible refine in_one litDq ?_))
  k_with "truthy str" => (k_dflt (with_reducible refine truthy_S (by first | omega | (simp only [List.length_cons, List.length_nil]; omega)) ?_; intro tk9_q; (try dsimp only [List.isEmpty, Bool.not_false, Bool.not_true])))
  k_with "inplaceOp Add str str" => (k_dflt (with_reducible refine iadd_S (by simp only [List.length_cons, List.length_nil]; omega) ?_; intro t9_q tk9_q; (try dsimp only)))
  k_with "getAttr ref" => (k_here; k_dflt (refine' get_own ?k1 ?k2 ?k3 ?k4 ?k5 ?k6 ?k7 ?k8 ?k9 ?_; (case k1 => k_asm); (case k2 => k_asm); (case k3 => k_inst); (case k4 => k_is); (case k5 => k_is); (case k6 => k_is); (case k7 => k_is); (case k8 => k_get); (case k9 => k_handed); k_whole))
  trivial
theorem in_wc39 {prog : Program} {A : Around} {t u : Tok} (h : Q (.bool false) s) : wpAny (model prog w) A (compareOp .In (.str (S [39]) u) (.str WC t)) Q E s :=
  in_1 (S_of WC) (by rw [show decide (39 ∈ WC.cps.toList) = false by decide +kernel]; exact h)
theorem in_wc34 {prog : Program} {A : Around} {t u : Tok} (h : Q (.bool false) s) : wpAny (model prog w) A (compareOp .In (.str (S [34]) u) (.str WC t)) Q E s :=
  in_1 (S_of WC) (by rw [show decide (34 ∈ WC.cps.toList) = false by decide +kernel]; exact h)
theorem lnTokn33 : True := by
  k_with "compareOp In str str" => (k_dflt (first | with_reducible refine in_wc39 ?_ | with_reducible refine in_wc34 ?_))
  trivial
theorem in_aq {prog : Program} {A : Around} {t u : Tok} (h : Q (.bool false) s) : wpAny (model prog w) A (compareOp .In (.str (Str.ofString "a") u) (.str (Str.ofString "'\"") t)) Q E s := by
  rw [litA]; exact in_1 litQs (by simpa using h)
theorem in_ab {prog : Program} {A : Around} {t u : Tok} (h : Q (.bool false) s) : wpAny (model prog w) A (compareOp .In (.str (Str.ofString "a") u) (.str (Str.ofString "\\") t)) Q E s := by
  rw [litA]; exact in_1 litBs (by simpa using h)
theorem lnTokn34 : True := by
  k_with "compareOp In str str" => (k_dflt (first | with_reducible refine in_aq ?_ | with_reducible refine in_ab ?_))
  trivial
theorem Lex.head {S₀ : LSt} {k : List Nat} {q : Bool} {r t r' : List Nat} (h : Lex S₀ k q r t r') : ∃ c r₁, r = c :: r₁ ∧ c ≠ 10 := by
  cases h <;> first | exact ⟨_, _, rfl, by omega⟩ | exact ⟨_, _, rfl, by assumption⟩
theorem lnTokn35 : True := by
  k_with "exec If" => (with_reducible refine wpAny_If ?_)
  trivial
noncomputable def Nx (I : Nat → Shared → Prop) (n : Nat) (s : Shared) : Prop := ∃ m, m < n ∧ I m s
theorem while_loop {prog : Program} {A : Around} {R : Result → Shared → Prop} {test body orelse env} (I : Nat → Shared → Prop)
    (turn : ∀ n s, I n s → ∀ (T : Flow → Shared → Prop) (X : Value → Shared → Prop), (∀ s', Nx I n s' → T .next s' ∧ T .cont s') → (∀ s', R (.ok .next) s' → T .brk s') →
      wpAny (model prog w) A (isTrue test env (eval test env)) (fun b s₂ =>
        if b then wpAny (model prog w) A (execs body env) T X s₂
        else wpAny (model prog w) A (execs orelse env) (fun f s₃ => R (.ok f) s₃) X s₂) X s)
    (n : Nat) (h : I n s) : codeAny (model prog w) A (.whileLoop test body orelse env) R s :=
  codeAny_whileLoop I (fun n s hI => by
    have key := turn n s hI (fun f s₃ => match f with
            | .next | .cont => Nx I n s₃
            | .brk => R (.ok .next) s₃
            | .ret v => R (.ok (.ret v)) s₃) (notedBy (model prog w) A env fun e s' => R (.error e) s') (fun _ h => ⟨h, h⟩) (fun _ h => h)
    exact key) n h
theorem Lex.ws0 {k q r t r'} (h : Lex .ws k q r t r') : k = [] ∧ q = false := by cases h <;> exact ⟨rfl, rfl⟩
theorem Lex.in_ws {k q c r t r'} (h : Lex .ws k q (c :: r) t r') : c = 32 ∨ c = 9 ∨ c = 39 ∨ c = 34 ∨ c = 92 := by cases h <;> omega
theorem Lex.in_wd {k q c r t r'} (h : Lex .wd k q (c :: r) t r') : c = 32 ∨ c = 9 ∨ c = 39 ∨ c = 34 ∨ c = 92 := by cases h <;> omega
theorem Lex.in_ed {k q c r t r'} (h : Lex .ed k q (c :: r) t r') : c = 34 ∨ c = 92 := by cases h; assumption
theorem Lex.ws_s {k q c r t r'} (h : Lex .ws k q (c :: r) t r') (hc : c = 32 ∨ c = 9 ∨ c = 13 ∨ c = 10) : Lex .ws k q r t r' := by cases h <;> first | assumption | omega
theorem Lex.ws_b {k q c r t r'} (h : Lex .ws k q (c :: r) t r') (hc : c = 92) : Lex .ea k q r t r' := by cases h <;> first | assumption | omega
theorem Lex.ws_1 {k q r t r'} (h : Lex .ws k q (39 :: r) t r') : Lex .sq k q r t r' := by cases h <;> first | assumption | omega
theorem Lex.ws_2 {k q r t r'} (h : Lex .ws k q (34 :: r) t r') : Lex .dq k q r t r' := by cases h <;> first | assumption | omega
theorem Lex.wd_b {k q c r t r'} (h : Lex .wd k q (c :: r) t r') (hc : c = 92) : Lex .ea k q r t r' := by cases h <;> first | assumption | omega
theorem Lex.wd_1 {k q r t r'} (h : Lex .wd k q (39 :: r) t r') : Lex .sq k q r t r' := by cases h <;> first | assumption | omega
theorem Lex.wd_2 {k q r t r'} (h : Lex .wd k q (34 :: r) t r') : Lex .dq k q r t r' := by cases h <;> first | assumption | omega
theorem Lex.wd_s {k q c r t r'} (h : Lex .wd k q (c :: r) t r') (hc : c = 32 ∨ c = 9 ∨ c = 13 ∨ c = 10) : k = t ∧ r = r' ∧ (k ≠ [] ∨ q = true) := by
  cases h <;> first | exact ⟨rfl, rfl, by assumption⟩ | omega
theorem Lex.sq_e {k q c r t r'} (h : Lex .sq k q (c :: r) t r') (hc : c = 39) : Lex .wd k true r t r' := by cases h <;> first | assumption | omega
theorem Lex.sq_c {k q c r t r'} (h : Lex .sq k q (c :: r) t r') (hc : ¬ c = 39) : Lex .sq (k ++ [c]) true r t r' := by cases h <;> first | assumption | omega
theorem Lex.dq_e {k q c r t r'} (h : Lex .dq k q (c :: r) t r') (hc : c = 34) : Lex .wd k true r t r' := by cases h <;> first | assumption | omega
theorem Lex.dq_b {k q c r t r'} (h : Lex .dq k q (c :: r) t r') (hc : c = 92) : Lex .ed k true r t r' := by cases h <;> first | assumption | omega
theorem Lex.dq_c {k q c r t r'} (h : Lex .dq k q (c :: r) t r') (hc : ¬ c = 34) (hb : ¬ c = 92) : Lex .dq (k ++ [c]) true r t r' := by cases h <;> first | assumption | omega
theorem Lex.ea_c {k q c r t r'} (h : Lex .ea k q (c :: r) t r') : Lex .wd (k ++ [c]) q r t r' := by cases h; assumption
theorem Lex.ed_c {k q c r t r'} (h : Lex .ed k q (c :: r) t r') : Lex .dq (k ++ [c]) q r t r' := by cases h; assumption
theorem eq_cons {prog : Program} {A : Around} {c : Nat} {l : List Nat} {t u : Tok} (h : Q (.bool false) s) : wpAny (model prog w) A (compareOp .Eq (.str (S (c :: l)) t) (.str (Str.ofString "") u)) Q E s := by
  rw [litNil]
  refine eq_str ?_
  rw [S_beq, decide_eq_false (by simp)]
  exact h
theorem lnTokn36 : True := by
  k_with "compareOp Eq str str" => (k_dflt (with_reducible refine eq_cons ?_))
  trivial
theorem ite_no {p : Prop} [Decidable p] {a b : Prop} (h : ¬ p) (hb : b) : if decide p = true then a else b := by rw [decide_eq_false h]; exact hb
theorem ite_yes {p : Prop} [Decidable p] {a b : Prop} (h : p) (ha : a) : if decide p = true then a else b := by rw [decide_eq_true h]; exact ha
theorem ite_or {p : Prop} [Decidable p] {a b : Prop} (ha : p → a) (hb : ¬ p → b) : if decide p = true then a else b := by
  by_cases h : p
  · exact ite_yes h (ha h)
  · exact ite_no h (hb h)
theorem ite_nno {p : Prop} [Decidable p] {a b : Prop} (h : p) (hb : b) : if (!decide p) = true then a else b := by rw [decide_eq_true h]; exact hb
theorem ite_nyes {p : Prop} [Decidable p] {a b : Prop} (h : ¬ p) (ha : a) : if (!decide p) = true then a else b := by rw [decide_eq_false h]; exact ha
theorem ite_nor {p : Prop} [Decidable p] {a b : Prop} (ha : ¬ p → a) (hb : p → b) : if (!decide p) = true then a else b := by
  by_cases h : p
  · exact ite_nno h (hb h)
  · exact ite_nyes h (ha h)
theorem in_wcq {prog : Program} {A : Around} {c : Nat} {t u : Tok} (hc : c = 39 ∨ c = 34) (h : Q (.bool false) s) : wpAny (model prog w) A (compareOp .In (.str (S [c]) u) (.str WC t)) Q E s := by
  rcases hc with rfl | rfl
  · exact in_wc39 h
  · exact in_wc34 h
theorem lnTokn37 : True := by
  k_with "compareOp In str str" => (k_dflt (with_reducible refine in_wcq (by omega) ?_))
  k_with "ite" => (first | with_reducible refine ite_tt ?_ | with_reducible refine ite_ff ?_ | with_reducible refine ite_no (by omega) ?_ | with_reducible refine ite_yes (by omega) ?_ | with_reducible refine ite_nno (by omega) ?_ | with_reducible refine ite_nyes (by omega) ?_ | (with_reducible refine ite_or (fun hc => ?_) (fun hc => ?_)) | (with_reducible refine ite_nor (fun hc => ?_) (fun hc => ?_)))
  trivial
/-- what stands at the head of a turn -/
noncomputable def RdI (s : Shared) (w : World) (g₀ : Heap) (L' lx ld io dx q1 q2 : Nat) (ts : Nat → Tok) (n : Nat) (l : List Nat) (a1 a2 a3 : Int) (t1 t2 t3 u1 u2 : Tok) (word rest : List Nat) (n' : Nat) (s' : Shared) : Prop :=
  ∃ (S₀ : LSt) (k : List Nat) (q : Bool) (r : List Nat) (h : Heap) (tk : Nat) (m : Str → Option Value) (e : Str) (te sv tv : Tok) (p' : Nat) (u3' : Tok), s' = { s with heap := h, toks := tk } ∧ n' = r.length ∧ Lex S₀ k q r word rest ∧ l.drop p' = r ∧ p' ≤ l.length ∧ k.length ≤ p' ∧
    Fr g₀ L' h (lexM lx q (S₀.esc e) te m) ∧ News g₀ L' h [(lx, instObj 788 ld), (ld, dictOf (lexEs w ts io q1 q2 (.str S₀.st sv) (.str (S k) tv)) 19), (io, instObj 653 dx), (dx, dictOf (ioEs a1 a2 a3 t1 t2 t3 u1 u2 u3' (S l) (p' : Int)) n)]
theorem RdI.on {s : Shared} {w : World} {g₀ : Heap} {L' lx ld io dx q1 q2 : Nat} {ts : Nat → Tok} {n : Nat} {l : List Nat} {a1 a2 a3 : Int} {t1 t2 t3 u1 u2 : Tok} {word rest r : List Nat} {c : Nat} (S₀ : LSt) {k k₀ : List Nat} {q : Bool} {h : Heap} {tk : Nat} {m : Str → Option Value} (e : Str) {te sv tv : Tok} {p' : Nat} {u3' : Tok}
    (hl : Lex S₀ k q r word rest) (hd : l.drop p' = c :: r) (hk : k₀.length ≤ p') (hkk : k.length ≤ k₀.length + 1) (F : Fr g₀ L' h m) (h1 : m (Str.ofString "self") = some (.ref lx)) (h2 : m (Str.ofString "quoted") = some (.bool q)) (h3 : m (Str.ofString "escapedstate") = some (.str (S₀.esc e) te))
    (N : News g₀ L' h [(lx, instObj 788 ld), (ld, dictOf (lexEs w ts io q1 q2 (.str S₀.st sv) (.str (S k) tv)) 19), (io, instObj 653 dx), (dx, dictOf (ioEs a1 a2 a3 t1 t2 t3 u1 u2 u3' (S l) ((p' + 1 : Nat) : Int)) n)]) :
    Nx (RdI s w g₀ L' lx ld io dx q1 q2 ts n l a1 a2 a3 t1 t2 t3 u1 u2 word rest) (c :: r).length { s with heap := h, toks := tk } :=
  ⟨_, Nat.lt_succ_self _, S₀, k, q, r, h, tk, m, e, te, sv, tv, p' + 1, u3', rfl, rfl, hl, (drop_next hd).1, (drop_next hd).2, Nat.le_trans hkk (Nat.succ_le_succ hk), fr_lexM F h1 h2 h3, N⟩
theorem c_readtok {lx ld io dx q1 q2 : Addr} {ts : Nat → Tok} {st0 tv0 : Tok} {n : Nat} {l : List Nat} {p : Nat} {a1 a2 a3 : Int} {t1 t2 t3 u1 u2 u3 : Tok} {word rest : List Nat} (hlex : Lex .ws [] false (l.drop p) word rest)
    (g : G w mean mg mb hT s.heap) (hd : dp + 60 < recursionLimit) (hu : un + 300 < cLine)
    (h1 : s.heap.get? lx = some (instObj 788 ld)) (h2 : s.heap.get? ld = some (dictOf (lexEs w ts io q1 q2 (.str (Str.ofString " ") st0) (.str (S []) tv0)) 19))
    (h3 : s.heap.get? io = some (instObj 653 dx)) (h4 : s.heap.get? dx = some (dictOf (ioEs a1 a2 a3 t1 t2 t3 u1 u2 u3 (S l) (p : Int)) n)) (k1 : hT.get? lx = none) (k2 : hT.get? ld = none) (k3 : hT.get? io = none) (k4 : hT.get? dx = none)
    (hne : dx ≠ io) (n1 : lx ∉ [io, dx]) (n2 : ld ∉ [io, dx]) (n3 : ld ≠ lx) (hp : p ≤ l.length) (hl : l.length < 100000)
    (hq : ∀ h' tk' t' p' u3', KB [lx, ld, io, dx] s.heap h' → h'.get? lx = some (instObj 788 ld) → h'.get? io = some (instObj 653 dx) → p' ≤ l.length → l.drop p' = rest → h'.get? dx = some (dictOf (ioEs a1 a2 a3 t1 t2 t3 u1 u2 u3' (S l) (p' : Int)) n) →
      (∃ sv tv, h'.get? ld = some (dictOf (lexEs w ts io q1 q2 sv tv) 19)) → Q (.str (S word) t') { s with heap := h', toks := tk' }) :
    wpAny (model PR w) (AA dp un fr gd) (call (.ref 756) [.ref lx]) Q E s := by
  have hO := objs4 h1 h2 h3 h4 k1 k2 k3 k4
  refine wpAny_call ?_
  refine enterD [(Str.ofString "self", .ref lx)] _ g hO (by k_is) (by k_is) (by show dp < _; omega) (BindsTo.of_eq rfl) (locs rfl) rfl rfl rfl (by decide) ?_
  intro g₀ L' h₁ X T F N hlt' hkb hfr
  obtain ⟨m1, m2, m3, m4⟩ : lx ≠ io ∧ lx ≠ dx ∧ ld ≠ io ∧ ld ≠ dx := by
    simp only [List.mem_cons, List.not_mem_nil, or_false, not_or] at n1 n2
    exact ⟨n1.1, n1.2, n2.1, n2.2⟩
  replace m1 := neN m1
  replace m2 := neN m2
  replace m3 := neN m3
  replace m4 := neN m4
  have m5 := neN n3
  have m6 := neN hne
  try dsimp only
  repeat' ((fail_if_success (with_reducible show wpAny _ _ (exec (Stmt.While _ _ _ _) _) _ _ _)); (first | (k_unfold; (try dsimp only)) | walk1 | (dsimp only; walk1) | fail "no step"))
  rename Fr _ _ _ _ => F9
  rename News _ _ _ _ => N9
  refine wpAny_While (while_loop (RdI s w g₀ L' lx ld io dx q1 q2 ts n l a1 a2 a3 t1 t2 t3 u1 u2 word rest) ?_ (l.drop p).length ⟨.ws, [], false, _, _, _, _, _, _, _, _, p, _, rfl, rfl, hlex, rfl, hp, Nat.zero_le _, fr_lexM F9 rfl rfl rfl, N9⟩)
  clear F9 N9
  rintro n' s' ⟨S₀, k, q, r, h, tk, m, e, te, sv, tv, p', u3', rfl, rfl, hlx, hdr, hp', hkl, F, N⟩ T X hT hB
  obtain ⟨c, r', rfl, hc10⟩ := hlx.head
  repeat' ((fail_if_success (with_reducible show wpAny _ _ (exec (Stmt.If (Expr.Compare _ [CmpOp.Is] _ _) _ _ _) _) _ _ _)); (first | (k_unfold; (try dsimp only)) | walk1 | (dsimp only; walk1) | fail "no step"))
  rename Fr _ _ _ _ => F
  rename News _ _ _ _ => N
  have hfin : k = word → r' = rest → ∀ (h' : Heap) (tk' : Nat) (t' : Tok) (u3'' : Tok) (m' : Str → Option Value) (sv tv : Value), Fr g₀ L' h' m' → News g₀ L' h' [(lx, instObj 788 ld), (ld, dictOf (lexEs w ts io q1 q2 sv tv) 19), (io, instObj 653 dx), (dx, dictOf (ioEs a1 a2 a3 t1 t2 t3 u1 u2 u3'' (S l) ((p' + 1 : Nat) : Int)) n)] → Q (.str (S k) t') { s with heap := h', toks := tk' } := by
    intro e1 e2 h' tk' t' u3'' m' sv tv F' N'
    subst e1 e2
    have hdn := drop_next hdr
    exact hq h' tk' t' (p' + 1) u3'' (hkb _ F'.keep) (N' _ (.head _)).1 (N' _ (.tail _ (.tail _ (.head _)))).1 hdn.2 hdn.1 (N' _ (.tail _ (.tail _ (.tail _ (.head _))))).1 ⟨sv, tv, (N' _ (.tail _ (.head _))).1⟩
  clear hq
  cases S₀
  all_goals (dsimp only [LSt.st, LSt.esc] at F N)
  case ws =>
    obtain ⟨rfl, rfl⟩ := hlx.ws0
    have hin := hlx.in_ws
    repeat' (first | (k_unfold; (try dsimp only)) | walk1 | (dsimp only; walk1) | fail "no step")
    all_goals (rename Fr _ _ _ _ => F9; rename News _ _ _ _ => N9)
    · exact (hT _ (RdI.on .ws _ (hlx.ws_s (by assumption)) hdr hkl (Nat.le_succ _) F9 rfl rfl rfl N9)).2
    · have hc : c = 92 := by assumption
      subst hc
      exact (hT _ (RdI.on .ea (Str.ofString " ") (hlx.ws_b rfl) hdr hkl (Nat.le_succ _) F9 rfl rfl rfl N9)).1
    · have hc : c = 39 ∨ c = 34 := by omega
      rcases hc with rfl | rfl
      · exact (hT _ (RdI.on .sq _ hlx.ws_1 hdr hkl (Nat.le_succ _) F9 rfl rfl rfl N9)).1
      · exact (hT _ (RdI.on .dq _ hlx.ws_2 hdr hkl (Nat.le_succ _) F9 rfl rfl rfl N9)).1
  case sq =>
    repeat' (first | (k_unfold; (try dsimp only)) | walk1 | (dsimp only; walk1) | fail "no step")
    all_goals (rename Fr _ _ _ _ => F9; rename News _ _ _ _ => N9)
    · exact (hT _ (RdI.on .wd _ (hlx.sq_e (by assumption)) hdr hkl (Nat.le_succ _) F9 rfl rfl rfl N9)).1
    all_goals exact (hT _ (RdI.on .sq _ (hlx.sq_c (by assumption)) hdr hkl (by rw [List.length_append]; exact Nat.le_refl _) F9 rfl rfl rfl N9)).1
  case dq =>
    repeat' (first | (k_unfold; (try dsimp only)) | walk1 | (dsimp only; walk1) | fail "no step")
    all_goals (rename Fr _ _ _ _ => F9; rename News _ _ _ _ => N9)
    · exact (hT _ (RdI.on .wd _ (hlx.dq_e (by assumption)) hdr hkl (Nat.le_succ _) F9 rfl rfl rfl N9)).1
    · have hc : c = 92 := by assumption
      subst hc
      exact (hT _ (RdI.on .ed (Str.ofString " ") (hlx.dq_b rfl) hdr hkl (Nat.le_succ _) F9 rfl rfl rfl N9)).1
    · exact (hT _ (RdI.on .dq _ (hlx.dq_c (by assumption) (by assumption)) hdr hkl (by rw [List.length_append]; exact Nat.le_refl _) F9 rfl rfl rfl N9)).1
  case ea =>
    repeat' (first | (k_unfold; (try dsimp only)) | walk1 | (dsimp only; walk1) | fail "no step")
    all_goals (rename Fr _ _ _ _ => F9; rename News _ _ _ _ => N9)
    · exact (hT _ (RdI.on .wd _ hlx.ea_c hdr hkl (by rw [List.length_append]; exact Nat.le_refl _) F9 rfl rfl rfl N9)).1
  case ed =>
    have hin := hlx.in_ed
    repeat' (first | (k_unfold; (try dsimp only)) | walk1 | (dsimp only; walk1) | fail "no step")
    all_goals (rename Fr _ _ _ _ => F9; rename News _ _ _ _ => N9)
    all_goals exact (hT _ (RdI.on .dq _ hlx.ed_c hdr hkl (by rw [List.length_append]; exact Nat.le_refl _) F9 rfl rfl rfl N9)).1
  case wd =>
    have hin := hlx.in_wd
    repeat' (first | (k_unfold; (try dsimp only)) | walk1 | (dsimp only; walk1) | fail "no step")
    · have hw := hlx.wd_s (by assumption)
      have h0 : k.isEmpty = true := by assumption
      have hq1 : q = true := by assumption
      subst hq1
      cases k with
      | cons a k' => cases h0
      | nil =>
        refine hB _ ?_
        dsimp only
        repeat' (first | (k_unfold; (try dsimp only)) | walk1 | (dsimp only; walk1) | fail "no step")
        all_goals ((rename Fr _ _ _ _ => F9; rename News _ _ _ _ => N9); first | exact hfin hw.1 hw.2.1 _ _ _ _ _ _ _ F9 N9 | exact hfin hw.1 hw.2.1 _ _ _ _ _ _ _ F9 (fun x hx => N9 x (.tail _ hx)))
    · have hw := hlx.wd_s (by assumption)
      have h0 : k.isEmpty = true := by assumption
      have hq1 : q = false := by assumption
      subst hq1
      cases k with
      | cons a k' => cases h0
      | nil => exact absurd hw.2.2 (by decide)
    · have hw := hlx.wd_s (by assumption)
      have h0 : k.isEmpty = false := by assumption
      cases k with
      | nil => cases h0
      | cons a k' =>
        have hkl' : k'.length + 1 ≤ p' := hkl
        refine hB _ ?_
        dsimp only
        repeat' (first | (k_unfold; (try dsimp only)) | walk1 | (dsimp only; walk1) | fail "no step")
        all_goals ((rename Fr _ _ _ _ => F9; rename News _ _ _ _ => N9); first | exact hfin hw.1 hw.2.1 _ _ _ _ _ _ _ F9 N9 | exact hfin hw.1 hw.2.1 _ _ _ _ _ _ _ F9 (fun x hx => N9 x (.tail _ hx)))
    all_goals (rename Fr _ _ _ _ => F9; rename News _ _ _ _ => N9)
    · have hc : c = 39 ∨ c = 34 := by assumption
      rcases hc with rfl | rfl
      · first | exact (hT _ (RdI.on .sq _ hlx.wd_1 hdr hkl (Nat.le_succ _) F9 rfl rfl rfl N9)).1 | exact (hT _ (RdI.on .sq _ hlx.wd_1 hdr hkl (Nat.le_succ _) F9 rfl rfl rfl (fun x hx => N9 x (.tail _ hx)))).1
      · first | exact (hT _ (RdI.on .dq _ hlx.wd_2 hdr hkl (Nat.le_succ _) F9 rfl rfl rfl N9)).1 | exact (hT _ (RdI.on .dq _ hlx.wd_2 hdr hkl (Nat.le_succ _) F9 rfl rfl rfl (fun x hx => N9 x (.tail _ hx)))).1
    · have hc : c = 92 := by omega
      subst hc
      first | exact (hT _ (RdI.on .ea (Str.ofString " ") (hlx.wd_b rfl) hdr hkl (Nat.le_succ _) F9 rfl rfl rfl N9)).1 | exact (hT _ (RdI.on .ea (Str.ofString " ") (hlx.wd_b rfl) hdr hkl (Nat.le_succ _) F9 rfl rfl rfl (fun x hx => N9 x (.tail _ hx)))).1
theorem c_read0 {io dx : Addr} {n : Nat} {l : List Nat} {p : Nat} {t : Tok} {a1 a2 a3 : Int} {t1 t2 t3 u1 u2 u3 : Tok} (hdr : l.drop p = []) (hp : p ≤ l.length) (g : G w mean mg mb hT s.heap) (hd : dp + 20 < recursionLimit) (hu : un + 100 < cLine)
    (h1 : s.heap.get? io = some (instObj 653 dx)) (h2 : s.heap.get? dx = some (dictOf (ioEs a1 a2 a3 t1 t2 t3 u1 u2 u3 (S l) (p : Int)) n)) (h3 : hT.get? io = none) (h4 : hT.get? dx = none) (hne : dx ≠ io) (hl : l.length < 1000000)
    (hq : ∀ h' tk' t' u3', KB [io, dx] s.heap h' → h'.get? io = some (instObj 653 dx) → h'.get? dx = some (dictOf (ioEs a1 a2 a3 t1 t2 t3 u1 u2 u3' (S l) (p : Int)) n) → Q (.str (S []) t') { s with heap := h', toks := tk' }) :
    wpAny (model PR w) (AA dp un fr gd) (call (.ref 599) [.ref io, .int 1 t]) Q E s := by
  have hp' : ¬ p < l.length := fun h => by
    have := congrArg List.length hdr
    rw [List.length_drop] at this
    simp only [List.length_nil] at this
    omega
  refine c_read g hd hu h1 h2 h3 h4 hne (by omega) hl ?_
  intro h' tk' t' u3' k e1 e2
  rw [if_neg hp'] at e2
  rw [hdr]
  exact hq h' tk' t' u3' k e1 e2
theorem eq_nil10 {prog : Program} {A : Around} {t u : Tok} (h : Q (.bool false) s) : wpAny (model prog w) A (compareOp .Eq (.str (S []) t) (.str (Str.ofString "\n") u)) Q E s := by
  rw [lit10]
  refine eq_str ?_
  rw [S_beq, decide_eq_false (by simp)]
  exact h
theorem eq_nilnil {prog : Program} {A : Around} {t u : Tok} (h : Q (.bool true) s) : wpAny (model prog w) A (compareOp .Eq (.str (S []) t) (.str (Str.ofString "") u)) Q E s := by
  rw [litNil]
  refine eq_str ?_
  rw [S_beq, decide_eq_true (by simp)]
  exact h
theorem eq_spsp {prog : Program} {A : Around} {t u : Tok} (h : Q (.bool true) s) : wpAny (model prog w) A (compareOp .Eq (.str (Str.ofString " ") t) (.str (Str.ofString " ") u)) Q E s := by
  rw [litSp]
  refine eq_str ?_
  rw [S_beq, decide_eq_true (by simp)]
  exact h
theorem lnTokn38 : True := by
  k_with "compareOp Eq str str" => (k_dflt (first | with_reducible refine eq_nil10 ?_ | with_reducible refine eq_nilnil ?_ | with_reducible refine eq_spsp ?_))
  k_with "call ref" => ((k_here; (with_reducible rename Fr _ _ _ _ => kF_q); (with_reducible rename News _ _ _ _ => kN_q); k_dflt (refine c_read0 (by assumption) (by assumption) (G.of kF_q (by k_asm) (by k_asm)) (by walk_at "ar") (by walk_at "ar") (News.get kN_q (.tail _ (.tail _ (.head _)))) (News.get kN_q (.tail _ (.tail _ (.tail _ (.head _))))) (News.fresh kN_q (.tail _ (.tail _ (.head _)))) (News.fresh kN_q (.tail _ (.tail _ (.tail _ (.head _))))) (by assumption) (by omega) ?_); intro h'_q tk'_q t'_q u3'_q hk'_q e1'_q e2'_q; (have F'_q := fr_read kF_q kN_q hk'_q); (have N'_q := news_read kN_q hk'_q e1'_q e2'_q (by assumption) (by assumption)); clear kF_q kN_q hk'_q e1'_q e2'_q; (try dsimp only)))
  trivial
/-- what stands at the head of a turn behind the last word -/
noncomputable def RdE (s : Shared) (w : World) (g₀ : Heap) (L' lx ld io dx q1 q2 : Nat) (ts : Nat → Tok) (n : Nat) (l : List Nat) (a1 a2 a3 : Int) (t1 t2 t3 u1 u2 : Tok) (n' : Nat) (s' : Shared) : Prop :=
  ∃ (r : List Nat) (h : Heap) (tk : Nat) (m : Str → Option Value) (e : Str) (te sv tv : Tok) (p' : Nat) (u3' : Tok), s' = { s with heap := h, toks := tk } ∧ n' = r.length ∧ (∀ c ∈ r, c = 32 ∨ c = 9) ∧ l.drop p' = r ∧ p' ≤ l.length ∧
    Fr g₀ L' h (lexM lx false e te m) ∧ News g₀ L' h [(lx, instObj 788 ld), (ld, dictOf (lexEs w ts io q1 q2 (.str (Str.ofString " ") sv) (.str (S []) tv)) 19), (io, instObj 653 dx), (dx, dictOf (ioEs a1 a2 a3 t1 t2 t3 u1 u2 u3' (S l) (p' : Int)) n)]
theorem c_readeof {lx ld io dx q1 q2 : Addr} {ts : Nat → Tok} {st0 tv0 : Tok} {n : Nat} {l : List Nat} {p : Nat} {a1 a2 a3 : Int} {t1 t2 t3 u1 u2 u3 : Tok} (hws : ∀ c ∈ l.drop p, c = 32 ∨ c = 9)
    (g : G w mean mg mb hT s.heap) (hd : dp + 60 < recursionLimit) (hu : un + 300 < cLine)
    (h1 : s.heap.get? lx = some (instObj 788 ld)) (h2 : s.heap.get? ld = some (dictOf (lexEs w ts io q1 q2 (.str (Str.ofString " ") st0) (.str (S []) tv0)) 19))
    (h3 : s.heap.get? io = some (instObj 653 dx)) (h4 : s.heap.get? dx = some (dictOf (ioEs a1 a2 a3 t1 t2 t3 u1 u2 u3 (S l) (p : Int)) n)) (k1 : hT.get? lx = none) (k2 : hT.get? ld = none) (k3 : hT.get? io = none) (k4 : hT.get? dx = none)
    (hne : dx ≠ io) (n1 : lx ∉ [io, dx]) (n2 : ld ∉ [io, dx]) (n3 : ld ≠ lx) (hp : p ≤ l.length) (hl : l.length < 100000)
    (hq : ∀ h' tk' u3' p', KB [lx, ld, io, dx] s.heap h' → h'.get? lx = some (instObj 788 ld) → h'.get? io = some (instObj 653 dx) → h'.get? dx = some (dictOf (ioEs a1 a2 a3 t1 t2 t3 u1 u2 u3' (S l) (p' : Int)) n) →
      (∃ sv tv, h'.get? ld = some (dictOf (lexEs w ts io q1 q2 sv tv) 19)) → Q .none { s with heap := h', toks := tk' }) :
    wpAny (model PR w) (AA dp un fr gd) (call (.ref 756) [.ref lx]) Q E s := by
  have hO := objs4 h1 h2 h3 h4 k1 k2 k3 k4
  refine wpAny_call ?_
  refine enterD [(Str.ofString "self", .ref lx)] _ g hO (by k_is) (by k_is) (by show dp < _; omega) (BindsTo.of_eq rfl) (locs rfl) rfl rfl rfl (by decide) ?_
  intro g₀ L' h₁ X T F N hlt' hkb hfr
  obtain ⟨m1, m2, m3, m4⟩ : lx ≠ io ∧ lx ≠ dx ∧ ld ≠ io ∧ ld ≠ dx := by
    simp only [List.mem_cons, List.not_mem_nil, or_false, not_or] at n1 n2
    exact ⟨n1.1, n1.2, n2.1, n2.2⟩
  replace m1 := neN m1
  replace m2 := neN m2
  replace m3 := neN m3
  replace m4 := neN m4
  have m5 := neN n3
  have m6 := neN hne
  try dsimp only
  repeat' ((fail_if_success (with_reducible show wpAny _ _ (exec (Stmt.While _ _ _ _) _) _ _ _)); (first | (k_unfold; (try dsimp only)) | walk1 | (dsimp only; walk1) | fail "no step"))
  rename Fr _ _ _ _ => F9
  rename News _ _ _ _ => N9
  refine wpAny_While (while_loop (RdE s w g₀ L' lx ld io dx q1 q2 ts n l a1 a2 a3 t1 t2 t3 u1 u2) ?_ (l.drop p).length ⟨_, _, _, _, _, _, _, _, p, _, rfl, rfl, hws, rfl, hp, fr_lexM F9 rfl rfl rfl, N9⟩)
  clear F9 N9
  rintro n' s' ⟨r, h, tk, m, e, te, sv, tv, p', u3', rfl, rfl, hws', hdr, hp', F, N⟩ T X hT hB
  cases r with
  | nil =>
    repeat' (first | (k_unfold; (try dsimp only)) | walk1 | (dsimp only; walk1) | fail "no step")
    refine hB _ ?_
    dsimp only
    repeat' (first | (k_unfold; (try dsimp only)) | walk1 | (dsimp only; walk1) | fail "no step")
    all_goals ((rename Fr _ _ _ _ => F9; rename News _ _ _ _ => N9); exact hq _ _ _ p' (hkb _ F9.keep) (N9 _ (.head _)).1 (N9 _ (.tail _ (.tail _ (.head _)))).1 (N9 _ (.tail _ (.tail _ (.tail _ (.head _))))).1 ⟨_, _, (N9 _ (.tail _ (.head _))).1⟩)
  | cons c r' =>
    have h1 := hws' c (.head _)
    repeat' (first | (k_unfold; (try dsimp only)) | walk1 | (dsimp only; walk1) | fail "no step")
    all_goals ((rename Fr _ _ _ _ => F9; rename News _ _ _ _ => N9); exact (hT _ ⟨_, Nat.lt_succ_self _, _, _, _, _, _, _, _, _, p' + 1, _, rfl, rfl, (fun c hc => hws' c (.tail _ hc)), (drop_next hdr).1, (drop_next hdr).2, fr_lexM F9 rfl rfl rfl, N9⟩).2)
end
end Mine
end
theorem Mine.lnEndTokn3 : True := by
  k_with_none
  trivial
section
open PySem PySem.W PyProof.Rows PySem.Calls PySem.Spec
set_option maxRecDepth 100000
set_option maxHeartbeats 0
namespace Mine
section
variable {w : World} {mean : ExcName → Option Value} {mg mb : Str → Option Value} {hT : Heap} {dp un : Nat} {fr : Option (List Env)} {gd : Option (List Code)} {s : Shared} {Q E : Value → Shared → Prop} {M : Model} {h : Heap}
theorem objs6 {s hT : Heap} {a b c d e f : Addr} {o o' o'' o''' p p' : Obj} (h1 : s.get? a = some o) (h2 : s.get? b = some o') (h3 : s.get? c = some o'') (h4 : s.get? d = some o''') (h5 : s.get? e = some p) (h6 : s.get? f = some p') (k1 : hT.get? a = none) (k2 : hT.get? b = none) (k3 : hT.get? c = none) (k4 : hT.get? d = none) (k5 : hT.get? e = none) (k6 : hT.get? f = none) :
    ∀ q ∈ [(a, o), (b, o'), (c, o''), (d, o'''), (e, p), (f, p')], s.get? q.1 = some q.2 ∧ hT.get? q.1 = none := by
  intro q hq
  simp only [List.mem_cons, List.not_mem_nil, or_false] at hq
  rcases hq with rfl | rfl | rfl | rfl | rfl | rfl
  · exact ⟨h1, k1⟩
  · exact ⟨h2, k2⟩
  · exact ⟨h3, k3⟩
  · exact ⟨h4, k4⟩
  · exact ⟨h5, k5⟩
  · exact ⟨h6, k6⟩
theorem ne_obj {h : Heap} {a b : Addr} {o o' : Obj} (e : h.get? a = some o) (e' : h.get? b = some o') (n : o ≠ o') : a ≠ b := by
  rintro rfl
  rw [e] at e'
  exact n (Option.some.inj e')
theorem fr_get {h₀ h h' : Heap} {L lx ld io dx : Addr} {o1 o2 o3 o4 : Obj} {r : List (Addr × Obj)} {m : Str → Option Value} (F : Fr h₀ L h m) (N : News h₀ L h ((lx, o1) :: (ld, o2) :: (io, o3) :: (dx, o4) :: r)) (k : KB [lx, ld, io, dx] h h') : Fr h₀ L h' m := by
  refine Fr.kb F k (fun q => ?_) fun a ha => ?_
  · simp only [List.mem_cons, List.not_mem_nil, or_false] at q
    rcases q with rfl | rfl | rfl | rfl
    · exact (N _ (.head _)).2.1 rfl
    · exact (N _ (.tail _ (.head _))).2.1 rfl
    · exact (N _ (.tail _ (.tail _ (.head _)))).2.1 rfl
    · exact (N _ (.tail _ (.tail _ (.tail _ (.head _))))).2.1 rfl
  · simp only [List.mem_cons, List.not_mem_nil, or_false] at ha
    rcases ha with rfl | rfl | rfl | rfl
    · exact (N _ (.head _)).2.2
    · exact (N _ (.tail _ (.head _))).2.2
    · exact (N _ (.tail _ (.tail _ (.head _)))).2.2
    · exact (N _ (.tail _ (.tail _ (.tail _ (.head _))))).2.2
theorem news_get {h₀ h h' : Heap} {L lx ld io dx q1 q2 : Addr} {o1 o2 o3 o4 o5 o6 o1' o2' o3' o4' : Obj} (N : News h₀ L h [(lx, o1), (ld, o2), (io, o3), (dx, o4), (q1, o5), (q2, o6)]) (k : KB [lx, ld, io, dx] h h') (e1 : h'.get? lx = some o1') (e2 : h'.get? ld = some o2') (e3 : h'.get? io = some o3') (e4 : h'.get? dx = some o4')
    (n1 : q1 ∉ [lx, ld, io, dx]) (n2 : q2 ∉ [lx, ld, io, dx]) : News h₀ L h' [(lx, o1'), (ld, o2'), (io, o3'), (dx, o4'), (q1, o5), (q2, o6)] := by
  intro q hq
  simp only [List.mem_cons, List.not_mem_nil, or_false] at hq
  rcases hq with rfl | rfl | rfl | rfl | rfl | rfl
  · exact ⟨e1, (N _ (.head _)).2⟩
  · exact ⟨e2, (N _ (.tail _ (.head _))).2⟩
  · exact ⟨e3, (N _ (.tail _ (.tail _ (.head _)))).2⟩
  · exact ⟨e4, (N _ (.tail _ (.tail _ (.tail _ (.head _))))).2⟩
  · exact ⟨k _ _ n1 (N _ (.tail _ (.tail _ (.tail _ (.tail _ (.head _)))))).1, (N _ (.tail _ (.tail _ (.tail _ (.tail _ (.head _)))))).2⟩
  · exact ⟨k _ _ n2 (N _ (.tail _ (.tail _ (.tail _ (.tail _ (.tail _ (.head _))))))).1, (N _ (.tail _ (.tail _ (.tail _ (.tail _ (.tail _ (.head _))))))).2⟩
theorem lnGet1 : True := by
  k_with_none
  k_with "ar" => (((try dsimp only [AA, Around.deeper, Around.in1]); omega))
  k_with "om" => (with_reducible first | assumption | exact Ne.symm (by assumption) | exact Mine.up0 (by assumption) | exact Mine.up1 (by assumption) rfl | exact Mine.up2 (by assumption) rfl | exact Mine.up3 (by assumption) rfl | fail)
  trivial
theorem lnGet2 : True := by
  k_with "truthy ref" => ((k_here; (with_reducible rename Fr _ _ _ _ => kF_q); (with_reducible rename News _ _ _ _ => kN_q); k_dflt (first | refine dq_truthy (News.get kN_q (.tail _ (.tail _ (.tail _ (.tail _ (.head _)))))) ?_ | refine dq_truthy (News.get kN_q (.tail _ (.tail _ (.tail _ (.tail _ (.tail _ (.head _))))))) ?_); (try dsimp only)))
  k_with "exec If" => (with_reducible refine wpAny_If ?_)
  k_with "exec While Compare cons nil" => walk_at "last exec While"
  trivial
theorem c_gettok {lx ld io dx q1 q2 : Addr} {ts : Nat → Tok} {st0 tv0 : Tok} {n : Nat} {l : List Nat} {p : Nat} {a1 a2 a3 : Int} {t1 t2 t3 u1 u2 u3 : Tok} {word rest : List Nat} (hlex : Lex .ws [] false (l.drop p) word rest)
    (g : G w mean mg mb hT s.heap) (hd : dp + 80 < recursionLimit) (hu : un + 400 < cLine)
    (h1 : s.heap.get? lx = some (instObj 788 ld)) (h2 : s.heap.get? ld = some (dictOf (lexEs w ts io q1 q2 (.str (Str.ofString " ") st0) (.str (S []) tv0)) 19))
    (h3 : s.heap.get? io = some (instObj 653 dx)) (h4 : s.heap.get? dx = some (dictOf (ioEs a1 a2 a3 t1 t2 t3 u1 u2 u3 (S l) (p : Int)) n)) (h5 : s.heap.get? q1 = some dqObj) (h6 : s.heap.get? q2 = some dqObj)
    (k1 : hT.get? lx = none) (k2 : hT.get? ld = none) (k3 : hT.get? io = none) (k4 : hT.get? dx = none) (k5 : hT.get? q1 = none) (k6 : hT.get? q2 = none)
    (hne : dx ≠ io) (n1 : lx ∉ [io, dx]) (n2 : ld ∉ [io, dx]) (n3 : ld ≠ lx) (hp : p ≤ l.length) (hl : l.length < 100000)
    (hq : ∀ h' tk' t' p' u3', KB [lx, ld, io, dx, q1, q2] s.heap h' → h'.get? lx = some (instObj 788 ld) → h'.get? io = some (instObj 653 dx) → p' ≤ l.length → l.drop p' = rest → h'.get? dx = some (dictOf (ioEs a1 a2 a3 t1 t2 t3 u1 u2 u3' (S l) (p' : Int)) n) →
      (∃ sv tv, h'.get? ld = some (dictOf (lexEs w ts io q1 q2 sv tv) 19)) → Q (.str (S word) t') { s with heap := h', toks := tk' }) :
    wpAny (model PR w) (AA dp un fr gd) (call (.ref 749) [.ref lx]) Q E s := by
  have hO := objs6 h1 h2 h3 h4 h5 h6 k1 k2 k3 k4 k5 k6
  refine wpAny_call ?_
  refine enterD [(Str.ofString "self", .ref lx)] _ g hO (by k_is) (by k_is) (by show dp < _; omega) (BindsTo.of_eq rfl) (locs rfl) rfl rfl rfl (by decide) ?_
  intro g₀ L' h₁ X T F N hlt' hkb hfr
  try dsimp only
  repeat' ((fail_if_success (with_reducible show wpAny _ _ (call (.ref 756) _ _) _ _ _)); (first | (k_unfold; (try dsimp only)) | walk1 | (dsimp only; walk1) | fail "no step"))
  rename Fr _ _ _ _ => F9
  rename News _ _ _ _ => N9
  dsimp only [List.append_nil, List.append]
  refine c_readtok hlex (G.of F9 X T) (by walk_at "ar") (by walk_at "ar") (News.get N9 (.head _)) (News.get N9 (.tail _ (.head _))) (News.get N9 (.tail _ (.tail _ (.head _)))) (News.get N9 (.tail _ (.tail _ (.tail _ (.head _)))))
    (News.fresh N9 (.head _)) (News.fresh N9 (.tail _ (.head _))) (News.fresh N9 (.tail _ (.tail _ (.head _)))) (News.fresh N9 (.tail _ (.tail _ (.tail _ (.head _))))) hne n1 n2 n3 hp hl ?_
  rintro h' tk' t' p' u3' hk' e1 e3 hp' hrest e4 ⟨sv, tv, e2⟩
  have m1 : q1 ∉ [lx, ld, io, dx] := by
    simp only [List.mem_cons, List.not_mem_nil, or_false, not_or]
    exact ⟨ne_obj h5 h1 (by intro e; cases e), ne_obj h5 h2 (by intro e; injection e with e _; injection e with e; exact absurd e (by decide)), ne_obj h5 h3 (by intro e; cases e), ne_obj h5 h4 (by intro e; injection e with e _; injection e with e; exact absurd e (by decide))⟩
  have m2 : q2 ∉ [lx, ld, io, dx] := by
    simp only [List.mem_cons, List.not_mem_nil, or_false, not_or]
    exact ⟨ne_obj h6 h1 (by intro e; cases e), ne_obj h6 h2 (by intro e; injection e with e _; injection e with e; exact absurd e (by decide)), ne_obj h6 h3 (by intro e; cases e), ne_obj h6 h4 (by intro e; injection e with e _; injection e with e; exact absurd e (by decide))⟩
  have F' := fr_get F9 N9 hk'
  have N' := news_get N9 hk' e1 e2 e3 e4 m1 m2
  clear F9 N9 hk' e1 e2 e3 e4
  skip
  try dsimp only
  repeat' (first | (k_unfold; (try dsimp only)) | walk1 | (dsimp only; walk1) | fail "no step")
  rename Fr _ _ _ _ => F9
  rename News _ _ _ _ => N9
  exact hq _ _ _ p' _ (hkb _ F9.keep) (N9 _ (.head _)).1 (N9 _ (.tail _ (.tail _ (.head _)))).1 hp' hrest (N9 _ (.tail _ (.tail _ (.tail _ (.head _))))).1 ⟨_, _, (N9 _ (.tail _ (.head _))).1⟩
theorem c_geteof {lx ld io dx q1 q2 : Addr} {ts : Nat → Tok} {st0 tv0 : Tok} {n : Nat} {l : List Nat} {p : Nat} {a1 a2 a3 : Int} {t1 t2 t3 u1 u2 u3 : Tok} (hws : ∀ c ∈ l.drop p, c = 32 ∨ c = 9)
    (g : G w mean mg mb hT s.heap) (hd : dp + 80 < recursionLimit) (hu : un + 400 < cLine)
    (h1 : s.heap.get? lx = some (instObj 788 ld)) (h2 : s.heap.get? ld = some (dictOf (lexEs w ts io q1 q2 (.str (Str.ofString " ") st0) (.str (S []) tv0)) 19))
    (h3 : s.heap.get? io = some (instObj 653 dx)) (h4 : s.heap.get? dx = some (dictOf (ioEs a1 a2 a3 t1 t2 t3 u1 u2 u3 (S l) (p : Int)) n)) (h5 : s.heap.get? q1 = some dqObj) (h6 : s.heap.get? q2 = some dqObj)
    (k1 : hT.get? lx = none) (k2 : hT.get? ld = none) (k3 : hT.get? io = none) (k4 : hT.get? dx = none) (k5 : hT.get? q1 = none) (k6 : hT.get? q2 = none)
    (hne : dx ≠ io) (n1 : lx ∉ [io, dx]) (n2 : ld ∉ [io, dx]) (n3 : ld ≠ lx) (hp : p ≤ l.length) (hl : l.length < 100000)
    (hq : ∀ h' tk' p' u3', KB [lx, ld, io, dx, q1, q2] s.heap h' → h'.get? lx = some (instObj 788 ld) → h'.get? io = some (instObj 653 dx) → h'.get? dx = some (dictOf (ioEs a1 a2 a3 t1 t2 t3 u1 u2 u3' (S l) (p' : Int)) n) →
      (∃ sv tv, h'.get? ld = some (dictOf (lexEs w ts io q1 q2 sv tv) 19)) → Q .none { s with heap := h', toks := tk' }) :
    wpAny (model PR w) (AA dp un fr gd) (call (.ref 749) [.ref lx]) Q E s := by
  have hO := objs6 h1 h2 h3 h4 h5 h6 k1 k2 k3 k4 k5 k6
  refine wpAny_call ?_
  refine enterD [(Str.ofString "self", .ref lx)] _ g hO (by k_is) (by k_is) (by show dp < _; omega) (BindsTo.of_eq rfl) (locs rfl) rfl rfl rfl (by decide) ?_
  intro g₀ L' h₁ X T F N hlt' hkb hfr
  try dsimp only
  repeat' ((fail_if_success (with_reducible show wpAny _ _ (call (.ref 756) _ _) _ _ _)); (first | (k_unfold; (try dsimp only)) | walk1 | (dsimp only; walk1) | fail "no step"))
  rename Fr _ _ _ _ => F9
  rename News _ _ _ _ => N9
  dsimp only [List.append_nil, List.append]
  refine c_readeof hws (G.of F9 X T) (by walk_at "ar") (by walk_at "ar") (News.get N9 (.head _)) (News.get N9 (.tail _ (.head _))) (News.get N9 (.tail _ (.tail _ (.head _)))) (News.get N9 (.tail _ (.tail _ (.tail _ (.head _)))))
    (News.fresh N9 (.head _)) (News.fresh N9 (.tail _ (.head _))) (News.fresh N9 (.tail _ (.tail _ (.head _)))) (News.fresh N9 (.tail _ (.tail _ (.tail _ (.head _))))) hne n1 n2 n3 hp hl ?_
  rintro h' tk' u3' p' hk' e1 e3 e4 ⟨sv, tv, e2⟩
  have m1 : q1 ∉ [lx, ld, io, dx] := by
    simp only [List.mem_cons, List.not_mem_nil, or_false, not_or]
    exact ⟨ne_obj h5 h1 (by intro e; cases e), ne_obj h5 h2 (by intro e; injection e with e _; injection e with e; exact absurd e (by decide)), ne_obj h5 h3 (by intro e; cases e), ne_obj h5 h4 (by intro e; injection e with e _; injection e with e; exact absurd e (by decide))⟩
  have m2 : q2 ∉ [lx, ld, io, dx] := by
    simp only [List.mem_cons, List.not_mem_nil, or_false, not_or]
    exact ⟨ne_obj h6 h1 (by intro e; cases e), ne_obj h6 h2 (by intro e; injection e with e _; injection e with e; exact absurd e (by decide)), ne_obj h6 h3 (by intro e; cases e), ne_obj h6 h4 (by intro e; injection e with e _; injection e with e; exact absurd e (by decide))⟩
  have F' := fr_get F9 N9 hk'
  have N' := news_get N9 hk' e1 e2 e3 e4 m1 m2
  clear F9 N9 hk' e1 e2 e3 e4
  skip
  try dsimp only
  repeat' (first | (k_unfold; (try dsimp only)) | walk1 | (dsimp only; walk1) | fail "no step")
  rename Fr _ _ _ _ => F9
  rename News _ _ _ _ => N9
  exact hq _ _ p' _ (hkb _ F9.keep) (N9 _ (.head _)).1 (N9 _ (.tail _ (.tail _ (.head _)))).1 (N9 _ (.tail _ (.tail _ (.tail _ (.head _))))).1 ⟨_, _, (N9 _ (.tail _ (.head _))).1⟩
end
end Mine
end
theorem Mine.lnEndGet : True := by
  k_with_none
  trivial
section
open PySem PySem.W PyProof.Rows PySem.Calls PySem.Spec
set_option maxRecDepth 100000
namespace Mine
section
variable {prog : Program} {w : World} {A : Around} {E : Value → Shared → Prop} {s : Shared} {h₀ : Heap} {env : Env} {x : Str} {body : List Stmt} {Q : Flow → Shared → Prop}
/-- what a turn must leave -/
noncomputable def TurnEnd (h₀ : Heap) (L I : Addr) (oI : Obj) (J : (Str → Option Value) → List (Addr × Obj) → Prop) (s₁ : Shared) (Q : Flow → Shared → Prop) (f : Flow) (s₂ : Shared) : Prop :=
  match f with
  | .ret v => Q (.ret v) s₂
  | .brk => Q .next s₂
  | _ => ∃ h' tk m' news', s₂ = { s₁ with heap := h', toks := tk } ∧ Fr h₀ L h' m' ∧ News h₀ L h' ((I, oI) :: news') ∧ (∀ p ∈ news', p.1 ≠ I) ∧ J m' news'
/-- a value whose iterator is one new object -/
noncomputable def OneIt (prog : Program) (w : World) (xv : Value) (s : Shared) (n : Nat) (P : Nat → Value → Prop) : Prop :=
  ∀ (A : Around) (E Q : Value → Shared → Prop), (∀ (o : Obj) (St : Nat → Heap → Prop), (∀ A' : Around, A'.handled = none → Walks prog w A' s.heap.objs.size [s.heap.objs.size] [s.heap.objs.size] n P St) → (∀ i h, St i h → ∃ o, h.get? s.heap.objs.size = some o) → St 0 (s.heap.push o) →
      Q (.ref s.heap.objs.size) { s with heap := s.heap.push o }) → wpAny (model prog w) A (pyIter xv) Q E s
theorem oneIt_str {y : Str} {t : Tok} : OneIt prog w (.str y t) s y.cps.size (SignAt y) := by
  intro A E Q hQ
  cases ha : y.cps.all (· < 128)
  · exact wpAny_pyIter_wide ha (hQ _ _ (fun A' hA => Walks.strWide hA _ y t) (fun i h st => by obtain ⟨o, e, _⟩ := st; exact ⟨o, e⟩) ⟨_, Heap.get?_push_size _ rfl, rfl, rfl⟩)
  · exact wpAny_pyIter_ascii ha (hQ _ _ (fun A' hA => Walks.strAscii hA _ y t) (fun i h st => by obtain ⟨o, e, _⟩ := st; exact ⟨o, e⟩) ⟨_, Heap.get?_push_size _ rfl, rfl, rfl⟩)
noncomputable def OneSrc (prog : Program) (w : World) (A : Around) (h₀ : Heap) (env : Env) (x : Str) (body : List Stmt) (Q : Flow → Shared → Prop) (E : Value → Shared → Prop) (xv : Value) (s₁ : Shared) : Prop :=
  ∃ (n : Nat) (P : Nat → Value → Prop) (m : Str → Option Value) (news : List (Addr × Obj)) (J : Nat → (Str → Option Value) → List (Addr × Obj) → Prop),
    OneIt prog w xv s₁ n P ∧ Fr h₀ env.locals s₁.heap m ∧ News h₀ env.locals s₁.heap news ∧ J 0 m news ∧
    (∀ i v m₁ news₁ I oI h tk, i < n → P i v → J i m₁ news₁ → (∀ p ∈ news₁, p.1 ≠ I) → Fr h₀ env.locals h (fun y => if y = x then some v else m₁ y) → News h₀ env.locals h ((I, oI) :: news₁) →
      wpAny (model prog w) A (execs body env) (TurnEnd h₀ env.locals I oI (J (i + 1)) { s₁ with heap := h, toks := tk } Q) E { s₁ with heap := h, toks := tk }) ∧
    ∀ h' tk m' news', Fr h₀ env.locals h' m' → News h₀ env.locals h' news' → J n m' news' → Q .next { s₁ with heap := h', toks := tk }
theorem for_one {px pos : Pos} {iter : Expr} (hh : A.handled = none) (hx : env.kindOf x = some .local) (hp : (env.scope.kind == .class || (env.scope.kind == .module && env.locals != env.globals)) = false)
    (h : wpAny (model prog w) A (eval iter env) (OneSrc prog w A h₀ env x body Q E) E s)
    (hs : ∀ x, foldedSetIterable iter env x = pure x := by intro _; rfl)
    (hE : PassesOwn (model prog w) A env E := by passes_own) :
    wpAny (model prog w) A (exec (.For (.Name x px) iter body [] pos) env) Q E s := by
  refine For_invV h₀ hx hp (wpAny_mono h (fun xv s₁ h₁ => ?_) fun _ _ e => e) hs hE
  obtain ⟨n, P, m, news, J, hit, F, N, h0, step, done⟩ := h₁
  refine hit A E _ fun o St W live st0 => ?_
  have f1 : s₁.heap.get? s₁.heap.objs.size = none := by
    cases q : s₁.heap.get? s₁.heap.objs.size with
    | none => rfl
    | some o => exact absurd (Heap.lt_size q) (Nat.lt_irrefl _)
  have off := fresh_off F f1
  refine ⟨s₁.heap.objs.size, _, _, n, P, St, m, news, J, rfl, W A hh, fun q => off.1 (List.mem_singleton.mp q).symm, fun b hb => ?_, fun p hp q => ?_, st0, F.keeps fun _ _ e => Heap.get?_push_of_some _ e, News.grown N fun _ _ e => Heap.get?_push_of_some _ e, h0, ?_, fun h' tk m' news' F' N' _ hJ => done h' tk m' news' F' N' hJ⟩
  · rw [List.mem_singleton.mp hb]; exact off.2
  · have e := (N p hp).1
    rw [List.mem_singleton.mp q, f1] at e; cases e
  · rintro i v m₁ news₁ s₂ own ⟨h, tk, rfl⟩ hi hP hJ hoff hsub hown hmem hst F₁ N₁
    obtain ⟨oI, hI⟩ := live _ _ hst
    have hin : (s₁.heap.objs.size, oI) ∈ own := hmem _ (List.mem_singleton.mpr rfl) off.2 _ hI
    refine wpAny_mono (step i v m₁ news₁ s₁.heap.objs.size oI h tk hi hP hJ (fun p hp e => hoff p hp (List.mem_singleton.mpr e)) F₁ (fun p hp => ?_)) (fun f s₃ h₃ => ?_) fun _ _ e => e
    · rcases List.mem_cons.mp hp with rfl | hp
      · exact N₁ _ (List.mem_append_left _ hin)
      · exact N₁ _ (List.mem_append_right _ hp)
    · have key : (∃ h' tk' m' news', s₃ = { s₁ with heap := h', toks := tk' } ∧ Fr h₀ env.locals h' m' ∧ News h₀ env.locals h' ((s₁.heap.objs.size, oI) :: news') ∧ (∀ p ∈ news', p.1 ≠ s₁.heap.objs.size) ∧ J (i + 1) m' news') →
          LoopStepU h₀ env.locals [s₁.heap.objs.size] own (J (i + 1)) { s₁ with heap := h, toks := tk } .next s₃ := by
        rintro ⟨h', tk', m', news', rfl, F', N', ho', hJ'⟩
        refine ⟨rfl, h', tk', m', news', rfl, F', fun p hp => ?_, fun p hp e => ho' p hp (List.mem_singleton.mp e), hJ'⟩
        rcases List.mem_append.mp hp with hp | hp
        · have e1 := List.mem_singleton.mp (hsub p hp)
          have e2 := hown p hp
          rw [e1] at e2
          have e3 : p.2 = oI := Option.some.inj (e2.symm.trans hI)
          have e4 : p = (s₁.heap.objs.size, oI) := Prod.ext e1 e3
          rw [e4]; exact N' _ (.head _)
        · exact N' _ (.tail _ hp)
      cases f with
      | ret v => exact h₃
      | brk => exact h₃
      | cont => exact key h₃
      | next => exact key h₃
noncomputable def TurnEndB (h₀ : Heap) (L I : Addr) (oI : Obj) (J Fin : (Str → Option Value) → List (Addr × Obj) → Prop) (s₁ : Shared) (Q : Flow → Shared → Prop) (f : Flow) (s₂ : Shared) : Prop :=
  match f with
  | .ret v => Q (.ret v) s₂
  | .brk => ∃ h' tk m' news', s₂ = { s₁ with heap := h', toks := tk } ∧ Fr h₀ L h' m' ∧ News h₀ L h' news' ∧ Fin m' news'
  | _ => ∃ h' tk m' news', s₂ = { s₁ with heap := h', toks := tk } ∧ Fr h₀ L h' m' ∧ News h₀ L h' ((I, oI) :: news') ∧ (∀ p ∈ news', p.1 ≠ I) ∧ J m' news'
theorem OneSrc.fin {xv : Value} {s₁ : Shared} {n : Nat} {P : Nat → Value → Prop} {m : Str → Option Value} {news : List (Addr × Obj)} (J : Nat → (Str → Option Value) → List (Addr × Obj) → Prop) (Fin : (Str → Option Value) → List (Addr × Obj) → Prop)
    (hit : OneIt prog w xv s₁ n P) (F : Fr h₀ env.locals s₁.heap m) (N : News h₀ env.locals s₁.heap news) (h0 : J 0 m news)
    (step : ∀ i v m₁ news₁ I oI h tk, i < n → P i v → J i m₁ news₁ → (∀ p ∈ news₁, p.1 ≠ I) → Fr h₀ env.locals h (fun y => if y = x then some v else m₁ y) → News h₀ env.locals h ((I, oI) :: news₁) →
      wpAny (model prog w) A (execs body env) (TurnEndB h₀ env.locals I oI (J (i + 1)) Fin { s₁ with heap := h, toks := tk } Q) E { s₁ with heap := h, toks := tk })
    (hJ : ∀ m news, J n m news → Fin m news)
    (done : ∀ h' tk m' news', Fr h₀ env.locals h' m' → News h₀ env.locals h' news' → Fin m' news' → Q .next { s₁ with heap := h', toks := tk }) : OneSrc prog w A h₀ env x body Q E xv s₁ := by
  refine ⟨n, P, m, news, J, hit, F, N, h0, fun i v m₁ news₁ I oI h tk hi hP hj ho F₁ N₁ => ?_, fun h' tk m' news' F' N' hj => done h' tk m' news' F' N' (hJ _ _ hj)⟩
  refine wpAny_mono (step i v m₁ news₁ I oI h tk hi hP hj ho F₁ N₁) (fun f s₃ h₃ => ?_) fun _ _ e => e
  cases f with
  | ret v => exact h₃
  | brk =>
    obtain ⟨h', tk', m', news', rfl, F', N', hf⟩ := h₃
    exact done h' tk' m' news' F' N' hf
  | cont => exact h₃
  | next => exact h₃
end
end Mine
end
section
open PySem PySem.W PyProof.Rows PySem.Calls PySem.Spec
set_option maxRecDepth 100000
set_option maxHeartbeats 0
namespace Mine
section
variable {w : World} {mean : ExcName → Option Value} {mg mb : Str → Option Value} {hT : Heap} {dp un : Nat} {fr : Option (List Env)} {gd : Option (List Code)} {s : Shared} {Q E : Value → Shared → Prop} {M : Model} {h : Heap}
noncomputable abbrev set1 (k : Str) (v : Value) (m : Str → Option Value) : Str → Option Value := fun y => if y = k then some v else m y
theorem set1_same {k : Str} {v : Value} {m : Str → Option Value} (h : m k = some v) : set1 k v m = m := by
  funext y
  unfold set1
  split
  · rename_i e; rw [e, h]
  · rfl
theorem news_drop2 {g h : Heap} {L : Addr} {a b : Addr × Obj} {r : List (Addr × Obj)} (N : News g L h (a :: b :: r)) : News g L h (a :: r) := fun p hp => N p (by
  rcases List.mem_cons.mp hp with rfl | hp
  · exact .head _
  · exact .tail _ (.tail _ hp))
theorem news_list {g h : Heap} {L C : Addr} {news : List (Addr × Obj)} {vs : List Value} {e : Nat} (N : News g L h news) (hm : (C, W.listOf vs.toArray e) ∈ news) : h.IsList C vs.toArray := ⟨_, (N _ hm).1, rfl, _, rfl⟩
theorem len_led {g : Heap} {L C : Addr} {prog : Program} {A : Around} {news : List (Addr × Obj)} {vs : List Value} {e : Nat} (N : News g L s.heap news) (hm : (C, W.listOf vs.toArray e) ∈ news) (hl : vs.length < 1000000)
    (h : Q (.int (vs.length : Int) (s.toks + 1)) { s with toks := s.toks + 1 + 1 }) : wpAny (model prog w) A (call (.builtin "len") [.ref C]) Q E s :=
  PyProof.Rows.len_list (news_list N hm) (by simp only [List.size_toArray]; omega) (by simpa only [List.size_toArray] using h)
theorem litTab : Str.ofString "\t" = S [9] := by decide +kernel
noncomputable abbrev wsM (wx C : Addr) (b n nt : Nat) (tS tT tb tn tt : Tok) (m : Str → Option Value) : Str → Option Value :=
  set1 (Str.ofString "self") (.ref wx) (set1 (Str.ofString "count") (.ref C) (set1 (Str.ofString "S") (.str (Str.ofString " ") tS) (set1 (Str.ofString "T") (.str (Str.ofString "\t") tT) (set1 (Str.ofString "b") (.int (b : Int) tb) (set1 (Str.ofString "n") (.int (n : Int) tn) (set1 (Str.ofString "nt") (.int (nt : Int) tt) m))))))
theorem fr_wsM {g h : Heap} {L wx C : Addr} {b n nt : Nat} {tS tT tb tn tt : Tok} {m : Str → Option Value} (F : Fr g L h m) (h1 : m (Str.ofString "self") = some (.ref wx)) (h2 : m (Str.ofString "count") = some (.ref C)) (h3 : m (Str.ofString "S") = some (.str (Str.ofString " ") tS)) (h4 : m (Str.ofString "T") = some (.str (Str.ofString "\t") tT))
    (h5 : m (Str.ofString "b") = some (.int (b : Int) tb)) (h6 : m (Str.ofString "n") = some (.int (n : Int) tn)) (h7 : m (Str.ofString "nt") = some (.int (nt : Int) tt)) : m = wsM wx C b n nt tS tT tb tn tt m := by
  unfold wsM
  rw [set1_same h7, set1_same h6, set1_same h5, set1_same h4, set1_same h3, set1_same h2, set1_same h1]
noncomputable abbrev tupOf (its : Array Value) : Obj := { cls := .type "tuple", data := .seq its }
noncomputable abbrev wsEs (w : World) (ts : Nat → Tok) (raw : Value) (n nt : Nat) (nm : Addr) (bs : Bool) : List DictEntry :=
  [⟨PyData.keyHash w.params (Str.ofString "raw"), .str (Str.ofString "raw") (ts 0), raw⟩,
   ⟨PyData.keyHash w.params (Str.ofString "n"), .str (Str.ofString "n") (ts 1), .int (n : Int) (ts 5)⟩,
   ⟨PyData.keyHash w.params (Str.ofString "nt"), .str (Str.ofString "nt") (ts 2), .int (nt : Int) (ts 6)⟩,
   ⟨PyData.keyHash w.params (Str.ofString "norm"), .str (Str.ofString "norm") (ts 3), .ref nm⟩,
   ⟨PyData.keyHash w.params (Str.ofString "is_simple"), .str (Str.ofString "is_simple") (ts 4), .bool bs⟩]
noncomputable def WsJ (w : World) (wx wd : Addr) (l : List Nat) (t : Tok) (ww : Ws) (m : Str → Option Value) (news : List (Addr × Obj)) : Prop :=
  ∃ (vs : List Value) (C : Addr) (e : Nat) (tS tT tb tn tt tr : Tok), IntsAre vs ww.cnt ∧ m = wsM wx C ww.b ww.n ww.nt tS tT tb tn tt m ∧
    news = [(C, W.listOf vs.toArray e), (wx, instObj 101 wd), (wd, dictOf [⟨PyData.keyHash w.params (Str.ofString "raw"), .str (Str.ofString "raw") tr, .str (S l) t⟩] 1)] ∧ (@LT.lt Nat _ wx C) ∧ (@LT.lt Nat _ wd C)
theorem flat_rep (k : Nat) : (List.replicate k [(0 : Int)]).flatten = List.replicate k 0 := by
  induction k with
  | zero => rfl
  | succ k ih => rw [List.replicate_succ, List.flatten_cons, ih, List.replicate_succ]; rfl
theorem bump_grow {cnt : List Int} {b : Nat} {vs : List Value} (hv : vs.length = cnt.length) (h : cnt.length ≤ b) :
    (cnt ++ (List.replicate ((b : Int) - (vs.length : Int) + 1).toNat [(0 : Int)]).flatten).set (b : Int).toNat ((cnt ++ (List.replicate ((b : Int) - (vs.length : Int) + 1).toNat [(0 : Int)]).flatten).getD (b : Int).toNat 0 + 1) = bump cnt b := by
  have e : ((b : Int) - (vs.length : Int) + 1).toNat = b - cnt.length + 1 := by omega
  unfold bump
  rw [e, flat_rep, if_pos h, Int.toNat_natCast]
theorem bump_keep {cnt : List Int} {b : Nat} (h : ¬ cnt.length ≤ b) : cnt.set (b : Int).toNat (cnt.getD (b : Int).toNat 0 + 1) = bump cnt b := by
  unfold bump
  rw [if_neg h, Int.toNat_natCast]
theorem bump_len {cnt : List Int} {b i : Nat} (h1 : cnt.length ≤ i) (h2 : b ≤ i) : (bump cnt b).length ≤ i + 1 := by
  unfold bump
  split
  · simp; omega
  · simp; omega
theorem ne3 {a b c I : Nat} (h1 : a ≠ I) (h2 : b ≠ I) (h3 : c ≠ I) {o1 o2 o3 : Obj} : ∀ p ∈ [((a : Addr), o1), ((b : Addr), o2), ((c : Addr), o3)], p.1 ≠ I := by
  intro p hp
  simp only [List.mem_cons, List.not_mem_nil, or_false] at hp
  rcases hp with rfl | rfl | rfl
  · exact h1
  · exact h2
  · exact h3
theorem news_pick {g h : Heap} {L : Addr} {a b c i x y z : Addr × Obj} (N : News g L h [a, x, y, i, z, b, c]) : News g L h [i, a, b, c] := fun p hp => N p (by
  simp only [List.mem_cons, List.not_mem_nil, or_false] at hp ⊢
  rcases hp with rfl | rfl | rfl | rfl <;> simp)
theorem lnWs1 : True := by
  k_with_none
  k_with "ar" => (((try dsimp only [AA, Around.deeper, Around.in1]); omega))
  k_with "om" => (with_reducible first | assumption | exact Ne.symm (by assumption) | exact Mine.up0 (by assumption) | exact Mine.up1 (by assumption) rfl | exact Mine.up2 (by assumption) rfl | exact Mine.up3 (by assumption) rfl | fail)
  trivial
theorem lnWs2 : True := by
  k_with "exec If" => (with_reducible refine wpAny_If ?_)
  k_with "execs nil" => (with_reducible refine wpAny_execs_nil ?_)
  k_with "compareOp Eq str str" => (k_dflt (first | with_reducible refine eq_1 litSp ?_ | with_reducible refine eq_1 litTab ?_))
  k_with "ite" => (first | with_reducible refine ite_tt ?_ | with_reducible refine ite_ff ?_ | with_reducible refine ite_no (by omega) ?_ | with_reducible refine ite_yes (by omega) ?_)
  k_with "call builtin:len" => ((k_here; (with_reducible rename News _ _ _ _ => kN_q); k_dflt (refine len_led kN_q (by k_mem) (by omega) ?_)))
  k_with "call type:tuple" => ((k_here; (with_reducible rename Fr _ _ _ _ => kF_q); (with_reducible rename News _ _ _ _ => kN_q); k_dflt (refine kde_tupleOf kF_q kN_q (news_list kN_q (by k_mem)) (by simp only [List.size_toArray]; omega) (by rfl) ?_); intro D'_q h'_q F'_q N'_q l1_q; (try k_lt l1_q); clear kF_q kN_q; (try dsimp only)))
  trivial
theorem wsRun_len : ∀ (l : List Nat) (ww : Ws) (k : Nat), ww.cnt.length ≤ k → ww.b ≤ k → (wsRun l ww).cnt.length ≤ k + l.length
  | [], ww, k, h, _ => h
  | c :: r, ww, k, h, h' => by
    unfold wsRun
    split
    · have := wsRun_len r ⟨ww.cnt, ww.b + 1, ww.n + 1, ww.nt⟩ (k + 1) (by simp only; omega) (by simp only; omega)
      simp only [List.length_cons]; omega
    · split
      · have := wsRun_len r ⟨bump ww.cnt ww.b, 0, ww.n + 1, ww.nt + 1⟩ (k + 1) (bump_len h h') (by simp only; omega)
        simp only [List.length_cons]; omega
      · simp only [List.length_cons]; omega
theorem c_wsinit {R : Result → Shared → Prop} {wx wd : Addr} {l : List Nat} {t : Tok} (g : G w mean mg mb hT s.heap) (hd : dp + 60 < recursionLimit) (hu : un + 300 < cLine)
    (hl : l.length < 1000) (h1 : s.heap.get? wx = some (instObj 101 wd)) (h2 : s.heap.get? wd = some (dictOf [] 0)) (h3 : hT.get? wx = none) (h4 : hT.get? wd = none) (hlt : wd < wx)
    (hq : ∀ h' tk' ts vs nm ct t' bs, IntsAre vs (wsOf l).cnt → KB [wx, wd] s.heap h' → h'.get? wx = some (instObj 101 wd) → h'.get? wd = some (dictOf (wsEs w ts (.str (S l) t) (wsOf l).n (wsOf l).nt nm bs) 5) → h'.get? nm = some (tupOf #[.ref ct, .int ((wsOf l).b : Int) t']) → h'.get? ct = some (tupOf vs.toArray) →
      s.heap.get? nm = none → s.heap.get? ct = none → (@Ne Nat nm ct) → R (.ok (.ret .none)) { s with heap := h', toks := tk' }) :
    codeAny (model PR w) (AA dp un fr gd) (.call (.ref 56) ⟨[.ref wx, .str (S l) t], []⟩) R s := by
  have hO := objs2 h1 h2 h3 h4
  refine enterD [(Str.ofString "self", .ref wx), (Str.ofString "ws", .str (S l) t)] _ g hO (by k_is) (by k_is) (by show dp < _; omega) (BindsTo.of_eq rfl) (locs rfl) rfl rfl rfl (by decide) ?_
  intro g₀ L' h₁ X T F N hlt' hkb hfr
  have hi1 := ltN (hlt' _ (.head _))
  have hi2 := ltN (hlt' _ (.tail _ (.head _)))
  replace hlt := ltN hlt
  dsimp only at hi1 hi2
  repeat' ((fail_if_success (with_reducible show wpAny _ _ (exec (Stmt.For _ _ _ _ _) _) _ _ _)); (first | (k_unfold; (try dsimp only)) | walk1 | (dsimp only; walk1) | fail "no step"))
  rename Fr _ _ _ _ => F9
  rename News _ _ _ _ => N9
  refine for_one (h₀ := g₀) rfl (by rfl) (by rfl) ?_
  repeat' ((fail_if_success (with_reducible show OneSrc _ _ _ _ _ _ _ _ _ _ _)); (first | (k_unfold; (try dsimp only)) | walk1 | (dsimp only; walk1) | fail "no step"))
  rename Fr _ _ _ _ => F9
  rename News _ _ _ _ => N9
  refine OneSrc.fin (fun i m news => ∃ ww, wsRun (l.drop i) ww = wsOf l ∧ ww.b ≤ i ∧ ww.cnt.length ≤ i ∧ ww.n ≤ i ∧ ww.nt ≤ i ∧ WsJ w wx wd l t ww m news) (fun m news => WsJ w wx wd l t (wsOf l) m news) oneIt_str F9 (news_drop2 N9) ⟨ws0, rfl, Nat.le_refl _, Nat.le_refl _, Nat.le_refl _, Nat.le_refl _, [], _, _, _, _, _, _, _, _, .nil, fr_wsM F9 rfl rfl rfl rfl rfl rfl rfl, rfl, by omega, by omega⟩ ?_ ?_ ?_
  · rintro i v m₁ news₁ I oI h tk hi ⟨c, u, hc, rfl⟩ ⟨ww, hrun, hb1, hb2, hb3, hb4, vs, C, e, tS, tT, tb, tn, tt, tr, hvs, hm, rfl, l1, l2⟩ hoff F N
    rw [hm] at F
    have hI1 := neN (hoff _ (.head _))
    have hI2 := neN (hoff _ (.tail _ (.head _)))
    have hI3 := neN (hoff _ (.tail _ (.tail _ (.head _))))
    dsimp only at hI1 hI2 hI3
    have hdr : l.drop i = c :: l.drop (i + 1) := by
      have : l[i]? = some c := by simpa [S] using hc
      rw [List.getElem?_eq_some_iff] at this
      obtain ⟨hi', rfl⟩ := this
      exact List.drop_eq_getElem_cons hi'
    clear hm N9 F9
    rw [show (⟨#[c]⟩ : Str) = S [c] from rfl] at F
    have hil : i < l.length := by simpa [S] using hi
    have hvl := hvs.length
    by_cases c32 : c = 32
    · have hrun' : wsRun (l.drop (i + 1)) ⟨ww.cnt, ww.b + 1, ww.n + 1, ww.nt⟩ = wsOf l := by rw [← hrun, hdr, wsRun, if_pos c32]
      repeat' (first | (k_unfold; (try dsimp only)) | walk1 | (dsimp only; walk1) | fail "no step")
      rename Fr _ _ _ _ => F9
      rename News _ _ _ _ => N9
      exact ⟨_, _, _, _, rfl, F9, N9, hoff, _, hrun', Nat.succ_le_succ hb1, Nat.le_succ_of_le hb2, Nat.succ_le_succ hb3, Nat.le_succ_of_le hb4, vs, C, _, _, _, _, _, _, _, hvs, fr_wsM F9 rfl rfl rfl rfl rfl rfl rfl, rfl, l1, l2⟩
    by_cases c9 : c = 9
    · have hrun' : wsRun (l.drop (i + 1)) ⟨bump ww.cnt ww.b, 0, ww.n + 1, ww.nt + 1⟩ = wsOf l := by rw [← hrun, hdr, wsRun, if_neg c32, if_pos c9]
      by_cases hcb : ww.cnt.length ≤ ww.b
      · have hbg := bump_grow hvl hcb
        repeat' (first | (k_unfold; (try dsimp only)) | walk1 | (dsimp only; walk1) | fail "no step")
        rename Fr _ _ _ _ => F9
        rename News _ _ _ _ => N9
        rename IntsAre _ _ => I9
        rw [hbg] at I9
        exact ⟨_, _, _, _, rfl, F9, news_pick N9, ne3 (by omega) (by omega) (by omega), _, hrun', Nat.zero_le _, bump_len hb2 hb1, Nat.succ_le_succ hb3, Nat.succ_le_succ hb4, _, _, _, _, _, _, _, _, _, I9, fr_wsM F9 rfl rfl rfl rfl rfl rfl rfl, rfl, by omega, by omega⟩
      · have hbg := bump_keep hcb
        repeat' (first | (k_unfold; (try dsimp only)) | walk1 | (dsimp only; walk1) | fail "no step")
        rename Fr _ _ _ _ => F9
        rename News _ _ _ _ => N9
        rename IntsAre _ _ => I9
        rw [hbg] at I9
        exact ⟨_, _, _, _, rfl, F9, N9, ne3 (by omega) (by omega) (by omega), _, hrun', Nat.zero_le _, bump_len hb2 hb1, Nat.succ_le_succ hb3, Nat.succ_le_succ hb4, _, _, _, _, _, _, _, _, _, I9, fr_wsM F9 rfl rfl rfl rfl rfl rfl rfl, rfl, by omega, by omega⟩
    · have hrun' : ww = wsOf l := by rw [← hrun, hdr, wsRun, if_neg c32, if_neg c9]
      repeat' (first | (k_unfold; (try dsimp only)) | walk1 | (dsimp only; walk1) | fail "no step")
      rename Fr _ _ _ _ => F9
      rename News _ _ _ _ => N9
      subst hrun'
      exact ⟨_, _, _, _, rfl, F9, fun p hp => N9 p (.tail _ hp), vs, C, _, _, _, _, _, _, _, hvs, fr_wsM F9 rfl rfl rfl rfl rfl rfl rfl, rfl, l1, l2⟩
  · rintro m news ⟨ww, hrun, _, _, _, _, hj⟩
    have e : l.drop (S l).cps.size = [] := by rw [show (S l).cps.size = l.length by simp [S]]; exact List.drop_length
    rw [e] at hrun
    exact hrun ▸ hj
  · rintro h' tk m' news' F' N' ⟨vs, C, e, tS, tT, tb, tn, tt, tr, hvs, hm, rfl, l1, l2⟩
    rw [hm] at F'
    clear N9 F9 hm
    have hvl := hvs.length
    have hcl : (wsOf l).cnt.length < 1001 := by
      have := wsRun_len l ws0 0 (Nat.le_refl _) (Nat.le_refl _)
      unfold wsOf; omega
    repeat' (first | (k_unfold; (try dsimp only)) | walk1 | (dsimp only; walk1) | fail "no step")
    rename Fr _ _ _ _ => F9
    rename News _ _ _ _ => N9
    refine hq _ _ (fun i => [_, _, _, _, _, _, _].getD i 0) vs _ _ _ _ hvs (hkb _ F9.keep) (N9 _ (.tail _ (.tail _ (.tail _ (.head _))))).1 (N9 _ (.tail _ (.tail _ (.tail _ (.tail _ (.head _)))))).1 (N9 _ (.head _)).1 (N9 _ (.tail _ (.head _))).1 (hfr _ (N9 _ (.head _)).2.2 (nm2 ?_ ?_)) (hfr _ (N9 _ (.tail _ (.head _))).2.2 (nm2 ?_ ?_)) ?_
    all_goals (refine neN ?_; (try dsimp only); omega)
end
end Mine
end
theorem Mine.lnEndWs : True := by
  k_with_none
  trivial
section
open PySem PySem.W PyProof.Rows PySem.Calls PySem.Spec
set_option maxRecDepth 100000
set_option maxHeartbeats 0
namespace Mine
section
variable {w : World} {mean : ExcName → Option Value} {mg mb : Str → Option Value} {hT : Heap} {dp un : Nat} {fr : Option (List Env)} {gd : Option (List Code)} {s : Shared} {Q E : Value → Shared → Prop} {M : Model} {h : Heap}
/-- a Whitespace of a text -/
theorem c_ws {l : List Nat} {t : Tok} (g : G w mean mg mb hT s.heap) (hd : dp + 100 < recursionLimit) (hu : un + 400 < cLine) (hl : l.length < 1000)
    (hq : ∀ h' tk' ts vs wx wd nm ct t' bs, IntsAre vs (wsOf l).cnt → (∀ b o, s.heap.get? b = some o → h'.get? b = some o) → h'.get? wx = some (instObj 101 wd) → h'.get? wd = some (dictOf (wsEs w ts (.str (S l) t) (wsOf l).n (wsOf l).nt nm bs) 5) → h'.get? nm = some (tupOf #[.ref ct, .int ((wsOf l).b : Int) t']) → h'.get? ct = some (tupOf vs.toArray) →
      s.heap.get? wx = none → s.heap.get? wd = none → s.heap.get? nm = none → s.heap.get? ct = none → (@Ne Nat wd wx) → (@Ne Nat nm ct) → Q (.ref wx) { s with heap := h', toks := tk' }) :
    wpAny (model PR w) (AA dp un fr gd) (call (.ref 101) [.str (S l) t]) Q E s := by
  have X := g.X'
  refine wpAny_call ?_
  obtain ⟨h, gs, d, tk, os⟩ := s
  refine make_core (makes_of X (by k_is)) (looks_findIn X (by k_is)) (fun self => bind_fn (f := 56) X self (by k_is)) (.inl rfl) ?_
  have e0 : ∀ a, h.objs.size ≤ a → h.get? a = none := fun a ha => by
    cases e : h.get? a with
    | none => rfl
    | some o => exact absurd (Heap.lt_size e) (Nat.not_lt.mpr ha)
  have k1 : ∀ b o, h.get? b = some o → ((h.push emptyDict).push (instObj 101 h.objs.size)).get? b = some o := fun b o e => Heap.get?_push_of_some _ (Heap.get?_push_of_some _ e)
  have hn : ∀ {a : Addr}, h.get? a = none → hT.get? a = none := fun {a} f => by
    cases q : hT.get? a with
    | none => rfl
    | some o => rw [g.st a o q] at f; cases f
  have eA : (AA dp un fr gd).under (.builtin "type.__call__" ⟨.ref 101 :: [.str (S l) t], []⟩) = AA (dp + 1) (un + 1) (pushEnvs (Code.envs (.builtin "type.__call__" ⟨.ref 101 :: [.str (S l) t], []⟩)) fr) (pushGuards (Code.guards (.builtin "type.__call__" ⟨.ref 101 :: [.str (S l) t], []⟩)) gd) := by
    unfold Around.under; rw [wt_tc, un_tc]
  rw [eA]
  have f1 := e0 (h.objs.size + 1) (Nat.le_succ _)
  have f2 := e0 h.objs.size (Nat.le_refl _)
  refine c_wsinit (wx := h.objs.size + 1) (wd := h.objs.size) ⟨g.X, g.T, fun b o e => k1 b o (g.st b o e)⟩ (by omega) (by omega) hl ?_ ?_ (hn f1) (hn f2) (Nat.lt_succ_self _) ?_
  · have := Heap.get?_push_size (h.push emptyDict) (o := instObj 101 h.objs.size) rfl
    rwa [Heap.size_push] at this
  · exact Heap.get?_push_of_some _ (Heap.get?_push_size _ rfl)
  intro h' tk' ts vs nm ct t' bs hvs kb x1 x2 x3 x4 y1 y2 ne
  have z : ∀ {a : Addr}, ((h.push emptyDict).push (instObj 101 h.objs.size)).get? a = none → h.get? a = none := fun {a} f => by
    cases q : h.get? a with
    | none => rfl
    | some o => rw [k1 a o q] at f; cases f
  refine ⟨rfl, hq h' tk' ts vs _ _ nm ct t' bs hvs (fun b o e => kb b o (fun hb => ?_) (k1 b o e)) x1 x2 x3 x4 f1 f2 (z y1) (z y2) ?_ ne⟩
  · rcases List.mem_cons.mp hb with rfl | hb
    · rw [f1] at e; cases e
    · rw [List.mem_singleton.mp hb, f2] at e; cases e
  · refine neN ?_; omega
end
end Mine
end
section
open PySem PySem.W PyProof.Rows PySem.Calls PySem.Spec
set_option maxRecDepth 100000
namespace Mine
section
variable {prog : Program} {w : World} {A : Around} {E : Value → Shared → Prop} {s : Shared} {h₀ : Heap} {env : Env} {x : Str} {body : List Stmt} {Q : Flow → Shared → Prop}
theorem rangeSize_up (a b : Int) : Builtin.Range.rangeSize a b 1 = ((b - a).toNat : Int) := by
  unfold Builtin.Range.rangeSize
  simp only [show ((1 : Int) > 0) by decide, if_true, Int.ediv_one]
  split <;> omega
theorem small_up {a b : Int} (ha : 0 ≤ a) (ha' : a < 2 ^ 60) (hb : 0 ≤ b) (hb' : b < 2 ^ 60) : Builtin.Range.small a b 1 = true := by
  unfold Builtin.Range.small
  rw [rangeSize_up]
  simp only [Builtin.Range.rangeFitsLong, Bool.and_eq_true, Bool.or_eq_true, decide_eq_true_eq, beq_iff_eq, show ((1 : Int) > 0) by decide, if_true]
  omega
theorem oneIt_range {r : Addr} {a b : Int} {t u v : Tok} (hr : IsRange s.heap r a b 1 t u v) (ha : 0 ≤ a) (ha' : a < 2 ^ 60) (hb : 0 ≤ b) (hb' : b < 2 ^ 60) : OneIt prog w (.ref r) s (b - a).toNat (fun i v => ∃ t, v = .int (a + i * 1) t) := by
  intro A E Q hQ
  refine wpAny_pyIter_range hr (small_up ha ha' hb hb') (hQ _ (fun i h => IsRangeIter h s.heap.objs.size (a + (i : Nat) * 1) (((b - a).toNat : Int) - (i : Nat)) 1) (fun A' hA => Walks.range hA _ a 1 _) (fun i h st => ⟨_, st⟩) ?_)
  rw [rangeSize_up]
  have := Heap.get?_push_size s.heap (o := ({ cls := .type "range_iterator", data := .fields #[rawInt a, rawInt ((b - a).toNat : Int), rawInt 1] } : Obj)) rfl
  show (s.heap.push _).get? s.heap.objs.size = some _
  rw [this]
  simp
end
end Mine
end
section
open PySem PySem.W PyProof.Rows PySem.Calls PySem.Spec
set_option maxRecDepth 100000
set_option maxHeartbeats 0
namespace Mine
section
variable {w : World} {mean : ExcName → Option Value} {mg mb : Str → Option Value} {hT : Heap} {dp un : Nat} {fr : Option (List Env)} {gd : Option (List Code)} {s : Shared} {Q E : Value → Shared → Prop} {M : Model} {h : Heap}
/-- a Whitespace in the heap -/
structure WsAt (w : World) (h : Heap) (wx wd nm ct : Addr) (ww : Ws) (vs : List Value) (ts : Nat → Tok) (raw : Value) (bs : Bool) (t' : Tok) : Prop where
  h1 : h.get? wx = some (instObj 101 wd)
  h2 : h.get? wd = some (dictOf (wsEs w ts raw ww.n ww.nt nm bs) 5)
  h3 : h.get? nm = some (tupOf #[.ref ct, .int (ww.b : Int) t'])
  h4 : h.get? ct = some (tupOf vs.toArray)
  iv : IntsAre vs ww.cnt
  lv : ww.cnt.length < 1001
theorem lnInd1 : True := by
  k_with_none
  k_with "ar" => (((try dsimp only [AA, Around.deeper, Around.in1]); omega))
  k_with "om" => (with_reducible first | assumption | exact Ne.symm (by assumption) | exact Mine.up0 (by assumption) | exact Mine.up1 (by assumption) rfl | exact Mine.up2 (by assumption) rfl | exact Mine.up3 (by assumption) rfl | fail)
  trivial
theorem len_ledT {g : Heap} {L C : Addr} {prog : Program} {A : Around} {news : List (Addr × Obj)} {vs : List Value} (N : News g L s.heap news) (hm : (C, tupOf vs.toArray) ∈ news) (hl : vs.length < 1000000)
    (h : Q (.int (vs.length : Int) (s.toks + 1)) { s with toks := s.toks + 1 + 1 }) : wpAny (model prog w) A (call (.builtin "len") [.ref C]) Q E s :=
  PyProof.Rows.len_tuple (News.isTup N hm) (by simp only [List.size_toArray]; omega) (by simpa only [List.size_toArray] using h)
theorem lnInd2 : True := by
  k_with "call builtin:len" => ((k_here; (with_reducible rename News _ _ _ _ => kN_q); k_dflt (refine len_ledT kN_q (by k_mem) (by omega) ?_)))
  k_with "subscriptTail" => ((k_here; (with_reducible rename News _ _ _ _ => kN_q); k_dflt (refine item_tuple_ints (News.isTup kN_q (by k_mem)) (by assumption) (by omega) (by omega) (by omega) ?_); intro t9'_q))
  trivial
noncomputable abbrev ilM (wx ct : Addr) (size : Nat) (b : Nat) (il : Int) (tz tb tl : Tok) (m : Str → Option Value) : Str → Option Value :=
  set1 (Str.ofString "self") (.ref wx) (set1 (Str.ofString "tabsize") (.int (size : Int) tz) (set1 (Str.ofString "count") (.ref ct) (set1 (Str.ofString "trailing") (.int (b : Int) tb) (set1 (Str.ofString "il") (.int il tl) m))))
theorem fr_ilM {g h : Heap} {L wx ct : Addr} {size b : Nat} {il : Int} {tz tb tl : Tok} {m : Str → Option Value} (_F : Fr g L h m) (h1 : m (Str.ofString "self") = some (.ref wx)) (h2 : m (Str.ofString "tabsize") = some (.int (size : Int) tz)) (h3 : m (Str.ofString "count") = some (.ref ct)) (h4 : m (Str.ofString "trailing") = some (.int (b : Int) tb)) (h5 : m (Str.ofString "il") = some (.int il tl)) :
    m = ilM wx ct size b il tz tb tl m := by
  unfold ilM
  rw [set1_same h5, set1_same h4, set1_same h3, set1_same h2, set1_same h1]
theorem ilTo_none (ts : Nat) (cnt : List Int) : ilTo ts cnt (ts + 0) = 0 := by
  unfold ilTo
  exact sumTo_zero fun i hi => by rw [if_pos (by omega)]
theorem ilTo_next (ts : Nat) (cnt : List Int) (i : Nat) : ilTo ts cnt (ts + (i + 1)) = ilTo ts cnt (ts + i) + ((ts : Int) + (i : Int) * 1) / (ts : Int) * cnt.getD ((ts : Int) + (i : Int) * 1).toNat 0 := by
  show sumTo _ ((ts + i) + 1) = _
  simp only [sumTo]
  rw [if_neg (by omega)]
  have e : ((ts : Int) + (i : Int) * 1).toNat = ts + i := by omega
  have e2 : (((ts + i) / ts : Nat) : Int) = ((ts : Int) + (i : Int) * 1) / (ts : Int) := by
    rw [Int.natCast_ediv, Int.mul_one]; rfl
  rw [e, e2]; rfl
theorem fdiv_nn (a b : Nat) (i : Nat) : ((a : Int) + (i : Int) * 1).fdiv (b : Int) = ((a : Int) + (i : Int) * 1) / (b : Int) := Int.fdiv_eq_ediv_of_nonneg _ (Int.natCast_nonneg _)
theorem mul_ok {a b i : Nat} {c : Int} (h : a + i < 1000000) : IntMulOk (((a : Int) + (i : Int) * 1).fdiv (b : Int)) c := by
  refine .of_left (intBits_le_64 ?_ ?_)
  · rw [fdiv_nn]
    have := Int.ediv_nonneg (a := (a : Int) + (i : Int) * 1) (b := (b : Int)) (by omega) (by omega)
    omega
  · rw [fdiv_nn]
    have := Int.ediv_le_self (a := (a : Int) + (i : Int) * 1) (b : Int) (by omega)
    omega
theorem ilTo_end (ts : Nat) (cnt : List Int) (n : Nat) (hn : n = ((cnt.length : Int) - (ts : Int)).toNat) : ilTo ts cnt (ts + n) = ilTo ts cnt cnt.length := by
  rcases Nat.lt_or_ge ts cnt.length with h | h
  · have : ts + n = cnt.length := by omega
    rw [this]
  · have : n = 0 := by omega
    rw [this, ilTo_none]
    symm
    unfold ilTo
    exact sumTo_zero fun i hi => by rw [if_pos (by omega)]
theorem c_indent {wx wd nm ct : Addr} {ww : Ws} {vs : List Value} {ts : Nat → Tok} {raw : Value} {bs : Bool} {t' t : Tok} {size : Nat} (a : WsAt w s.heap wx wd nm ct ww vs ts raw bs t') (hz : 1 ≤ size) (hz' : size < 100000) (g : G w mean mg mb hT s.heap) (hd : dp + 60 < recursionLimit) (hu : un + 300 < cLine)
    (k1 : hT.get? wx = none) (k2 : hT.get? wd = none) (k3 : hT.get? nm = none) (k4 : hT.get? ct = none)
    (hq : ∀ h' tk' t', (∀ b o, s.heap.get? b = some o → h'.get? b = some o) → Q (.int (indentOf ww size) t') { s with heap := h', toks := tk' }) :
    wpAny (model PR w) (AA dp un fr gd) (call (.ref 70) [.ref wx, .int (size : Int) t]) Q E s := by
  have hO := objs4 a.h1 a.h2 a.h3 a.h4 k1 k2 k3 k4
  refine wpAny_call ?_
  refine enterD [(Str.ofString "self", .ref wx), (Str.ofString "tabsize", .int (size : Int) t)] _ g hO (by k_is) (by k_is) (by show dp < _; omega) (BindsTo.of_eq rfl) (locs rfl) rfl rfl rfl (by decide) ?_
  intro g₀ L' h₁ X T F N hlt' hkb hfr
  have hvs := a.iv
  have hlen := a.lv
  have hvl := hvs.length
  repeat' ((fail_if_success (with_reducible show wpAny _ _ (exec (Stmt.For _ _ _ _ _) _) _ _ _)); (first | (k_unfold; (try dsimp only)) | walk1 | (dsimp only; walk1) | fail "no step"))
  rename Fr _ _ _ _ => F9
  rename News _ _ _ _ => N9
  refine for_one (h₀ := g₀) rfl (by rfl) (by rfl) ?_
  repeat' ((fail_if_success (with_reducible show OneSrc _ _ _ _ _ _ _ _ _ _ _)); (first | (k_unfold; (try dsimp only)) | walk1 | (dsimp only; walk1) | fail "no step"))
  rename Fr _ _ _ _ => F9
  rename News _ _ _ _ => N9
  refine OneSrc.fin (fun i m news => ∃ tz tb tl, m = ilM wx ct size ww.b (ilTo size ww.cnt (size + i)) tz tb tl m ∧ news = [(wx, instObj 101 wd), (wd, dictOf (wsEs w ts raw ww.n ww.nt nm bs) 5), (nm, tupOf #[.ref ct, .int (ww.b : Int) t']), (ct, tupOf vs.toArray)])
    (fun m news => ∃ tz tb tl, m = ilM wx ct size ww.b (ilTo size ww.cnt ww.cnt.length) tz tb tl m ∧ news = [(wx, instObj 101 wd), (wd, dictOf (wsEs w ts raw ww.n ww.nt nm bs) 5), (nm, tupOf #[.ref ct, .int (ww.b : Int) t']), (ct, tupOf vs.toArray)])
    (oneIt_range (by assumption) (by omega) (by omega) (by omega) (by omega)) F9 N9 ⟨_, _, _, fr_ilM F9 rfl rfl rfl rfl (by rw [ilTo_none]; rfl), rfl⟩ ?_ ?_ ?_
  · rintro i v m₁ news₁ I oI h tk hi ⟨tv, rfl⟩ ⟨tz, tb, tl, hm, rfl⟩ hoff F N
    rw [hm] at F
    clear hm F9 N9
    have hnx := ilTo_next size ww.cnt i
    rw [← fdiv_nn] at hnx
    have hmo : IntMulOk (((size : Int) + (i : Int) * 1).fdiv (size : Int)) (ww.cnt.getD ((size : Int) + (i : Int) * 1).toNat 0) := mul_ok (by omega)
    repeat' (first | (k_unfold; (try dsimp only)) | walk1 | (dsimp only; walk1) | fail "no step")
    rename Fr _ _ _ _ => F9
    rename News _ _ _ _ => N9
    exact ⟨_, _, _, _, rfl, F9, N9, hoff, _, _, _, fr_ilM F9 rfl rfl rfl rfl (by rw [hnx]; rfl), rfl⟩
  · rintro m news ⟨tz, tb, tl, hm, hn⟩
    rw [ilTo_end size ww.cnt _ (by omega)] at hm
    exact ⟨tz, tb, tl, hm, hn⟩
  · rintro h' tk m' news' F' N' ⟨tz, tb, tl, hm, rfl⟩
    rw [hm] at F'
    clear hm F9 N9
    repeat' (first | (k_unfold; (try dsimp only)) | walk1 | (dsimp only; walk1) | fail "no step")
    rename Fr _ _ _ _ => F9
    rename News _ _ _ _ => N9
    exact hq _ _ _ (kb_all (hkb _ F9.keep) (fun p hp => (hO p hp).1) fun p hp => (N9 p hp).1)
end
end Mine
end
theorem Mine.lnEndInd : True := by
  k_with_none
  trivial
section
open PySem PySem.W PyProof.Rows PySem.Calls PySem.Spec
set_option maxRecDepth 100000
set_option maxHeartbeats 0
namespace Mine
section
variable {w : World} {mean : ExcName → Option Value} {mg mb : Str → Option Value} {hT : Heap} {dp un : Nat} {fr : Option (List Env)} {gd : Option (List Code)} {s : Shared} {Q E : Value → Shared → Prop} {M : Model} {h : Heap}
theorem lnLong1 : True := by
  k_with_none
  k_with "ar" => (((try dsimp only [AA, Around.deeper, Around.in1]); omega))
  k_with "om" => (with_reducible first | assumption | exact Ne.symm (by assumption) | exact Mine.up0 (by assumption) | exact Mine.up1 (by assumption) rfl | exact Mine.up2 (by assumption) rfl | exact Mine.up3 (by assumption) rfl | fail)
  trivial
theorem lnLong2 : True := by
  k_with "call builtin:len" => ((k_here; (with_reducible rename News _ _ _ _ => kN_q); k_dflt (refine len_ledT kN_q (by k_mem) (by omega) ?_)))
  trivial
theorem c_long {wx wd nm ct : Addr} {ww : Ws} {vs : List Value} {ts : Nat → Tok} {raw : Value} {bs : Bool} {t' : Tok} (a : WsAt w s.heap wx wd nm ct ww vs ts raw bs t') (g : G w mean mg mb hT s.heap) (hd : dp + 60 < recursionLimit) (hu : un + 300 < cLine)
    (k1 : hT.get? wx = none) (k2 : hT.get? wd = none) (k3 : hT.get? nm = none) (k4 : hT.get? ct = none)
    (hq : ∀ h' tk' t', (∀ b o, s.heap.get? b = some o → h'.get? b = some o) → Q (.int (max ((ww.cnt.length : Int) - 1) (ww.b : Int)) t') { s with heap := h', toks := tk' }) :
    wpAny (model PR w) (AA dp un fr gd) (call (.ref 63) [.ref wx]) Q E s := by
  have hO := objs4 a.h1 a.h2 a.h3 a.h4 k1 k2 k3 k4
  refine wpAny_call ?_
  refine enterD [(Str.ofString "self", .ref wx)] _ g hO (by k_is) (by k_is) (by show dp < _; omega) (BindsTo.of_eq rfl) (locs rfl) rfl rfl rfl (by decide) ?_
  intro g₀ L' h₁ X T F N hlt' hkb hfr
  have hvs := a.iv
  have hlen := a.lv
  have hvl := hvs.length
  repeat' (first | (k_unfold; (try dsimp only)) | walk1 | (dsimp only; walk1) | fail "no step")
  rename Fr _ _ _ _ => F9
  rename News _ _ _ _ => N9
  have e : (if ((ww.b : Nat) : Int) > (vs.length : Int) - 1 then ((ww.b : Nat) : Int) else (vs.length : Int) - 1) = max ((ww.cnt.length : Int) - 1) (ww.b : Int) := by
    rw [hvl]; split <;> omega
  rw [e]
  exact hq _ _ _ (kb_all (hkb _ F9.keep) (fun p hp => (hO p hp).1) fun p hp => (N9 p hp).1)
end
end Mine
end
theorem Mine.lnEndLong : True := by
  k_with_none
  trivial
section
open PySem PySem.W PyProof.Rows PySem.Calls PySem.Spec
set_option maxRecDepth 100000
set_option maxHeartbeats 0
namespace Mine
section
variable {w : World} {mean : ExcName → Option Value} {mg mb : Str → Option Value} {hT : Heap} {dp un : Nat} {fr : Option (List Env)} {gd : Option (List Code)} {s : Shared} {Q E : Value → Shared → Prop} {M : Model} {h : Heap}
theorem lnEq1 : True := by
  k_with_none
  k_with "ar" => (((try dsimp only [AA, Around.deeper, Around.in1]); omega))
  k_with "om" => (with_reducible first | assumption | exact Ne.symm (by assumption) | exact Mine.up0 (by assumption) | exact Mine.up1 (by assumption) rfl | exact Mine.up2 (by assumption) rfl | exact Mine.up3 (by assumption) rfl | fail)
  trivial
theorem objs_app {s hT : Heap} {l l' : List (Addr × Obj)} (h1 : ∀ q ∈ l, s.get? q.1 = some q.2 ∧ hT.get? q.1 = none) (h2 : ∀ q ∈ l', s.get? q.1 = some q.2 ∧ hT.get? q.1 = none) : ∀ q ∈ l ++ l', s.get? q.1 = some q.2 ∧ hT.get? q.1 = none := by
  intro q hq
  rcases List.mem_append.mp hq with h | h
  · exact h1 q h
  · exact h2 q h
open PySem.SeqAt in
theorem shaped_norm (ns : List Int) (b : Int) : shaped (.tuple [.tuple (ns.map PyData.int), .int b]) = true := by
  have h1 := PySem.W.depthAll_ints ns
  have h2 : PyData.depth (.tuple [.tuple (ns.map PyData.int), .int b]) ≤ 64 := by simp only [PyData.depth, PyData.depthAll]; omega
  show (PyData.canLay0 (.tuple [.tuple (ns.map PyData.int), .int b]) && decide (PyData.depth (.tuple [.tuple (ns.map PyData.int), .int b]) ≤ 64)) = true
  rw [Bool.and_eq_true]
  exact ⟨by simp [PyData.canLay0, PyData.canLayAll0, PySem.W.canLayAll0_ints ns], decide_eq_true h2⟩
theorem reads_norm {h : Heap} {nm ct : Addr} {vs : List Value} {ns : List Int} {b : Int} {t : Tok} (h1 : h.get? nm = some (tupOf #[.ref ct, .int b t])) (h2 : h.get? ct = some (tupOf vs.toArray)) (hi : IntsAre vs ns) : Reads h (.ref nm) (.tuple [.tuple (ns.map PyData.int), .int b]) [] := by
  have r1 : Reads h (.ref ct) (.tuple (ns.map PyData.int)) [] := Reads.tuple h2 rfl rfl (by simpa using PySem.W.readsAll_of_ints hi)
  have r2 := ReadsAll.cons r1 (ReadsAll.cons (Reads.int (h := h) b t) .nil)
  exact Reads.tuple h1 rfl rfl (by simpa using r2)
open PySem.SeqAt in
theorem eq_norm {prog : Program} {A : Around} {nm ct nm' ct' : Addr} {vs vs' : List Value} {ns ns' : List Int} {b b' : Nat} {t t' : Tok} (h1 : s.heap.get? nm = some (tupOf #[.ref ct, .int (b : Int) t])) (h2 : s.heap.get? ct = some (tupOf vs.toArray)) (hi : IntsAre vs ns)
    (h1' : s.heap.get? nm' = some (tupOf #[.ref ct', .int (b' : Int) t'])) (h2' : s.heap.get? ct' = some (tupOf vs'.toArray)) (hi' : IntsAre vs' ns') (hu : A.units + 64 < cLine) (h : Q (.bool (decide (ns = ns' ∧ b = b'))) s) : wpAny (model prog w) A (compareOp .Eq (.ref nm) (.ref nm')) Q E s := by
  refine eq_dataH_same (reads_norm h1 h2 hi) (reads_norm h1' h2' hi') (shaped_norm _ _) (shaped_norm _ _) hu (by simp [noMix, noMixAll, PySem.W.noMix_ints]) ?_
  have e : PySem.Spec.same (.tuple [.tuple (ns.map PyData.int), .int (b : Int)]) (.tuple [.tuple (ns'.map PyData.int), .int (b' : Int)]) = decide (ns = ns' ∧ b = b') := by
    simp only [PySem.Spec.same, PySem.Spec.sameAll, PySem.W.same_ints]
    by_cases q : ns = ns' <;> by_cases q' : b = b' <;> simp [q, q'] <;> omega
  rw [e]; exact h
theorem lnEq2 : True := by
  k_with "compareOp Eq ref ref" => ((k_here; (with_reducible rename News _ _ _ _ => kN_q); k_dflt (refine eq_norm (News.get kN_q (by k_mem)) (News.get kN_q (by k_mem)) (by assumption) (News.get kN_q (by k_mem)) (News.get kN_q (by k_mem)) (by assumption) (by walk_at "ar") ?_)))
  trivial
theorem c_equal {wx wd nm ct vx vd nm' ct' : Addr} {ww ww' : Ws} {vs vs' : List Value} {ts ts' : Nat → Tok} {raw raw' : Value} {bs bs' : Bool} {t' t'' : Tok} (a : WsAt w s.heap wx wd nm ct ww vs ts raw bs t') (b : WsAt w s.heap vx vd nm' ct' ww' vs' ts' raw' bs' t'') (g : G w mean mg mb hT s.heap) (hd : dp + 60 < recursionLimit) (hu : un + 300 < cLine)
    (k1 : hT.get? wx = none) (k2 : hT.get? wd = none) (k3 : hT.get? nm = none) (k4 : hT.get? ct = none) (k1' : hT.get? vx = none) (k2' : hT.get? vd = none) (k3' : hT.get? nm' = none) (k4' : hT.get? ct' = none)
    (hq : ∀ h' tk', (∀ b o, s.heap.get? b = some o → h'.get? b = some o) → Q (.bool (decide (ww.cnt = ww'.cnt ∧ ww.b = ww'.b))) { s with heap := h', toks := tk' }) :
    wpAny (model PR w) (AA dp un fr gd) (call (.ref 77) [.ref wx, .ref vx]) Q E s := by
  have hO := objs_app (objs4 a.h1 a.h2 a.h3 a.h4 k1 k2 k3 k4) (objs4 b.h1 b.h2 b.h3 b.h4 k1' k2' k3' k4')
  refine wpAny_call ?_
  refine enterD [(Str.ofString "self", .ref wx), (Str.ofString "other", .ref vx)] _ g hO (by k_is) (by k_is) (by show dp < _; omega) (BindsTo.of_eq rfl) (locs rfl) rfl rfl rfl (by decide) ?_
  intro g₀ L' h₁ X T F N hlt' hkb hfr
  dsimp only [List.append, List.cons_append, List.nil_append] at N
  have hvs := a.iv
  have hvs' := b.iv
  have hlen := a.lv
  have hlen' := b.lv
  have hvl := hvs.length
  have hvl' := hvs'.length
  repeat' (first | (k_unfold; (try dsimp only)) | walk1 | (dsimp only; walk1) | fail "no step")
  rename Fr _ _ _ _ => F9
  rename News _ _ _ _ => N9
  exact hq _ _ (kb_all (hkb _ F9.keep) (fun p hp => (hO p hp).1) fun p hp => (N9 p hp).1)
end
end Mine
end
theorem Mine.lnEndEq : True := by
  k_with_none
  trivial
section
open PySem PySem.W PyProof.Rows PySem.Calls PySem.Spec
set_option maxRecDepth 100000
namespace Mine
section
variable {prog : Program} {w : World} {A : Around} {E : Value → Shared → Prop} {s : Shared} {h₀ : Heap} {env : Env} {target : Expr} {body : List Stmt} {Q : Flow → Shared → Prop}
/-- what a turn over a list must leave -/
noncomputable def TurnEndL (h₀ : Heap) (L I : Addr) (oI : Obj) (fixed : List (Addr × Obj)) (J : (Str → Option Value) → List (Addr × Obj) → Prop) (s₁ : Shared) (f : Flow) (s₂ : Shared) : Prop :=
  f = .next ∧ ∃ h' tk m' news', s₂ = { s₁ with heap := h', toks := tk } ∧ Fr h₀ L h' m' ∧ News h₀ L h' ((I, oI) :: (fixed ++ news')) ∧ (∀ p ∈ news', p.1 ≠ I) ∧ J m' news'
noncomputable def ListSrc (prog : Program) (w : World) (A : Around) (h₀ : Heap) (env : Env) (target : Expr) (body : List Stmt) (Q : Flow → Shared → Prop) (E : Value → Shared → Prop) (xv : Value) (s₁ : Shared) : Prop :=
  ∃ (l : Addr) (vs : List Value) (e : Nat) (fixed : List (Addr × Obj)) (m : Str → Option Value) (news : List (Addr × Obj)) (J : Nat → (Str → Option Value) → List (Addr × Obj) → Prop),
    xv = .ref l ∧ ((fixed = [] ∧ h₀.get? l = some (W.listOf vs.toArray e)) ∨ fixed = [(l, W.listOf vs.toArray e)]) ∧ Fr h₀ env.locals s₁.heap m ∧ News h₀ env.locals s₁.heap (fixed ++ news) ∧ J 0 m news ∧
    (∀ i v m₁ news₁ I oI (s₂ : Shared), vs[i]? = some v → J i m₁ news₁ → (∀ p ∈ news₁, p.1 ≠ I) → (@Ne Nat l I) → Fr h₀ env.locals s₂.heap m₁ → News h₀ env.locals s₂.heap ((I, oI) :: (fixed ++ news₁)) →
      wpAny (model prog w) A (assign target env v) (fun _ s₃ => wpAny (model prog w) A (execs body env) (TurnEndL h₀ env.locals I oI fixed (J (i + 1)) s₂) E s₃) E s₂) ∧
    ∀ h' tk m' news', Fr h₀ env.locals h' m' → News h₀ env.locals h' news' → J vs.length m' news' → Q .next { s₁ with heap := h', toks := tk }
theorem for_list {pos : Pos} {iter : Expr} (hh : A.handled = none)
    (h : wpAny (model prog w) A (eval iter env) (ListSrc prog w A h₀ env target body Q E) E s)
    (hs : ∀ x, foldedSetIterable iter env x = pure x := by intro _; rfl)
    (hE : PassesOwn (model prog w) A env E := by passes_own) :
    wpAny (model prog w) A (exec (.For target iter body [] pos) env) Q E s := by
  refine For_invT h₀ (wpAny_mono h (fun xv s₁ h₁ => ?_) fun _ _ e => e) hs hE
  obtain ⟨l, vs, e, fixed, m, news, J, rfl, hfix, F, N, h0, step, done⟩ := h₁
  have hl : s₁.heap.get? l = some (W.listOf vs.toArray e) := by
    rcases hfix with ⟨_, b⟩ | b
    · exact F.keep _ _ b
    · subst b; exact (N _ (.head _)).1
  have hls : s₁.heap.IsList l vs.toArray := ⟨_, hl, rfl, _, rfl⟩
  have hlt : l < s₁.heap.objs.size := Heap.lt_size hl
  refine wpAny_pyIter_list hls ?_
  have W9 := Walks.list (prog := prog) (w := w) hh s₁.heap.objs.size l (Nat.ne_of_lt hlt) vs.toArray
  have f1 : s₁.heap.get? s₁.heap.objs.size = none := by
    cases q : s₁.heap.get? s₁.heap.objs.size with
    | none => rfl
    | some o => exact absurd (Heap.lt_size q) (Nat.lt_irrefl _)
  have off : s₁.heap.objs.size ≠ env.locals ∧ h₀.get? s₁.heap.objs.size = none := by
    constructor
    · rintro e
      have := F.ns.lt
      rw [← e] at this
      exact Nat.lt_irrefl _ this
    · exact next_is_new F
  have hLl : env.locals ≠ l := by
    rcases hfix with ⟨_, b⟩ | b
    · intro q
      have := Heap.get?_none_of_le F.above
      rw [q, b] at this; cases this
    · subst b; exact Ne.symm (N _ (.head _)).2.1
  have up : ∀ b o, s₁.heap.get? b = some o → (s₁.heap.push { cls := .type "list_iterator", data := .fields #[.ref l, .int 0 0] }).get? b = some o := fun b o e => Heap.get?_push_of_some _ e
  have hsz : vs.toArray.size = vs.length := by simp
  refine ⟨s₁.heap.objs.size, _, _, vs.toArray.size, _, _, m, fixed ++ news, (fun i m' news' => ∃ nw, news' = fixed ++ nw ∧ J i m' nw), rfl, W9, ?_, ?_, ?_, ⟨⟨_, Heap.get?_push_size _ rfl, rfl, rfl⟩, hls.push _⟩, F.keeps up, N.grown up, (fun i s' v Q' st hQ' => letGo_listiter st.1 hQ'), ⟨news, rfl, h0⟩, ?_, ?_⟩
  · intro q
    simp only [List.mem_cons, List.not_mem_nil, or_false] at q
    rcases q with q | q
    · exact off.1 q.symm
    · exact hLl q
  · intro b hb
    rw [List.mem_singleton.mp hb]; exact off.2
  · intro p hp q
    have e := (N p hp).1
    rw [List.mem_singleton.mp q, f1] at e; cases e
  · rintro i v m₁ news₁ s₂ own hi hP ⟨nw, rfl, hJ⟩ hoff hsub hown hmem hst F₁ N₁
    obtain ⟨oI, hI, _, _⟩ := hst.1
    have hin : (s₁.heap.objs.size, oI) ∈ own := hmem _ (.head _) off.2 _ hI
    have hlI : l ≠ s₁.heap.objs.size := Nat.ne_of_lt hlt
    refine wpAny_mono (step i v m₁ nw s₁.heap.objs.size oI s₂ (by simpa using hP) hJ (fun p hp q => hoff p (List.mem_append_right _ hp) (List.mem_singleton.mpr q)) hlI F₁ (fun p hp => ?_)) (fun _ s₃ h₃ => wpAny_mono h₃ (fun f s₄ h₄ => ?_) fun _ _ x => x) fun _ _ x => x
    · rcases List.mem_cons.mp hp with rfl | hp
      · exact N₁ _ (List.mem_append_left _ hin)
      · exact N₁ _ (List.mem_append_right _ hp)
    · obtain ⟨rfl, h', tk, m', nw', rfl, F', N', ho', hJ'⟩ := h₄
      refine ⟨rfl, h', tk, m', fixed ++ nw', rfl, F', fun p hp => ?_, fun p hp q => ?_, ⟨nw', rfl, hJ'⟩⟩
      · rcases List.mem_append.mp hp with hp | hp
        · have e1 := hsub p hp
          have e2 := hown p hp
          have e3 := (N₁ p (List.mem_append_left _ hp)).2.2
          rcases List.mem_cons.mp e1 with q | q
          · have : p = (s₁.heap.objs.size, oI) := Prod.ext q (by rw [q] at e2; rw [e2] at hI; exact Option.some.inj hI)
            rw [this]; exact N' _ (.head _)
          · have q := List.mem_singleton.mp q
            rcases hfix with ⟨_, b⟩ | b
            · rw [q, b] at e3; cases e3
            · subst b
              have e4 := (N₁ (l, W.listOf vs.toArray e) (List.mem_append_right _ (.head _))).1
              have : p = (l, W.listOf vs.toArray e) := Prod.ext q (by rw [q] at e2; rw [e2] at e4; exact Option.some.inj e4)
              rw [this]; exact N' _ (.tail _ (.head _))
        · exact N' _ (.tail _ hp)
      · have q := List.mem_singleton.mp q
        rcases List.mem_append.mp hp with hp | hp
        · rcases hfix with ⟨b, _⟩ | b
          · rw [b] at hp; cases hp
          · rw [b] at hp
            rw [List.mem_singleton.mp hp] at q
            exact hlI q
        · exact ho' p hp q
  · rintro h' tk m' news' F' N' ho ⟨nw, rfl, hJ⟩
    exact done h' tk m' nw F' (fun p hp => N' p (List.mem_append_right _ hp)) (hsz ▸ hJ)
end
end Mine
end
section
open PySem PySem.W PyProof.Rows PySem.Calls PySem.Spec
namespace Mine
theorem readsAll_snoc {h : Heap} {v : Value} {d : PyData} : ∀ {us : List Value} {ds : List PyData} {as : List Addr}, ReadsAll h us ds as → Reads h v d [] → ReadsAll h (us ++ [v]) (ds ++ [d]) as
  | _, _, _, .nil, r => .cons r .nil
  | _, _, _, .cons r1 r2, r => .cons r1 (readsAll_snoc r2 r)
/-- a list of flat tuples, made one by one -/
inductive Made : List (Addr × Obj) → List Value → List PyData → Prop
  | nil : Made [] [] []
  | snoc {tl us ds D vals xs} : Made tl us ds → (∀ h, ReadsAll h vals xs []) → Made ((D, tupOf vals.toArray) :: tl) (us ++ [.ref D]) (ds ++ [.tuple xs])
theorem Made.len {tl us ds} (h : Made tl us ds) : us.length = ds.length := by
  induction h with
  | nil => rfl
  | snoc _ _ ih => simp [ih]
theorem Made.reads {tl us ds} {h : Heap} (m : Made tl us ds) : (∀ p ∈ tl, h.get? p.1 = some p.2) → ReadsAll h us ds [] := by
  induction m with
  | nil => intro _; exact .nil
  | snoc _ hx ih => intro hp; exact readsAll_snoc (ih fun p q => hp p (.tail _ q)) (.tuple (hp _ (.head _)) rfl rfl (by simpa using hx h))
theorem Made.list {tl us ds} {h : Heap} {A : Addr} {e : Nat} (m : Made tl us ds) (hp : ∀ p ∈ tl, h.get? p.1 = some p.2) (hA : h.get? A = some (W.listOf us.toArray e)) : Reads h (.ref A) (.list ds) [A] :=
  .list hA rfl rfl (by simpa using m.reads hp)
theorem flat3 {x y z : Int} {t u v : Tok} (h : Heap) : ReadsAll h [.int x t, .int y u, .int z v] [.int x, .int y, .int z] [] := .cons (.int _ _) (.cons (.int _ _) (.cons (.int _ _) .nil))
theorem flat2 {x : Str} {y : Int} {t u : Tok} (h : Heap) : ReadsAll h [.str x t, .int y u] [.str x, .int y] [] := .cons (.str _ _) (.cons (.int _ _) .nil)
end Mine
namespace Mine
theorem Made.cls {tl us ds} (m : Made tl us ds) : ∀ p ∈ tl, p.2.cls ≠ .type "list" := by
  induction m with
  | nil => intro p hp; cases hp
  | snoc _ _ ih =>
    intro p hp
    rcases List.mem_cons.mp hp with rfl | hp
    · intro e; exact nomatch (Value.type.inj e)
    · exact ih p hp
theorem off_list {g h : Heap} {L A : Addr} {its : Array Value} {n : Nat} {rest : List (Addr × Obj)} (N : News g L h ((A, W.listOf its n) :: rest)) (hc : ∀ p ∈ rest, p.2.cls ≠ .type "list") : ∀ p ∈ rest, p.1 ≠ A := fun p hp e => by
  have h1 := (N p (.tail _ hp)).1
  have h2 := (N _ (.head _)).1
  rw [e] at h1
  rw [h2] at h1
  exact hc p hp (by rw [← Option.some.inj h1])
theorem listOf_push (us : List Value) (v : Value) (e : Nat) : W.listOf (us.toArray.push v) e = W.listOf (us ++ [v]).toArray e := by simp
end Mine
namespace Mine
theorem news_rot {g h : Heap} {L : Addr} {d i a : Addr × Obj} {xs tl : List (Addr × Obj)} (N : News g L h (d :: i :: a :: (xs ++ tl))) : News g L h (i :: a :: (xs ++ d :: tl)) := fun p hp => N p (by
  rcases List.mem_cons.mp hp with rfl | hp
  · exact .tail _ (.head _)
  rcases List.mem_cons.mp hp with rfl | hp
  · exact .tail _ (.tail _ (.head _))
  rcases List.mem_append.mp hp with hp | hp
  · exact .tail _ (.tail _ (.tail _ (List.mem_append_left _ hp)))
  rcases List.mem_cons.mp hp with rfl | hp
  · exact .head _
  · exact .tail _ (.tail _ (.tail _ (List.mem_append_right _ hp))))
theorem off_rot {I A D : Addr} {o o' t : Obj} {xs tl : List (Addr × Obj)} (h : ∀ p ∈ (A, o) :: (xs ++ tl), p.1 ≠ I) (hd : D ≠ I) : ∀ p ∈ (A, o') :: (xs ++ (D, t) :: tl), p.1 ≠ I := by
  intro p hp
  rcases List.mem_cons.mp hp with rfl | hp
  · exact h (A, o) (.head _)
  rcases List.mem_append.mp hp with hp | hp
  · exact h p (.tail _ (List.mem_append_left _ hp))
  rcases List.mem_cons.mp hp with rfl | hp
  · exact hd
  · exact h p (.tail _ (List.mem_append_right _ hp))
end Mine
end
section
set_option autoImplicit false
namespace Mine
/-! a spelled word is lexed as the word -/
theorem lex_skip {b r t r' : List Nat} (hb : ∀ c ∈ b, c = 32 ∨ c = 9) (h : Lex .ws [] false r t r') : Lex .ws [] false (b ++ r) t r' := by
  induction b with
  | nil => exact h
  | cons c b ih => exact .ws_skip (hb c (.head _)) (ih fun x hx => hb x (.tail _ hx))
theorem q39_cons (c : Nat) (l : List Nat) : q39 (c :: l) = (if c = 39 then [39, 34, 39, 34, 39] else [c]) ++ q39 l := rfl
theorem q34_app (a b : List Nat) : q34 (a ++ b) = q34 a ++ q34 b := by simp [q34]
theorem q9234_cons (c : Nat) (l : List Nat) : q34 (q92 (c :: l)) = (if c = 92 then [92, 92] else if c = 34 then [92, 34] else [c]) ++ q34 (q92 l) := by
  have e : q92 (c :: l) = (if c = 92 then [92, 92] else [c]) ++ q92 l := rfl
  rw [e, q34_app]
  congr 1
  by_cases h : c = 92
  · subst h; simp [q34]
  · simp only [h, if_false]
    by_cases h' : c = 34
    · subst h'; simp [q34]
    · simp [q34, h']
theorem lex_sq {l : List Nat} : ∀ {k : List Nat} {q : Bool} {r t r' : List Nat}, 10 ∉ l → (∀ q', Lex .sq (k ++ l) q' r t r') → Lex .sq k q (q39 l ++ r) t r' := by
  induction l with
  | nil => intro k q r t r' _ h; simpa [q39] using h q
  | cons c l ih =>
    intro k q r t r' h10 h
    have hc : c ≠ 10 := fun e => h10 (e ▸ .head _)
    have hl : 10 ∉ l := fun e => h10 (.tail _ e)
    have e : k ++ c :: l = (k ++ [c]) ++ l := by simp
    rw [e] at h
    rw [q39_cons, List.append_assoc]
    by_cases h39 : c = 39
    · subst h39
      simp only [if_true]
      exact .sq_end (.wd_dq (.dq_chr (by decide) (by decide) (by decide) (.dq_end (.wd_sq (ih hl h)))))
    · simp only [h39, if_false]
      exact .sq_chr h39 hc (ih hl h)
theorem lex_dq {l : List Nat} : ∀ {k : List Nat} {q : Bool} {r t r' : List Nat}, 10 ∉ l → (∀ q', Lex .dq (k ++ l) q' r t r') → Lex .dq k q (q34 (q92 l) ++ r) t r' := by
  induction l with
  | nil => intro k q r t r' _ h; simpa [q34, q92] using h q
  | cons c l ih =>
    intro k q r t r' h10 h
    have hc : c ≠ 10 := fun e => h10 (e ▸ .head _)
    have hl : 10 ∉ l := fun e => h10 (.tail _ e)
    have e : k ++ c :: l = (k ++ [c]) ++ l := by simp
    rw [e] at h
    rw [q9234_cons, List.append_assoc]
    by_cases h92 : c = 92
    · subst h92
      simp only [if_true]
      exact .dq_esc (.ed_chr (.inr rfl) (ih hl h))
    · by_cases h34 : c = 34
      · subst h34
        simp only [h92, if_false, if_true]
        exact .dq_esc (.ed_chr (.inl rfl) (ih hl h))
      · simp only [h92, h34, if_false]
        exact .dq_chr h34 h92 hc (ih hl h)
theorem lex_wd {l : List Nat} : ∀ {k : List Nat} {q : Bool} {g : Nat} {r : List Nat}, 10 ∉ l → k ≠ [] → g = 32 ∨ g = 9 → Lex .wd k q ((l.map fun c => [92, c]).flatten ++ g :: r) (k ++ l) r := by
  induction l with
  | nil => intro k q g r _ hk hg; simpa using Lex.wd_end (q := q) (r := r) hg (.inl hk)
  | cons c l ih =>
    intro k q g r h10 hk hg
    have hc : c ≠ 10 := fun e => h10 (e ▸ .head _)
    have hl : 10 ∉ l := fun e => h10 (.tail _ e)
    have e : k ++ c :: l = (k ++ [c]) ++ l := by simp
    rw [e]
    exact .wd_esc (.ea_chr hc (ih hl (by simp) hg))
theorem lex_spell {b word r : List Nat} {way : Int} {g : Nat} (hb : ∀ c ∈ b, c = 32 ∨ c = 9) (h10 : 10 ∉ word) (hg : g = 32 ∨ g = 9) : Lex .ws [] false (b ++ (spell word way ++ g :: r)) word r := by
  refine lex_skip hb ?_
  unfold spell
  split
  · rw [List.append_assoc, List.append_assoc]
    exact .ws_sq (lex_sq (k := []) h10 fun q' => .sq_end (.wd_end hg (.inr rfl)))
  · rename_i hne
    split
    · rw [List.append_assoc, List.append_assoc]
      exact .ws_dq (lex_dq (k := []) h10 fun q' => .dq_end (.wd_end hg (.inr rfl)))
    · cases word with
      | nil => exact absurd (.inr rfl) hne
      | cons c l =>
        exact .ws_esc (.ea_chr (fun e => h10 (e ▸ .head _)) (lex_wd (k := [c]) (fun e => h10 (.tail _ e)) (by simp) hg))
theorem spell_head (word : List Nat) (way : Int) : ∃ c t, spell word way = c :: t ∧ c ≠ 32 ∧ c ≠ 9 := by
  unfold spell
  split
  · exact ⟨39, _, rfl, by decide, by decide⟩
  · rename_i hne
    split
    · exact ⟨34, _, rfl, by decide, by decide⟩
    · cases word with
      | nil => exact absurd (.inr rfl) hne
      | cons c l => exact ⟨92, _, rfl, by decide, by decide⟩
theorem spell_len (word : List Nat) (way : Int) : (spell word way).length ≤ 5 * word.length + 2 := by
  have h39 := q39_len word
  have h92 := q92_len word
  have h34 := q34_len (q92 word)
  unfold spell
  split
  · simp; lia
  · split
    · simp; lia
    · have e : ((word.map fun c => [92, c]).flatten).length = 2 * word.length := by
        clear h39 h92 h34
        rename_i h1 h2
        clear h1 h2
        induction word with
        | nil => rfl
        | cons c t ih => simp only [List.map_cons, List.flatten_cons, List.length_append, ih, List.length_cons, List.length_nil]; lia
      lia
theorem q_no10 {f : Nat → List Nat} {l : List Nat} (hf : ∀ c, 10 ∈ f c → c = 10) (h : 10 ∉ l) : 10 ∉ l.flatMap f := by
  intro q
  obtain ⟨c, hc, hx⟩ := List.mem_flatMap.mp q
  exact h (hf c hx ▸ hc)
theorem spell_no10 {word : List Nat} {way : Int} (h : 10 ∉ word) : 10 ∉ spell word way := by
  have h39 : 10 ∉ q39 word := q_no10 (fun c hc => by by_cases e : c = 39 <;> simp [e] at hc; exact hc.symm) h
  have h92 : 10 ∉ q92 word := q_no10 (fun c hc => by by_cases e : c = 92 <;> simp [e] at hc; exact hc.symm) h
  have h34 : 10 ∉ q34 (q92 word) := q_no10 (fun c hc => by by_cases e : c = 34 <;> simp [e] at hc; exact hc.symm) h92
  unfold spell
  split
  · simp [h39]
  · split
    · simp [h34]
    · intro q
      obtain ⟨x, hx, hy⟩ := List.mem_flatten.mp q
      obtain ⟨c, hc, rfl⟩ := List.mem_map.mp hx
      simp at hy
      exact h (hy ▸ hc)

/-! cells and lines -/
structure Cell where
  word : List Nat
  sp : List Nat
  gap : List Nat
structure CellOk (c : Cell) : Prop where
  len : c.word.length ≤ 2
  no10 : 10 ∉ c.word
  sp : ∃ way, c.sp = spell c.word way
  gap : c.gap ≠ []
  gws : ∀ x ∈ c.gap, x = 32 ∨ x = 9
  glen : c.gap.length ≤ 3
noncomputable def restOf : List Cell → List Nat
  | [] => []
  | c :: r => c.sp ++ c.gap ++ restOf r
noncomputable def startsOf (k : Nat) : List Cell → List Nat
  | [] => []
  | c :: r => k :: startsOf (k + (c.sp.length + c.gap.length)) r
theorem restOf_app (a b : List Cell) : restOf (a ++ b) = restOf a ++ restOf b := by
  induction a with
  | nil => rfl
  | cons c r ih => simp [restOf, ih]
theorem startsOf_app (a b : List Cell) : ∀ k, startsOf k (a ++ b) = startsOf k a ++ startsOf (k + (restOf a).length) b := by
  induction a with
  | nil => intro k; rfl
  | cons c r ih => intro k; simp only [List.cons_append, startsOf, ih, restOf, List.length_append]; congr 3; lia
theorem startsOf_length (a : List Cell) : ∀ k, (startsOf k a).length = a.length := by
  induction a with
  | nil => intro k; rfl
  | cons c r ih => intro k; simp [startsOf, ih]
theorem restOf_len {a : List Cell} (h : ∀ c ∈ a, CellOk c) : (restOf a).length ≤ 15 * a.length := by
  induction a with
  | nil => simp [restOf]
  | cons c r ih =>
    have i := ih fun x hx => h x (.tail _ hx)
    have q := h c (.head _)
    obtain ⟨way, e⟩ := q.sp
    have s := spell_len c.word way
    rw [← e] at s
    have := q.len
    have := q.glen
    simp only [restOf, List.length_append, List.length_cons]
    lia
theorem ws_mem_no10 {b : List Nat} (h : ∀ x ∈ b, x = 32 ∨ x = 9) : 10 ∉ b := fun q => by rcases h 10 q with e | e <;> cases e
theorem restOf_no10 {a : List Cell} (h : ∀ c ∈ a, CellOk c) : 10 ∉ restOf a := by
  induction a with
  | nil => simp [restOf]
  | cons c r ih =>
    have i := ih fun x hx => h x (.tail _ hx)
    have q := h c (.head _)
    obtain ⟨way, e⟩ := q.sp
    have s := spell_no10 (way := way) q.no10
    rw [← e] at s
    simp only [restOf, List.mem_append, not_or]
    exact ⟨⟨s, ws_mem_no10 q.gws⟩, i⟩
theorem wsRun_n : ∀ (b : List Nat) (x : List Nat) (w : Ws), (∀ c ∈ b, c = 32 ∨ c = 9) → (∀ c t, x = c :: t → c ≠ 32 ∧ c ≠ 9) → (wsRun (b ++ x) w).n = w.n + b.length
  | [], x, w, _, hx => by
    cases x with
    | nil => rfl
    | cons c t => have := hx c t rfl; simp [wsRun, this.1, this.2]
  | c :: b, x, w, hb, hx => by
    rcases hb c (.head _) with e | e
    · subst e
      have := wsRun_n b x ⟨w.cnt, w.b + 1, w.n + 1, w.nt⟩ (fun y hy => hb y (.tail _ hy)) hx
      simp only [List.cons_append, wsRun, if_true, this, List.length_cons]; lia
    · subst e
      have := wsRun_n b x ⟨bump w.cnt w.b, 0, w.n + 1, w.nt + 1⟩ (fun y hy => hb y (.tail _ hy)) hx
      simp only [List.cons_append, wsRun, show (9 : Nat) ≠ 32 by decide, if_false, if_true, this, List.length_cons]; lia
/-- what a Whitespace of what is left counts -/
theorem ws_n {b : List Nat} {cs : List Cell} (hb : ∀ c ∈ b, c = 32 ∨ c = 9) (h : ∀ c ∈ cs, CellOk c) : (wsOf (b ++ restOf cs)).n = b.length := by
  have := wsRun_n b (restOf cs) ws0 hb (fun c t e => by
    cases cs with
    | nil => cases e
    | cons d r =>
      obtain ⟨way, q⟩ := (h d (.head _)).sp
      obtain ⟨c', t', q', n1, n2⟩ := spell_head d.word way
      simp only [restOf, q, q', List.cons_append] at e
      cases e
      exact ⟨n1, n2⟩)
  unfold wsOf
  rw [this]; simp [ws0]
theorem lex_cell {b : List Nat} {c : Cell} {r : List Cell} (hb : ∀ x ∈ b, x = 32 ∨ x = 9) (h : CellOk c) : Lex .ws [] false (b ++ restOf (c :: r)) c.word (c.gap.drop 1 ++ restOf r) := by
  obtain ⟨way, e⟩ := h.sp
  cases g : c.gap with
  | nil => exact absurd g h.gap
  | cons x gs =>
    have hx := h.gws x (by rw [g]; exact .head _)
    have := lex_spell (r := gs ++ restOf r) (way := way) hb h.no10 hx
    simp only [restOf, g, e, List.drop_one, List.tail_cons]
    simpa using this
/-! starts -/
theorem startsOf_ge {cs : List Cell} : ∀ {k : Nat}, ∀ x ∈ startsOf k cs, k ≤ x := by
  induction cs with
  | nil => intro k x hx; cases hx
  | cons c r ih =>
    intro k x hx
    rcases List.mem_cons.mp hx with rfl | hx
    · exact Nat.le_refl _
    · have := ih x hx; lia
theorem startsOf_sorted {cs : List Cell} (h : ∀ c ∈ cs, CellOk c) : ∀ k, (startsOf k cs).Pairwise (· < ·) := by
  induction cs with
  | nil => intro k; exact .nil
  | cons c r ih =>
    intro k
    refine .cons (fun x hx => ?_) (ih (fun y hy => h y (.tail _ hy)) _)
    have := startsOf_ge x hx
    have q := (h c (.head _)).gap
    have : 0 < c.gap.length := List.length_pos_iff.mpr q
    lia
theorem startsOf_lt {cs : List Cell} (h : ∀ c ∈ cs, CellOk c) : ∀ k, ∀ x ∈ startsOf k cs, x < k + (restOf cs).length := by
  induction cs with
  | nil => intro k x hx; cases hx
  | cons c r ih =>
    intro k x hx
    have q : 0 < c.gap.length := List.length_pos_iff.mpr (h c (.head _)).gap
    rcases List.mem_cons.mp hx with rfl | hx
    · simp only [restOf, List.length_append]; lia
    · have := ih (fun y hy => h y (.tail _ hy)) _ x hx
      simp only [restOf, List.length_append]; lia
/-- the starts below a place -/
theorem filter_next {st : List Nat} (hs : st.Pairwise (· < ·)) (i : Nat) : st.filter (fun x => decide (x < i + 1)) = st.filter (fun x => decide (x < i)) ++ (if i ∈ st then [i] else []) := by
  induction st with
  | nil => simp
  | cons a st ih =>
    have hs' := (List.pairwise_cons.mp hs).2
    have ha := (List.pairwise_cons.mp hs).1
    rcases Nat.lt_trichotomy a i with h | h | h
    · rw [List.filter_cons_of_pos (by simp; lia), List.filter_cons_of_pos (by simp; lia), ih hs']
      have : (i ∈ a :: st) ↔ i ∈ st := by simp; lia
      simp only [this, List.cons_append]
    · subst h
      have e1 : st.filter (fun x => decide (x < a + 1)) = [] := List.filter_eq_nil_iff.mpr fun x hx => by have := ha x hx; simp; lia
      have e2 : st.filter (fun x => decide (x < a)) = [] := List.filter_eq_nil_iff.mpr fun x hx => by have := ha x hx; simp; lia
      rw [List.filter_cons_of_pos (by simp), List.filter_cons_of_neg (by simp), e1, e2]
      simp
    · have e1 : st.filter (fun x => decide (x < i + 1)) = [] := List.filter_eq_nil_iff.mpr fun x hx => by have := ha x hx; simp; lia
      have e2 : st.filter (fun x => decide (x < i)) = [] := List.filter_eq_nil_iff.mpr fun x hx => by have := ha x hx; simp; lia
      rw [List.filter_cons_of_neg (by simp; lia), List.filter_cons_of_neg (by simp; lia), e1, e2]
      have : ¬ (i ∈ a :: st) := fun q => by
        rcases List.mem_cons.mp q with e | q
        · lia
        · have := ha i q; lia
      simp [this]
theorem filter_zero (st : List Nat) : st.filter (fun x => decide (x < 0)) = [] := by
  refine List.filter_eq_nil_iff.mpr fun x _ => by simp
theorem filter_all {st : List Nat} {n : Nat} (h : ∀ x ∈ st, x < n) : st.filter (fun x => decide (x < n)) = st := by
  refine List.filter_eq_self.mpr fun x hx => by simpa using h x hx
theorem colOf_next {ts : Nat} {l : List Nat} {i c : Nat} (h : l[i]? = some c) : colOf ts (l.take (i + 1)) = (if c = 9 then colOf ts (l.take i) + (ts - colOf ts (l.take i) % ts) else colOf ts (l.take i) + 1) := by
  unfold colOf
  rw [List.take_add_one, h, colGo_append]
  rfl
end Mine
end
section
open PySem PySem.W PyProof.Rows PySem.Calls PySem.Spec
set_option maxRecDepth 100000
namespace Mine
section
variable {prog : Program} {w : World} {A : Around} {E : Value → Shared → Prop} {s : Shared}
noncomputable abbrev ZipF (h : Heap) (z TI TO : Addr) (f0 : Value) (b : Bool) : Prop :=
  h.get? z = some { cls := .type "zip", dict := none, data := .fields #[f0, .bool b, .bool false, .ref TI, .ref TO], slots := #[] }
theorem wpAny_ifAlive {α : Type} {M : Model} {k : Option Obj → Sem α} {a : Addr} {Q : α → Shared → Prop} (h : wpAny M A (k (s.heap.get? a)) Q E s) : wpAny M A (.loadIfAlive a k) Q E s := fun Γ p hΓ => by
  rw [Sem.wp_loadIfAlive]; exact h Γ p hΓ
theorem not_free {z TI TO T0 : Addr} {b : Bool} {o : Obj} {Q : Bool → Shared → Prop} (hz : ZipF s.heap z TI TO (rawInt T0) b) (hT : s.heap.get? T0 = some o)
    (h : ∀ h', ZipF h' z TI TO (rawInt T0) true → Heap.SameBut z s.heap h' → Q false { s with heap := h' }) :
    wpAny (model prog w) A (Builtin.SmallTypes.ownedTupleIsFree (.ref z)) Q E s := by
  unfold Builtin.SmallTypes.ownedTupleIsFree
  refine wpAny_bind (wpAny_field hz rfl (x := rawInt T0) rfl ?_)
  refine wpAny_ifAlive ?_
  have e : ((T0 : Nat) : Int).toNat = T0 := Int.toNat_natCast T0
  rw [show (Int.toNat (T0 : Int)) = T0 from e, hT]
  show wpAny _ _ (field (.ref z) 1 >>= _) _ _ _
  refine wpAny_bind (wpAny_field hz rfl (x := .bool b) rfl ?_)
  cases b with
  | true => exact wpAny_pure (h _ hz (Heap.SameBut.refl _ _))
  | false =>
    refine wpAny_bind (wpAny_setField_rec hz (by simp) fun h₁ hz₁ hs₁ => ?_)
    exact wpAny_pure (h _ hz₁ hs₁)
theorem zip_next_item2 {z TI TO i1 i2 l1 l2 T0 : Addr} {k1 k2 : Nat} {xs ys : Array Value} {x y : Value} {bb : Bool} {o0 : Obj} {Q : Value → Shared → Prop} (D : ZipApart z TI TO i1 i2 l1 l2)
    (hz : ZipF s.heap z TI TO (rawInt T0) bb) (h0 : s.heap.get? T0 = some o0) (hTI : IsPair s.heap TI (.ref i1) (.ref i2))
    (h1 : s.heap.IsListIter i1 l1 k1) (h2 : s.heap.IsListIter i2 l2 k2) (hl1 : s.heap.IsList l1 xs) (hl2 : s.heap.IsList l2 ys) (hx : xs[k1]? = some x) (hy : ys[k2]? = some y)
    (hQ : ∀ h' T, ZipF h' z TI TO (rawInt T0) true → h'.IsListIter i1 l1 (k1 + 1) → h'.IsListIter i2 l2 (k2 + 1) → IsPair h' T x y → s.heap.get? T = none →
      (∀ c o, c ≠ z → c ≠ i1 → c ≠ i2 → s.heap.get? c = some o → h'.get? c = some o) → Q (.ref T) { s with heap := h' }) :
    wpAny (model prog w) A (Builtin.«zip.__next__» ⟨[.ref z], []⟩) (fun fin s' => ∃ v, fin = .done (.ret v) ∧ Q v s') E s := by
  show wpAny _ _ (field (.ref z) 2 >>= _) _ _ _
  refine wpAny_bind (wpAny_field hz rfl (x := .bool false) rfl ?_)
  show wpAny _ _ (field (.ref z) 3 >>= _) _ _ _
  refine wpAny_bind (wpAny_field hz rfl (x := .ref TI) rfl ?_)
  refine wpAny_bind (wpAny_seqItems hTI rfl ?_)
  show wpAny _ _ (Builtin.SmallTypes.ownedTupleIsFree (.ref z) >>= _) _ _ _
  refine wpAny_bind (not_free hz h0 fun h₁ hz₁ hs₁ => ?_)
  simp only [Bool.false_eq_true, if_false]
  have D1 := hs₁.extBut
  have z1 : z ≠ TI := D.TIz.symm
  have h1' := h1.extBut D1 D.i1z
  have hl1' := hl1.extBut D1 D.l1z
  have h2' := h2.extBut D1 D.i2z
  have hl2' := hl2.extBut D1 D.l2z
  rw [← Array.forIn_toList]
  simp only [List.forIn_cons, List.forIn_nil]
  refine wpAny_bind (wpAny_bind (wpAny_bind (wpAny_holding ?_)))
  show wpAny _ _ (Builtin.SmallTypes.nextOf (.ref i1) >>= _) _ _ _
  refine wpAny_bind (wpAny_nextOf_list_item h1' hl1' hx fun h₂ h1₂ hs₂ => wpAny_pure ?_)
  have h2₂ := h2'.extBut hs₂.extBut D.i12.symm
  have hl2₂ := hl2'.extBut hs₂.extBut D.l2i1
  refine wpAny_pure ?_
  refine wpAny_bind (wpAny_bind (wpAny_holding ?_))
  show wpAny _ _ (Builtin.SmallTypes.nextOf (.ref i2) >>= _) _ _ _
  refine wpAny_bind (wpAny_nextOf_list_item h2₂ hl2₂ hy fun h₃ h2₃ hs₃ => wpAny_pure ?_)
  refine wpAny_pure ?_
  refine wpAny_pure ?_
  have hsz : h₃.objs.size = s.heap.objs.size := by rw [hs₃.1, hs₂.1, hs₁.1]
  refine wpAny_bind (wpAny_newTuple (hsz := Nat.le_of_ble_eq_true rfl) ?_)
  have kp : ∀ c o, c ≠ z → c ≠ i1 → c ≠ i2 → s.heap.get? c = some o → h₃.get? c = some o := fun c o c1 c2 c3 e => hs₃.extBut _ _ c3 (hs₂.extBut _ _ c2 (hs₁.extBut _ _ c1 e))
  have hz₃ : ZipF h₃ z TI TO (rawInt T0) true := hs₃.extBut _ _ D.i2z.symm (hs₂.extBut _ _ D.i1z.symm hz₁)
  have h1₃ := h1₂.extBut hs₃.extBut D.i12
  have up : ∀ c o, h₃.get? c = some o → (h₃.push { cls := .type "tuple", data := .seq #[x, y] }).get? c = some o := fun c o e => Heap.get?_push_of_some _ e
  refine wpAny_pure ⟨_, rfl, ?_⟩
  refine hQ _ _ (up _ _ hz₃) (h1₃.at fun o e => up _ o e) (h2₃.at fun o e => up _ o e) (Heap.get?_push_size _ rfl) ?_ fun c o c1 c2 c3 e => up _ _ (kp c o c1 c2 c3 e)
  cases q : s.heap.get? h₃.objs.size with
  | none => rfl
  | some o => exact absurd (Heap.lt_size q) (by rw [hsz]; exact Nat.lt_irrefl _)
theorem zip_next_end2 {z TI TO i1 i2 l1 l2 T0 : Addr} {k1 k2 : Nat} {xs ys : Array Value} {bb : Bool} {o0 : Obj} {Q : Fin → Shared → Prop} (hh : A.handled = none) (D : ZipApart z TI TO i1 i2 l1 l2)
    (hz : ZipF s.heap z TI TO (rawInt T0) bb) (h0 : s.heap.get? T0 = some o0) (hTI : IsPair s.heap TI (.ref i1) (.ref i2))
    (h1 : s.heap.IsListIter i1 l1 k1) (h2 : s.heap.IsListIter i2 l2 k2) (hl1 : s.heap.IsList l1 xs) (hl2 : s.heap.IsList l2 ys) (hx : xs[k1]? = none)
    (hE : ∀ h' e, (∀ c o, c ≠ z → c ≠ i1 → c ≠ i2 → s.heap.get? c = some o → h'.get? c = some o) → (∃ o, h'.get? e = some o ∧ o.cls = .type "StopIteration") → E (.ref e) { s with heap := h' }) :
    wpAny (model prog w) A (Builtin.«zip.__next__» ⟨[.ref z], []⟩) Q E s := by
  show wpAny _ _ (field (.ref z) 2 >>= _) _ _ _
  refine wpAny_bind (wpAny_field hz rfl (x := .bool false) rfl ?_)
  show wpAny _ _ (field (.ref z) 3 >>= _) _ _ _
  refine wpAny_bind (wpAny_field hz rfl (x := .ref TI) rfl ?_)
  refine wpAny_bind (wpAny_seqItems hTI rfl ?_)
  show wpAny _ _ (Builtin.SmallTypes.ownedTupleIsFree (.ref z) >>= _) _ _ _
  refine wpAny_bind (not_free hz h0 fun h₁ hz₁ hs₁ => ?_)
  simp only [Bool.false_eq_true, if_false]
  have D1 := hs₁.extBut
  have h1' := h1.extBut D1 D.i1z
  have hl1' := hl1.extBut D1 D.l1z
  rw [← Array.forIn_toList]
  simp only [List.forIn_cons, List.forIn_nil]
  refine wpAny_bind (wpAny_bind (wpAny_bind (wpAny_holding ?_)))
  show wpAny _ _ (Builtin.SmallTypes.nextOf (.ref i1) >>= _) _ _ _
  refine wpAny_bind (wpAny_nextOf_list_end hh h1' hl1' hx fun h₂ e hs₂ he => ?_)
  exact hE h₂ e (fun c o c1 c2 _ x => hs₂ _ _ c2 (hs₁.extBut _ _ c1 x)) he
theorem pyNext_zip_item2 {z TI TO i1 i2 l1 l2 T0 : Addr} {k1 k2 : Nat} {xs ys : Array Value} {x y : Value} {bb : Bool} {o0 : Obj} {Q : Option Value → Shared → Prop} (D : ZipApart z TI TO i1 i2 l1 l2)
    (hz : ZipF s.heap z TI TO (rawInt T0) bb) (h0 : s.heap.get? T0 = some o0) (hTI : IsPair s.heap TI (.ref i1) (.ref i2))
    (h1 : s.heap.IsListIter i1 l1 k1) (h2 : s.heap.IsListIter i2 l2 k2) (hl1 : s.heap.IsList l1 xs) (hl2 : s.heap.IsList l2 ys) (hx : xs[k1]? = some x) (hy : ys[k2]? = some y)
    (hQ : ∀ h' T, ZipF h' z TI TO (rawInt T0) true → h'.IsListIter i1 l1 (k1 + 1) → h'.IsListIter i2 l2 (k2 + 1) → IsPair h' T x y → s.heap.get? T = none →
      (∀ c o, c ≠ z → c ≠ i1 → c ≠ i2 → s.heap.get? c = some o → h'.get? c = some o) → Q (some (.ref T)) { s with heap := h' }) :
    wpAny (model prog w) A (pyNext (.ref z)) Q E s := by
  have hT : s.TypeIs (.ref z) "zip" := ⟨_, hz, rfl⟩
  unfold pyNext
  exact wpAny_bind (wpAny_attempt (wpAny_callSpecial?_slot (name := Str.ofString "__next__") hT F.slot_zip_next
    (wpAny_call_entry F.slot_zip_next hT F.entry_zip_next
      (zip_next_item2 D hz h0 hTI h1 h2 hl1 hl2 hx hy fun h' T a1 a2 a3 a4 a5 a6 => wpAny_pure (hQ h' T a1 a2 a3 a4 a5 a6)) (F.args_zip_next_1 _))))
theorem pyNext_zip_end2 {z TI TO i1 i2 l1 l2 T0 : Addr} {k1 k2 : Nat} {xs ys : Array Value} {bb : Bool} {o0 : Obj} {Q : Option Value → Shared → Prop} (hh : A.handled = none) (D : ZipApart z TI TO i1 i2 l1 l2)
    (hz : ZipF s.heap z TI TO (rawInt T0) bb) (h0 : s.heap.get? T0 = some o0) (hTI : IsPair s.heap TI (.ref i1) (.ref i2))
    (h1 : s.heap.IsListIter i1 l1 k1) (h2 : s.heap.IsListIter i2 l2 k2) (hl1 : s.heap.IsList l1 xs) (hl2 : s.heap.IsList l2 ys) (hx : xs[k1]? = none)
    (hQ : ∀ h', (∀ c o, c ≠ z → c ≠ i1 → c ≠ i2 → s.heap.get? c = some o → h'.get? c = some o) → Q none { s with heap := h' }) :
    wpAny (model prog w) A (pyNext (.ref z)) Q E s := by
  have hT : s.TypeIs (.ref z) "zip" := ⟨_, hz, rfl⟩
  unfold pyNext
  refine wpAny_bind (wpAny_attempt (wpAny_callSpecial?_slot (name := Str.ofString "__next__") hT F.slot_zip_next
    (wpAny_call_entry F.slot_zip_next hT F.entry_zip_next (zip_next_end2 hh D hz h0 hTI h1 h2 hl1 hl2 hx fun h' e hk he => ?_) (F.args_zip_next_1 _))))
  obtain ⟨o, ho, hc⟩ := he
  refine wpAny_bind (wpAny_isInstance (T := "StopIteration") (b := true) ⟨o, ho, hc⟩ isSubtype_stop ?_)
  exact wpAny_pure (hQ _ hk)
end
section
variable {prog : Program} {w : World} {A : Around} {R : Result → Shared → Prop} {h₀ : Heap} {z TI TO i1 i2 l1 l2 S : Addr} {xs ys : Array Value}
structure ZMid (h : Heap) (z TI TO i1 i2 l1 l2 S : Addr) (xs ys : Array Value) (i : Nat) : Prop where
  md : ∃ (T0 : Addr) (bb : Bool) (o0 : Obj), ZipF h z TI TO (rawInt T0) bb ∧ h.get? T0 = some o0 ∧ T0 ≠ z ∧ T0 ≠ i1 ∧ T0 ≠ i2 ∧ T0 ≠ S
  ti : IsPair h TI (.ref i1) (.ref i2)
  h1 : h.IsListIter i1 l1 i
  h2 : h.IsListIter i2 l2 i
  q1 : h.IsList l1 xs
  q2 : h.IsList l2 ys
noncomputable def AccOk (h₀ h : Heap) (z i1 i2 S : Addr) (xs ys : Array Value) (acc : Array Value) : Prop :=
  ∀ (j : Nat) (v : Value), acc[j]? = some v → ∃ (T : Addr) (x y : Value), v = .ref T ∧ xs[j]? = some x ∧ ys[j]? = some y ∧ IsPair h T x y ∧ h₀.get? T = none ∧ T ≠ z ∧ T ≠ i1 ∧ T ≠ i2 ∧ T ≠ S
theorem AccOk.push {h h' : Heap} {acc : Array Value} {T : Addr} {x y : Value} (a : AccOk h₀ h z i1 i2 S xs ys acc) (k : ∀ b o, b ≠ z → b ≠ i1 → b ≠ i2 → b ≠ S → h.get? b = some o → h'.get? b = some o)
    (hx : xs[acc.size]? = some x) (hy : ys[acc.size]? = some y) (hp : IsPair h' T x y) (hT : h₀.get? T = none) (n1 : T ≠ z) (n2 : T ≠ i1) (n3 : T ≠ i2) (n4 : T ≠ S) : AccOk h₀ h' z i1 i2 S xs ys (acc.push (.ref T)) := by
  intro j v hj
  rw [Array.getElem?_push] at hj
  split at hj
  · rename_i e
    cases hj
    exact ⟨T, x, y, rfl, e ▸ hx, e ▸ hy, hp, hT, n1, n2, n3, n4⟩
  · obtain ⟨T', x', y', rfl, a1, a2, a3, a4, a5, a6, a7, a8⟩ := a j v hj
    exact ⟨T', x', y', rfl, a1, a2, k _ _ a5 a6 a7 a8 a3, a4, a5, a6, a7, a8⟩
theorem AccOk.keep {h h' : Heap} {acc : Array Value} (a : AccOk h₀ h z i1 i2 S xs ys acc) (k : ∀ b o, b ≠ z → b ≠ i1 → b ≠ i2 → b ≠ S → h.get? b = some o → h'.get? b = some o) : AccOk h₀ h' z i1 i2 S xs ys acc := by
  intro j v hj
  obtain ⟨T', x', y', rfl, a1, a2, a3, a4, a5, a6, a7, a8⟩ := a j v hj
  exact ⟨T', x', y', rfl, a1, a2, k _ _ a5 a6 a7 a8 a3, a4, a5, a6, a7, a8⟩
theorem fresh_ne {h : Heap} {T a : Addr} {o : Obj} (hT : h.get? T = none) (ha : h.get? a = some o) : T ≠ a := fun e => by rw [e, ha] at hT; cases hT
theorem none_of {h : Heap} {T : Addr} (k : ∀ b o, h₀.get? b = some o → h.get? b = some o) (hT : h.get? T = none) : h₀.get? T = none := by
  cases q : h₀.get? T with
  | none => rfl
  | some o => rw [k _ _ q] at hT; cases hT
theorem extend_zip (hh : A.handled = none) (D : ZipApart z TI TO i1 i2 l1 l2) (hS : S ≠ z ∧ S ≠ TI ∧ S ≠ i1 ∧ S ≠ i2 ∧ S ≠ l1 ∧ S ≠ l2) (hf : h₀.get? z = none ∧ h₀.get? i1 = none ∧ h₀.get? i2 = none ∧ h₀.get? S = none) (hn : xs.size = ys.size) (hz : xs.size ≤ sizeLine) (res : Value) :
    ∀ (k i : Nat) (s : Shared) (acc : Array Value) (c : Nat), xs.size - i = k → i ≤ xs.size → ZMid s.heap z TI TO i1 i2 l1 l2 S xs ys i → s.heap.get? S = some { cls := .type "list", dict := none, data := .seq acc c, slots := #[] } → acc.size = i → AccOk h₀ s.heap z i1 i2 S xs ys acc →
    (∀ b o, h₀.get? b = some o → s.heap.get? b = some o) →
    (∀ h' acc' c', (∀ b o, h₀.get? b = some o → h'.get? b = some o) → h'.get? S = some { cls := .type "list", dict := none, data := .seq acc' c', slots := #[] } → acc'.size = xs.size → AccOk h₀ h' z i1 i2 S xs ys acc' → R (.ok (.ret res)) { s with heap := h' }) →
    codeAny (model prog w) A (.builtin "list.extend.loop" ⟨[.ref S, .ref z, res], []⟩) R s := by
  have hb : ∀ b o, h₀.get? b = some o → b ≠ z ∧ b ≠ i1 ∧ b ≠ i2 ∧ b ≠ S := fun b o e => ⟨fun q => (by rw [q, hf.1] at e; cases e), fun q => (by rw [q, hf.2.1] at e; cases e), fun q => (by rw [q, hf.2.2.1] at e; cases e), fun q => (by rw [q, hf.2.2.2] at e; cases e)⟩
  intro k
  induction k with
  | zero =>
    intro i s acc c hk hi hst hSo hac hacc hK hR
    have hin : i = xs.size := by lia
    subst hin
    obtain ⟨T0, bb, o0, m1, m2, m3, m4, m5, m6⟩ := hst.md
    refine codeAny_builtin F.entry_extend_loop ?_
    rw [Around.under_plainId F.plain_extend_loop _]
    show wpAny _ A.in1 (pyNext (.ref z) >>= _) _ _ s
    refine wpAny_bind (pyNext_zip_end2 hh D m1 m2 hst.ti hst.h1 hst.h2 hst.q1 hst.q2 (by simp) fun h' hk' => ?_)
    exact wpAny_pure (hR h' acc c (fun b o e => let q := hb b o e; hk' b o q.1 q.2.1 q.2.2.1 (hK b o e)) (hk' _ _ hS.1 hS.2.2.1 hS.2.2.2.1 hSo) hac (hacc.keep fun b o b1 b2 b3 _ e => hk' b o b1 b2 b3 e))
  | succ k ih =>
    intro i s acc c hk hi hst hSo hac hacc hK hR
    have hlt : i < xs.size := by lia
    obtain ⟨T0, bb, o0, m1, m2, m3, m4, m5, m6⟩ := hst.md
    refine codeAny_builtin F.entry_extend_loop ?_
    rw [Around.under_plainId F.plain_extend_loop _]
    show wpAny _ A.in1 (pyNext (.ref z) >>= _) _ _ s
    refine wpAny_bind (pyNext_zip_item2 D m1 m2 hst.ti hst.h1 hst.h2 hst.q1 hst.q2 (Array.getElem?_eq_getElem hlt) (Array.getElem?_eq_getElem (hn ▸ hlt)) fun h' T a1 a2 a3 a4 a5 a6 => ?_)
    have hS' := a6 _ _ hS.1 hS.2.2.1 hS.2.2.2.1 hSo
    have nS : T ≠ S := fresh_ne a5 hSo
    show wpAny _ A.in1 (updateSeq S (·.push (.ref T)) >>= _) _ _ _
    refine wpAny_bind ?_
    have oth : ∀ b o, b ≠ S → h'.get? b = some o → (h'.update S (Obj.mapSeq (·.push (.ref T)))).get? b = some o := fun b o hb e => (Heap.get?_update_other _ _ (Ne.symm hb)).trans e
    have hi1 : i1 ≠ S := Ne.symm hS.2.2.1
    have hi2 : i2 ≠ S := Ne.symm hS.2.2.2.1
    refine wpAny_updateSeq hS' rfl (wpAny_pure ⟨plainId_quiet F.plain_extend_loop _, ih (i + 1) _ (acc.push (.ref T)) _ (by lia) hlt ⟨⟨T0, true, o0, oth _ _ (Ne.symm hS.1) a1, oth _ _ m6 (a6 _ _ m3 m4 m5 m2), m3, m4, m5, m6⟩, oth _ _ (Ne.symm hS.2.1) (a6 _ _ D.TIz D.TIi1 D.TIi2 hst.ti), a2.at fun o e => oth _ o hi1 e, a3.at fun o e => oth _ o hi2 e,
      (hst.q1.at fun o e => oth _ o (Ne.symm hS.2.2.2.2.1) (a6 _ _ D.l1z D.l1i1 D.l1i2 e)), (hst.q2.at fun o e => oth _ o (Ne.symm hS.2.2.2.2.2) (a6 _ _ D.l2z D.l2i1 D.l2i2 e))⟩ (Heap.get?_update_self _ hS' rfl) (by rw [Array.size_push, hac])
      (hacc.push (fun b o b1 b2 b3 b4 e => oth _ _ b4 (a6 _ _ b1 b2 b3 e)) (by rw [hac]; exact Array.getElem?_eq_getElem hlt) (by rw [hac]; exact Array.getElem?_eq_getElem (hn ▸ hlt)) (oth _ _ nS a4) (none_of hK a5) (fresh_ne a5 m1) (by obtain ⟨_, e, _⟩ := hst.h1; exact fresh_ne a5 e) (by obtain ⟨_, e, _⟩ := hst.h2; exact fresh_ne a5 e) nS)
      (fun b o e => let q := hb b o e; oth _ _ q.2.2.2 (a6 _ _ q.1 q.2.1 q.2.2.1 (hK b o e))) hR⟩)
      (by rw [hac]; lia) (by show (acc.push _).size ≤ sizeLine + 1; rw [Array.size_push, hac]; lia)
theorem zip_no_len : typeLookup (.type "zip") "__len__" = pure none := by rw [typeLookup_type, builtinLookup_eq_fast]; kernel_rfl
theorem zip_no_hint : typeLookup (.type "zip") "__length_hint__" = pure none := by rw [typeLookup_type, builtinLookup_eq_fast]; kernel_rfl
/-- the first turn: the tuple that the zip keeps is free -/
theorem extend_zip0 {s : Shared} (hh : A.handled = none) (D : ZipApart z TI TO i1 i2 l1 l2) (hS : S ≠ z ∧ S ≠ TI ∧ S ≠ i1 ∧ S ≠ i2 ∧ S ≠ l1 ∧ S ≠ l2) (hST : S ≠ TO) (hf : h₀.get? z = none ∧ h₀.get? i1 = none ∧ h₀.get? i2 = none ∧ h₀.get? S = none) (hfO : h₀.get? TO = none) (hn : xs.size = ys.size) (hz : xs.size ≤ sizeLine) (hp : 0 < xs.size) (res : Value) {c : Nat}
    (m1 : IsZip s.heap z TI TO .none) (m2 : ∃ a b, IsPair s.heap TO a b) (ti : IsPair s.heap TI (.ref i1) (.ref i2)) (h1 : s.heap.IsListIter i1 l1 0) (h2 : s.heap.IsListIter i2 l2 0) (q1 : s.heap.IsList l1 xs) (q2 : s.heap.IsList l2 ys)
    (hSo : s.heap.get? S = some { cls := .type "list", dict := none, data := .seq #[] c, slots := #[] })
    (hK : ∀ b o, h₀.get? b = some o → s.heap.get? b = some o)
    (hR : ∀ h' acc' c', (∀ b o, h₀.get? b = some o → h'.get? b = some o) → h'.get? S = some { cls := .type "list", dict := none, data := .seq acc' c', slots := #[] } → acc'.size = xs.size → AccOk h₀ h' z i1 i2 S xs ys acc' → R (.ok (.ret res)) { s with heap := h' }) :
    codeAny (model prog w) A (.builtin "list.extend.loop" ⟨[.ref S, .ref z, res], []⟩) R s := by
  have hb : ∀ b o, h₀.get? b = some o → b ≠ z ∧ b ≠ i1 ∧ b ≠ i2 ∧ b ≠ S ∧ b ≠ TO := fun b o e => ⟨fun q => (by rw [q, hf.1] at e; cases e), fun q => (by rw [q, hf.2.1] at e; cases e), fun q => (by rw [q, hf.2.2.1] at e; cases e), fun q => (by rw [q, hf.2.2.2] at e; cases e), fun q => (by rw [q, hfO] at e; cases e)⟩
  obtain ⟨a, b, m2⟩ := m2
  refine codeAny_builtin F.entry_extend_loop ?_
  rw [Around.under_plainId F.plain_extend_loop _]
  show wpAny _ A.in1 (pyNext (.ref z) >>= _) _ _ s
  refine wpAny_bind (wpAny_pyNext_zip_item D m1 ti m2 h1 h2 q1 q2 (Array.getElem?_eq_getElem hp) (Array.getElem?_eq_getElem (hn ▸ hp)) fun h' a1 _ a2 a3 a4 _ a6 => ?_)
  have hS' := a6 _ _ hS.1 hST hS.2.2.1 hS.2.2.2.1 hSo
  have a5 : s.heap.get? s.heap.objs.size = none := by
    cases q : s.heap.get? s.heap.objs.size with
    | none => rfl
    | some o => exact absurd (Heap.lt_size q) (Nat.lt_irrefl _)
  have nS : s.heap.objs.size ≠ S := fresh_ne a5 hSo
  have nz : s.heap.objs.size ≠ z := fresh_ne a5 m1
  have n1 : s.heap.objs.size ≠ i1 := by obtain ⟨_, e, _⟩ := h1; exact fresh_ne a5 e
  have n2 : s.heap.objs.size ≠ i2 := by obtain ⟨_, e, _⟩ := h2; exact fresh_ne a5 e
  show wpAny _ A.in1 (updateSeq S (·.push (.ref s.heap.objs.size)) >>= _) _ _ _
  refine wpAny_bind ?_
  have oth : ∀ b o, b ≠ S → h'.get? b = some o → (h'.update S (Obj.mapSeq (·.push (.ref s.heap.objs.size)))).get? b = some o := fun b o hb e => (Heap.get?_update_other _ _ (Ne.symm hb)).trans e
  refine wpAny_updateSeq hS' rfl (wpAny_pure ⟨plainId_quiet F.plain_extend_loop _, extend_zip (h₀ := h₀) hh D hS hf hn hz res _ 1 _ (#[].push (.ref s.heap.objs.size)) _ rfl hp ⟨⟨s.heap.objs.size, false, _, oth _ _ (Ne.symm hS.1) a1, oth _ _ nS a4, nz, n1, n2, nS⟩, oth _ _ (Ne.symm hS.2.1) (a6 _ _ D.TIz D.TITO D.TIi1 D.TIi2 ti), a2.at fun o e => oth _ o (Ne.symm hS.2.2.1) e, a3.at fun o e => oth _ o (Ne.symm hS.2.2.2.1) e,
      (q1.at fun o e => oth _ o (Ne.symm hS.2.2.2.2.1) (a6 _ _ D.l1z D.l1TO D.l1i1 D.l1i2 e)), (q2.at fun o e => oth _ o (Ne.symm hS.2.2.2.2.2) (a6 _ _ D.l2z D.l2TO D.l2i1 D.l2i2 e))⟩ (Heap.get?_update_self _ hS' rfl) rfl
      (AccOk.push (h := h'.update S (Obj.mapSeq (·.push (.ref s.heap.objs.size)))) (fun j v hj => by simp at hj) (fun b o _ _ _ _ e => e) (Array.getElem?_eq_getElem hp) (Array.getElem?_eq_getElem (hn ▸ hp)) (oth _ _ nS a4) (none_of hK a5) nz n1 n2 nS)
      (fun b o e => let q := hb b o e; oth _ _ q.2.2.2.1 (a6 _ _ q.1 q.2.2.2.2 q.2.1 q.2.2.1 (hK b o e))) hR⟩)
      (Nat.zero_le _) (Nat.le_of_ble_eq_true rfl)
theorem sizeLine_gt : 100000 ≤ sizeLine := by rw [sizeLine_eq]; decide
/-- list(zip(l1, l2)) of two lists of one length -/
theorem call_list_zip {E : Value → Shared → Prop} {Q : Value → Shared → Prop} {s : Shared} {z TI TO i1 i2 l1 l2 : Addr} (hh : A.handled = none) (D : ZipApart z TI TO i1 i2 l1 l2) (hfz : h₀.get? z = none) (hf1 : h₀.get? i1 = none) (hf2 : h₀.get? i2 = none) (hfO : h₀.get? TO = none) (hn : xs.size = ys.size) (hz : xs.size ≤ sizeLine) (hp : 0 < xs.size)
    (m1 : IsZip s.heap z TI TO .none) (m2 : ∃ a b, IsPair s.heap TO a b) (ti : IsPair s.heap TI (.ref i1) (.ref i2)) (h1 : s.heap.IsListIter i1 l1 0) (h2 : s.heap.IsListIter i2 l2 0) (q1 : s.heap.IsList l1 xs) (q2 : s.heap.IsList l2 ys)
    (hK : ∀ b o, h₀.get? b = some o → s.heap.get? b = some o)
    (hQ : ∀ h' S acc' c', (∀ b o, h₀.get? b = some o → h'.get? b = some o) → h₀.get? S = none → h'.get? S = some { cls := .type "list", dict := none, data := .seq acc' c', slots := #[] } → acc'.size = xs.size → AccOk h₀ h' z i1 i2 S xs ys acc' → Q (.ref S) { s with heap := h' }) :
    wpAny (model prog w) A (call (.type "list") [.ref z]) Q E s := by
  refine callType_codes (Q₁ := fun obj s₁ => obj = .ref s.heap.objs.size ∧ s₁ = { s with heap := s.heap.push { cls := .type "list", data := .seq #[] } }) F.called_list (F.typeCall_list_1 _) F.entry_list_init
    (code_list_new _ ⟨rfl, rfl⟩) fun obj s₁ h₁ => ?_
  obtain ⟨rfl, rfl⟩ := h₁
  generalize hSS : s.heap.objs.size = S
  have hS : (s.heap.push { cls := .type "list", data := .seq #[] }).get? S = some { cls := .type "list", data := .seq #[] } := hSS ▸ Heap.get?_push_size _ rfl
  have up : ∀ b o, s.heap.get? b = some o → (s.heap.push { cls := .type "list", data := .seq #[] }).get? b = some o := fun b o e => Heap.get?_push_of_some _ e
  have fS : s.heap.get? S = none := by
    cases q : s.heap.get? S with
    | none => rfl
    | some o => exact absurd (Heap.lt_size q) (by rw [hSS]; exact Nat.lt_irrefl _)
  have nS : S ≠ z ∧ S ≠ TI ∧ S ≠ i1 ∧ S ≠ i2 ∧ S ≠ l1 ∧ S ≠ l2 := ⟨fresh_ne fS m1, fresh_ne fS ti, (by obtain ⟨_, e, _⟩ := h1; exact fresh_ne fS e), (by obtain ⟨_, e, _⟩ := h2; exact fresh_ne fS e), (by obtain ⟨_, e, _⟩ := q1; exact fresh_ne fS e), (by obtain ⟨_, e, _⟩ := q2; exact fresh_ne fS e)⟩
  have nSO : S ≠ TO := by obtain ⟨_, _, e⟩ := m2; exact fresh_ne fS e
  refine ⟨⟨_, hS, rfl⟩, F.args_list_init_2 _ _, ?_⟩
  show wpAny _ A.in1.in1 (do let old ← Builtin.List.listItems (.ref S); Builtin.List.listUpdate (.ref S) (fun _ => #[]); letGo old.toList.reverse; Builtin.List.listExtendWith (.ref S) (.ref z) .none) _ _ _
  refine wpAny_bind ?_
  unfold Builtin.List.listItems
  refine wpAny_bind (wpAny_seqItems hS rfl (wpAny_pure ?_))
  show wpAny _ A.in1.in1 (updateSeq S (fun _ => #[]) >>= fun _ => letGo (#[] : Array Value).toList.reverse >>= fun _ => Builtin.List.listExtendWith (.ref S) (.ref z) .none) _ _ _
  refine wpAny_bind (wpAny_updateSeq hS rfl ?_)
  have hS₂ := Heap.get?_update_self (Obj.mapSeq (fun _ => (#[] : Array Value))) hS rfl
  have oth : ∀ b o, b ≠ S → s.heap.get? b = some o → ((s.heap.push { cls := .type "list", data := .seq #[] }).update S (Obj.mapSeq (fun _ => (#[] : Array Value)))).get? b = some o :=
    fun b o hb e => (Heap.get?_update_other _ _ (Ne.symm hb)).trans (up _ _ e)
  refine wpAny_bind (wpAny_letGo ?_)
  generalize (s.heap.push { cls := .type "list", data := .seq #[] }).update S (Obj.mapSeq (fun _ => (#[] : Array Value))) = H at hS₂ oth
  unfold Builtin.List.listExtendWith
  refine wpAny_bind (wpAny_typeOf (T := "zip") ⟨_, oth _ _ (Ne.symm nS.1) m1, rfl⟩ ?_)
  have e1 : Builtin.List.listSameRef (.ref S) (.ref z) = false := by simp [Builtin.List.listSameRef, nS.1]
  have e2 : (Value.type "zip" == Value.type "list") = false := by decide
  have e3 : (Value.type "zip" == Value.type "tuple") = false := by decide
  simp only [e1, e2, e3, Bool.or_false, Bool.false_eq_true, if_false]
  refine wpAny_bind (wpAny_pyIter_zip (oth _ _ (Ne.symm nS.1) m1) ?_)
  refine wpAny_bind (wpAny_holding ?_)
  unfold Builtin.List.listLengthHint
  refine wpAny_bind (wpAny_specialOf (T := "zip") ⟨_, oth _ _ (Ne.symm nS.1) m1, rfl⟩ zip_no_len ?_)
  show wpAny _ _ (specialOf (Value.ref z) (Str.ofString "__length_hint__") >>= _) _ _ _
  refine wpAny_bind (wpAny_specialOf (T := "zip") ⟨_, oth _ _ (Ne.symm nS.1) m1, rfl⟩ zip_no_hint ?_)
  refine wpAny_pure ?_
  show wpAny _ _ (rule "list.extend.makes-room" >>= fun _ => Builtin.List.listTouch (.ref S) >>= fun _ =>
    again (.builtin "list.extend.loop" ⟨[.ref S, .ref z, .none], []⟩)) _ _ _
  refine wpAny_bind (wpAny_rule ?_)
  refine wpAny_bind ?_
  show wpAny _ _ (updateSeq S (·.push .none) >>= fun _ => updateSeq S (·.pop)) _ _ _
  refine wpAny_bind (wpAny_updateSeq hS₂ rfl ?_)
  have hS₃ := Heap.get?_update_self (Obj.mapSeq (·.push Value.none)) hS₂ rfl
  refine wpAny_updateSeq (hz := by seq_fits) hS₃ rfl ?_
  have hS₄ := Heap.get?_update_self (Obj.mapSeq (·.pop)) hS₃ rfl
  have oth2 : ∀ b o, b ≠ S → s.heap.get? b = some o → ((H.update S (Obj.mapSeq (·.push Value.none))).update S (Obj.mapSeq (·.pop))).get? b = some o :=
    fun b o hb e => (Heap.get?_update_other _ _ (Ne.symm hb)).trans ((Heap.get?_update_other _ _ (Ne.symm hb)).trans (oth b o hb e))
  generalize (H.update S (Obj.mapSeq (·.push Value.none))).update S (Obj.mapSeq (·.pop)) = H' at hS₄ oth2
  have fS₀ : h₀.get? S = none := none_of hK fS
  refine wpAny_pure ⟨plainId_quiet F.plain_extend_loop _, extend_zip0 (A := A.in1) (h₀ := h₀) hh D nS nSO ⟨hfz, hf1, hf2, fS₀⟩ hfO hn hz hp _ (oth2 _ _ (Ne.symm nS.1) m1) ?_ (oth2 _ _ (Ne.symm nS.2.1) ti) (h1.at fun o e => oth2 _ o (Ne.symm nS.2.2.1) e) (h2.at fun o e => oth2 _ o (Ne.symm nS.2.2.2.1) e)
    (q1.at fun o e => oth2 _ o (Ne.symm nS.2.2.2.2.1) e) (q2.at fun o e => oth2 _ o (Ne.symm nS.2.2.2.2.2) e) hS₄ (fun b o e => oth2 b o (fun q => by rw [q, fS₀] at e; cases e) (hK b o e)) fun h' acc' c' k1 k2 k3 k4 => ?_⟩
  · obtain ⟨a, b, e⟩ := m2; exact ⟨a, b, oth2 _ _ (Ne.symm nSO) e⟩
  · exact ⟨rfl, hQ h' S acc' c' k1 fS₀ k2 k3 k4⟩
end
end Mine
end
section
open PySem PySem.W PyProof.Rows PySem.Calls PySem.Spec
set_option maxRecDepth 100000
namespace Mine
noncomputable abbrev Rel := Addr → Obj → Prop
/-- a cell's tuple -/
noncomputable def CellOf (P : Rel) (v : Value) (c : Cell) : Prop := ∃ (T : Addr) (t1 t2 t3 : Tok), v = .ref T ∧ P T (tupOf #[.str (S c.word) t1, .str (S c.sp) t2, .str (S c.gap) t3])
theorem CellOf.mono {P P' : Rel} {v : Value} {c : Cell} (h : CellOf P v c) (k : ∀ a o, P a o → P' a o) : CellOf P' v c := by
  obtain ⟨T, t1, t2, t3, e, h⟩ := h
  exact ⟨T, t1, t2, t3, e, k _ _ h⟩
noncomputable abbrev Row (P : Rel) (vs : List Value) (cs : List Cell) : Prop := All2 (CellOf P) vs cs
theorem Row.mono {P P' : Rel} {vs : List Value} {cs : List Cell} (h : Row P vs cs) (k : ∀ a o, P a o → P' a o) : Row P' vs cs := All2.mono h fun _ _ q => q.mono k
noncomputable abbrev natI (st : List Nat) : List Int := st.map fun (x : Nat) => (x : Int)
section
variable {w : World} {mean : ExcName → Option Value} {mg mb : Str → Option Value} {hT h h' h₀ : Heap} {L : Addr} {m : Str → Option Value}
theorem G.keeps (g : G w mean mg mb hT h) (k : ∀ b o, h.get? b = some o → h'.get? b = some o) : G w mean mg mb hT h' := ⟨g.X, g.T, fun b o e => k b o (g.st b o e)⟩
theorem G.fr (g : G w mean mg mb hT h₀) (F : Fr h₀ L h m) : G w mean mg mb hT h := g.keeps F.keep
theorem len_S {prog : Program} {A : Around} {s : Shared} {Q E : Value → Shared → Prop} {l : List Nat} {t : Tok} (hl : l.length < 1000000) (hq : Q (.int (l.length : Int) (s.toks + 1)) { s with toks := s.toks + 1 + 1 }) : wpAny (model prog w) A (call (.builtin "len") [.str (S l) t]) Q E s :=
  PyProof.Rows.len_str (by rw [S_length]; omega) (by rw [S_length]; exact hq)
theorem iadd_SS {prog : Program} {A : Around} {s : Shared} {Q E : Value → Shared → Prop} {x y : Str} {t u : Tok} {a b : List Nat} (hx : x = S a) (hy : y = S b) (hs : a.length + b.length ≤ 16777216) (hq : ∀ t' tk, Q (.str (S (a ++ b)) t') { s with toks := tk }) :
    wpAny (model prog w) A (inplaceOp .Add (.str x t) (.str y u)) Q E s := by
  subst hx hy
  refine PyProof.Rows.iadd_str (fun t' tk => ?_) (by rw [S_length, S_length, sizeLine_eq]; exact hs)
  rw [S_append]
  exact hq t' tk
theorem isTup_of {T : Addr} {its : Array Value} (e : h.get? T = some (tupOf its)) : IsTup h T its := ⟨_, e, rfl, _, rfl⟩
end
section
variable {w : World} {mean : ExcName → Option Value} {mg mb : Str → Option Value} {hT : Heap} {dp un : Nat} {fr : Option (List Env)} {gd : Option (List Code)} {s : Shared} {A : Around}
  {R : Result → Shared → Prop} {name qual : Str} {params : Arguments} {body : List Stmt} {scope : Scope} {dV kV doc pm cdv ct oc : Value} {an od : Option Addr} {osl : Array (Option Value)} {f : Addr} {args : Args}
/-- a call of a def that changes nothing that stands; the base heap has a name of its own -/
theorem enterR (binds : List (Str × Value)) (g : G w mean mg mb hT s.heap)
    (ho : (Mine.hd.heap_39 w.params).lookup f = some ⟨oc, od, .func (fnOf name qual params body scope dV kV doc pm an cdv ct), osl⟩) (hcd : codeIn (Mine.hd.heap_39 w.params) cdv qual = true) (hroom : A.depth < recursionLimit)
    (hbind : BindsTo s (fnOf name qual params body scope dV kV doc pm an cdv ct) args binds) (hloc : ∀ y ∈ binds, scope.names.lookup y.1 = some .local)
    (hco : scope.isCoroutine = false) (hgen : scope.isGenerator = false) (hk : scope.kind = .function) (hcell : ∀ x ∈ scope.names, x.2 ≠ .cell)
    (h : ∀ g₀ L h₁, (∀ b o, s.heap.get? b = some o → g₀.get? b = some o) → (∀ b, g₀.get? b = none → s.heap.get? b = none) → (Mine.hd.heap_39 w.params).In g₀ → Top VW LS mean mg mb g₀ → Fr g₀ L h₁ (fun y => binds.reverse.lookup y) → News g₀ L h₁ [] →
      wpAny (model PR w) (A.deeper (envOf qual scope L f cdv)) (execs body (envOf qual scope L f cdv))
        (fun fl s' => R (.ok (.ret (match fl with | .ret v => v | _ => .none))) s') (fun _ _ => False)
        { s with heap := h₁, toks := s.toks + binds.length }) : codeAny (model PR w) A (.call (.ref f) args) R s :=
  enter0 binds g ho hcd hroom hbind hloc hco hgen hk hcell fun h₁ X T F N => h s.heap _ h₁ (fun _ _ e => e) (fun _ e => e) X T F N
end
end Mine
end
section
open PySem PySem.W PyProof.Rows PySem.Calls PySem.Spec
set_option maxRecDepth 100000
namespace Mine
section
variable {prog : Program} {w : World} {A : Around} {E : Value → Shared → Prop} {s : Shared} {h₀ : Heap} {env : Env} {x : Str} {px : Pos} {body : List Stmt} {Q : Flow → Shared → Prop}
/-- what a turn must leave -/
noncomputable def TurnEndN (h₀ : Heap) (L I : Addr) (oI : Obj) (J : (Str → Option Value) → List (Addr × Obj) → Prop) (s₁ : Shared) (f : Flow) (s₂ : Shared) : Prop :=
  f = .next ∧ ∃ h' tk m' news', s₂ = { s₁ with heap := h', toks := tk } ∧ Fr h₀ L h' m' ∧ News h₀ L h' ((I, oI) :: news') ∧ (∀ p ∈ news', p.1 ≠ I) ∧ J m' news'
noncomputable def AnySrc (prog : Program) (w : World) (A : Around) (h₀ : Heap) (env : Env) (x : Str) (px : Pos) (body : List Stmt) (Q : Flow → Shared → Prop) (E : Value → Shared → Prop) (xv : Value) (s₁ : Shared) : Prop :=
  ∃ (n : Nat) (P : Nat → Value → Prop) (m : Str → Option Value) (news : List (Addr × Obj)) (J : Nat → (Str → Option Value) → List (Addr × Obj) → Prop),
    OneIt prog w xv s₁ n P ∧ Fr h₀ env.locals s₁.heap m ∧ News h₀ env.locals s₁.heap news ∧ J 0 m news ∧
    (∀ i v m₁ news₁ I oI (s₂ : Shared), i < n → P i v → J i m₁ news₁ → (∀ p ∈ news₁, p.1 ≠ I) → Fr h₀ env.locals s₂.heap m₁ → News h₀ env.locals s₂.heap ((I, oI) :: news₁) →
      wpAny (model prog w) A (assign (.Name x px) env v) (fun _ s₃ => wpAny (model prog w) A (execs body env) (TurnEndN h₀ env.locals I oI (J (i + 1)) s₂) E s₃) E s₂) ∧
    ∀ h' tk m' news', Fr h₀ env.locals h' m' → News h₀ env.locals h' news' → J n m' news' → Q .next { s₁ with heap := h', toks := tk }
theorem for_any {pos : Pos} {iter : Expr} (hh : A.handled = none)
    (h : wpAny (model prog w) A (eval iter env) (AnySrc prog w A h₀ env x px body Q E) E s)
    (hs : ∀ x, foldedSetIterable iter env x = pure x := by intro _; rfl)
    (hE : PassesOwn (model prog w) A env E := by passes_own) :
    wpAny (model prog w) A (exec (.For (.Name x px) iter body [] pos) env) Q E s := by
  refine For_invT h₀ (wpAny_mono h (fun xv s₁ h₁ => ?_) fun _ _ e => e) hs hE
  obtain ⟨n, P, m, news, J, hit, F, N, h0, step, done⟩ := h₁
  refine hit A E _ fun o St W9 live st0 => ?_
  have f1 : s₁.heap.get? s₁.heap.objs.size = none := by
    cases q : s₁.heap.get? s₁.heap.objs.size with
    | none => rfl
    | some o => exact absurd (Heap.lt_size q) (Nat.lt_irrefl _)
  have off := fresh_off F f1
  refine ⟨s₁.heap.objs.size, _, _, n, P, St, m, news, J, rfl, W9 A hh, fun q => off.1 (List.mem_singleton.mp q).symm, fun b hb => ?_, fun p hp q => ?_, st0, F.keeps fun _ _ e => Heap.get?_push_of_some _ e, News.grown N fun _ _ e => Heap.get?_push_of_some _ e, fun i s' v Q' _ hQ' => wpAny_pure hQ', h0, ?_, fun h' tk m' news' F' N' _ hJ => done h' tk m' news' F' N' hJ⟩
  · rw [List.mem_singleton.mp hb]; exact off.2
  · have e := (N p hp).1
    rw [List.mem_singleton.mp q, f1] at e; cases e
  · rintro i v m₁ news₁ s₂ own hi hP hJ hoff hsub hown hmem hst F₁ N₁
    obtain ⟨oI, hI⟩ := live _ _ hst
    have hin : (s₁.heap.objs.size, oI) ∈ own := hmem _ (List.mem_singleton.mpr rfl) off.2 _ hI
    refine wpAny_mono (step i v m₁ news₁ s₁.heap.objs.size oI s₂ hi hP hJ (fun p hp e => hoff p hp (List.mem_singleton.mpr e)) F₁ (fun p hp => ?_)) (fun _ s₃ h₃ => wpAny_mono h₃ (fun f s₄ h₄ => ?_) fun _ _ e => e) fun _ _ e => e
    · rcases List.mem_cons.mp hp with rfl | hp
      · exact N₁ _ (List.mem_append_left _ hin)
      · exact N₁ _ (List.mem_append_right _ hp)
    · obtain ⟨rfl, h', tk', m', news', rfl, F', N', ho', hJ'⟩ := h₄
      refine ⟨rfl, h', tk', m', news', rfl, F', fun p hp => ?_, fun p hp e => ho' p hp (List.mem_singleton.mp e), hJ'⟩
      rcases List.mem_append.mp hp with hp | hp
      · have e1 := List.mem_singleton.mp (hsub p hp)
        have e2 := hown p hp
        rw [e1] at e2
        have e3 : p.2 = oI := Option.some.inj (e2.symm.trans hI)
        have e4 : p = (s₁.heap.objs.size, oI) := Prod.ext e1 e3
        rw [e4]; exact N' _ (.head _)
      · exact N' _ (.tail _ hp)
end
section
variable {w : World} {mean : ExcName → Option Value} {mg mb : Str → Option Value} {hT : Heap} {dp un : Nat} {fr : Option (List Env)} {gd : Option (List Code)} {s : Shared} {A : Around}
  {R : Result → Shared → Prop} {name qual : Str} {params : Arguments} {body : List Stmt} {scope : Scope} {dV kV doc pm cdv ct oc : Value} {an od : Option Addr} {osl : Array (Option Value)} {f : Addr} {args : Args}
/-- a call of a def that has cells and changes nothing that stands; the base heap has a name of its own -/
theorem enterCR (binds : List (Str × Value)) (g : G w mean mg mb hT s.heap)
    (ho : (Mine.hd.heap_39 w.params).lookup f = some ⟨oc, od, .func (fnOf name qual params body scope dV kV doc pm an cdv ct), osl⟩) (hcd : codeIn (Mine.hd.heap_39 w.params) cdv qual = true) (hroom : A.depth < recursionLimit)
    (hbind : BindsTo s (fnOf name qual params body scope dV kV doc pm an cdv ct) args binds) (hkind : (binds.all fun y => scope.names.lookup y.1 == some .local || scope.names.lookup y.1 == some .cell) = true)
    (hnd : ((cellsFrom 0 scope.names []).map (·.1)).Nodup)
    (hco : scope.isCoroutine = false) (hgen : scope.isGenerator = false) (hk : scope.kind = .function)
    (h : ∀ g₀ L' h₁ tk cells, (∀ b o, s.heap.get? b = some o → g₀.get? b = some o) → (∀ b, g₀.get? b = none → s.heap.get? b = none) → (Mine.hd.heap_39 w.params).In g₀ → Top VW LS mean mg mb g₀ → Fr g₀ L' h₁ (bindL (envOfC qual scope L' f cdv).kindOf binds fun _ => none) → News g₀ L' h₁ cells →
      CellsAre (bindC (envOfC qual scope L' f cdv).kindOf binds fun _ => none) (cellsFrom (L' + 1) scope.names []) cells →
      wpAny (model PR w) (A.deeper (envOfC qual scope L' f cdv)) (execs body (envOfC qual scope L' f cdv))
        (fun fl s' => R (.ok (.ret (match fl with | .ret v => v | _ => .none))) s') (fun _ _ => False)
        { s with heap := h₁, toks := tk }) : codeAny (model PR w) A (.call (.ref f) args) R s := by
  have X := g.X'
  refine codeAny_call_function (fd := fnOf name qual params body scope dV kV doc pm an cdv ct) (body := body) hroom (X _ _ ho) rfl hco hgen rfl (codeRec_of X hcd) (hbind _ _ _ _ ?_)
  refine wpAny_newFunctionEnv_cells hk (kindsX hkind _) fun env' he s' x => ?_
  subst he
  refine ⟨g.T'.nolimit.keeps x.toInCall.keep, codeAny_func ?_⟩
  obtain ⟨h₁, tk, rfl, _⟩ := x.done
  obtain ⟨cells, NC, Y⟩ := Cl.news (h₀ := s.heap) (Nat.le_refl _) fun n c hm => ⟨x.cell n c (lookup_of_mem_nodup (cellsFrom_names scope.names 0 (s.heap.objs.size + 1) [] [] rfl ▸ hnd) hm), x.above n c hm⟩
  exact wpAny_mono (h s.heap s.heap.objs.size h₁ tk cells (fun _ _ e => e) (fun _ e => e) X g.T' ⟨x.toInCall.ns, x.toInCall.keep, Nat.le_refl _⟩ NC Y) (fun _ _ y => y) (fun _ _ y => y.elim)
end
end Mine
end
section
open PySem PySem.W PyProof.Rows PySem.Calls PySem.Spec
set_option maxRecDepth 100000
set_option maxHeartbeats 0
namespace Mine
section
variable {w : World} {mean : ExcName → Option Value} {mg mb : Str → Option Value} {hT : Heap} {dp un : Nat} {fr : Option (List Env)} {gd : Option (List Code)} {s : Shared} {Q E : Value → Shared → Prop} {M : Model} {h : Heap}
theorem lnLgst1 : True := by
  k_with_none
  k_with "ar" => (((try dsimp only [AA, Around.deeper, Around.in1]); omega))
  k_with "om" => (with_reducible first | assumption | exact Ne.symm (by assumption) | exact Mine.up0 (by assumption) | exact Mine.up1 (by assumption) rfl | exact Mine.up2 (by assumption) rfl | exact Mine.up3 (by assumption) rfl | fail)
  trivial
theorem strs_of (l : List (Str × Tok)) (ps : List (List Nat)) (h : l.map (·.1) = ps.map S) : ∀ (i : Nat) (v : Value), (strValues l)[i]? = some v → ∃ (p : List Nat) (t : Tok), ps[i]? = some p ∧ v = .str (S p) t := by
  intro i v hv
  have : (strValues l)[i]? = (l[i]?).map fun p => Value.str p.1 p.2 := by simp [strValues]
  rw [this] at hv
  cases q : l[i]? with
  | none => rw [q] at hv; cases hv
  | some p =>
    rw [q] at hv
    have h1 : (l.map (·.1))[i]? = some p.1 := by simp [q]
    rw [h, List.getElem?_map] at h1
    cases r : ps[i]? with
    | none => rw [r] at h1; cases h1
    | some x =>
      rw [r] at h1
      refine ⟨x, p.2, rfl, ?_⟩
      have e1 : S x = p.1 := Option.some.inj h1
      have e2 : Value.str p.1 p.2 = v := Option.some.inj hv
      rw [← e2, e1]
theorem split_tab {prog : Program} {A : Around} {g : Heap} {L : Addr} {m : Str → Option Value} {news : List (Addr × Obj)} {l : List Nat} {t u : Tok} {y : Str} (hy : y = S [9]) (F : Fr g L s.heap m) (N : News g L s.heap news) (hl : l.length < 100000)
    (hq : ∀ (vs : List (Str × Tok)) h' D k, vs.map (·.1) = (splitL 9 l).map S → Fr g L h' m → News g L h' ((D, { cls := .type "list", data := .seq (strValues vs).toArray }) :: news) → Q (.ref D) { s with heap := h', toks := k }) :
    wpAny (model prog w) A (call (.builtin "str.split") [.str (S l) t, .str y u]) Q E s := by
  subst hy
  refine splitN1 F N rfl (fun vs h' k e F' N' => hq vs h' _ k (by rw [e, split_S]) F' N') (by rw [S_length, sizeLine_eq]; omega)
theorem litT : Str.ofString "\t" = S [9] := by decide +kernel
theorem splitL_len (k : Nat) (l : List Nat) : (splitL k l).length ≤ l.length + 1 := by
  induction l with
  | nil => exact Nat.le_refl _
  | cons c t ih =>
    simp only [splitL]
    split
    · simp only [List.length_cons]; omega
    · split
      · rename_i e; rw [e] at ih; simp only [List.length_cons] at ih ⊢; omega
      · simp
theorem le_maxOf {l : List Nat} {x : Nat} (h : x ∈ l) : x ≤ maxOf l := by
  induction l with
  | nil => cases h
  | cons a r ih =>
    simp only [maxOf]
    rcases List.mem_cons.mp h with rfl | h
    · omega
    · have := ih h; omega
theorem maxOf_mem {l : List Nat} (h : l ≠ []) : maxOf l ∈ l := by
  induction l with
  | nil => exact absurd rfl h
  | cons a r ih =>
    simp only [maxOf]
    cases r with
    | nil => simp [maxOf]
    | cons b q =>
      have := ih (by simp)
      rcases Nat.le_total a (maxOf (b :: q)) with h | h
      · rw [Nat.max_eq_right h]; exact .tail _ this
      · rw [Nat.max_eq_left h]; exact .head _
theorem le_maxLen {ps : List (List Nat)} {p : List Nat} (h : p ∈ ps) : p.length ≤ maxLen ps := le_maxOf (List.mem_map_of_mem h)
theorem runsGo_le (l : List Nat) : ∀ rs b k, (∀ r ∈ rs, r ≤ k) → b ≤ k → (∀ r ∈ (runsGo l rs b).1, r ≤ k + l.length) ∧ (runsGo l rs b).2 ≤ k + l.length := by
  induction l with
  | nil => intro rs b k h1 h2; exact ⟨h1, h2⟩
  | cons c t ih =>
    intro rs b k h1 h2
    unfold runsGo
    split
    · have := ih (b :: rs) 0 k (fun r hr => by rcases List.mem_cons.mp hr with rfl | hr; exact h2; exact h1 r hr) (Nat.zero_le _)
      simp only [List.length_cons]
      exact ⟨fun r hr => by have := this.1 r hr; omega, by omega⟩
    · have := ih rs (b + 1) (k + 1) (fun r hr => by have := h1 r hr; omega) (by omega)
      simp only [List.length_cons]
      exact ⟨fun r hr => by have := this.1 r hr; omega, by omega⟩
theorem maxOf_le {l : List Nat} {k : Nat} (h : ∀ r ∈ l, r ≤ k) : maxOf l ≤ k := by
  induction l with
  | nil => exact Nat.zero_le _
  | cons a r ih =>
    have h1 := h a (.head _)
    have h2 := ih fun x hx => h x (.tail _ hx)
    simp only [maxOf]; omega
theorem longOf_le (l : List Nat) : longOf l ≤ l.length := by
  have := runsGo_le l [] 0 0 (fun r hr => by cases hr) (Nat.le_refl _)
  have h2 := maxOf_le this.1
  unfold longOf runsOf
  omega
theorem lnLgst2 : True := by
  k_with "call builtin:len" => (k_dflt (refine len_S (by omega) ?_))
  trivial
theorem c_longest {l : List Nat} {n : Nat} {t u : Tok} (g : G w mean mg mb hT s.heap) (hd : dp + 60 < recursionLimit) (hu : un + 300 < cLine) (hl : l.length < 10000) (hn : n ≤ l.length)
    (hq : ∀ h' tk' t', (∀ b o, s.heap.get? b = some o → h'.get? b = some o) → Q (.int (longOf (l.take n) : Int) t') { s with heap := h', toks := tk' }) :
    wpAny (model PR w) (AA dp un fr gd) (call (.ref 828) [.str (S l) t, .int (n : Int) u]) Q E s := by
  refine wpAny_call ?_
  refine enterR [(Str.ofString "line", .str (S l) t), (Str.ofString "start", .int (n : Int) u)] g (by k_is) (by k_is) (by show dp < _; omega) (BindsTo.of_eq rfl) (locs rfl) rfl rfl rfl (by decide) ?_
  intro g₀ L h₁ up dn X T F N
  repeat' ((fail_if_success (with_reducible show wpAny _ _ (eval (Expr.ListComp _ _ _ _) _) _ _ _)); (first | (k_unfold; (try dsimp only)) | walk1 | (dsimp only; walk1) | fail "no step"))
  rename Fr _ _ _ _ => F9
  rename News _ _ _ _ => N9
  refine LCg.ListComp_U F9 rfl (by decide) rfl (by decide) rfl ?_
  repeat' ((fail_if_success (with_reducible show LCg.CompSrc _ _ _ _ _ _ _ _ _ _ _ _ _ _)); (first | (k_unfold; (try dsimp only)) | walk1 | (dsimp only; walk1) | fail "no step"))
  rename List.map _ _ = Txt.split _ _ => hsp
  rename Fr _ _ _ _ => F9
  rename News _ _ _ _ => N9
  rename List (Str × Tok) => vs
  rw [slice_to_S l hn, litT, split_S] at hsp
  have hps := strs_of vs _ hsp
  have hln : vs.length = (splitL 9 (l.take n)).length := by have := congrArg List.length hsp; simpa using this
  have hsl := splitL_len 9 (l.take n)
  rw [List.length_take] at hsl
  have hmx : ∀ p ∈ splitL 9 (l.take n), p.length ≤ longOf (l.take n) := fun p hp => by rw [← long_split]; exact le_maxLen hp
  have hlg : longOf (l.take n) ≤ n := by
    have := longOf_le (l.take n)
    rw [List.length_take] at this; omega
  refine LCg.CompSrc.ledger rfl F9 N9 (.head _) (by simp [sizeLine_eq, strValues]; omega) fun gg => ?_
  refine comp_inv (n := (strValues vs).toArray.size) (fun i ys news => IntsAre ys (((splitL 9 (l.take n)).take i).map fun p => (p.length : Int)) ∧ news = [(_, { cls := .type "list", data := .seq (strValues vs).toArray })]) ?_ ?_ _ 0 [] _ (Nat.zero_add _) ⟨.nil, rfl⟩
  · rintro i ys news v I oI C oC D m₂ h tk E' hi ⟨hy, rfl⟩ hv hC hx F₂ N₂ off ne
    obtain ⟨p, tp, hp, rfl⟩ := hps i v (by simpa using hv)
    dsimp only
    have hpl := hmx p (List.mem_of_getElem? hp)
    repeat' (first | (k_unfold; (try dsimp only)) | walk1 | (dsimp only; walk1) | fail "no step")
    rw [List.take_add_one, hp, List.map_append]
    exact ⟨_, _, _, rfl, F₂, N₂, off, .inr ⟨_, .head _, rfl, _, rfl⟩, hy.append (.cons _ _ .nil), rfl⟩
  · rintro ys news ⟨hy, rfl⟩ D h tk F₂ N₂ off
    dsimp only
    have hzs : (strValues vs).toArray.size = (splitL 9 (l.take n)).length := by rw [← hln]; simp [strValues]
    rw [hzs, List.take_length] at hy
    have hpos : 0 < (splitL 9 (l.take n)).length := List.length_pos_iff.mpr (splitL_ne _ _)
    repeat' ((fail_if_success (with_reducible show wpAny _ _ (call (.builtin "max") _ _) _ _ _)); (first | (k_unfold; (try dsimp only)) | walk1 | (dsimp only; walk1) | fail "no step"))
    refine max_list_N rfl F₂ N₂ ⟨_, (N₂ _ (.head _)).1, rfl, _, rfl⟩ hy (by rw [List.length_map]; exact hpos) fun h' M tm tk' F₃ N₃ hM hMx => ?_
    have hMe : M = (longOf (l.take n) : Int) := by
      obtain ⟨p, hp, rfl⟩ := List.mem_map.mp hM
      have h1 := hmx p hp
      have h2 : maxLen (splitL 9 (l.take n)) ∈ (splitL 9 (l.take n)).map (·.length) := maxOf_mem (fun e => splitL_ne 9 (l.take n) (List.map_eq_nil_iff.mp e))
      rw [long_split] at h2
      obtain ⟨p', hp', e'⟩ := List.mem_map.mp h2
      have h3 := hMx _ (List.mem_map_of_mem (f := fun p : List Nat => (p.length : Int)) hp')
      omega
    subst hMe
    clear F₂ N₂
    repeat' (first | (k_unfold; (try dsimp only)) | walk1 | (dsimp only; walk1) | fail "no step")
    exact hq _ _ _ fun b o e => F₃.keep b o (up b o e)
end
end Mine
end
theorem Mine.lnEndLgst : True := by
  k_with_none
  trivial
section
open PySem PySem.W PyProof.Rows PySem.Calls PySem.Spec
set_option maxRecDepth 100000
set_option maxHeartbeats 0
namespace Mine
section
variable {w : World} {mean : ExcName → Option Value} {mg mb : Str → Option Value} {hT : Heap} {dp un : Nat} {fr : Option (List Env)} {gd : Option (List Code)} {s : Shared} {Q E : Value → Shared → Prop} {M : Model} {h : Heap}
theorem lnWit1 : True := by
  k_with_none
  k_with "ar" => (((try dsimp only [AA, Around.deeper, Around.in1]); omega))
  k_with "om" => (with_reducible first | assumption | exact Ne.symm (by assumption) | exact Mine.up0 (by assumption) | exact Mine.up1 (by assumption) rfl | exact Mine.up2 (by assumption) rfl | exact Mine.up3 (by assumption) rfl | fail)
  trivial
noncomputable def longW (ww : Ws) : Nat := max (ww.cnt.length - 1) ww.b
/-- what not_equal_witness tells for the sizes 1 to n -/
noncomputable def witTo (f f' : Nat → Int) : Nat → List PyData
  | 0 => []
  | n + 1 => witTo f f' n ++ (if f (n + 1) = f' (n + 1) then [] else [.tuple [.int ((n + 1 : Nat) : Int), .int (f (n + 1)), .int (f' (n + 1))]])
theorem witTo_len (f f' : Nat → Int) (n : Nat) : (witTo f f' n).length ≤ n := by
  induction n with
  | zero => exact Nat.le_refl _
  | succ n ih =>
    simp only [witTo, List.length_append]
    split
    · simp only [List.length_nil]; omega
    · simp only [List.length_cons, List.length_nil]; omega
noncomputable abbrev witM (wx vx A : Addr) (m : Str → Option Value) : Str → Option Value :=
  set1 (Str.ofString "self") (.ref wx) (set1 (Str.ofString "other") (.ref vx) (set1 (Str.ofString "a") (.ref A) m))
theorem fr_witM {g h : Heap} {L wx vx A : Addr} {m : Str → Option Value} (_F : Fr g L h m) (h1 : m (Str.ofString "self") = some (.ref wx)) (h2 : m (Str.ofString "other") = some (.ref vx)) (h3 : m (Str.ofString "a") = some (.ref A)) : m = witM wx vx A m := by
  unfold witM
  rw [set1_same h3, set1_same h2, set1_same h1]
theorem lnWit2 : True := by
  k_with "call ref" => ((k_here; (with_reducible rename Fr _ _ _ _ => kF_q); (with_reducible rename News _ _ _ _ => kN_q); (try dsimp only [List.append_nil, List.append]); k_dflt (first
      | refine c_long ⟨News.get kN_q (by k_mem), News.get kN_q (by k_mem), News.get kN_q (by k_mem), News.get kN_q (by k_mem), by assumption, by assumption⟩ (G.of kF_q (by k_asm) (by k_asm)) (by walk_at "ar") (by walk_at "ar") (News.fresh kN_q (by k_mem)) (News.fresh kN_q (by k_mem)) (News.fresh kN_q (by k_mem)) (News.fresh kN_q (by k_mem)) ?_
      | refine c_indent ⟨News.get kN_q (by k_mem), News.get kN_q (by k_mem), News.get kN_q (by k_mem), News.get kN_q (by k_mem), by assumption, by assumption⟩ (by omega) (by omega) (G.of kF_q (by k_asm) (by k_asm)) (by walk_at "ar") (by walk_at "ar") (News.fresh kN_q (by k_mem)) (News.fresh kN_q (by k_mem)) (News.fresh kN_q (by k_mem)) (News.fresh kN_q (by k_mem)) ?_); intro h'_q tk'_q t'_q hk'_q; (have F'_q := Fr.keeps kF_q hk'_q); (have N'_q := News.grown kN_q hk'_q); clear kF_q kN_q hk'_q; (try dsimp only)))
  k_with "call builtin:list.append" => ((k_here; (with_reducible rename Fr _ _ _ _ => kF_q); (with_reducible rename News _ _ _ _ => kN_q); k_dflt (refine append_K kF_q kN_q (Upd.tail (by k_ne) (Upd.tail (by k_ne) (Upd.head (by assumption)))) ?_ (by simp only [List.size_toArray, sizeLine_eq]; omega)); intro h'_q F'_q N'_q; clear kF_q kN_q; (try dsimp only)))
  k_with "execs cons Assign cons" => walk_at "execs cons"
  trivial
theorem long_cast (a b : Nat) : max ((a : Int) - 1) (b : Int) = ((max (a - 1) b : Nat) : Int) := by omega
theorem max_pick (x y : Nat) : (if ((y : Nat) : Int) > (x : Int) then (y : Int) else (x : Int)) = ((max x y : Nat) : Int) := by
  split
  · next h => rw [Nat.max_eq_right (Nat.le_of_lt (Int.ofNat_lt.mp h))]
  · next h => rw [Nat.max_eq_left (Nat.not_lt.mp fun c => h (Int.ofNat_lt.mpr c))]
theorem c_wit {wx wd nm ct vx vd nm' ct' : Addr} {ww ww' : Ws} {vs vs' : List Value} {ts ts' : Nat → Tok} {raw raw' : Value} {bs bs' : Bool} {t' t'' : Tok} (a : WsAt w s.heap wx wd nm ct ww vs ts raw bs t') (b : WsAt w s.heap vx vd nm' ct' ww' vs' ts' raw' bs' t'') (g : G w mean mg mb hT s.heap) (hd : dp + 160 < recursionLimit) (hu : un + 600 < cLine)
    (hb : ww.b < 1001) (hb' : ww'.b < 1001) (k1 : hT.get? wx = none) (k2 : hT.get? wd = none) (k3 : hT.get? nm = none) (k4 : hT.get? ct = none) (k1' : hT.get? vx = none) (k2' : hT.get? vd = none) (k3' : hT.get? nm' = none) (k4' : hT.get? ct' = none)
    (hq : ∀ h' tk' A, (∀ b o, s.heap.get? b = some o → h'.get? b = some o) → Reads h' (.ref A) (.list (witTo (indentOf ww) (indentOf ww') (max (longW ww) (longW ww') + 1))) [A] → Q (.ref A) { s with heap := h', toks := tk' }) :
    wpAny (model PR w) (AA dp un fr gd) (call (.ref 84) [.ref wx, .ref vx]) Q E s := by
  have hO := objs_app (objs4 a.h1 a.h2 a.h3 a.h4 k1 k2 k3 k4) (objs4 b.h1 b.h2 b.h3 b.h4 k1' k2' k3' k4')
  refine wpAny_call ?_
  refine enterD [(Str.ofString "self", .ref wx), (Str.ofString "other", .ref vx)] _ g hO (by k_is) (by k_is) (by show dp < _; omega) (BindsTo.of_eq rfl) (locs rfl) rfl rfl rfl (by decide) ?_
  intro g₀ L' h₁ X T F N hlt' hkb hfr
  dsimp only [List.append, List.cons_append, List.nil_append] at N
  have hvs := a.iv
  have hvs' := b.iv
  have hlen := a.lv
  have hlen' := b.lv
  repeat' ((fail_if_success (with_reducible show wpAny _ _ (exec (Stmt.For _ _ _ _ _) _) _ _ _)); (first | (k_unfold; (try dsimp only)) | walk1 | (dsimp only; walk1) | fail "no step"))
  rename Fr _ _ _ _ => F9
  rename News _ _ _ _ => N9
  refine for_one (h₀ := g₀) rfl (by rfl) (by rfl) ?_
  repeat' ((fail_if_success (with_reducible show OneSrc _ _ _ _ _ _ _ _ _ _ _)); (first | (k_unfold; (try dsimp only)) | walk1 | (dsimp only; walk1) | fail "no step"))
  rename IsRange _ _ _ _ _ _ _ _ => R9
  rename Fr _ _ _ _ => F9
  rename News _ _ _ _ => N9
  have hM : (if max ((ww'.cnt.length : Int) - 1) (ww'.b : Int) > max ((ww.cnt.length : Int) - 1) (ww.b : Int) then max ((ww'.cnt.length : Int) - 1) (ww'.b : Int) else max ((ww.cnt.length : Int) - 1) (ww.b : Int)) = ((max (longW ww) (longW ww') : Nat) : Int) := by
    rw [long_cast, long_cast]; exact max_pick _ _
  rw [hM] at R9
  have hl1 : longW ww < 1001 := by unfold longW; omega
  have hl2 : longW ww' < 1001 := by unfold longW; omega
  refine OneSrc.fin (fun i m news => ∃ (A : Addr) (e : Nat) (us : List Value) (tl : List (Addr × Obj)), m = witM wx vx A m ∧ Made tl us (witTo (indentOf ww) (indentOf ww') i) ∧ news = (A, W.listOf us.toArray e) :: (wx, instObj 101 wd) :: (wd, dictOf (wsEs w ts raw ww.n ww.nt nm bs) 5) :: (nm, tupOf #[.ref ct, .int (ww.b : Int) t']) :: (ct, tupOf vs.toArray) :: (vx, instObj 101 vd) :: (vd, dictOf (wsEs w ts' raw' ww'.n ww'.nt nm' bs') 5) :: (nm', tupOf #[.ref ct', .int (ww'.b : Int) t'']) :: (ct', tupOf vs'.toArray) :: tl)
    (fun m news => ∃ (A : Addr) (e : Nat) (us : List Value) (tl : List (Addr × Obj)), m = witM wx vx A m ∧ Made tl us (witTo (indentOf ww) (indentOf ww') (max (longW ww) (longW ww') + 1)) ∧ news = (A, W.listOf us.toArray e) :: (wx, instObj 101 wd) :: (wd, dictOf (wsEs w ts raw ww.n ww.nt nm bs) 5) :: (nm, tupOf #[.ref ct, .int (ww.b : Int) t']) :: (ct, tupOf vs.toArray) :: (vx, instObj 101 vd) :: (vd, dictOf (wsEs w ts' raw' ww'.n ww'.nt nm' bs') 5) :: (nm', tupOf #[.ref ct', .int (ww'.b : Int) t'']) :: (ct', tupOf vs'.toArray) :: tl)
    (oneIt_range R9 (by omega) (by omega) (by omega) (by omega)) F9 N9 ⟨_, _, [], [], fr_witM F9 rfl rfl rfl, .nil, rfl⟩ ?_ ?_ ?_
  · rintro i v m₁ news₁ I oI h tk hi ⟨tv, rfl⟩ ⟨A, e, us, tl, hm, htr, rfl⟩ hoff F N
    rw [hm] at F
    clear hm F9 N9
    have hAo := off_list (fun p hp => N p (.tail _ hp)) (by
      repeat' (refine List.forall_mem_cons.mpr ⟨?_, ?_⟩)
      all_goals first | exact htr.cls | (show Value.ref _ ≠ Value.type _; exact fun h => by cases h) | (show Value.type _ ≠ Value.type _; decide))
    have hIA := neN (hoff _ (.head _))
    dsimp only at hIA
    have hul := htr.len
    have hwl := witTo_len (indentOf ww) (indentOf ww') i
    have hi2 : i + 1 < 100000 := by omega
    rw [show (1 : Int) + (i : Int) * 1 = ((i + 1 : Nat) : Int) by omega] at F
    repeat' (first | (k_unfold; (try dsimp only)) | walk1 | (dsimp only; walk1) | fail "no step")
    all_goals rename Fr _ _ _ _ => F9
    all_goals rename News _ _ _ _ => N9
    · rw [listOf_push] at N9
      refine ⟨_, _, _, _, rfl, F9, news_rot (xs := [_, _, _, _, _, _, _, _]) N9, off_rot (xs := [_, _, _, _, _, _, _, _]) hoff (by refine neN ?_; omega), A, _, _, _, fr_witM F9 rfl rfl rfl, ?_, rfl⟩
      rw [witTo, if_neg (by assumption)]
      exact .snoc htr flat3
    · refine ⟨_, _, _, _, rfl, F9, N9, hoff, A, _, us, tl, fr_witM F9 rfl rfl rfl, ?_, rfl⟩
      rw [witTo, if_pos (by assumption), List.append_nil]
      exact htr
  · rintro m news ⟨A, e, us, tl, hm, htr, hn⟩
    rw [show ((max (longW ww) (longW ww') : Nat) + 1 + 1 - 1 : Int).toNat = max (longW ww) (longW ww') + 1 by omega] at htr
    exact ⟨A, e, us, tl, hm, htr, hn⟩
  · rintro h' tk m' news' F' N' ⟨A, e, us, tl, hm, htr, rfl⟩
    rw [hm] at F'
    clear hm F9 N9
    repeat' (first | (k_unfold; (try dsimp only)) | walk1 | (dsimp only; walk1) | fail "no step")
    rename Fr _ _ _ _ => F9
    rename News _ _ _ _ => N9
    exact hq _ _ A (kb_all (hkb _ F9.keep) (fun p hp => (hO p hp).1) fun p hp => (N9 p (.tail _ (List.mem_append_left tl hp))).1) (htr.list (fun p hp => (N9 p (.tail _ (List.mem_append_right [_, _, _, _, _, _, _, _] hp))).1) (N9 _ (.head _)).1)
end
end Mine
end
theorem Mine.lnEndWit : True := by
  k_with_none
  trivial
section
open PySem PySem.W PyProof.Rows PySem.Calls PySem.Spec
set_option maxRecDepth 100000
set_option maxHeartbeats 0
namespace Mine
section
variable {w : World} {mean : ExcName → Option Value} {mg mb : Str → Option Value} {hT : Heap} {dp un : Nat} {fr : Option (List Env)} {gd : Option (List Code)} {s : Shared} {Q E : Value → Shared → Prop} {M : Model} {h : Heap}
theorem lnUnl1 : True := by
  k_with_none
  k_with "ar" => (((try dsimp only [AA, Around.deeper, Around.in1]); omega))
  k_with "om" => (with_reducible first | assumption | exact Ne.symm (by assumption) | exact Mine.up0 (by assumption) | exact Mine.up1 (by assumption) rfl | exact Mine.up2 (by assumption) rfl | exact Mine.up3 (by assumption) rfl | fail)
  trivial
noncomputable def colsL (n : Nat) (f : Nat → Int) : List Int := (List.range n).map fun i => f (i + 1)
theorem colsL_len (n : Nat) (f : Nat → Int) : (colsL n f).length = n := by simp [colsL]
theorem colsL_at {n i : Nat} (f : Nat → Int) (h : i < n) : (colsL n f).getD i 0 = f (i + 1) := by
  unfold colsL
  rw [List.getD_eq_getElem?_getD, List.getElem?_map, List.getElem?_range h]; rfl
noncomputable abbrev unM (ux lx A : Addr) (m : Str → Option Value) : Str → Option Value :=
  set1 (Str.ofString "upper") (.ref ux) (set1 (Str.ofString "lower") (.ref lx) (set1 (Str.ofString "unlike") (.ref A) m))
theorem fr_unM {g h : Heap} {L ux lx A : Addr} {m : Str → Option Value} (_F : Fr g L h m) (h1 : m (Str.ofString "upper") = some (.ref ux)) (h2 : m (Str.ofString "lower") = some (.ref lx)) (h3 : m (Str.ofString "unlike") = some (.ref A)) : m = unM ux lx A m := by
  unfold unM
  rw [set1_same h3, set1_same h2, set1_same h1]
theorem tup_item {prog : Program} {A : Around} {value slice : Expr} {T : Addr} {its : Array Value} {k : Nat} {x : Value} {u : Tok} (ht : s.heap.get? T = some (tupOf its)) (hx : its[k]? = some x) (hz : its.size < 100) (h : Q x s)
    (hs : subscripted slice false (.ref T) (.int (k : Int) u) = operate [.ref T, .int (k : Int) u] (getItem (.ref T) (.int (k : Int) u)) := by with_unfolding_all rfl) :
    wpAny (model prog w) A (subscriptTail value slice (.ref T) (.int (k : Int) u)) Q E s := by
  have hk : k < its.size := (Array.getElem?_eq_some_iff.mp hx).1
  refine item_tupleT (j := k) (x := x) (isTup_of ht) (by omega) (by omega : (k : Int) < 9223372036854775808) ?_ (by simpa using hx) h hs
  unfold seqIndex?
  simp only [show ¬ ((k : Int) < 0) by omega, if_false]
  simp; omega
theorem tup3_0 {prog : Program} {A : Around} {value slice : Expr} {T : Addr} {a b c : Value} {u : Tok} (ht : s.heap.get? T = some (tupOf #[a, b, c])) (h : Q a s)
    (hs : subscripted slice false (.ref T) (.int 0 u) = operate [.ref T, .int 0 u] (getItem (.ref T) (.int 0 u)) := by with_unfolding_all rfl) :
    wpAny (model prog w) A (subscriptTail value slice (.ref T) (.int 0 u)) Q E s := tup_item (k := 0) ht rfl (Nat.le_of_ble_eq_true rfl) h hs
theorem tup3_1 {prog : Program} {A : Around} {value slice : Expr} {T : Addr} {a b c : Value} {u : Tok} (ht : s.heap.get? T = some (tupOf #[a, b, c])) (h : Q b s)
    (hs : subscripted slice false (.ref T) (.int 1 u) = operate [.ref T, .int 1 u] (getItem (.ref T) (.int 1 u)) := by with_unfolding_all rfl) :
    wpAny (model prog w) A (subscriptTail value slice (.ref T) (.int 1 u)) Q E s := tup_item (k := 1) ht rfl (Nat.le_of_ble_eq_true rfl) h hs
theorem tup3_2 {prog : Program} {A : Around} {value slice : Expr} {T : Addr} {a b c : Value} {u : Tok} (ht : s.heap.get? T = some (tupOf #[a, b, c])) (h : Q c s)
    (hs : subscripted slice false (.ref T) (.int 2 u) = operate [.ref T, .int 2 u] (getItem (.ref T) (.int 2 u)) := by with_unfolding_all rfl) :
    wpAny (model prog w) A (subscriptTail value slice (.ref T) (.int 2 u)) Q E s := tup_item (k := 2) ht rfl (Nat.le_of_ble_eq_true rfl) h hs
theorem tup2_0 {prog : Program} {A : Around} {value slice : Expr} {T : Addr} {a b : Value} {u : Tok} (ht : s.heap.get? T = some (tupOf #[a, b])) (h : Q a s)
    (hs : subscripted slice false (.ref T) (.int 0 u) = operate [.ref T, .int 0 u] (getItem (.ref T) (.int 0 u)) := by with_unfolding_all rfl) :
    wpAny (model prog w) A (subscriptTail value slice (.ref T) (.int 0 u)) Q E s := tup_item (k := 0) ht rfl (Nat.le_of_ble_eq_true rfl) h hs
theorem tup2_1 {prog : Program} {A : Around} {value slice : Expr} {T : Addr} {a b : Value} {u : Tok} (ht : s.heap.get? T = some (tupOf #[a, b])) (h : Q b s)
    (hs : subscripted slice false (.ref T) (.int 1 u) = operate [.ref T, .int 1 u] (getItem (.ref T) (.int 1 u)) := by with_unfolding_all rfl) :
    wpAny (model prog w) A (subscriptTail value slice (.ref T) (.int 1 u)) Q E s := tup_item (k := 1) ht rfl (Nat.le_of_ble_eq_true rfl) h hs
theorem int_item {prog : Program} {A : Around} {value slice : Expr} {l : Addr} {us : List Value} {ns : List Int} {e : Nat} {i : Int} {u : Tok} (hl : s.heap.get? l = some (W.listOf us.toArray e)) (hi : IntsAre us ns) (h0 : 0 ≤ i) (h1 : i < ns.length) (hz : ns.length < 100000) (h : ∀ t, Q (.int (ns.getD i.toNat 0) t) s)
    (hs : subscripted slice false (.ref l) (.int i u) = operate [.ref l, .int i u] (getItem (.ref l) (.int i u)) := by with_unfolding_all rfl) (hg : ∀ r, letTemporaryGo value (.ref l) r = pure () := by intro _; with_unfolding_all rfl) :
    wpAny (model prog w) A (subscriptTail value slice (.ref l) (.int i u)) Q E s := item_list_ints ⟨_, hl, rfl, _, rfl⟩ hi h0 h1 (by omega) h hs hg
theorem lnUnl2 : True := by
  k_with "subscriptTail" => ((k_here; (with_reducible rename Fr _ _ _ _ => kF_q); first
      | ((with_reducible show wpAny _ _ (subscriptTail _ _ (Value.ref _) (Value.int 2 _)) _ _ _); k_dflt (refine tup3_2 (kF_q.keep _ _ (by assumption)) ?_))
      | ((with_reducible show wpAny _ _ (subscriptTail _ _ (Value.ref _) (Value.int 1 _)) _ _ _); k_dflt (refine tup3_1 (kF_q.keep _ _ (by assumption)) ?_))
      | k_dflt (refine int_item (kF_q.keep _ _ (by assumption)) (by assumption) (by omega) (by rw [colsL_len]; omega) (by rw [colsL_len]; omega) ?_; intro t9'_q)))
  k_with "call builtin:list.append" => ((k_here; (with_reducible rename Fr _ _ _ _ => kF_q); (with_reducible rename News _ _ _ _ => kN_q); k_dflt (refine append_K kF_q kN_q (Upd.tail (by k_ne) (Upd.tail (by k_ne) (Upd.head (by assumption)))) ?_ (by simp only [List.size_toArray, sizeLine_eq]; omega)); intro h'_q F'_q N'_q; clear kF_q kN_q; (try dsimp only)))
  k_with "subscriptTail Subscript" => walk_at "last subscriptTail"
  k_with "execs cons Assign cons" => walk_at "execs cons"
  trivial
theorem c_unlike {ux lx sh sh' cl cl' : Addr} {us us' : List Value} {e e' lu ll n : Nat} {t t' : Tok} {f f' : Nat → Int} (g : G w mean mg mb hT s.heap) (hd : dp + 60 < recursionLimit) (hu : un + 300 < cLine)
    (h1 : s.heap.get? ux = some (tupOf #[.ref sh, .ref cl, .int (lu : Int) t])) (h2 : s.heap.get? cl = some (W.listOf us.toArray e)) (hi : IntsAre us (colsL n f))
    (h1' : s.heap.get? lx = some (tupOf #[.ref sh', .ref cl', .int (ll : Int) t'])) (h2' : s.heap.get? cl' = some (W.listOf us'.toArray e')) (hi' : IntsAre us' (colsL n f')) (hn : max lu ll + 1 ≤ n) (hn' : n < 1000)
    (hq : ∀ h' tk' A e us tl, (∀ b o, s.heap.get? b = some o → h'.get? b = some o) → Made tl us (witTo f f' (max lu ll + 1)) → (∀ p ∈ (A, W.listOf us.toArray e) :: tl, h'.get? p.1 = some p.2 ∧ s.heap.get? p.1 = none) → Q (.ref A) { s with heap := h', toks := tk' }) :
    wpAny (model PR w) (AA dp un fr gd) (call (.ref 840) [.ref ux, .ref lx]) Q E s := by
  refine wpAny_call ?_
  refine enterR [(Str.ofString "upper", .ref ux), (Str.ofString "lower", .ref lx)] g (by k_is) (by k_is) (by show dp < _; omega) (BindsTo.of_eq rfl) (locs rfl) rfl rfl rfl (by decide) ?_
  intro g₀ L h₁ up dn X T F N
  replace h1 := up _ _ h1
  replace h2 := up _ _ h2
  replace h1' := up _ _ h1'
  replace h2' := up _ _ h2'
  repeat' ((fail_if_success (with_reducible show wpAny _ _ (exec (Stmt.For _ _ _ _ _) _) _ _ _)); (first | (k_unfold; (try dsimp only)) | walk1 | (dsimp only; walk1) | fail "no step"))
  rename Fr _ _ _ _ => F9
  rename News _ _ _ _ => N9
  refine for_one (h₀ := g₀) rfl (by rfl) (by rfl) ?_
  repeat' ((fail_if_success (with_reducible show OneSrc _ _ _ _ _ _ _ _ _ _ _)); (first | (k_unfold; (try dsimp only)) | walk1 | (dsimp only; walk1) | fail "no step"))
  rename IsRange _ _ _ _ _ _ _ _ => R9
  rename Fr _ _ _ _ => F9
  rename News _ _ _ _ => N9
  have hM : (if (ll : Int) > (lu : Int) then (ll : Int) else (lu : Int)) = ((max lu ll : Nat) : Int) := by
    split <;> omega
  rw [hM] at R9
  have hul := hi.length
  have hul' := hi'.length
  rw [colsL_len] at hul hul'
  refine OneSrc.fin (fun i m news => ∃ (A : Addr) (e : Nat) (us : List Value) (tl : List (Addr × Obj)), m = unM ux lx A m ∧ Made tl us (witTo f f' i) ∧ news = (A, W.listOf us.toArray e) :: tl)
    (fun m news => ∃ (A : Addr) (e : Nat) (us : List Value) (tl : List (Addr × Obj)), m = unM ux lx A m ∧ Made tl us (witTo f f' (max lu ll + 1)) ∧ news = (A, W.listOf us.toArray e) :: tl)
    (oneIt_range R9 (by omega) (by omega) (by omega) (by omega)) F9 N9 ⟨_, _, [], [], fr_unM F9 rfl rfl rfl, .nil, rfl⟩ ?_ ?_ ?_
  · rintro i v m₁ news₁ I oI h tk hi ⟨tv, rfl⟩ ⟨A, e, us, tl, hm, htr, rfl⟩ hoff F N
    rw [hm] at F
    clear hm F9 N9
    have hAo := off_list (fun p hp => N p (.tail _ hp)) htr.cls
    have hIA := neN (hoff _ (.head _))
    dsimp only at hIA
    have hml := htr.len
    have hwl := witTo_len f f' i
    rw [show (1 : Int) + (i : Int) * 1 = ((i + 1 : Nat) : Int) by omega] at F
    have hi2 : i < n := by omega
    have hv : (colsL n f).getD (((i + 1 : Nat) : Int) - 1).toNat 0 = f (i + 1) := by rw [show (((i + 1 : Nat) : Int) - 1).toNat = i by omega, colsL_at f hi2]
    have hv' : (colsL n f').getD (((i + 1 : Nat) : Int) - 1).toNat 0 = f' (i + 1) := by rw [show (((i + 1 : Nat) : Int) - 1).toNat = i by omega, colsL_at f' hi2]
    repeat' (first | (k_unfold; (try dsimp only)) | walk1 | (dsimp only; walk1) | fail "no step")
    all_goals rename Fr _ _ _ _ => F9
    all_goals rename News _ _ _ _ => N9
    · rw [listOf_push, hv, hv'] at N9
      refine ⟨_, _, _, _, rfl, F9, news_rot (xs := []) N9, off_rot (xs := []) hoff (by refine neN ?_; omega), A, _, _, _, fr_unM F9 rfl rfl rfl, ?_, rfl⟩
      rw [witTo, if_neg (by rw [← hv, ← hv']; assumption)]
      exact .snoc htr flat3
    · refine ⟨_, _, _, _, rfl, F9, N9, hoff, A, _, us, tl, fr_unM F9 rfl rfl rfl, ?_, rfl⟩
      rw [witTo, if_pos (by rw [← hv, ← hv']; assumption), List.append_nil]
      exact htr
  · rintro m news ⟨A, e, us, tl, hm, htr, hn⟩
    rw [show ((max lu ll : Nat) + 2 - 1 : Int).toNat = max lu ll + 1 by omega] at htr
    exact ⟨A, e, us, tl, hm, htr, hn⟩
  · rintro h' tk m' news' F' N' ⟨A, e, us, tl, hm, htr, rfl⟩
    rw [hm] at F'
    clear hm F9 N9
    repeat' (first | (k_unfold; (try dsimp only)) | walk1 | (dsimp only; walk1) | fail "no step")
    rename Fr _ _ _ _ => F9
    rename News _ _ _ _ => N9
    exact hq _ _ A _ us tl (fun b o q => F9.keep b o (up b o q)) htr fun p hp => ⟨(N9 p hp).1, dn _ (N9 p hp).2.2⟩
end
end Mine
end
theorem Mine.lnEndUnl : True := by
  k_with_none
  trivial
section
open PySem PySem.W PyProof.Rows PySem.Calls PySem.Spec
set_option maxRecDepth 100000
set_option maxHeartbeats 0
namespace Mine
section
variable {w : World} {mean : ExcName → Option Value} {mg mb : Str → Option Value} {hT : Heap} {dp un : Nat} {fr : Option (List Env)} {gd : Option (List Code)} {s : Shared} {Q E : Value → Shared → Prop} {M : Model} {h : Heap}
theorem lnWalk1 : True := by
  k_with_none
  k_with "ar" => (((try dsimp only [AA, Around.deeper, Around.in1]); omega))
  k_with "om" => (with_reducible first | assumption | exact Ne.symm (by assumption) | exact Mine.up0 (by assumption) | exact Mine.up1 (by assumption) rfl | exact Mine.up2 (by assumption) rfl | exact Mine.up3 (by assumption) rfl | fail)
  trivial
theorem objs1 {s hT : Heap} {a : Addr} {o : Obj} (h1 : s.get? a = some o) (k1 : hT.get? a = none) : ∀ q ∈ [(a, o)], s.get? q.1 = some q.2 ∧ hT.get? q.1 = none := by
  intro q hq
  rw [List.mem_singleton.mp hq]
  exact ⟨h1, k1⟩
noncomputable abbrev wkM (l : List Nat) (sx A : Addr) (size col : Nat) (t tz tc : Tok) (m : Str → Option Value) : Str → Option Value :=
  set1 (Str.ofString "line") (.str (S l) t) (set1 (Str.ofString "starts") (.ref sx) (set1 (Str.ofString "size") (.int (size : Int) tz) (set1 (Str.ofString "columns") (.ref A) (set1 (Str.ofString "column") (.int (col : Int) tc) m))))
theorem fr_wkM {g h : Heap} {L : Addr} {l : List Nat} {sx A : Addr} {size col : Nat} {t tz tc : Tok} {m : Str → Option Value} (_F : Fr g L h m) (h1 : m (Str.ofString "line") = some (.str (S l) t)) (h2 : m (Str.ofString "starts") = some (.ref sx)) (h3 : m (Str.ofString "size") = some (.int (size : Int) tz)) (h4 : m (Str.ofString "columns") = some (.ref A)) (h5 : m (Str.ofString "column") = some (.int (col : Int) tc)) : m = wkM l sx A size col t tz tc m := by
  unfold wkM
  rw [set1_same h5, set1_same h4, set1_same h3, set1_same h2, set1_same h1]
noncomputable def colsTo (size : Nat) (l st : List Nat) (i : Nat) : List Int := (st.filter fun x => decide (x < i)).map fun p => (colOf size (l.take p) : Int)
theorem ne2 {a b I : Nat} (h1 : a ≠ I) (h2 : b ≠ I) {o1 o2 : Obj} : ∀ p ∈ [((a : Addr), o1), ((b : Addr), o2)], p.1 ≠ I := by
  intro p hp
  simp only [List.mem_cons, List.not_mem_nil, or_false] at hp
  rcases hp with rfl | rfl
  · exact h1
  · exact h2
theorem last_max {st : List Nat} (hs : st.Pairwise (· < ·)) {last : Nat} (h : st.getLast? = some last) : ∀ x ∈ st, x ≤ last := by
  induction st with
  | nil => intro x hx; cases hx
  | cons a r ih =>
    intro x hx
    have hs' := (List.pairwise_cons.mp hs).2
    have ha := (List.pairwise_cons.mp hs).1
    cases r with
    | nil =>
      have e : a = last := by simpa using h
      rw [List.mem_singleton.mp hx]; omega
    | cons b q =>
      have h' : (b :: q).getLast? = some last := by simpa using h
      rcases List.mem_cons.mp hx with rfl | hx
      · exact Nat.le_of_lt (ha last (List.mem_of_getLast? h'))
      · exact ih hs' h' x hx
theorem item_last {prog : Program} {A : Around} {value slice : Expr} {l : Addr} {vs : List Value} {ns : List Int} {x : Int} {u : Tok} (hl : s.heap.IsList l vs.toArray) (hi : IntsAre vs ns) (hx : ns.getLast? = some x) (h : ∀ t, Q (.int x t) s)
    (hs : subscripted slice false (.ref l) (.int (-1) u) = operate [.ref l, .int (-1) u] (getItem (.ref l) (.int (-1) u)) := by with_unfolding_all rfl) (hg : ∀ r, letTemporaryGo value (.ref l) r = pure () := by intro _; with_unfolding_all rfl) :
    wpAny (model prog w) A (subscriptTail value slice (.ref l) (.int (-1) u)) Q E s := by
  have hp : 0 < ns.length := by
    cases ns with
    | nil => cases hx
    | cons a r => simp
  refine item_list_ints_neg hl hi (by decide) (by omega) (by decide) (fun t => ?_) hs hg
  have e : ns.getD (-1 + (ns.length : Int)).toNat 0 = x := by
    rw [show (-1 + (ns.length : Int)).toNat = ns.length - 1 by omega, List.getD_eq_getElem?_getD, ← List.getLast?_eq_getElem?, hx]; rfl
  rw [e]; exact h t
theorem str_at {prog : Program} {A : Around} {value slice : Expr} {l : List Nat} {i c : Nat} {t u : Tok} (hc : l[i]? = some c) (hl : l.length < 1000000) (h : Q (.str (S [c]) s.toks) { s with toks := s.toks + 1 })
    (hs : subscripted slice false (.str (S l) t) (.int (i : Int) u) = operate [.str (S l) t, .int (i : Int) u] (getItem (.str (S l) t) (.int (i : Int) u)) := by with_unfolding_all rfl)
    (ht : ∀ r, letTemporaryGo value (.str (S l) t) r = pure () := by intro _; with_unfolding_all rfl) :
    wpAny (model prog w) A (subscriptTail value slice (.str (S l) t) (.int (i : Int) u)) Q E s := by
  have hi : i < l.length := (List.getElem?_eq_some_iff.mp hc).1
  refine KXi.item (S_length l) (by omega) (by omega) (by omega) (fun _ => ?_) hs ht
  have e : Txt.item (S l) (i : Int) = S [c] := by
    rw [item_meets ⟨by omega, by rw [S_length]; omega⟩]
    have e2 : (S l).cps.getD ((i : Nat) : Int).toNat 0 = c := by
      rw [Int.toNat_natCast, Array.getD_eq_getD_getElem?]
      simp [S, hc]
    rw [e2]
  rw [e]; exact h
theorem in_yes {prog : Program} {A : Around} {l : Addr} {vs : List Value} {st : List Nat} {i : Nat} {t : Tok} (hin : i ∈ st) (hl : s.heap.IsList l vs.toArray) (hi : IntsAre vs (natI st)) (h : Q (.bool true) s) : wpAny (model prog w) A (compareOp .In (.int (i : Int) t) (.ref l)) Q E s := by
  refine in_list_ints hl hi ?_
  have e : (natI st).any (· == (i : Int)) = true := List.any_eq_true.mpr ⟨(i : Int), List.mem_map.mpr ⟨i, hin, rfl⟩, by simp⟩
  rw [e]; exact h
theorem in_no {prog : Program} {A : Around} {l : Addr} {vs : List Value} {st : List Nat} {i : Nat} {t : Tok} (hin : i ∉ st) (hl : s.heap.IsList l vs.toArray) (hi : IntsAre vs (natI st)) (h : Q (.bool false) s) : wpAny (model prog w) A (compareOp .In (.int (i : Int) t) (.ref l)) Q E s := by
  refine in_list_ints hl hi ?_
  have e : (natI st).any (· == (i : Int)) = false := by
    rw [Bool.eq_false_iff]
    intro q
    obtain ⟨x, hx, hy⟩ := List.any_eq_true.mp q
    obtain ⟨j, hj, rfl⟩ := List.mem_map.mp hx
    have : j = i := by have := eq_of_beq hy; omega
    exact hin (this ▸ hj)
  rw [e]; exact h
theorem lnWalk2 : True := by
  k_with "subscriptTail" => ((k_here; (with_reducible rename News _ _ _ _ => kN_q); k_dflt (first
      | (refine item_last (news_list kN_q (by k_mem)) (by assumption) (by assumption) ?_; intro t9_q))))
  k_with "subscriptTail Name Name str int" => ((k_here; with_reducible refine str_at (by assumption) (by with_unfolding_all omega) ?_))
  k_with "compareOp In int ref" => ((k_here; (with_reducible rename News _ _ _ _ => kN_q); k_dflt (first
      | refine in_yes (by assumption) (news_list kN_q (by k_mem)) (by assumption) ?_
      | refine in_no (by assumption) (news_list kN_q (by k_mem)) (by assumption) ?_)))
  k_with "compareOp Eq str str" => (k_dflt (with_reducible refine eq_1 litTab ?_))
  k_with "ite" => (first | with_reducible refine ite_tt ?_ | with_reducible refine ite_ff ?_ | with_reducible refine ite_no (by omega) ?_ | with_reducible refine ite_yes (by omega) ?_)
  k_with "call builtin:list.append" => ((k_here; (with_reducible rename Fr _ _ _ _ => kF_q); (with_reducible rename News _ _ _ _ => kN_q); k_dflt (refine append_K kF_q kN_q (by k_upd) ?_ (by simp only [List.size_toArray, sizeLine_eq]; omega)); intro h'_q F'_q N'_q; clear kF_q kN_q; (try dsimp only)))
  k_with "binaryOp Mod int int" => (with_reducible refine mod_int' (by omega) ?_)
  trivial
theorem c_walked {l st : List Nat} {t tz : Tok} {sx : Addr} {vs : List Value} {e size : Nat} (g : G w mean mg mb hT s.heap) (hd : dp + 60 < recursionLimit) (hu : un + 300 < cLine) (hl : l.length < 1000) (hz : 1 ≤ size) (hz' : size < 100000)
    (hs : st.Pairwise (· < ·)) {last : Nat} (hla : (natI st).getLast? = some (last : Int)) (hlt : ∀ x ∈ st, x < l.length) (hsl : st.length < 1000) (hv : IntsAre vs (natI st)) (h1 : s.heap.get? sx = some (W.listOf vs.toArray e)) (k1 : hT.get? sx = none)
    (hq : ∀ h' tk' A us e', (∀ b o, s.heap.get? b = some o → h'.get? b = some o) → s.heap.get? A = none → h'.get? A = some (W.listOf us.toArray e') → IntsAre us (st.map fun p => (colOf size (l.take p) : Int)) → Q (.ref A) { s with heap := h', toks := tk' }) :
    wpAny (model PR w) (AA dp un fr gd) (call (.ref 823) [.str (S l) t, .ref sx, .int (size : Int) tz]) Q E s := by
  have hO := objs1 h1 k1
  refine wpAny_call ?_
  refine enterD [(Str.ofString "line", .str (S l) t), (Str.ofString "starts", .ref sx), (Str.ofString "size", .int (size : Int) tz)] _ g hO (by k_is) (by k_is) (by show dp < _; omega) (BindsTo.of_eq rfl) (locs rfl) rfl rfl rfl (by decide) ?_
  intro g₀ L' h₁ X T F N hlt' hkb hfr
  repeat' ((fail_if_success (with_reducible show wpAny _ _ (exec (Stmt.For _ _ _ _ _) _) _ _ _)); (first | (k_unfold; (try dsimp only)) | walk1 | (dsimp only; walk1) | fail "no step"))
  rename Fr _ _ _ _ => F9
  rename News _ _ _ _ => N9
  refine for_one (h₀ := g₀) rfl (by rfl) (by rfl) ?_
  repeat' ((fail_if_success (with_reducible show OneSrc _ _ _ _ _ _ _ _ _ _ _)); (first | (k_unfold; (try dsimp only)) | walk1 | (dsimp only; walk1) | fail "no step"))
  rename IsRange _ _ _ _ _ _ _ _ => R9
  rename Fr _ _ _ _ => F9
  rename News _ _ _ _ => N9
  have hin : last ∈ st := by
    have := List.mem_of_getLast? hla
    obtain ⟨j, hj, e⟩ := List.mem_map.mp this
    have : j = last := by omega
    exact this ▸ hj
  have hll := hlt _ hin
  refine OneSrc.fin (fun i m news => ∃ (A : Addr) (e' : Nat) (us : List Value) (tc : Tok), m = wkM l sx A size (colOf size (l.take i)) t tz tc m ∧ IntsAre us (colsTo size l st i) ∧ @Ne Nat A sx ∧ news = [(A, W.listOf us.toArray e'), (sx, W.listOf vs.toArray e)])
    (fun m news => ∃ (A : Addr) (e' : Nat) (us : List Value) (tc : Tok), m = wkM l sx A size (colOf size (l.take (last + 1))) t tz tc m ∧ IntsAre us (colsTo size l st (last + 1)) ∧ @Ne Nat A sx ∧ news = [(A, W.listOf us.toArray e'), (sx, W.listOf vs.toArray e)])
    (oneIt_range R9 (by omega) (by omega) (by omega) (by omega)) F9 (fun p hp => N9 p (.tail _ hp)) ⟨_, _, [], _, fr_wkM F9 rfl rfl rfl rfl rfl, (by rw [colsTo, filter_zero]; exact .nil), by omega, rfl⟩ ?_ ?_ ?_
  · rintro i v m₁ news₁ I oI h tk hi ⟨tv, rfl⟩ ⟨A, e', us, tc, hm, hus, hne, rfl⟩ hoff F N
    rw [hm] at F
    clear hm F9 N9
    rw [show (0 : Int) + (i : Int) * 1 = ((i : Nat) : Int) by omega] at F
    have hI1 := neN (hoff _ (.head _))
    have hI2 := neN (hoff _ (.tail _ (.head _)))
    dsimp only at hI1 hI2
    have hil : i < l.length := by omega
    obtain ⟨c, hc⟩ : ∃ c, l[i]? = some c := ⟨_, List.getElem?_eq_getElem hil⟩
    have hnx := colOf_next (ts := size) hc
    have hfx := filter_next hs i
    have hul := hus.length
    have hcl : (colsTo size l st i).length ≤ st.length := by
      rw [colsTo, List.length_map]; exact List.length_filter_le _ _
    have hv9 : c = 9 → ((colOf size (l.take (i + 1)) : Nat) : Int) = (colOf size (l.take i) : Int) + ((size : Int) - ((colOf size (l.take i) : Int)).fmod (size : Int)) := by
      intro e
      rw [hnx, if_pos e, Int.fmod_eq_emod_of_nonneg _ (by omega)]
      have := Nat.mod_lt (colOf size (l.take i)) (show size > 0 by omega)
      omega
    have hv1 : c ≠ 9 → ((colOf size (l.take (i + 1)) : Nat) : Int) = (colOf size (l.take i) : Int) + 1 := by
      intro e
      rw [hnx, if_neg e]; omega
    by_cases hin : i ∈ st
    · have hcs : colsTo size l st (i + 1) = colsTo size l st i ++ [(colOf size (l.take i) : Int)] := by
        unfold colsTo; rw [hfx, if_pos hin, List.map_append]; rfl
      repeat' (first | (k_unfold; (try dsimp only)) | walk1 | (dsimp only; walk1) | fail "no step")
      all_goals rename Fr _ _ _ _ => F9
      all_goals rename News _ _ _ _ => N9
      all_goals rw [listOf_push] at N9
      · exact ⟨_, _, _, _, rfl, F9, N9, ne2 hI1 hI2, A, _, _, _, fr_wkM F9 rfl rfl rfl rfl (by rw [hv9 (by assumption)]; rfl), (by rw [hcs]; exact hus.append (.cons _ _ .nil)), hne, rfl⟩
      · exact ⟨_, _, _, _, rfl, F9, N9, ne2 hI1 hI2, A, _, _, _, fr_wkM F9 rfl rfl rfl rfl (by rw [hv1 (by assumption)]; rfl), (by rw [hcs]; exact hus.append (.cons _ _ .nil)), hne, rfl⟩
    · have hcs : colsTo size l st (i + 1) = colsTo size l st i := by
        unfold colsTo; rw [hfx, if_neg hin, List.append_nil]
      repeat' (first | (k_unfold; (try dsimp only)) | walk1 | (dsimp only; walk1) | fail "no step")
      all_goals rename Fr _ _ _ _ => F9
      all_goals rename News _ _ _ _ => N9
      · exact ⟨_, _, _, _, rfl, F9, N9, ne2 hI1 hI2, A, _, _, _, fr_wkM F9 rfl rfl rfl rfl (by rw [hv9 (by assumption)]; rfl), (by rw [hcs]; exact hus), hne, rfl⟩
      · exact ⟨_, _, _, _, rfl, F9, N9, ne2 hI1 hI2, A, _, _, _, fr_wkM F9 rfl rfl rfl rfl (by rw [hv1 (by assumption)]; rfl), (by rw [hcs]; exact hus), hne, rfl⟩
  · rintro m news ⟨A, e', us, tc, hm, hus, hne, hn⟩
    rw [show ((last : Int) + 1 - 0).toNat = last + 1 by omega] at hm hus
    exact ⟨A, e', us, tc, hm, hus, hne, hn⟩
  · rintro h' tk m' news' F' N' ⟨A, e', us, tc, hm, hus, hne, rfl⟩
    rw [hm] at F'
    clear hm F9 N9
    repeat' (first | (k_unfold; (try dsimp only)) | walk1 | (dsimp only; walk1) | fail "no step")
    rename Fr _ _ _ _ => F9
    rename News _ _ _ _ => N9
    have hall : ∀ x ∈ st, x < last + 1 := by
      intro x hx
      have e1 : st.getLast? = some last := by
        rw [List.getLast?_map] at hla
        cases q : st.getLast? with
        | none => rw [q] at hla; cases hla
        | some y => rw [q] at hla; simp only [Option.map_some, Option.some.injEq] at hla; congr 1; omega
      exact Nat.lt_succ_of_le (last_max hs e1 x hx)
    rw [colsTo, filter_all hall] at hus
    exact hq _ _ A us _ (kb_all (hkb _ F9.keep) (fun p hp => (hO p hp).1) fun p hp => (N9 p (.tail _ hp)).1) (hfr _ (N9 _ (.head _)).2.2 (by intro q; exact hne (List.mem_singleton.mp q))) (N9 _ (.head _)).1 hus
end
end Mine
end
theorem Mine.lnEndWalk : True := by
  k_with_none
  trivial
section
open PySem PySem.W PyProof.Rows PySem.Calls PySem.Spec
set_option maxRecDepth 100000
set_option maxHeartbeats 0
namespace Mine
section
variable {w : World} {mean : ExcName → Option Value} {mg mb : Str → Option Value} {hT : Heap} {dp un : Nat} {fr : Option (List Env)} {gd : Option (List Code)} {s : Shared} {Q E : Value → Shared → Prop} {M : Model} {h : Heap}
theorem lnSeen1 : True := by
  k_with_none
  k_with "ar" => (((try dsimp only [AA, Around.deeper, Around.in1]); omega))
  k_with "om" => (with_reducible first | assumption | exact Ne.symm (by assumption) | exact Mine.up0 (by assumption) | exact Mine.up1 (by assumption) rfl | exact Mine.up2 (by assumption) rfl | exact Mine.up3 (by assumption) rfl | fail)
  trivial
/-- a list of ints, told -/
noncomputable def IntL (P : Rel) (v : Value) (ns : List Int) : Prop := ∃ (A : Addr) (us : List Value) (e : Nat), v = .ref A ∧ P A (W.listOf us.toArray e) ∧ IntsAre us ns
theorem IntL.mono {P P' : Rel} {v : Value} {ns : List Int} (x : IntL P v ns) (k : ∀ a o, P a o → P' a o) : IntL P' v ns := by
  obtain ⟨A, us, e, q, x, y⟩ := x
  exact ⟨A, us, e, q, k _ _ x, y⟩
/-- what _law_seen tells of one word: the text ahead of it is p -/
noncomputable def SeenOf (w : World) (n : Nat) (P : Rel) (v : Value) (p : List Nat) : Prop :=
  ∃ (T wx wd nm ct cl : Addr) (vs : List Value) (ts : Nat → Tok) (raw : Value) (bs : Bool) (t' tt : Tok) (us : List Value) (e : Nat), v = .ref T ∧ P T (tupOf #[.ref wx, .ref cl, .int (longOf p : Int) tt]) ∧ P wx (instObj 101 wd) ∧
    P wd (dictOf (wsEs w ts raw (wsOf (shadeOf p)).n (wsOf (shadeOf p)).nt nm bs) 5) ∧ P nm (tupOf #[.ref ct, .int ((wsOf (shadeOf p)).b : Int) t']) ∧ P ct (tupOf vs.toArray) ∧ IntsAre vs (wsOf (shadeOf p)).cnt ∧
    P cl (W.listOf us.toArray e) ∧ IntsAre us (colsL n fun z => (colOf z p : Int))
theorem SeenOf.mono {w : World} {n : Nat} {P P' : Rel} {v : Value} {p : List Nat} (x : SeenOf w n P v p) (k : ∀ a o, P a o → P' a o) : SeenOf w n P' v p := by
  obtain ⟨T, wx, wd, nm, ct, cl, vs, ts, raw, bs, t', tt, us, e, q, x1, x2, x3, x4, x5, x6, x7, x8⟩ := x
  exact ⟨T, wx, wd, nm, ct, cl, vs, ts, raw, bs, t', tt, us, e, q, k _ _ x1, k _ _ x2, k _ _ x3, k _ _ x4, k _ _ x5, x6, k _ _ x7, x8⟩
noncomputable abbrev inL (tl : List (Addr × Obj)) : Rel := fun a o => (a, o) ∈ tl
theorem len_base {prog : Program} {A : Around} {l : Addr} {vs : List Value} {e : Nat} (hl : s.heap.get? l = some (W.listOf vs.toArray e)) (hz : vs.length < 1000000) (hq : Q (.int (vs.length : Int) (s.toks + 1)) { s with toks := s.toks + 1 + 1 }) :
    wpAny (model prog w) A (call (.builtin "len") [.ref l]) Q E s :=
  PyProof.Rows.len_list ⟨_, hl, rfl, _, rfl⟩ (by simp only [List.size_toArray]; omega) (by simpa only [List.size_toArray] using hq)
theorem lnSeen2 : True := by
  k_with "call builtin:len" => ((k_here; (with_reducible rename Fr _ _ _ _ => kF_q); k_dflt (refine len_base (kF_q.keep _ _ (by assumption)) (by omega) ?_)))
  k_with "execs cons Assign cons" => walk_at "execs cons"
  trivial
theorem news_subS {g h : Heap} {L : Addr} {l l' : List (Addr × Obj)} (N : News g L h l) (hs : ∀ p ∈ l', p ∈ l) : News g L h l' := fun p hp => N p (hs p hp)
theorem lnSeen3 : True := by
  k_with "memb" => (first | with_reducible exact List.mem_cons_self | with_reducible assumption | (with_reducible refine List.mem_cons_of_mem _ ?_; walk_at "memb"))
  k_with "sub" => (first | (with_reducible refine sub_cons ?_ ?_; (· walk_at "memb"); walk_at "sub") | (intro p hp; walk_at "memb"))
  trivial
theorem rot5 {g h : Heap} {L : Addr} {a d x y z : Addr × Obj} {tl : List (Addr × Obj)} (N : News g L h (a :: d :: x :: y :: z :: tl)) : News g L h (a :: x :: y :: z :: d :: tl) := news_subS N (by walk_at "sub")
theorem rot6 {g h : Heap} {L : Addr} {a i w1 w2 w3 w4 : Addr × Obj} {tl : List (Addr × Obj)} (N : News g L h (w1 :: w2 :: w3 :: w4 :: i :: a :: tl)) : News g L h (a :: w1 :: w2 :: w3 :: w4 :: i :: tl) := news_subS N (by walk_at "sub")
theorem rot12 {g h : Heap} {L : Addr} {T c a w1 w2 w3 w4 i x y z d : Addr × Obj} {tl : List (Addr × Obj)} (N : News g L h (T :: c :: a :: w1 :: w2 :: w3 :: w4 :: i :: x :: y :: z :: d :: tl)) : News g L h (i :: a :: x :: y :: z :: d :: T :: c :: w1 :: w2 :: w3 :: w4 :: tl) := news_subS N (by walk_at "sub")
theorem allLt_mem {a : Addr} : ∀ {l : List (Addr × Obj)}, AllLt a l → ∀ p ∈ l, p.1 < a
  | [], _, p, hp => nomatch hp
  | _ :: _, h, p, hp => by
    rcases List.mem_cons.mp hp with rfl | hp
    · exact h.1
    · exact allLt_mem h.2 p hp
noncomputable abbrev snM (A D : Addr) (m : Str → Option Value) : Str → Option Value := set1 (Str.ofString "seen") (.ref A) (set1 (Str.ofString "walked") (.ref D) m)
theorem fr_snM {g h : Heap} {L A D : Addr} {m : Str → Option Value} (_F : Fr g L h m) (h1 : m (Str.ofString "seen") = some (.ref A)) (h2 : m (Str.ofString "walked") = some (.ref D)) : m = snM A D m := by
  unfold snM
  rw [set1_same h2, set1_same h1]
theorem int_at {prog : Program} {A : Around} {value slice : Expr} {l : Addr} {us : List Value} {st : List Nat} {e i p : Nat} {u : Tok} (hl : s.heap.get? l = some (W.listOf us.toArray e)) (hi : IntsAre us (natI st)) (hp : st[i]? = some p) (hz : st.length < 100000) (h : ∀ t, Q (.int (p : Int) t) s)
    (hs : subscripted slice false (.ref l) (.int (i : Int) u) = operate [.ref l, .int (i : Int) u] (getItem (.ref l) (.int (i : Int) u)) := by with_unfolding_all rfl) (hg : ∀ r, letTemporaryGo value (.ref l) r = pure () := by intro _; with_unfolding_all rfl) :
    wpAny (model prog w) A (subscriptTail value slice (.ref l) (.int (i : Int) u)) Q E s := by
  have hlt : i < st.length := (List.getElem?_eq_some_iff.mp hp).1
  refine item_list_ints ⟨_, hl, rfl, _, rfl⟩ hi (by omega) (by rw [List.length_map]; omega) (by omega) (fun t => ?_) hs hg
  have e : (natI st).getD (i : Int).toNat 0 = (p : Int) := by
    rw [Int.toNat_natCast, List.getD_eq_getElem?_getD, List.getElem?_map, hp]; rfl
  rw [e]; exact h t
theorem int_at' {prog : Program} {A : Around} {value slice : Expr} {l : Addr} {us : List Value} {st : List Nat} {e i p : Nat} {f : Nat → Int} {u : Tok} (hl : s.heap.get? l = some (W.listOf us.toArray e)) (hi : IntsAre us (st.map f)) (hp : st[i]? = some p) (hz : st.length < 100000) (h : ∀ t, Q (.int (f p) t) s)
    (hs : subscripted slice false (.ref l) (.int (i : Int) u) = operate [.ref l, .int (i : Int) u] (getItem (.ref l) (.int (i : Int) u)) := by with_unfolding_all rfl) (hg : ∀ r, letTemporaryGo value (.ref l) r = pure () := by intro _; with_unfolding_all rfl) :
    wpAny (model prog w) A (subscriptTail value slice (.ref l) (.int (i : Int) u)) Q E s := by
  have hlt : i < st.length := (List.getElem?_eq_some_iff.mp hp).1
  refine item_list_ints ⟨_, hl, rfl, _, rfl⟩ hi (by omega) (by rw [List.length_map]; omega) (by omega) (fun t => ?_) hs hg
  have e : (st.map f).getD (i : Int).toNat 0 = f p := by
    rw [Int.toNat_natCast, List.getD_eq_getElem?_getD, List.getElem?_map, hp]; rfl
  rw [e]; exact h t
theorem lnSeen4 : True := by
  k_with "subscriptTail" => ((k_here; (with_reducible rename Fr _ _ _ _ => kF_q); first
      | k_dflt (refine int_at (kF_q.keep _ _ (by assumption)) (by assumption) (by assumption) (by omega) ?_; intro t9'_q)
      | k_dflt (refine int_at' (by assumption) (by assumption) (by assumption) (by omega) ?_; intro t9'_q)))
  k_with "compareOp Eq str str" => (k_dflt (with_reducible refine eq_1 litTab ?_))
  k_with "ite" => (first | with_reducible refine ite_tt ?_ | with_reducible refine ite_ff ?_ | with_reducible refine ite_no (by omega) ?_ | with_reducible refine ite_yes (by omega) ?_)
  trivial
theorem one_len (f : Nat → Nat) (xs : List Nat) : (xs.map ((fun x : Str => x.length) ∘ fun c => S [f c])).sum = xs.length := by
  induction xs with
  | nil => rfl
  | cons a r ih => rw [List.map_cons, List.sum_cons, ih, List.length_cons]; simp only [Function.comp, S_length, List.length_cons, List.length_nil]; omega
theorem shade_len (p : List Nat) : (shadeOf p).length = p.length := by simp [shadeOf]
theorem join_shade (p : List Nat) : Txt.join (Str.ofString "") (p.map fun c => S [if c = 9 then 9 else 32]) = S (shadeOf p) := by
  rw [litE, show (p.map fun c => S [if c = 9 then 9 else 32]) = (p.map fun c => [if c = 9 then 9 else 32]).map S by rw [List.map_map]; rfl, txtjoin_S, joinL_nil]
  congr 1
  unfold shadeOf
  induction p with
  | nil => rfl
  | cons a r ih => rw [List.map_cons, List.flatten_cons, ih]; rfl
theorem c_seen {l st : List Nat} {t tn : Tok} {sx : Addr} {vs : List Value} {e n : Nat} (g : G w mean mg mb hT s.heap) (hd : dp + 300 < recursionLimit) (hu : un + 1000 < cLine) (hl : l.length < 500)
    (hs : st.Pairwise (· < ·)) {last : Nat} (hla : (natI st).getLast? = some (last : Int)) (hlt : ∀ x ∈ st, x < l.length) (hsl : st.length < 100) (hv : IntsAre vs (natI st)) (h1 : s.heap.get? sx = some (W.listOf vs.toArray e)) (k1 : hT.get? sx = none) (hn : n < 1000)
    (hq : ∀ h' tk' A us e' tl, (∀ b o, s.heap.get? b = some o → h'.get? b = some o) → s.heap.get? A = none → h'.get? A = some (W.listOf us.toArray e') → (∀ p ∈ tl, h'.get? p.1 = some p.2 ∧ s.heap.get? p.1 = none) → All2 (SeenOf w n (inL tl)) us (st.map fun k => l.take k) → Q (.ref A) { s with heap := h', toks := tk' }) :
    wpAny (model PR w) (AA dp un fr gd) (call (.ref 833) [.str (S l) t, .ref sx, .int (n : Int) tn]) Q E s := by
  refine wpAny_call ?_
  refine enterCR [(Str.ofString "line", .str (S l) t), (Str.ofString "starts", .ref sx), (Str.ofString "limit", .int (n : Int) tn)] g (by k_is) (by k_is) (by show dp < _; omega) (BindsTo.of_eq rfl) rfl (by decide +kernel) rfl rfl rfl ?_
  intro g₀ L' h₁ tk cells up dn X T F N Y
  k_cells Y
  rename_i oP oS oL dP0 dS0 dL0
  have dP : oP.data = Data.cell none := dP0
  have dS : oS.data = Data.cell (some (.ref sx)) := dS0
  have dL : oL.data = Data.cell (some (.str (S l) t)) := dL0
  clear dP0 dS0 dL0
  dsimp only
  have h1g := up _ _ h1
  have gg := g.keeps up
  repeat' ((fail_if_success (with_reducible show wpAny _ _ (exec (Stmt.Assign _ (Expr.ListComp _ _ _ _) _) _) _ _ _)); (first | (k_unfold; (try dsimp only)) | walk1 | (dsimp only; walk1) | fail "no step"))
  rename Fr _ _ _ _ => F9
  rename News _ _ _ _ => N9
  refine LCg.Assign_ListComp_U F9 rfl (by with_unfolding_all rfl) (by with_unfolding_all rfl) (by decide) rfl (by decide) rfl rfl rfl ?_
  repeat' ((fail_if_success (with_reducible show LCg.CompSrc _ _ _ _ _ _ _ _ _ _ _ _ _ _)); (first | (k_unfold; (try dsimp only)) | walk1 | (dsimp only; walk1) | fail "no step"))
  rename IsRange _ _ _ _ _ _ _ _ => R9
  rename Fr _ _ _ _ => F9
  rename News _ _ _ _ => N9
  have hst : ∀ x ∈ st, x ≤ last := by
    intro x hx
    have e1 : st.getLast? = some last := by
      rw [List.getLast?_map] at hla
      cases q : st.getLast? with
      | none => rw [q] at hla; cases hla
      | some y => rw [q] at hla; simp only [Option.map_some, Option.some.injEq] at hla; congr 1; omega
    exact last_max hs e1 x hx
  refine LCg.CompSrc.range (n := n) rfl F9 N9 R9 (small_up (by omega) (by omega) (by omega) (by omega)) (by rw [rangeSize_up]; congr 1; omega) (by rw [sizeLine_eq]; omega) fun ga => ?_
  refine comp_inv (n := n) (fun i ys news => ∃ tl, (∀ p ∈ tl, p.1 ≠ L' + 1 + 1 + 1) ∧ All2 (fun v (k : Nat) => IntL (inL tl) v (st.map fun p => (colOf (k + 1) (l.take p) : Int))) ys (List.range i) ∧ news = (L' + 1 + 1 + 1, oP) :: (L' + 1 + 1, oS) :: (L' + 1, oL) :: tl) ?_ ?_ _ 0 [] _ (Nat.zero_add _) ⟨[], (fun p hp => nomatch hp), .nil, rfl⟩
  · rintro i ys news v I oI C oC D m₂ h tk E' hi ⟨tl, htP, hy, rfl⟩ ⟨tv, rfl⟩ hC hx F₂ N₂ off ne
    rw [show (1 : Int) + (i : Int) = ((i + 1 : Nat) : Int) by omega] at hx
    dsimp only
    clear F9 N9
    repeat' ((fail_if_success (with_reducible show wpAny _ _ (call (.ref 823) _ _) _ _ _)); (first | (k_unfold; (try dsimp only)) | walk1 | (dsimp only; walk1) | fail "no step"))
    refine c_walked (gg.fr F₂) (by walk_at "ar") (by walk_at "ar") (by omega) (by omega) (by omega) hs hla hlt (by omega) hv (F₂.keep _ _ h1g) k1 ?_
    intro h' tk' A us e' hk' fA hA hus
    have N₃ := News.put F₂ (News.grown N₂ hk') fA hA
    refine ⟨h', tk', (L' + 1 + 1 + 1, oP) :: (L' + 1 + 1, oS) :: (L' + 1, oL) :: (A, W.listOf us.toArray e') :: tl, rfl, F₂.keeps hk', news_subS N₃ (fun p hp => ?_), ⟨off.1, off.2.1, off.2.2.1, ⟨fresh_ne fA (N₂ _ (.head _)).1, fresh_ne fA (N₂ _ (.tail _ (.head _))).1, fresh_ne fA (N₂ _ (.tail _ (.tail _ (.head _)))).1⟩, off.2.2.2⟩, trivial, (A, W.listOf us.toArray e') :: tl, ?_, ?_, rfl⟩
    · revert p
      walk_at "sub"
    · intro p hp
      rcases List.mem_cons.mp hp with rfl | hp
      · exact fresh_ne fA (N₂ _ (.tail _ (.tail _ (.tail _ (.head _))))).1
      · exact htP p hp
    · rw [List.range_succ]
      exact (All2.mono hy fun a b x => x.mono fun _ _ q => .tail _ q).snoc ⟨A, us, e', rfl, .head _, hus⟩
  · rintro ys news ⟨tl, htP, hy, rfl⟩ D h tk F₂ N₂ off
    dsimp only
    clear F9 N9
    have hvl := hv.length
    rw [List.length_map] at hvl
    repeat' ((fail_if_success (with_reducible show wpAny _ _ (exec (Stmt.For _ _ _ _ _) _) _ _ _)); (first | (k_unfold; (try dsimp only)) | walk1 | (dsimp only; walk1) | fail "no step"))
    refine for_any (h₀ := g₀) rfl ?_
    repeat' ((fail_if_success (with_reducible show AnySrc _ _ _ _ _ _ _ _ _ _ _ _)); (first | (k_unfold; (try dsimp only)) | walk1 | (dsimp only; walk1) | fail "no step"))
    rename IntsAre vs _ => hv
    rename IsRange _ _ _ _ _ _ _ _ => R8
    rename Fr _ _ _ _ => F9
    rename News _ _ _ _ => N9
    rename _ ∧ _ => l9
    rw [show (natI st).length = st.length from List.length_map ..] at R8
    have l9' := l9.2.2.2.2
    refine ⟨_, _, _, _, (fun i m news => ∃ (A : Addr) (e : Nat) (us : List Value) (oP' : Obj) (v₀ : Option Value) (tl' : List (Addr × Obj)), oP'.data = Data.cell v₀ ∧ m = snM A D m ∧ (@Ne Nat A (L' + 1 + 1 + 1)) ∧ (∀ p ∈ (L' + 1 + 1, oS) :: (L' + 1, oL) :: (D, LCg.lst ys) :: tl', p.1 ≠ A) ∧ (∀ p ∈ (L' + 1 + 1, oS) :: (L' + 1, oL) :: (D, LCg.lst ys) :: tl', p.1 ≠ L' + 1 + 1 + 1) ∧
      All2 (fun v (k : Nat) => IntL (inL tl') v (st.map fun p => (colOf (k + 1) (l.take p) : Int))) ys (List.range n) ∧ All2 (SeenOf w n (inL tl')) us ((st.take i).map fun k => l.take k) ∧
      news = (A, W.listOf us.toArray e) :: (L' + 1 + 1 + 1, oP') :: (L' + 1 + 1, oS) :: (L' + 1, oL) :: (D, LCg.lst ys) :: tl'), oneIt_range R8 (by omega) (by omega) (by omega) (by omega), F9, rot5 N9, ⟨_, _, [], oP, none, tl, dP, fr_snM F9 rfl rfl, ?_, ?_, ?_, hy, .nil, rfl⟩, ?_, ?_⟩
    · exact Ne.symm (Nat.ne_of_lt l9.2.1)
    · intro p hp
      rcases List.mem_cons.mp hp with rfl | hp
      · exact Nat.ne_of_lt l9.2.2.1
      rcases List.mem_cons.mp hp with rfl | hp
      · exact Nat.ne_of_lt l9.2.2.2.1
      rcases List.mem_cons.mp hp with rfl | hp
      · exact Nat.ne_of_lt l9.1
      · exact Nat.ne_of_lt (allLt_mem l9' p hp)
    · intro p hp
      rcases List.mem_cons.mp hp with rfl | hp
      · exact Nat.ne_of_lt (Nat.lt_succ_self _)
      rcases List.mem_cons.mp hp with rfl | hp
      · exact Nat.ne_of_lt (Nat.lt_succ_of_lt (Nat.lt_succ_self _))
      rcases List.mem_cons.mp hp with rfl | hp
      · exact Ne.symm off.1
      · exact htP p hp
    · rintro i v m₁ news₁ I oI s₂ hi ⟨tv, rfl⟩ ⟨A, e, us, oP', v₀, tl', dP', hm, nA, hrA, hrP, hy', hus, rfl⟩ hoff F N
      rw [show (0 : Int) + (i : Int) * 1 = (i : Int) by omega]
      rw [hm] at F
      clear hm F9 N9
      have hi' : i < st.length := by omega
      obtain ⟨p, hp⟩ : ∃ p, st[i]? = some p := ⟨_, List.getElem?_eq_getElem hi'⟩
      have hpl : p < l.length := hlt p (List.mem_of_getElem? hp)
      have htk : st.take (i + 1) = st.take i ++ [p] := by rw [List.take_add_one, hp]; rfl
      have hcP := N _ (.tail _ (.tail _ (.head _)))
      dsimp only at hcP
      refine wpAny_assign_Name (wpAny_storeName_cell rfl rfl rfl ⟨oP', hcP.1, dP'⟩ fun hN hc hsN => ?_)
      obtain ⟨oP2, hP2, dP2⟩ := hc
      have F8 : Fr g₀ L' hN (snM A D m₁) := F.change hsN hcP.2.1 hcP.2.2
      have N8 : News g₀ L' hN ((I, oI) :: (A, W.listOf us.toArray e) :: (L' + 1 + 1 + 1, oP2) :: (L' + 1 + 1, oS) :: (L' + 1, oL) :: (D, LCg.lst ys) :: tl') := by
        intro q hq
        rcases List.mem_cons.mp hq with rfl | hq
        · exact ⟨hsN.extBut _ _ (Ne.symm (hoff _ (.tail _ (.head _)))) (N _ (.head _)).1, (N _ (.head _)).2⟩
        rcases List.mem_cons.mp hq with rfl | hq
        · exact ⟨hsN.extBut _ _ nA (N (A, W.listOf us.toArray e) (.tail _ (.head _))).1, (N (A, W.listOf us.toArray e) (.tail _ (.head _))).2⟩
        rcases List.mem_cons.mp hq with rfl | hq
        · exact ⟨hP2, hcP.2⟩
        · exact ⟨hsN.extBut _ _ (hrP q hq) (N _ (.tail _ (.tail _ (.tail _ hq)))).1, (N _ (.tail _ (.tail _ (.tail _ hq)))).2⟩
      clear F N hcP
      try dsimp only
      repeat' ((fail_if_success (with_reducible show wpAny _ _ (eval (Expr.ListComp _ _ _ _) _) _ _ _)); (first | (k_unfold; (try dsimp only)) | walk1 | (dsimp only; walk1) | fail "no step"))
      rename Fr _ _ _ _ => F9
      rename News _ _ _ _ => N9
      rw [slice_to_S l (by omega)] at F9
      have hpll : (l.take p).length = p := by rw [List.length_take]; omega
      refine ListComp_S F9 rfl (by decide) rfl (by decide) rfl ?_
      walk1
      refine ⟨S (l.take p), _, _, rfl, rfl, F9, N9, by show (S (l.take p)).length ≤ _; rw [S_length, sizeLine_eq]; omega, ?_⟩
      rintro s₂ ⟨h₂, rfl⟩
      refine comp_inv (n := (S (l.take p)).cps.size) (fun k yz news => StrsAre yz (((l.take p).take k).map fun c => S [if c = 9 then 9 else 32]) ∧ news = (I, oI) :: (A, W.listOf us.toArray e) :: (L' + 1 + 1 + 1, oP2) :: (L' + 1 + 1, oS) :: (L' + 1, oL) :: (D, LCg.lst ys) :: tl') ?_ ?_ _ 0 [] _ (Nat.zero_add _) ⟨.nil, rfl⟩
      · rintro k ys₂ news₂ v₂ I₂ oI₂ C₂ oC₂ D₂ m₂ h₃ tk₃ E₃ hk ⟨hy₂, rfl⟩ ⟨c, u, hc, rfl⟩ hC hx F₂ N₂ off₂ ne₂
        have hc' : (l.take p)[k]? = some c := by simpa using hc
        rw [show (⟨#[c]⟩ : Str) = S [c] from rfl] at hx
        dsimp only
        clear F9 N9
        have hend : (((l.take p).take (k + 1)).map fun c => S [if c = 9 then 9 else 32]) = (((l.take p).take k).map fun c => S [if c = 9 then 9 else 32]) ++ [S [if c = 9 then 9 else 32]] := by
          rw [List.take_add_one, hc', List.map_append]; rfl
        by_cases h9 : c = 9
        · subst h9
          rw [if_pos rfl] at hend
          repeat' (first | (k_unfold; (try dsimp only)) | walk1 | (dsimp only; walk1) | fail "no step")
          rw [hend]
          exact ⟨_, _, _, rfl, F₂, N₂, off₂, trivial, hy₂.append' (.cons _ _ .nil), rfl⟩
        · rw [if_neg h9, ← litSp] at hend
          repeat' (first | (k_unfold; (try dsimp only)) | walk1 | (dsimp only; walk1) | fail "no step")
          rw [hend]
          exact ⟨_, _, _, rfl, F₂, N₂, off₂, trivial, hy₂.append' (.cons _ _ .nil), rfl⟩
      · rintro ys₂ news₂ ⟨hy₂, rfl⟩ D₂ h₃ tk₃ F₂ N₂ off₂
        dsimp only
        clear F9 N9
        rw [show (S (l.take p)).cps.size = (l.take p).length by simp, List.take_length] at hy₂
        repeat' ((fail_if_success (with_reducible show wpAny _ _ (call (.builtin "str.join") _ _) _ _ _)); (first | (k_unfold; (try dsimp only)) | walk1 | (dsimp only; walk1) | fail "no step"))
        refine join_listW ⟨_, (N₂ _ (.head _)).1, rfl, _, rfl⟩ hy₂ (by decide) (by rw [List.map_map, List.length_map, one_len]; omega) fun tj kj => ?_
        rw [join_shade]
        have N7 := News.grown (news_subS N₂ (l' := (I, oI) :: (A, W.listOf us.toArray e) :: (L' + 1 + 1 + 1, oP2) :: (L' + 1 + 1, oS) :: (L' + 1, oL) :: (D, LCg.lst ys) :: tl') fun q hq => .tail _ hq) (h := h₃) (fun b o q => q)
        clear N₂ off₂
        dsimp only
        repeat' ((fail_if_success (with_reducible show wpAny _ _ (call (.ref 101) _ _) _ _ _)); (first | (k_unfold; (try dsimp only)) | walk1 | (dsimp only; walk1) | fail "no step"))
        rename Fr _ _ _ _ => F9
        rename News _ _ _ _ => N9
        refine c_ws (gg.fr F9) (by walk_at "ar") (by walk_at "ar") (by rw [shade_len]; omega) ?_
        intro h' tk' ts vw wx wd nm ct t1 bs hvs hk' x1 x2 x3 x4 f1 f2 f3 f4 n1 n2
        have F8 := Fr.keeps F9 hk'
        have N8' := News.put F9 (News.put F9 (News.put F9 (News.put F9 (News.grown N9 hk') f4 x4) f3 x3) f2 x2) f1 x1
        have N8 := rot6 N8'
        clear N8'
        have q1A := fresh_ne f1 (N9 _ (.tail _ (.head _))).1
        have q2A := fresh_ne f2 (N9 _ (.tail _ (.head _))).1
        have q3A := fresh_ne f3 (N9 _ (.tail _ (.head _))).1
        have q4A := fresh_ne f4 (N9 _ (.tail _ (.head _))).1
        have q1P := fresh_ne f1 (N9 _ (.tail _ (.tail _ (.head _)))).1
        have q2P := fresh_ne f2 (N9 _ (.tail _ (.tail _ (.head _)))).1
        have q3P := fresh_ne f3 (N9 _ (.tail _ (.tail _ (.head _)))).1
        have q4P := fresh_ne f4 (N9 _ (.tail _ (.tail _ (.head _)))).1
        have q1I := fresh_ne f1 (N9 _ (.head _)).1
        have q2I := fresh_ne f2 (N9 _ (.head _)).1
        have q3I := fresh_ne f3 (N9 _ (.head _)).1
        have q4I := fresh_ne f4 (N9 _ (.head _)).1
        have hRA : ∀ q ∈ (wx, instObj 101 wd) :: (wd, dictOf (wsEs w ts (.str (S (shadeOf (l.take p))) tj) (wsOf (shadeOf (l.take p))).n (wsOf (shadeOf (l.take p))).nt nm bs) 5) :: (nm, tupOf #[.ref ct, .int ((wsOf (shadeOf (l.take p))).b : Int) t1]) :: (ct, tupOf vw.toArray) :: (I, oI) :: (L' + 1 + 1 + 1, oP2) :: (L' + 1 + 1, oS) :: (L' + 1, oL) :: (D, LCg.lst ys) :: tl', q.1 ≠ A := by
          intro q hq
          rcases List.mem_cons.mp hq with rfl | hq
          · exact q1A
          rcases List.mem_cons.mp hq with rfl | hq
          · exact q2A
          rcases List.mem_cons.mp hq with rfl | hq
          · exact q3A
          rcases List.mem_cons.mp hq with rfl | hq
          · exact q4A
          rcases List.mem_cons.mp hq with rfl | hq
          · exact Ne.symm (hoff (A, W.listOf us.toArray e) (.head _))
          rcases List.mem_cons.mp hq with rfl | hq
          · exact Ne.symm nA
          · exact hrA q hq
        clear F9 N9
        try dsimp only
        repeat' ((fail_if_success (with_reducible show wpAny _ _ (eval (Expr.ListComp _ _ _ _) _) _ _ _)); (first | (k_unfold; (try dsimp only)) | walk1 | (dsimp only; walk1) | fail "no step"))
        rename Fr _ _ _ _ => F9
        rename News _ _ _ _ => N9
        refine LCg.ListComp_U F9 rfl (by decide) rfl (by decide) rfl ?_
        repeat' ((fail_if_success (with_reducible show LCg.CompSrc _ _ _ _ _ _ _ _ _ _ _ _ _ _)); (first | (k_unfold; (try dsimp only)) | walk1 | (dsimp only; walk1) | fail "no step"))
        refine LCg.CompSrc.ledger (its := ys.toArray) (k := ys.length) rfl F9 N9 (by k_mem) (by rw [sizeLine_eq]; simp only [List.size_toArray, hy'.len, List.length_range]; omega) fun ga => ?_
        refine comp_inv (n := ys.toArray.size) (fun k zs news => IntsAre zs ((List.range k).map fun k => (colOf (k + 1) (l.take p) : Int)) ∧ news = _) ?_ ?_ _ 0 [] _ (Nat.zero_add _) ⟨.nil, rfl⟩
        · rintro k zs news₂ v₂ I₂ oI₂ C₂ oC₂ D₂ m₂ h₃ tk₃ E₃ hk ⟨hz, rfl⟩ hv2 hC hx F₂ N₂ off₂ ne₂
          obtain ⟨k', hk', Aj, uj, ej, rfl, hmj, hij⟩ := hy'.at (show ys[k]? = some v₂ by simpa using hv2)
          have hkk : k' = k := by
            have := (List.getElem?_eq_some_iff.mp hk')
            obtain ⟨_, e9⟩ := this
            simpa using e9.symm
          subst hkk
          have hAj : h₃.get? Aj = some (W.listOf uj.toArray ej) := (N₂ (Aj, W.listOf uj.toArray ej) (by (repeat (first | exact hmj | apply List.mem_cons_of_mem)))).1
          dsimp only
          clear F9 N9
          repeat' (first | (k_unfold; (try dsimp only)) | walk1 | (dsimp only; walk1) | fail "no step")
          rw [List.range_succ, List.map_append]
          rename Fr _ _ _ _ => F₃
          exact ⟨_, _, _, rfl, F₃, N₂, off₂, .inr ⟨_, (by k_mem), rfl, _, rfl⟩, hz.append (.cons _ _ .nil), rfl⟩
        · rintro zs news₂ ⟨hz, rfl⟩ D₂ h₃ tk₃ F₂ N₂ off₂
          dsimp only
          clear F9 N9
          rw [show ys.toArray.size = n by simp [hy'.len]] at hz
          repeat' ((fail_if_success (with_reducible show wpAny _ _ (call (.ref 828) _ _) _ _ _)); (first | (k_unfold; (try dsimp only)) | walk1 | (dsimp only; walk1) | fail "no step"))
          rename Fr _ _ _ _ => F9
          refine c_longest (gg.fr F9) (by walk_at "ar") (by walk_at "ar") (by omega) (by omega) ?_
          intro h4 tk4 t4 hk4
          have F8 := Fr.keeps F9 hk4
          have N8 := News.grown N₂ hk4
          clear F9 N₂
          try dsimp only
          repeat' ((fail_if_success (with_reducible show wpAny _ _ (call (.builtin "list.append") _ _) _ _ _)); (first | (k_unfold; (try dsimp only)) | walk1 | (dsimp only; walk1) | fail "no step"))
          rename Fr _ _ _ _ => F9
          rename News _ _ _ _ => N9
          rename _ ∧ _ => l7
          have nT := ne_obj (N9 _ (.head _)).1 (N9 _ (.tail _ (.tail _ (.head _)))).1 (fun q => absurd (Value.type.inj (congrArg Obj.cls q)) (by decide))
          dsimp only at nT
          refine append_K F9 N9 (Upd.tail nT (Upd.tail (Ne.symm off₂.1) (Upd.head hRA))) ?_ (by simp only [List.size_toArray, sizeLine_eq, hus.len, List.length_map, List.length_take]; omega)
          intro h5 F5 N5
          rw [listOf_push] at N5
          clear F9 N9
          try dsimp only
          repeat' (first | (k_unfold; (try dsimp only)) | walk1 | (dsimp only; walk1) | fail "no step")
          rename Fr _ _ _ _ => F9
          rename News _ _ _ _ => N9
          refine ⟨rfl, _, _, _, _, rfl, F9, rot12 N9, fun q hq => ?_, A, _, _, oP2, _, _, dP2, fr_snM F9 rfl rfl, nA, fun q hq => ?_, fun q hq => ?_, hy'.mono fun a b x => x.mono fun _ _ q => .tail _ (.tail _ (.tail _ (.tail _ (.tail _ (.tail _ q))))), ?_, rfl⟩
          · rcases List.mem_cons.mp hq with rfl | hq
            · exact hoff (A, W.listOf us.toArray e) (.head _)
            rcases List.mem_cons.mp hq with rfl | hq
            · exact hoff (L' + 1 + 1 + 1, oP') (.tail _ (.head _))
            rcases List.mem_cons.mp hq with rfl | hq
            · exact hoff _ (.tail _ (.tail _ (.head _)))
            rcases List.mem_cons.mp hq with rfl | hq
            · exact hoff _ (.tail _ (.tail _ (.tail _ (.head _))))
            rcases List.mem_cons.mp hq with rfl | hq
            · exact hoff _ (.tail _ (.tail _ (.tail _ (.tail _ (.head _)))))
            rcases List.mem_cons.mp hq with rfl | hq
            · exact Ne.symm (Nat.ne_of_lt l7.2.2.2.2.2.2.1)
            rcases List.mem_cons.mp hq with rfl | hq
            · exact Ne.symm off₂.2.2.2.2.2.1
            rcases List.mem_cons.mp hq with rfl | hq
            · exact q1I
            rcases List.mem_cons.mp hq with rfl | hq
            · exact q2I
            rcases List.mem_cons.mp hq with rfl | hq
            · exact q3I
            rcases List.mem_cons.mp hq with rfl | hq
            · exact q4I
            · exact hoff _ (.tail _ (.tail _ (.tail _ (.tail _ (.tail _ hq)))))
          · rcases List.mem_cons.mp hq with rfl | hq
            · exact hrA _ (.head _)
            rcases List.mem_cons.mp hq with rfl | hq
            · exact hrA _ (.tail _ (.head _))
            rcases List.mem_cons.mp hq with rfl | hq
            · exact hrA _ (.tail _ (.tail _ (.head _)))
            rcases List.mem_cons.mp hq with rfl | hq
            · exact nT
            rcases List.mem_cons.mp hq with rfl | hq
            · exact Ne.symm off₂.1
            rcases List.mem_cons.mp hq with rfl | hq
            · exact q1A
            rcases List.mem_cons.mp hq with rfl | hq
            · exact q2A
            rcases List.mem_cons.mp hq with rfl | hq
            · exact q3A
            rcases List.mem_cons.mp hq with rfl | hq
            · exact q4A
            · exact hrA _ (.tail _ (.tail _ (.tail _ hq)))
          · rcases List.mem_cons.mp hq with rfl | hq
            · exact hrP _ (.head _)
            rcases List.mem_cons.mp hq with rfl | hq
            · exact hrP _ (.tail _ (.head _))
            rcases List.mem_cons.mp hq with rfl | hq
            · exact hrP _ (.tail _ (.tail _ (.head _)))
            rcases List.mem_cons.mp hq with rfl | hq
            · exact Ne.symm (Nat.ne_of_lt l7.2.2.2.2.2.2.2.1)
            rcases List.mem_cons.mp hq with rfl | hq
            · exact Ne.symm off₂.2.2.2.2.2.2.1
            rcases List.mem_cons.mp hq with rfl | hq
            · exact q1P
            rcases List.mem_cons.mp hq with rfl | hq
            · exact q2P
            rcases List.mem_cons.mp hq with rfl | hq
            · exact q3P
            rcases List.mem_cons.mp hq with rfl | hq
            · exact q4P
            · exact hrP _ (.tail _ (.tail _ (.tail _ hq)))
          · rw [htk, List.map_append]
            exact (hus.mono fun a b x => x.mono fun _ _ q => .tail _ (.tail _ (.tail _ (.tail _ (.tail _ (.tail _ q)))))).snoc ⟨_, wx, wd, nm, ct, _, vw, ts, _, bs, t1, _, zs, _, rfl, .head _, .tail _ (.tail _ (.head _)), .tail _ (.tail _ (.tail _ (.head _))), .tail _ (.tail _ (.tail _ (.tail _ (.head _)))), .tail _ (.tail _ (.tail _ (.tail _ (.tail _ (.head _))))), hvs, .tail _ (.head _), hz⟩
    · rintro h' tk m' news' F' N' ⟨A, e, us, oP', v₀, tl', dP', hm, nA, hrA, hrP, hy', hus, rfl⟩
      rw [List.take_of_length_le (by omega)] at hus
      rw [hm] at F'
      clear hm F9 N9
      replace F' : Fr g₀ L' h' (snM A D m') := F'
      repeat' (first | (k_unfold; (try dsimp only)) | walk1 | (dsimp only; walk1) | fail "no step")
      rename Fr _ _ _ _ => F9
      rename News _ _ _ _ => N9
      exact hq _ _ A us _ tl' (fun b o q => F9.keep b o (up b o q)) (dn _ (N9 _ (.head _)).2.2) (N9 _ (.head _)).1 (fun p hp => ⟨(N9 p (.tail _ (.tail _ (.tail _ (.tail _ (.tail _ hp)))))).1, dn _ (N9 p (.tail _ (.tail _ (.tail _ (.tail _ (.tail _ hp)))))).2.2⟩) hus
end
end Mine
end
theorem Mine.lnEndSeen : True := by
  k_with_none
  trivial
section
open PySem PySem.W PyProof.Rows PySem.Calls PySem.Spec
set_option maxRecDepth 100000
set_option maxHeartbeats 0
namespace Mine
section
variable {w : World} {mean : ExcName → Option Value} {mg mb : Str → Option Value} {hT : Heap} {dp un : Nat} {fr : Option (List Env)} {gd : Option (List Code)} {s : Shared} {Q E : Value → Shared → Prop} {M : Model} {h : Heap}
theorem lnTold1 : True := by
  k_with_none
  k_with "ar" => (((try dsimp only [AA, Around.deeper, Around.in1]); omega))
  k_with "om" => (with_reducible first | assumption | exact Ne.symm (by assumption) | exact Mine.up0 (by assumption) | exact Mine.up1 (by assumption) rfl | exact Mine.up2 (by assumption) rfl | exact Mine.up3 (by assumption) rfl | fail)
  trivial
noncomputable def toldL (k : Nat) : List Cell → List PyData
  | [] => []
  | c :: r => .tuple [.str (S c.word), .int (k : Int)] :: toldL (k + (c.sp.length + c.gap.length)) r
theorem toldL_app (a b : List Cell) : ∀ k, toldL k (a ++ b) = toldL k a ++ toldL (k + (restOf a).length) b := by
  induction a with
  | nil => intro k; rfl
  | cons c r ih => intro k; simp only [List.cons_append, toldL, ih, restOf, List.length_append]; congr 3; omega
theorem toldL_len (a : List Cell) : ∀ k, (toldL k a).length = a.length := by
  induction a with
  | nil => intro k; rfl
  | cons c r ih => intro k; simp [toldL, ih]
noncomputable abbrev tdM (l rest : List Nat) (A : Addr) (t u : Tok) (m : Str → Option Value) : Str → Option Value :=
  set1 (Str.ofString "line") (.str (S l) t) (set1 (Str.ofString "rest") (.str (S rest) u) (set1 (Str.ofString "told") (.ref A) m))
theorem fr_tdM {g h : Heap} {L : Addr} {l rest : List Nat} {A : Addr} {t u : Tok} {m : Str → Option Value} (_F : Fr g L h m) (h1 : m (Str.ofString "line") = some (.str (S l) t)) (h2 : m (Str.ofString "rest") = some (.str (S rest) u)) (h3 : m (Str.ofString "told") = some (.ref A)) : m = tdM l rest A t u m := by
  unfold tdM
  rw [set1_same h3, set1_same h2, set1_same h1]
theorem lnTold2 : True := by
  k_with "call builtin:len" => (k_dflt (refine len_S (by simp only [List.length_append]; omega) ?_))
  k_with "call builtin:list.append" => ((k_here; (with_reducible rename Fr _ _ _ _ => kF_q); (with_reducible rename News _ _ _ _ => kN_q); k_dflt (refine append_K kF_q kN_q (Upd.tail (by k_ne) (Upd.tail (by k_ne) (Upd.head (by assumption)))) ?_ (by simp only [List.size_toArray, sizeLine_eq]; omega)); intro h'_q F'_q N'_q; clear kF_q kN_q; (try dsimp only)))
  k_with "callWith ref" => (k_here; k_dflt (refine' callWith_K0 ?k1 ?k2 ?_; (case k1 => with_reducible exact Frag.In.keeps (by assumption) (Fr.keep (by assumption))); (case k2 => k_is); k_whole))
  trivial
theorem dict_ne {es es' : List DictEntry} {n n' : Nat} (hh : es.length ≠ es'.length) : dictOf es n ≠ dictOf es' n' := by
  intro e
  injection e with _ _ e _
  injection e with e _
  exact hh (by have := congrArg Array.size e; simpa using this)
theorem news_sub {g h : Heap} {L : Addr} {l l' : List (Addr × Obj)} (N : News g L h l) (hs : ∀ p ∈ l', p ∈ l) : News g L h l' := fun p hp => N p (hs p hp)
theorem c_told {b : List Nat} {cs : List Cell} {t : Tok} (g : G w mean mg mb hT s.heap) (hd : dp + 300 < recursionLimit) (hu : un + 1000 < cLine)
    (hok : ∀ c ∈ cs, CellOk c) (hb : ∀ c ∈ b, c = 32 ∨ c = 9) (hbl : b.length ≤ 10) (hcs : cs.length ≤ 8)
    (hq : ∀ h' tk' A, (∀ b o, s.heap.get? b = some o → h'.get? b = some o) → Reads h' (.ref A) (.list (toldL b.length cs)) [A] → Q (.ref A) { s with heap := h', toks := tk' }) :
    wpAny (model PR w) (AA dp un fr gd) (call (.ref 816) [.str (S (b ++ restOf cs)) t]) Q E s := by
  refine wpAny_call ?_
  refine enterR [(Str.ofString "line", .str (S (b ++ restOf cs)) t)] g (by k_is) (by k_is) (by show dp < _; omega) (BindsTo.of_eq rfl) (locs rfl) rfl rfl rfl (by decide) ?_
  intro g₀ L h₁ up dn X T F N
  repeat' ((fail_if_success (with_reducible show wpAny _ _ (exec (Stmt.For _ _ _ _ _) _) _ _ _)); (first | (k_unfold; (try dsimp only)) | walk1 | (dsimp only; walk1) | fail "no step"))
  rename Fr _ _ _ _ => F9
  rename News _ _ _ _ => N9
  refine for_one (h₀ := g₀) rfl (by rfl) (by rfl) ?_
  repeat' ((fail_if_success (with_reducible show OneSrc _ _ _ _ _ _ _ _ _ _ _)); (first | (k_unfold; (try dsimp only)) | walk1 | (dsimp only; walk1) | fail "no step"))
  rename IsRange _ _ _ _ _ _ _ _ => R9
  rename Fr _ _ _ _ => F9
  rename News _ _ _ _ => N9
  refine ⟨_, _, _, _, (fun i m news => i ≤ cs.length ∧ ∃ (b' : List Nat) (A : Addr) (e : Nat) (us : List Value) (tl : List (Addr × Obj)) (t u : Tok), (∀ c ∈ b', c = 32 ∨ c = 9) ∧ b'.length ≤ 10 ∧ m = tdM (b ++ restOf cs) (b' ++ restOf (cs.drop i)) A t u m ∧ Made tl us (toldL b.length (cs.take i)) ∧ news = (A, W.listOf us.toArray e) :: tl), oneIt_range R9 (by decide) (by decide) (by decide) (by decide), F9, (fun p hp => N9 p (.tail _ hp)), ⟨Nat.zero_le _, b, _, _, [], [], _, _, hb, hbl, fr_tdM F9 rfl rfl rfl, .nil, rfl⟩, ?_, ?_⟩
  · rintro i v m₁ news₁ I oI h tk hi ⟨tv, rfl⟩ ⟨hic, b', A, e, us, tl, t', u', hb', hbl', hm, htr, rfl⟩ hoff F N
    rw [hm] at F
    clear hm F9 N9
    have hAo := off_list (fun p hp => N p (.tail _ hp)) htr.cls
    have hIA := neN (hoff _ (.head _))
    dsimp only at hIA
    have hml := htr.len
    rw [toldL_len, List.length_take] at hml
    have htd : restOf cs = restOf (cs.take i) ++ restOf (cs.drop i) := by rw [← restOf_app, List.take_append_drop]
    have hok' : ∀ c ∈ cs.drop i, CellOk c := fun c hc => hok c (List.mem_of_mem_drop hc)
    have hL0 := restOf_len hok
    have hL1 := congrArg List.length htd
    rw [List.length_append] at hL1
    have h10 : 10 ∉ b' ++ restOf (cs.drop i) := by
      simp only [List.mem_append, not_or]
      exact ⟨ws_mem_no10 hb', restOf_no10 hok'⟩
    have hwn := ws_n hb' hok'
    repeat' ((fail_if_success (with_reducible show wpAny _ _ (call (.ref 101) _ _) _ _ _)); (first | (k_unfold; (try dsimp only)) | walk1 | (dsimp only; walk1) | fail "no step"))
    rename Fr _ _ _ _ => F9
    rename News _ _ _ _ => N9
    refine c_ws (G.of F9 X T) (by walk_at "ar") (by walk_at "ar") (by simp only [List.length_append]; omega) ?_
    intro h' tk' ts vs wx wd nm ct t1 bs hvs hk' x1 x2 x3 x4 f1 f2 f3 f4 n1 n2
    have F8 := Fr.keeps F9 hk'
    have N8 := News.put F9 (News.put F9 (News.grown N9 hk') f2 x2) f1 x1
    clear F9 N9
    try dsimp only
    repeat' ((fail_if_success (with_reducible show wpAny _ _ (call (.ref 788) _ _) _ _ _)); (first | (k_unfold; (try dsimp only)) | walk1 | (dsimp only; walk1) | fail "no step"))
    rename Fr _ _ _ _ => F9
    rename News _ _ _ _ => N9
    have N7 : News g₀ L _ ((I, oI) :: (A, W.listOf us.toArray e) :: tl) := fun p hp => N9 p (.tail _ (.tail _ hp))
    clear N9
    have hst : (((b ++ restOf cs).length : Nat) : Int) - ((b' ++ restOf (cs.drop i)).length : Nat) + ((wsOf (b' ++ restOf (cs.drop i))).n : Nat) = ((b.length + (restOf (cs.take i)).length : Nat) : Int) := by
      rw [hwn]; simp only [List.length_append]; omega
    rw [hst] at F9
    clear F8 N8 x1 x2 x3 x4 f1 f2 f3 f4 n1 n2 hk' hvs hst hwn
    refine c_shlex (G.of F9 X T) (by walk_at "ar") (by walk_at "ar") ?_
    intro h' tk' ts st tv' lx ld io dx q1 q2 a1 a2 a3 t1 t2 t3 u1 u2 u3 n hk' x1 x2 x3 x4 x5 x6 f1 f2 f3 f4 f5 f6 n1 n2
    have F8 := Fr.keeps F9 hk'
    have N8 := News.put F9 (News.put F9 (News.put F9 (News.put F9 (News.put F9 (News.put F9 (News.grown N7 hk') f6 x6) f5 x5) f4 x4) f3 x3) f2 x2) f1 x1
    have hD : ∀ p ∈ (I, oI) :: (A, W.listOf us.toArray e) :: tl, p.1 ∉ [lx, ld, io, dx, q1, q2] := by
      intro p hp q
      have := (N7 p hp).1
      simp only [List.mem_cons, List.not_mem_nil, or_false] at q
      rcases q with q | q | q | q | q | q <;> rw [q] at this
      · rw [f1] at this; cases this
      · rw [f2] at this; cases this
      · rw [f3] at this; cases this
      · rw [f4] at this; cases this
      · rw [f5] at this; cases this
      · rw [f6] at this; cases this
    clear F9 N7
    try dsimp only
    repeat' ((fail_if_success (with_reducible show wpAny _ _ (call (.ref 749) _ _) _ _ _)); (first | (k_unfold; (try dsimp only)) | walk1 | (dsimp only; walk1) | fail "no step"))
    dsimp only [List.append_nil, List.append]
    clear x1 x2 x3 x4 x5 x6 f1 f2 f3 f4 f5 f6 hk'
    rename Fr _ _ _ _ => F9
    rename News _ _ _ _ => N9
    rw [litE] at N9
    have y1 := (N9 _ (.head _))
    have y2 := (N9 _ (.tail _ (.head _)))
    have y3 := (N9 _ (.tail _ (.tail _ (.head _))))
    have y4 := (N9 _ (.tail _ (.tail _ (.tail _ (.head _)))))
    have y5 := (N9 _ (.tail _ (.tail _ (.tail _ (.tail _ (.head _))))))
    have y6 := (N9 _ (.tail _ (.tail _ (.tail _ (.tail _ (.tail _ (.head _)))))))
    have N7 : News g₀ L _ ((I, oI) :: (A, W.listOf us.toArray e) :: tl) := fun p hp => N9 p (.tail _ (.tail _ (.tail _ (.tail _ (.tail _ (.tail _ hp))))))
    dsimp only at y1 y2 y3 y4 y5 y6
    have m1 : lx ∉ [io, dx] := by
      simp only [List.mem_cons, List.not_mem_nil, or_false, not_or]
      exact ⟨ne_obj y1.1 y3.1 (by intro e; injection e with e _; injection e with e; exact absurd e (by decide)), ne_obj y1.1 y4.1 (by intro e; cases e)⟩
    have m2 : ld ∉ [io, dx] := by
      simp only [List.mem_cons, List.not_mem_nil, or_false, not_or]
      exact ⟨ne_obj y2.1 y3.1 (by intro e; cases e), ne_obj y2.1 y4.1 (dict_ne (show (19 : Nat) ≠ 3 from by decide))⟩
    have hL' : L ∉ [lx, ld, io, dx, q1, q2] := by
      simp only [List.mem_cons, List.not_mem_nil, or_false, not_or]
      exact ⟨Ne.symm y1.2.1, Ne.symm y2.2.1, Ne.symm y3.2.1, Ne.symm y4.2.1, Ne.symm y5.2.1, Ne.symm y6.2.1⟩
    have hD₀ : ∀ a ∈ [lx, ld, io, dx, q1, q2], g₀.get? a = none := by
      intro a ha
      simp only [List.mem_cons, List.not_mem_nil, or_false] at ha
      rcases ha with rfl | rfl | rfl | rfl | rfl | rfl
      · exact y1.2.2
      · exact y2.2.2
      · exact y3.2.2
      · exact y4.2.2
      · exact y5.2.2
      · exact y6.2.2
    have hlen : (b' ++ restOf (cs.drop i)).length < 100000 := by simp only [List.length_append]; omega
    rcases Nat.lt_or_ge i cs.length with hlt | hge
    · have hdr : cs.drop i = cs[i] :: cs.drop (i + 1) := List.drop_eq_getElem_cons hlt
      have hci : cs[i]? = some cs[i] := List.getElem?_eq_getElem hlt
      have hco := hok _ (List.getElem_mem hlt)
      have htk : cs.take (i + 1) = cs.take i ++ [cs[i]] := by rw [List.take_add_one, hci]; rfl
      generalize cs[i] = c at hdr hci hco htk
      have hlex : Lex .ws [] false ((b' ++ restOf (cs.drop i)).drop 0) c.word (c.gap.drop 1 ++ restOf (cs.drop (i + 1))) := by
        rw [List.drop_zero, hdr]; exact lex_cell hb' hco
      refine c_gettok (p := 0) hlex (G.of F9 X T) (by walk_at "ar") (by walk_at "ar") y1.1 y2.1 y3.1 y4.1 y5.1 y6.1 y1.2.2 y2.2.2 y3.2.2 y4.2.2 y5.2.2 y6.2.2 n2 m1 m2 n1 (Nat.zero_le _) hlen ?_
      rintro h' tk' tw p' u3' hkb z1 z3 hp' hrest z4 ⟨sv, tv2, z2⟩
      have F8 := Fr.kb F9 hkb hL' hD₀
      have N8 : News g₀ L h' ((I, oI) :: (A, W.listOf us.toArray e) :: tl) := News.kb N7 hkb hD
      have nA : ∀ a ∈ [lx, ld, io, dx], a ≠ A := fun a ha q => hD _ (.tail _ (.head _)) (by rw [← q]; simp only [List.mem_cons, List.not_mem_nil, or_false] at ha ⊢; rcases ha with q | q | q | q <;> simp [q])
      have hR9 : ∀ p ∈ (lx, instObj 788 ld) :: (ld, dictOf (lexEs w ts io q1 q2 sv tv2) 19) :: (io, instObj 653 dx) :: (dx, dictOf (ioEs a1 a2 a3 t1 t2 t3 u1 u2 u3' (S (b' ++ restOf (cs.drop i))) (p' : Int)) n) :: tl, p.1 ≠ A := by
        intro p hp
        rcases List.mem_cons.mp hp with rfl | hp
        · exact nA _ (by simp)
        rcases List.mem_cons.mp hp with rfl | hp
        · exact nA _ (by simp)
        rcases List.mem_cons.mp hp with rfl | hp
        · exact nA _ (by simp)
        rcases List.mem_cons.mp hp with rfl | hp
        · exact nA _ (by simp)
        · exact hAo p hp
      have N6 : News g₀ L h' ((I, oI) :: (A, W.listOf us.toArray e) :: (lx, instObj 788 ld) :: (ld, dictOf (lexEs w ts io q1 q2 sv tv2) 19) :: (io, instObj 653 dx) :: (dx, dictOf (ioEs a1 a2 a3 t1 t2 t3 u1 u2 u3' (S (b' ++ restOf (cs.drop i))) (p' : Int)) n) :: tl) := by
        intro p hp
        rcases List.mem_cons.mp hp with rfl | hp
        · exact N8 _ (.head _)
        rcases List.mem_cons.mp hp with rfl | hp
        · exact N8 _ (.tail _ (.head _))
        rcases List.mem_cons.mp hp with rfl | hp
        · exact ⟨z1, y1.2⟩
        rcases List.mem_cons.mp hp with rfl | hp
        · exact ⟨z2, y2.2⟩
        rcases List.mem_cons.mp hp with rfl | hp
        · exact ⟨z3, y3.2⟩
        rcases List.mem_cons.mp hp with rfl | hp
        · exact ⟨z4, y4.2⟩
        · exact N8 _ (.tail _ (.tail _ hp))
      clear F9 N9 N7 N8 y1 y2 y3 y4 y5 y6 z1 z2 z3 z4
      try dsimp only
      repeat' ((fail_if_success (with_reducible show wpAny _ _ (call (.ref 607) _ _) _ _ _)); (first | (k_unfold; (try dsimp only)) | walk1 | (dsimp only; walk1) | fail "no step"))
      rename Fr _ _ _ _ => F9
      rename News _ _ _ _ => N9
      rename _ ∧ _ => l9
      have l9A := l9.2.1
      have l9I := l9.1
      dsimp only [List.append_nil, List.append]
      have w1 := (N9 _ (.tail _ (.tail _ (.tail _ (.tail _ (.tail _ (.head _)))))))
      have w2 := (N9 _ (.tail _ (.tail _ (.tail _ (.tail _ (.tail _ (.tail _ (.head _))))))))
      dsimp only at w1 w2
      refine c_readline (G.of F9 X T) (by walk_at "ar") (by walk_at "ar") w1.1 w2.1 w1.2.2 w2.2.2 n2 hp' (by omega) h10 ?_
      rintro h2' tk2 t2' hkb2
      have F8 := Fr.kb F9 hkb2 (by
        simp only [List.mem_cons, List.not_mem_nil, or_false, not_or]
        exact ⟨Ne.symm w1.2.1, Ne.symm w2.2.1⟩) (by
        intro a ha
        simp only [List.mem_cons, List.not_mem_nil, or_false] at ha
        rcases ha with rfl | rfl
        · exact w1.2.2
        · exact w2.2.2)
      have N8 := News.kb (news_sub N9 (l' := (_, _) :: (I, oI) :: (A, _) :: tl) (fun p hp => by
        rcases List.mem_cons.mp hp with rfl | hp
        · exact .head _
        rcases List.mem_cons.mp hp with rfl | hp
        · exact .tail _ (.head _)
        rcases List.mem_cons.mp hp with rfl | hp
        · exact .tail _ (.tail _ (.head _))
        · exact .tail _ (.tail _ (.tail _ (.tail _ (.tail _ (.tail _ (.tail _ hp)))))))) hkb2 (fun p hp => by
        simp only [List.mem_cons, List.not_mem_nil, or_false, not_or]
        rcases List.mem_cons.mp hp with rfl | hp
        · have l3 := l9.2.2.2.2.1
          have l4 := l9.2.2.2.2.2.1
          dsimp only
          exact ⟨Ne.symm (Nat.ne_of_lt l3), Ne.symm (Nat.ne_of_lt l4)⟩
        have key : ∀ p ∈ (I, oI) :: (A, W.listOf us.toArray e) :: tl, p.1 ≠ io ∧ p.1 ≠ dx := fun p hp => by
          have := hD p hp
          simp only [List.mem_cons, List.not_mem_nil, or_false, not_or] at this
          exact ⟨this.2.2.1, this.2.2.2.1⟩
        rcases List.mem_cons.mp hp with rfl | hp
        · exact key _ (.head _)
        rcases List.mem_cons.mp hp with rfl | hp
        · exact key (A, W.listOf us.toArray e) (.tail _ (.head _))
        · exact key _ (.tail _ (.tail _ hp)))
      rw [hrest]
      rw [listOf_push] at N8
      clear F9 N9 w1 w2 hR9 hlex hkb hkb2
      repeat' (first | (k_unfold; (try dsimp only)) | walk1 | (dsimp only; walk1) | fail "no step")
      rename Fr _ _ _ _ => F9
      rename News _ _ _ _ => N9
      refine ⟨_, _, _, _, rfl, F9, news_rot (xs := []) N9, off_rot (xs := []) hoff (Ne.symm (Nat.ne_of_lt l9I)), hlt, c.gap.drop 1, A, _, _, _, _, _, (fun x hx => hco.gws x (List.mem_of_mem_drop hx)), by have := hco.glen; rw [List.length_drop]; omega, fr_tdM F9 rfl rfl rfl, ?_, rfl⟩
      rw [htk, toldL_app]
      exact .snoc htr flat2
    · have hie : i = cs.length := by omega
      have hdr : cs.drop i = [] := by rw [hie]; exact List.drop_length
      have hws : ∀ c ∈ (b' ++ restOf (cs.drop i)).drop 0, c = 32 ∨ c = 9 := by
        rw [List.drop_zero, hdr, restOf, List.append_nil]; exact hb'
      refine c_geteof (p := 0) hws (G.of F9 X T) (by walk_at "ar") (by walk_at "ar") y1.1 y2.1 y3.1 y4.1 y5.1 y6.1 y1.2.2 y2.2.2 y3.2.2 y4.2.2 y5.2.2 y6.2.2 n2 m1 m2 n1 (Nat.zero_le _) hlen ?_
      rintro h' tk' p' u3' hkb z1 z3 z4 ⟨sv, tv2, z2⟩
      have F8 := Fr.kb F9 hkb hL' hD₀
      have N8 : News g₀ L h' ((I, oI) :: (A, W.listOf us.toArray e) :: tl) := News.kb N7 hkb hD
      clear F9 N9 N7 y1 y2 y3 y4 y5 y6 z1 z2 z3 z4
      try dsimp only
      repeat' (first | (k_unfold; (try dsimp only)) | walk1 | (dsimp only; walk1) | fail "no step")
      rename Fr _ _ _ _ => F9
      rename News _ _ _ _ => N9
      rw [hie, List.take_length] at htr
      exact hq _ _ A (fun b o q => F9.keep b o (up b o q)) (htr.list (fun p hp => (N9 p (.tail _ (.tail _ hp))).1) (N9 _ (.tail _ (.head _))).1)
  · rintro h' tk m' news' F' N' ⟨hic, _⟩
    have : (9 - 0 : Int).toNat = 9 := rfl
    omega
end
end Mine
end
theorem Mine.lnEndTold : True := by
  k_with_none
  trivial
section
open PySem PySem.W PyProof.Rows PySem.Calls PySem.Spec
set_option maxRecDepth 100000
namespace Mine
theorem toldL_at : ∀ (cs : List Cell) (k j : Nat) (c : Cell) (p : Nat), cs[j]? = some c → (startsOf k cs)[j]? = some p → (toldL k cs)[j]? = some (.tuple [.str (S c.word), .int (p : Int)])
  | [], _, _, _, _, h, _ => by simp at h
  | d :: r, k, 0, c, p, h, h' => by
    simp [startsOf] at h h'
    subst h h'
    rfl
  | d :: r, k, j + 1, c, p, h, h' => by
    simp only [startsOf, List.getElem?_cons_succ] at h h'
    simp only [toldL, List.getElem?_cons_succ]
    exact toldL_at r _ j c p h h'
theorem readsAll_of {h : Heap} {us : List Value} {ds : List PyData} (x : All2 (fun v d => Reads h v d []) us ds) : ReadsAll h us ds [] := by
  induction x with
  | nil => exact .nil
  | cons q _ ih => exact .cons q ih
theorem reads_zip {h₀ h : Heap} {z i1 i2 D : Addr} {acc : Array Value} {zs us : List Value} {cs : List Cell} {k c' : Nat} (hz : StrsAre zs (cs.map fun c => S c.word)) (hu : IntsAre us (natI (startsOf k cs)))
    (ha : AccOk h₀ h z i1 i2 D zs.toArray us.toArray acc) (hn : acc.size = zs.toArray.size) (hS : h.get? D = some { cls := .type "list", dict := none, data := .seq acc c', slots := #[] }) : Reads h (.ref D) (.list (toldL k cs)) [D] := by
  refine Reads.list hS rfl rfl (readsAll_of (All2.of_at ?_ fun j v d hv hd => ?_))
  · have h1 := StrsAre.len_eq hz
    rw [toldL_len]
    simp at h1 hn ⊢
    lia
  · have hv' : acc[j]? = some v := by simpa using hv
    obtain ⟨T, x, y, rfl, hx, hy, hT, _⟩ := ha j v hv'
    have hx' : zs[j]? = some x := by simpa using hx
    have hy' : us[j]? = some y := by simpa using hy
    obtain ⟨n1, t1, rfl, hn1⟩ := hu.at j y hy'
    rw [List.getElem?_map] at hn1
    cases q : (startsOf k cs)[j]? with
    | none => rw [q] at hn1; cases hn1
    | some p =>
      rw [q] at hn1
      have e1 : (p : Int) = n1 := Option.some.inj hn1
      have hj : j < cs.length := by rw [← startsOf_length cs k]; exact (List.getElem?_eq_some_iff.mp q).1
      obtain ⟨c, hc⟩ : ∃ c, cs[j]? = some c := ⟨_, List.getElem?_eq_getElem hj⟩
      have ht := toldL_at cs k j c p hc q
      rw [ht] at hd
      obtain ⟨t2, hx2⟩ := StrsAre.at hz (j := j) (y := S c.word) (by rw [List.getElem?_map, hc]; rfl)
      rw [hx'] at hx2
      have ex := Option.some.inj hx2
      subst ex
      subst e1
      rw [← Option.some.inj hd]
      exact Reads.tuple hT rfl rfl (flat2 h)
open PySem.SeqAt in
theorem shaped_told (k : Nat) (cs : List Cell) (hx : ∀ c ∈ cs, ∀ x ∈ c.word, x < 1114112) : shaped (.list (toldL k cs)) = true := by
  have h1 : ∀ (cs : List Cell) (k : Nat), (∀ c ∈ cs, ∀ x ∈ c.word, x < 1114112) → PyData.canLayAll0 (toldL k cs) = true ∧ PyData.depthAll (toldL k cs) ≤ 2 := by
    intro cs
    induction cs with
    | nil => intro k _; exact ⟨rfl, by simp [toldL, PyData.depthAll]⟩
    | cons c r ih =>
      intro k hk
      have q := ih (k + (c.sp.length + c.gap.length)) fun x hx => hk x (.tail _ hx)
      have hw := hk c (.head _)
      refine ⟨?_, ?_⟩
      · simp only [toldL, PyData.canLayAll0, PyData.canLay0, q.1, Bool.and_true]
        simpa [PyData.strOk] using hw
      · simp only [toldL, PyData.depthAll, PyData.depth]; lia
  have h2 := h1 cs k hx
  show (PyData.canLay0 (.list (toldL k cs)) && decide (PyData.depth (.list (toldL k cs)) ≤ 64)) = true
  rw [Bool.and_eq_true]
  exact ⟨h2.1, decide_eq_true (by simp only [PyData.depth]; lia)⟩
open PySem.SeqAt
theorem noMix_told : ∀ (cs : List Cell) (k : Nat), noMixAll (toldL k cs) (toldL k cs) = true
  | [], _ => by simp [toldL, noMixAll]
  | c :: r, k => by simp [toldL, noMixAll, noMix, noMix_told r]
noncomputable def Flat3 (d : PyData) : Prop := ∃ x y z : Int, d = .tuple [.int x, .int y, .int z]
theorem flat_all : ∀ {l : List PyData}, (∀ d ∈ l, Flat3 d) → PyData.canLayAll0 l = true ∧ PyData.depthAll l ≤ 2 ∧ noMixAll l l = true
  | [], _ => ⟨rfl, by simp [PyData.depthAll], by simp [noMixAll]⟩
  | d :: r, h => by
    have q := flat_all fun x hx => h x (.tail _ hx)
    obtain ⟨x, y, z, rfl⟩ := h d (.head _)
    refine ⟨?_, ?_, ?_⟩
    · simp [PyData.canLayAll0, PyData.canLay0, q.1]
    · have := q.2.1
      simp only [PyData.depthAll, PyData.depth]; lia
    · simp [noMixAll, noMix, q.2.2]
theorem wit_flat (f f' : Nat → Int) (n : Nat) : ∀ d ∈ witTo f f' n, Flat3 d := by
  induction n with
  | zero => intro d hd; cases hd
  | succ n ih =>
    intro d hd
    simp only [witTo, List.mem_append] at hd
    rcases hd with hd | hd
    · exact ih d hd
    · split at hd
      · cases hd
      · exact ⟨_, _, _, List.mem_singleton.mp hd⟩
open PySem.SeqAt in
theorem shaped_wit (f f' : Nat → Int) (n : Nat) : shaped (.list (witTo f f' n)) = true := by
  have q := flat_all (wit_flat f f' n)
  show (PyData.canLay0 (.list (witTo f f' n)) && decide (PyData.depth (.list (witTo f f' n)) ≤ 64)) = true
  rw [Bool.and_eq_true]
  exact ⟨q.1, decide_eq_true (by have := q.2.1; simp only [PyData.depth]; lia)⟩
theorem noMix_wit (f f' : Nat → Int) (n : Nat) : noMix (.list (witTo f f' n)) (.list (witTo f f' n)) = true := (flat_all (wit_flat f f' n)).2.2
theorem witTo_congr {f g f' g' : Nat → Int} {n : Nat} (h : ∀ i, 1 ≤ i → i ≤ n → f i = g i) (h' : ∀ i, 1 ≤ i → i ≤ n → f' i = g' i) : witTo f f' n = witTo g g' n := by
  induction n with
  | zero => rfl
  | succ n ih => simp only [witTo]; rw [ih (fun i a b => h i a (by lia)) (fun i a b => h' i a (by lia)), h (n + 1) (by lia) (Nat.le_refl _), h' (n + 1) (by lia) (Nat.le_refl _)]
theorem witTo_nil {f f' : Nat → Int} {n : Nat} : witTo f f' n = [] ↔ ∀ i, 1 ≤ i → i ≤ n → f i = f' i := by
  induction n with
  | zero => exact ⟨fun _ i a b => by lia, fun _ => rfl⟩
  | succ n ih =>
    simp only [witTo, List.append_eq_nil_iff, ih]
    constructor
    · rintro ⟨h1, h2⟩ i a b
      by_cases e : i = n + 1
      · subst e
        by_cases q : f (n + 1) = f' (n + 1)
        · exact q
        · rw [if_neg q] at h2; cases h2
      · exact h1 i a (by lia)
    · intro h
      exact ⟨fun i a b => h i a (by lia), by rw [if_pos (h (n + 1) (by lia) (Nat.le_refl _))]⟩
theorem longW_shade (p : List Nat) : longW (wsOf (shadeOf p)) = longOf p := by
  have h := long_ws p
  unfold longW
  lia
/-- what the witness of two shades tells -/
theorem wit_shade (p q : List Nat) : witTo (indentOf (wsOf (shadeOf p))) (indentOf (wsOf (shadeOf q))) (max (longW (wsOf (shadeOf p))) (longW (wsOf (shadeOf q))) + 1) = witTo (fun z => (colOf z p : Int)) (fun z => (colOf z q : Int)) (max (longOf p) (longOf q) + 1) := by
  rw [longW_shade, longW_shade]
  exact witTo_congr (fun i a _ => indent_col p i a) fun i a _ => indent_col q i a
theorem eq_shade (p q : List Nat) : decide ((wsOf (shadeOf p)).cnt = (wsOf (shadeOf q)).cnt ∧ (wsOf (shadeOf p)).b = (wsOf (shadeOf q)).b) = decide (witTo (fun z => (colOf z p : Int)) (fun z => (colOf z q : Int)) (max (longOf p) (longOf q) + 1) = []) := by
  have h1 := norm_iff p q
  have h2 := witTo_nil (f := fun z => (colOf z p : Int)) (f' := fun z => (colOf z q : Int)) (n := max (longOf p) (longOf q) + 1)
  refine decide_eq_decide.mpr (h1.trans (Iff.trans ?_ h2.symm))
  constructor
  · intro h i a b; exact congrArg _ (h i a b)
  · intro h i a b; have := h i a b; lia
theorem runsGo_grow (l : List Nat) : ∀ rs b, (∀ r ∈ rs, r ≤ maxOf (runsGo l rs b).1) ∧ b ≤ max (maxOf (runsGo l rs b).1) (runsGo l rs b).2 := by
  induction l with
  | nil => intro rs b; exact ⟨fun r hr => le_maxOf hr, by simp [runsGo]; lia⟩
  | cons c t ih =>
    intro rs b
    unfold runsGo
    split
    · have := ih (b :: rs) 0
      exact ⟨fun r hr => this.1 r (.tail _ hr), by have := this.1 b (.head _); lia⟩
    · have := ih rs (b + 1)
      exact ⟨this.1, by have := this.2; lia⟩
theorem runsGo_app (p q : List Nat) : ∀ rs b, runsGo (p ++ q) rs b = runsGo q (runsGo p rs b).1 (runsGo p rs b).2 := by
  induction p with
  | nil => intro rs b; rfl
  | cons c t ih => intro rs b; simp only [List.cons_append, runsGo]; split <;> exact ih _ _
theorem longOf_app (p q : List Nat) : longOf p ≤ longOf (p ++ q) := by
  unfold longOf runsOf
  rw [runsGo_app]
  have h := runsGo_grow q (runsGo p [] 0).1 (runsGo p [] 0).2
  have h1 := maxOf_le h.1
  lia
theorem longOf_take {l : List Nat} {i j : Nat} (h : i ≤ j) : longOf (l.take i) ≤ longOf (l.take j) := by
  have e : l.take j = l.take i ++ (l.take j).drop i := by
    have := (List.take_append_drop i (l.take j)).symm
    rwa [List.take_take, Nat.min_eq_left h] at this
  rw [e]; exact longOf_app _ _
end Mine
end
section
open PySem PySem.W PyProof.Rows PySem.Calls PySem.Spec
set_option maxRecDepth 100000
namespace Mine
theorem allObj_of : ∀ {ws : List (Addr × String)} {k : List (Addr × Obj) → Prop}, (∀ its, Objs ws its → k its) → AllObj ws k
  | [], _, h => h [] trivial
  | _ :: _, _, h => fun o ho => allObj_of fun its hi => h ((_, o) :: its) ⟨⟨rfl, ho⟩, hi⟩
section
variable {prog : Program} {w : World} {A : Around} {E : Value → Shared → Prop} {s : Shared} {h₀ : Heap} {env : Env} {target : Expr} {body : List Stmt} {Q : Flow → Shared → Prop}
/-- what a turn over a zip must leave: all that was made stands as it stood -/
noncomputable def ZipEnd (h₀ : Heap) (L : Addr) (its news : List (Addr × Obj)) (s₁ : Shared) (f : Flow) (s₂ : Shared) : Prop :=
  f = .next ∧ ∃ h' tk m', s₂ = { s₁ with heap := h', toks := tk } ∧ Fr h₀ L h' m' ∧ News h₀ L h' (its ++ news)
theorem itemsZip {ws : List (Addr × String)} {keep news : List (Addr × Obj)} {xs ys : List Value} (hk : SubL keep news) (hoff : ∀ p ∈ news, ∀ a ∈ ws.map (·.1), p.1 ≠ a)
    (step : ∀ (i : Nat) (x y : Value) (m : Str → Option Value) (T : Addr) (h : Heap) (tk : Nat) (its : List (Addr × Obj)), xs[i]? = some x → ys[i]? = some y → IsTup h T #[x, y] → Fr h₀ env.locals h m → News h₀ env.locals h (its ++ news) →
      wpAny (model prog w) A (assign target env (.ref T)) (fun _ s₂ => wpAny (model prog w) A (execs body env) (ZipEnd h₀ env.locals its news { s with heap := h, toks := tk }) E s₂) E { s with heap := h, toks := tk })
    (done : ∀ h tk m, Fr h₀ env.locals h m → News h₀ env.locals h news → Q .next { s with heap := h, toks := tk }) :
    ∀ (n i : Nat) (m : Str → Option Value), xs.length - i = n → ItemsRest prog w A E h₀ env target body Q s ws keep (zipItems (xs.drop i) (ys.drop i)) m news := by
  intro n
  induction n with
  | zero =>
    intro i m hn
    rw [List.drop_eq_nil_of_le (by omega : xs.length ≤ i)]
    exact ItemsRest.zero fun h tk F N => done h tk m F N
  | succ n ih =>
    intro i m hn
    rcases Nat.lt_or_ge i ys.length with hy | hy
    · have hx : i < xs.length := by omega
      rw [List.drop_eq_getElem_cons hx, List.drop_eq_getElem_cons hy]
      refine ItemsRest.pair fun T t h tk hT F => allObj_of fun its hits N => ?_
      refine wpAny_mono (step i _ _ m T h tk its (List.getElem?_eq_getElem hx) (List.getElem?_eq_getElem hy) hT F N) (fun _ s₂ h₂ => wpAny_mono h₂ (fun f s₃ h₃ => ?_) fun _ _ e => e) fun _ _ e => e
      obtain ⟨rfl, h', tk', m', rfl, F', N'⟩ := h₃
      exact ⟨h', tk', m', news, rfl, F', N', fun p hp q hq => hoff p hp q.1 (by rw [← hits.map]; exact List.mem_map_of_mem hq), hk, ih (i + 1) m' (by omega)⟩
    · rw [List.drop_eq_nil_of_le hy]
      cases xs.drop i with
      | nil => exact ItemsRest.zero fun h tk F N => done h tk m F N
      | cons _ _ => exact ItemsRest.zero fun h tk F N => done h tk m F N
theorem zip_const {elts : List Expr} {k : Nat} {pos : Pos} {l1 l2 : Addr} {xs ys : List Value} {n1 n2 : Nat} {m₀ : Str → Option Value} {news : List (Addr × Obj)}
    (hh : A.handled = none) (F : Fr h₀ env.locals s.heap m₀) (N : News h₀ env.locals s.heap news) (hm1 : (l1, W.listOf xs.toArray n1) ∈ news) (hm2 : (l2, W.listOf ys.toArray n2) ∈ news)
    (step : ∀ (i : Nat) (x y : Value) (m : Str → Option Value) (T : Addr) (h : Heap) (tk : Nat) (its : List (Addr × Obj)), xs[i]? = some x → ys[i]? = some y → IsTup h T #[x, y] → Fr h₀ env.locals h m → News h₀ env.locals h (its ++ news) →
      wpAny (model prog w) A (assign (.Tuple elts k pos) env (.ref T)) (fun _ s₂ => wpAny (model prog w) A (execs body env) (ZipEnd h₀ env.locals its news { s with heap := h, toks := tk }) E s₂) E { s with heap := h, toks := tk })
    (done : ∀ h tk m, Fr h₀ env.locals h m → News h₀ env.locals h news → Q .next { s with heap := h, toks := tk }) :
    wpAny (model prog w) A (call (.type "zip") [.ref l1, .ref l2]) (fun xv s₁ => wpAny (model prog w) A (pyIter xv) (fun it s₂ => TurnsAt prog w A h₀ env (.Tuple elts k pos) body Q E it s₂) E s₁) E s := by
  refine ktu_zip (xs := xs) (ys := ys) hh F N hm1 rfl rfl hm2 rfl rfl fun I hI => ?_
  have hoff : ∀ p ∈ news, ∀ a ∈ ([(I + 4, "zip"), (I + 2, "tuple"), (I + 3, "tuple"), (I, "list_iterator"), (I + 1, "list_iterator")] : List (Addr × String)).map (·.1), p.1 ≠ a := by
    intro p hp a ha e
    have h1 : p.1 < I := hI p hp
    simp only [List.map_cons, List.map_nil, List.mem_cons, List.not_mem_nil, or_false] at ha
    rw [e] at h1
    rcases ha with rfl | rfl | rfl | rfl | rfl
    · exact absurd h1 (Nat.not_lt.mpr (Nat.le_add_right _ _))
    · exact absurd h1 (Nat.not_lt.mpr (Nat.le_add_right _ _))
    · exact absurd h1 (Nat.not_lt.mpr (Nat.le_add_right _ _))
    · exact absurd h1 (Nat.lt_irrefl _)
    · exact absurd h1 (Nat.not_lt.mpr (Nat.le_add_right _ _))
  have := itemsZip (s := s) (Q := Q) (ws := [(I + 4, "zip"), (I + 2, "tuple"), (I + 3, "tuple"), (I, "list_iterator"), (I + 1, "list_iterator")]) (keep := [(l1, W.listOf xs.toArray n1), (l2, W.listOf ys.toArray n2)]) (And.intro hm1 (And.intro hm2 trivial)) hoff step done xs.length 0 m₀ (Nat.sub_zero _)
  simpa only [List.drop_zero] using this
end
end Mine
end
section
open PySem PySem.W PyProof.Rows PySem.Calls PySem.Spec
set_option maxRecDepth 100000
namespace Mine
theorem shade_b (p : List Nat) : (wsOf (shadeOf p)).b ≤ longOf p := by have h := long_ws p; omega
theorem shade_cnt (p : List Nat) : (wsOf (shadeOf p)).cnt.length ≤ longOf p + 1 := by have h := long_ws p; omega
theorem same_nil (ds : List PyData) : PySem.Spec.same (.list ds) (.list []) = decide (ds = []) := by
  cases ds <;> simp [PySem.Spec.same, PySem.Spec.sameAll]
open PySem.SeqAt in
theorem noMix_nil (ds : List PyData) : noMix (.list ds) (.list []) = true := by
  cases ds <;> simp [noMix, noMixAll]
section
variable {prog : Program} {w : World} {A : Around} {s : Shared} {Q E : Value → Shared → Prop}
/-- unlike == [] -/
theorem eq_wit_nil {a b : Addr} {f f' : Nat → Int} {n e : Nat} (ra : Reads s.heap (.ref a) (.list (witTo f f' n)) [a]) (hb : s.heap.get? b = some (W.listOf (#[] : Array Value) e)) (hu : A.units + 64 < cLine) (h : Q (.bool (decide (witTo f f' n = []))) s) :
    wpAny (model prog w) A (compareOp .Eq (.ref a) (.ref b)) Q E s := by
  refine eq_dataH_same ra (Reads.list (as := []) hb rfl rfl .nil) (shaped_wit f f' n) (by decide +kernel) hu (noMix_nil _) ?_
  rw [same_nil]; exact h
/-- the witness told and the witness found -/
theorem ne_wit {a b : Addr} {p q : List Nat} (ra : Reads s.heap (.ref a) (.list (witTo (indentOf (wsOf (shadeOf p))) (indentOf (wsOf (shadeOf q))) (max (longW (wsOf (shadeOf p))) (longW (wsOf (shadeOf q))) + 1))) [a])
    (rb : Reads s.heap (.ref b) (.list (witTo (fun z => (colOf z p : Int)) (fun z => (colOf z q : Int)) (max (longOf p) (longOf q) + 1))) [b]) (hu : A.units + 64 < cLine) (h : Q (.bool false) s) : wpAny (model prog w) A (compareOp .NotEq (.ref a) (.ref b)) Q E s := by
  rw [wit_shade] at ra
  refine ne_dataH_same ra rb (shaped_wit _ _ _) (shaped_wit _ _ _) hu (noMix_wit _ _ _) ?_
  rw [PySem.Spec.same_self]; exact h
/-- two lists of the same ints -/
theorem ne_ints {a b : Addr} {us vs : List Value} {ns : List Int} {e e' : Nat} (ha : s.heap.get? a = some (W.listOf us.toArray e)) (hi : IntsAre us ns) (hb : s.heap.get? b = some (W.listOf vs.toArray e')) (hi' : IntsAre vs ns) (hu : A.units + 64 < cLine) (h : Q (.bool false) s) :
    wpAny (model prog w) A (compareOp .NotEq (.ref a) (.ref b)) Q E s := by
  refine ne_dataH_same (reads_of_ints ⟨_, ha, rfl, _, rfl⟩ hi) (reads_of_ints ⟨_, hb, rfl, _, rfl⟩ hi') (shaped_ints _) (shaped_ints _) hu (by simp [PySem.SeqAt.noMix, PySem.W.noMix_ints]) ?_
  rw [PySem.Spec.same_self]; exact h
end
end Mine
end
section
open PySem PySem.W PyProof.Rows PySem.Calls PySem.Spec
set_option maxRecDepth 100000
set_option maxHeartbeats 0
namespace Mine
section
variable {w : World} {mean : ExcName → Option Value} {mg mb : Str → Option Value} {hT : Heap} {dp un : Nat} {fr : Option (List Env)} {gd : Option (List Code)} {s : Shared} {Q E : Value → Shared → Prop} {M : Model} {h : Heap}
theorem lnLine1 : True := by
  k_with_none
  k_with "ar" => (((try dsimp only [AA, Around.deeper, Around.in1]); omega))
  k_with "om" => (with_reducible first | assumption | exact Ne.symm (by assumption) | exact Mine.up0 (by assumption) | exact Mine.up1 (by assumption) rfl | exact Mine.up2 (by assumption) rfl | exact Mine.up3 (by assumption) rfl | fail)
  trivial
noncomputable abbrev lnM (l : List Nat) (sx : Addr) (t : Tok) (m : Str → Option Value) : Str → Option Value :=
  set1 (Str.ofString "line") (.str (S l) t) (set1 (Str.ofString "starts") (.ref sx) m)
theorem fr_lnM {g h : Heap} {L : Addr} {l : List Nat} {sx : Addr} {t : Tok} {m : Str → Option Value} (_F : Fr g L h m) (h1 : m (Str.ofString "line") = some (.str (S l) t)) (h2 : m (Str.ofString "starts") = some (.ref sx)) : m = lnM l sx t m := by
  unfold lnM
  rw [set1_same h2, set1_same h1]
theorem lnLine2 : True := by
  k_with "call builtin:len" => (k_dflt (refine len_S (by simp only [List.length_append]; omega) ?_))
  k_with "lit" => (with_reducible exact rfl)
  k_with "binaryOp Add str str" => (k_dflt (with_reducible refine add_S (by walk_at "lit") (by walk_at "lit") (by with_unfolding_all (simp only [List.length_append]; omega)) ?_; intro _ _ hk9_q; dsimp only at hk9_q ⊢))
  k_with "inplaceOp Add str str" => (k_dflt (with_reducible refine iadd_SS (by walk_at "lit") (S_append _ _) (by with_unfolding_all (simp only [List.length_append]; omega)) ?_; intro _ _; (try dsimp only)))
  k_with "call builtin:list.append" => ((k_here; (with_reducible rename Fr _ _ _ _ => kF_q); (with_reducible rename News _ _ _ _ => kN_q); k_dflt (refine append_K kF_q kN_q (by k_upd) ?_ (by simp only [List.size_toArray, sizeLine_eq]; omega)); intro h'_q F'_q N'_q; clear kF_q kN_q; (try dsimp only)))
  trivial
theorem c_lawline {b : List Nat} {t : Tok} {R : Addr} {vs : List Value} {e : Nat} {cs : List Cell} (g : G w mean mg mb hT s.heap) (hd : dp + 60 < recursionLimit) (hu : un + 300 < cLine)
    (hR : s.heap.get? R = some (W.listOf vs.toArray e)) (hrow : Row (fun a o => s.heap.get? a = some o) vs cs) (hok : ∀ c ∈ cs, CellOk c) (hb : b.length ≤ 10) (hcs : cs.length ≤ 10)
    (hq : ∀ h' tk' T sx t' us e', (∀ b o, s.heap.get? b = some o → h'.get? b = some o) → s.heap.get? T = none → s.heap.get? sx = none → (@Ne Nat T sx) → h'.get? T = some (tupOf #[.str (S (b ++ restOf cs)) t', .ref sx]) → h'.get? sx = some (W.listOf us.toArray e') → IntsAre us (natI (startsOf b.length cs)) → Q (.ref T) { s with heap := h', toks := tk' }) :
    wpAny (model PR w) (AA dp un fr gd) (call (.ref 809) [.str (S b) t, .ref R]) Q E s := by
  refine wpAny_call ?_
  refine enter0 [(Str.ofString "ahead", .str (S b) t), (Str.ofString "row", .ref R)] g (by k_is) (by k_is) (by show dp < _; omega) (BindsTo.of_eq rfl) (locs rfl) rfl rfl rfl (by decide) ?_
  intro h₁ X T F N
  repeat' ((fail_if_success (with_reducible show wpAny _ _ (exec (Stmt.For _ _ _ _ _) _) _ _ _)); (first | (k_unfold; (try dsimp only)) | walk1 | (dsimp only; walk1) | fail "no step"))
  rename Fr _ _ _ _ => F9
  rename News _ _ _ _ => N9
  refine for_list (h₀ := s.heap) rfl ?_
  repeat' ((fail_if_success (with_reducible show ListSrc _ _ _ _ _ _ _ _ _ _ _)); (first | (k_unfold; (try dsimp only)) | walk1 | (dsimp only; walk1) | fail "no step"))
  rename Fr _ _ _ _ => F9
  rename News _ _ _ _ => N9
  refine ⟨R, vs, e, [], _, _, (fun i m news => ∃ (sx : Addr) (e' : Nat) (us : List Value) (t : Tok), m = lnM (b ++ restOf (cs.take i)) sx t m ∧ IntsAre us (natI (startsOf b.length (cs.take i))) ∧ news = [(sx, W.listOf us.toArray e')]), rfl, .inl ⟨rfl, hR⟩, F9, (fun p hp => N9 p (.tail _ hp)), ⟨_, _, [], _, fr_lnM F9 (by rw [List.take_zero, restOf, List.append_nil]; rfl) rfl, .nil, rfl⟩, ?_, ?_⟩
  · rintro i v m₁ news₁ I oI s₂ hv ⟨sx, e', us, t', hm, hus, rfl⟩ hoff hRI F N
    obtain ⟨c, hc, T9, t1, t2, t3, rfl, hT9⟩ := hrow.at hv
    rw [hm] at F
    clear hm F9 N9
    refine assign_Tuple_tuple rfl (isTup_of (F.keep _ _ hT9)) rfl rfl fun h₅ he => ?_
    have F5 := F.keeps fun b o q => he b o (Nat.ne_of_lt (Heap.lt_size q)) q
    have N5 := N.grown fun b o q => he b o (Nat.ne_of_lt (Heap.lt_size q)) q
    clear F N
    have hco := hok c (List.mem_of_getElem? hc)
    have hi : i < cs.length := (List.getElem?_eq_some_iff.mp hc).1
    have hul := hus.length
    rw [List.length_map, startsOf_length, List.length_take] at hul
    have hL := restOf_len fun c' hc' => hok c' (List.mem_of_mem_take (i := i) hc')
    rw [List.length_take] at hL
    have hL1 : b.length + (restOf (cs.take i)).length < 200 := by omega
    have hL2 : c.sp.length + c.gap.length < 100 := by
      have h1 := hco.len
      have h2 := hco.glen
      obtain ⟨way, e⟩ := hco.sp
      have h3 := spell_len c.word way
      rw [← e] at h3
      omega
    have hI1 := neN (hoff _ (.head _))
    have htk : cs.take (i + 1) = cs.take i ++ [c] := by rw [List.take_add_one, hc]; rfl
    repeat' (first | (k_unfold; (try dsimp only)) | walk1 | (dsimp only; walk1) | fail "no step")
    rename Fr _ _ _ _ => F9
    rename News _ _ _ _ => N9
    rw [listOf_push] at N9
    refine ⟨rfl, _, _, _, _, rfl, F9, N9, fun p hp => by rw [List.mem_singleton.mp hp]; exact hI1, sx, _, _, _, fr_lnM F9 (by rw [htk, restOf_app, show restOf [c] = c.sp ++ c.gap by simp [restOf], ← List.append_assoc b]; rfl) rfl, ?_, rfl⟩
    · rw [htk, startsOf_app, natI, List.map_append, ← List.length_append]
      exact hus.append (.cons _ _ .nil)
  · rintro h' tk m' news' F' N' ⟨sx, e', us, t', hm, hus, rfl⟩
    rw [hrow.len, List.take_length] at hm hus
    rw [hm] at F'
    clear hm F9 N9
    repeat' (first | (k_unfold; (try dsimp only)) | walk1 | (dsimp only; walk1) | fail "no step")
    rename Fr _ _ _ _ => F9
    rename News _ _ _ _ => N9
    exact hq _ _ _ sx _ _ _ F9.keep (N9 _ (.head _)).2.2 (N9 _ (.tail _ (.head _))).2.2 (fun q => by have h1 := (N9 _ (.head _)).1; have h2 := (N9 _ (.tail _ (.head _))).1; dsimp only at h1 h2; rw [show _ = sx from q, h2] at h1; exact absurd (Value.type.inj (congrArg Obj.cls (Option.some.inj h1))) (by decide)) (N9 _ (.head _)).1 (N9 _ (.tail _ (.head _))).1 hus
end
end Mine
end
theorem Mine.lnEndLine : True := by
  k_with_none
  trivial
section
open PySem PySem.W PyProof.Rows
set_option maxRecDepth 100000
namespace Mine
/-- the two looks at the module's names that the walk's head takes, by the library's fast twins alone -/
theorem names39 : namesOk hd.view_39 (looseW hd.view_39 lo39) (namesW hd.view_39 lo39) = true := by
  rw [PySem.W.Fast.te17448422675489707002, PySem.W.Fast.te821141287760084731]
  kernel_rfl
theorem imps39 : importsNone hd.view_39 = true := by
  rw [PySem.W.Fast.te2458874890965802552]
  kernel_rfl
end Mine
end
section
open PySem PySem.W PyProof.Rows PySem.Calls PySem.Spec
set_option maxRecDepth 100000
set_option maxHeartbeats 0
namespace Mine
theorem lnLaw1 : True := by
  k_with_none
  k_with "ar" => (decide +kernel)
  k_with "om" => (with_reducible first | assumption | exact Ne.symm (by assumption) | exact Mine.up0 (by assumption) | exact Mine.up1 (by assumption) rfl | exact Mine.up2 (by assumption) rfl | exact Mine.up3 (by assumption) rfl | fail)
  trivial
theorem lnLaw2 : True := by
  k_with "memb" => (first | with_reducible exact List.mem_cons_self | with_reducible assumption | (with_reducible refine List.mem_cons_of_mem _ ?_; walk_at "memb"))
  k_with "sub" => (first | (with_reducible refine sub_cons ?_ ?_; (· walk_at "memb"); walk_at "sub") | (intro p hp; walk_at "memb"))
  trivial
local macro_rules | `(tactic| k_qdec) => `(tactic| first | with_reducible exact names39 | with_reducible exact imps39 | exact names39 | exact imps39)
/-- what stands ahead -/
noncomputable def LeadP (v : Value) : Prop := ∃ b t, v = .str (S b) t ∧ (∀ c ∈ b, c = 32 ∨ c = 9) ∧ b.length ≤ 2
noncomputable def leadOk (l : List Nat) : Bool := l.all (fun x => x == 32 || x == 9) && decide (l.length ≤ 2)
theorem leadL {x : Str} {t : Tok} (h : leadOk x.cps.toList = true) : LeadP (.str x t) := by
  cases x with
  | mk a =>
    obtain ⟨l⟩ := a
    simp only [leadOk, Bool.and_eq_true, decide_eq_true_eq, List.all_eq_true, Bool.or_eq_true, beq_iff_eq] at h
    exact ⟨l, t, rfl, h.1, h.2⟩
theorem lnLaw3 : True := by
  k_with "mem" => ((repeat (first | with_reducible assumption | with_reducible exact List.mem_cons_self | apply List.mem_cons_of_mem)))
  k_with "subscriptTail" => ((k_here; (with_reducible rename News _ _ _ _ => kN_q); first
      | ((with_reducible show wpAny _ _ (subscriptTail (Expr.Tuple _ _ _) _ (Value.ref _) _) _ _ _); k_dflt (refine item_any LeadP (News.isTup kN_q (List.Mem.head _)) (fmod_lo _ (by decide)) (fmod_hi _ (by decide)) (Nat.le_of_ble_eq_true rfl) (by (iterate 4 refine List.forall_mem_cons.mpr ⟨leadL (by decide +kernel), ?_⟩); exact List.forall_mem_nil _) ?_; intro v'_q hv'_q; obtain ⟨b', tb', he', hb1', hb2'⟩ := hv'_q; subst he'))
      | ((with_reducible show wpAny _ _ (subscriptTail _ _ (Value.ref _) (Value.int 2 _)) _ _ _); k_dflt (refine int_at (i := 2) (News.get kN_q (by walk_at "mem")) (by assumption) (by assumption) (by omega) ?_; intro t9'_q))))
  k_with "execs cons" => (((with_reducible refine wpAny_execs_cons ?_); try dsimp only))
  trivial
noncomputable def Stage : Prop := True
theorem pick_but (vs : List Value) : (slicePick vs.toArray none (some (-1)) none).toList = vs.take (vs.length - 1) := by
  have e : sliceBounds none (some (-1)) none vs.toArray.size = (((0 : Nat) : Int), ((vs.toArray.size - 1 : Nat) : Int), 1) := by
    simp only [sliceBounds, Option.getD_none, show (1 : Int) > 0 by decide, if_true, if_pos (show (-1 : Int) < 0 by decide)]
    congr 1
    congr 1
    omega
  rw [kmk_pick_nat _ e]
  simp
theorem pick_end (vs : List Value) : (slicePick vs.toArray (some (-1)) none none).toList = vs.drop (vs.length - 1) := by
  have e : sliceBounds (some (-1)) none none vs.toArray.size = (((vs.toArray.size - 1 : Nat) : Int), ((vs.toArray.size : Nat) : Int), 1) := by
    simp only [sliceBounds, Option.getD_none, show (1 : Int) > 0 by decide, if_true, if_pos (show (-1 : Int) < 0 by decide)]
    congr 1
    omega
  rw [kmk_pick_nat _ e]
  simp only [List.size_toArray]
  rw [List.take_of_length_le (by rw [List.length_drop]; exact Nat.le_refl _)]
theorem pick_rev (vs : List Value) : (slicePick vs.toArray none none (some (-1))).toList = vs.reverse := by rw [krv_pick]
theorem lnLaw4 : True := by
  k_with "subscriptTail Name Slice ref ref" => (walk_at "slices")
  k_with "subscriptTail Subscript Slice ref ref" => (walk_at "slices")
  k_with "slices" => ((k_here; (with_reducible rename Stage => kS_q); (with_reducible rename Fr _ _ _ _ => kF_q); (with_reducible rename News _ _ _ _ => kN_q); first
      | ((with_reducible show wpAny _ _ (subscriptTail _ (Expr.Slice none (some _) none _) (Value.ref _) (Value.ref _)) _ _ _); k_dflt (refine kmk_slice_lit kF_q kN_q ⟨_, News.get kN_q (by walk_at "mem"), rfl, _, rfl⟩ IsPart.none (IsPart.int _ _) (pick_but _) ?_ (by with_unfolding_all rfl) (by intro _; with_unfolding_all rfl) (by rw [sizeLine_eq, List.size_toArray]; omega)); intro D'_q h'_q F'_q N'_q l1_q; clear kF_q kN_q; (try dsimp only))
      | ((with_reducible show wpAny _ _ (subscriptTail _ (Expr.Slice none none (some _) _) (Value.ref _) (Value.ref _)) _ _ _); k_dflt (refine kmk_slice3_lit kF_q kN_q ⟨_, News.get kN_q (by walk_at "mem"), rfl, _, rfl⟩ IsPart.none IsPart.none (IsPart.int _ _) (by decide) (pick_rev _) ?_ (by with_unfolding_all rfl) (by intro _; with_unfolding_all rfl) (by rw [sizeLine_eq, List.size_toArray, List.length_take]; omega)); intro D'_q h'_q F'_q N'_q l1_q; clear kF_q kN_q; (try dsimp only))
      | ((with_reducible show wpAny _ _ (subscriptTail _ (Expr.Slice (some _) none none _) (Value.ref _) (Value.ref _)) _ _ _); k_dflt (refine kmk_slice_lit kF_q kN_q ⟨_, News.get kN_q (by walk_at "mem"), rfl, _, rfl⟩ (IsPart.int _ _) IsPart.none (pick_end _) ?_ (by with_unfolding_all rfl) (by intro _; with_unfolding_all rfl) (by rw [sizeLine_eq, List.size_toArray]; omega)); intro D'_q h'_q F'_q N'_q l1_q; clear kF_q kN_q; (try dsimp only))))
  k_with "binaryOp Add ref ref" => ((k_here; (with_reducible rename Stage => kS_q); (with_reducible rename Fr _ _ _ _ => kF_q); (with_reducible rename News _ _ _ _ => kN_q); k_dflt (refine add_lists kF_q kN_q ⟨_, News.get kN_q (by walk_at "mem"), rfl, _, rfl⟩ ⟨_, News.get kN_q (by walk_at "mem"), rfl, _, rfl⟩ ?_ (by simp only [sizeLine_eq, List.length_reverse, List.length_take, List.length_drop]; omega)); intro h'_q F'_q N'_q; clear kF_q kN_q; (try dsimp only)))
  trivial
theorem rotB {g h : Heap} {L : Addr} {a d x y : Addr × Obj} {tl : List (Addr × Obj)} (N : News g L h (a :: d :: x :: y :: tl)) : News g L h (x :: y :: d :: tl) := news_sub N (by walk_at "sub")
section
variable {prog : Program} {A : Around} {h₀ : Heap} {L : Addr} {m : Str → Option Value} {env : Env}
theorem comp_invP {w : World} {s : Shared} {elt : Expr} {x x₂ : Str} {scope : Scope} {cl : List (Str × Addr)} {Sg : List (Addr × Obj) → Prop} {P : Nat → Value → Prop} {Fin : List Value → List (Addr × Obj) → Prop} {n : Nat}
    (J : Nat → List Value → List (Addr × Obj) → Prop)
    (step : ∀ i ys news v, i < n → J i ys news → P i v → ∃ (t : Addr) (ot : Obj) (v₁ v₂ : Value) (nt : Nat), v = .ref t ∧ (t, ot) ∈ news ∧ ot.cls = .type "tuple" ∧ ot.data = .seq #[v₁, v₂] nt ∧
      ∀ I oI C oC D m₂ h tk (E' : Value → Shared → Prop), LCg.NsObj oC m₂ → m₂ x = some v₁ → m₂ x₂ = some v₂ → Fr h₀ L h m → News h₀ L h ((I, oI) :: (C, oC) :: (D, LCg.lst ys) :: news) → LCg.Off3 I C D news → ((@Ne Nat I C) ∧ (@Ne Nat I D) ∧ (@Ne Nat C D)) →
      wpAny (model prog w) A (eval elt (compEnvC scope cl C env)) (LCg.CompEnd h₀ L m { s with heap := h, toks := tk } I oI C oC D (LCg.lst ys) Sg (fun y news' => J (i + 1) (ys ++ [y]) news')) E' { s with heap := h, toks := tk })
    (fin : ∀ ys news, J n ys news → Fin ys news) :
    ∀ k i ys news, i + k = n → J i ys news → LCp.CompRestP prog w A h₀ L m env elt x x₂ scope cl s Sg P Fin k i ys news := by
  intro k
  induction k with
  | zero => intro i ys news hi hj; exact LCp.CompRestP.zero (fin ys news (by rw [← hi]; exact hj))
  | succ k ih =>
    intro i ys news hi hj
    refine LCp.CompRestP.succ fun v hP => ?_
    obtain ⟨t, ot, v₁, v₂, nt, e1, e2, e3, e4, st⟩ := step i ys news v (by omega) hj hP
    refine ⟨t, ot, v₁, v₂, nt, e1, e2, e3, e4, fun I oI C oC D m₂ h tk E' hC hx hx2 F N off ne => ?_⟩
    refine wpAny_mono (st I oI C oC D m₂ h tk E' hC hx hx2 F N off ne) (fun y s₂ z => ?_) fun _ _ e => e
    obtain ⟨h', tk', news', e, F', N', off', hS, r⟩ := z
    exact ⟨h', tk', news', e, F', N', off', hS, ih (i + 1) (ys ++ [y]) news' (by omega) r⟩
end
theorem rotC {g h : Heap} {L : Addr} {R T2 T1 a x1 x2 x3 x y d : Addr × Obj} {tl : List (Addr × Obj)} (N : News g L h (R :: T2 :: T1 :: a :: x1 :: x2 :: x3 :: x :: y :: d :: tl)) : News g L h (x :: y :: R :: T2 :: T1 :: a :: d :: tl) := news_sub N (by walk_at "sub")
noncomputable def RowT (b : List Nat) (P : Rel) (v : Value) (cs : List Cell) : Prop := ∃ (T R : Addr) (us : List Value) (tb : Tok) (e : Nat), v = .ref T ∧ P T (tupOf #[.str (S b) tb, .ref R]) ∧ P R (W.listOf us.toArray e) ∧ Row P us cs
theorem RowT.mono {b : List Nat} {P P' : Rel} {v : Value} {cs : List Cell} (x : RowT b P v cs) (k : ∀ a o, P a o → P' a o) : RowT b P' v cs := by
  obtain ⟨T, R, us, tb, e, q, x1, x2, x3⟩ := x
  exact ⟨T, R, us, tb, e, q, k _ _ x1, k _ _ x2, x3.mono k⟩
noncomputable def LineOf (b : List Nat) (P : Rel) (v : Value) (cs : List Cell) : Prop := ∃ (T sx : Addr) (us : List Value) (t : Tok) (e : Nat), v = .ref T ∧ P T (tupOf #[.str (S (b ++ restOf cs)) t, .ref sx]) ∧ P sx (W.listOf us.toArray e) ∧ IntsAre us (natI (startsOf b.length cs))
theorem LineOf.mono {b : List Nat} {P P' : Rel} {v : Value} {cs : List Cell} (x : LineOf b P v cs) (k : ∀ a o, P a o → P' a o) : LineOf b P' v cs := by
  obtain ⟨T, R, us, tb, e, q, x1, x2, x3⟩ := x
  exact ⟨T, R, us, tb, e, q, k _ _ x1, k _ _ x2, x3⟩
theorem news_ne {g h : Heap} {L a c : Addr} {o o' : Obj} {news : List (Addr × Obj)} (N : News g L h news) (h1 : (a, o) ∈ news) (h2 : (c, o') ∈ news) (hd : o.data ≠ o'.data) : a ≠ c := ne_obj (N _ h1).1 (N _ h2).1 fun e => hd (congrArg Obj.data e)
theorem rotE {g h : Heap} {L : Addr} {a b i c d x y : Addr × Obj} {tl : List (Addr × Obj)} (N : News g L h (a :: b :: i :: c :: d :: x :: y :: tl)) : News g L h (i :: c :: d :: x :: y :: a :: b :: tl) := news_sub N (by walk_at "sub")
theorem rotF {g h : Heap} {L : Addr} {a x y : Addr × Obj} {tl : List (Addr × Obj)} (N : News g L h (a :: x :: y :: tl)) : News g L h (x :: y :: a :: tl) := news_sub N (by walk_at "sub")
noncomputable abbrev liM (D3 R0 : Addr) (m : Str → Option Value) : Str → Option Value := set1 (Str.ofString "lines") (.ref D3) (set1 (Str.ofString "rows") (.ref R0) m)
theorem fr_liM {g h : Heap} {L D3 R0 : Addr} {m : Str → Option Value} (_F : Fr g L h m) (h1 : m (Str.ofString "lines") = some (.ref D3)) (h2 : m (Str.ofString "rows") = some (.ref R0)) : m = liM D3 R0 m := by
  unfold liM
  rw [set1_same h2, set1_same h1]
noncomputable def CellOk2 (c : Cell) : Prop := CellOk c ∧ ∀ x ∈ c.word, x < 1114112
theorem ref_at {prog : Program} {w : World} {A : Around} {s : Shared} {Q E : Value → Shared → Prop} {value slice : Expr} {l : Addr} {us : List Value} {e i : Nat} {v : Value} {u : Tok} (hl : s.heap.get? l = some (W.listOf us.toArray e)) (hx : us[i]? = some v) (hz : us.length < 100000) (h : Q v s)
    (hs : subscripted slice false (.ref l) (.int (i : Int) u) = operate [.ref l, .int (i : Int) u] (getItem (.ref l) (.int (i : Int) u)) := by with_unfolding_all rfl) (hg : ∀ r, letTemporaryGo value (.ref l) r = pure () := by intro _; with_unfolding_all rfl) :
    wpAny (model prog w) A (subscriptTail value slice (.ref l) (.int (i : Int) u)) Q E s := by
  have hlt : i < us.length := (List.getElem?_eq_some_iff.mp hx).1
  exact item_list ⟨_, hl, rfl, _, rfl⟩ (by omega) (by omega) (by simpa using hx) h hs hg
noncomputable def lstS (b : List Nat) (cs : List Cell) : Nat := (startsOf b.length cs).getLast?.getD 0
theorem lstS_get {b : List Nat} {cs : List Cell} (h : 0 < cs.length) : (startsOf b.length cs).getLast? = some (lstS b cs) := by
  unfold lstS
  cases q : (startsOf b.length cs).getLast? with
  | none =>
    rw [List.getLast?_eq_none_iff] at q
    have := startsOf_length cs b.length
    rw [q] at this; simp at this; omega
  | some x => rfl
theorem lstS_last {b : List Nat} {cs : List Cell} (h : 0 < cs.length) : (natI (startsOf b.length cs)).getLast? = some (lstS b cs : Int) := by
  rw [List.getLast?_map, lstS_get h]; rfl
theorem lstS_lt {b : List Nat} {cs : List Cell} (hok : ∀ c ∈ cs, CellOk c) (h : 0 < cs.length) : lstS b cs < (b ++ restOf cs).length := by
  rw [List.length_append]
  exact startsOf_lt hok _ _ (List.mem_of_getLast? (lstS_get h))
noncomputable def SeenL (w : World) (b : List Nat) (n : Nat) (P : Rel) (v : Value) (cs : List Cell) : Prop := ∃ (A : Addr) (us : List Value) (e : Nat), v = .ref A ∧ P A (W.listOf us.toArray e) ∧ All2 (SeenOf w n P) us ((startsOf b.length cs).map fun k => (b ++ restOf cs).take k)
theorem SeenL.mono {w : World} {b : List Nat} {n : Nat} {P P' : Rel} {v : Value} {cs : List Cell} (x : SeenL w b n P v cs) (k : ∀ a o, P a o → P' a o) : SeenL w b n P' v cs := by
  obtain ⟨A, us, e, q, x1, x2⟩ := x
  exact ⟨A, us, e, q, k _ _ x1, x2.mono fun _ _ y => y.mono k⟩
theorem news_puts {g h h' : Heap} {L : Addr} {m : Str → Option Value} {news tl : List (Addr × Obj)} (F : Fr g L h m) (N : News g L h' news) (ht : ∀ p ∈ tl, h'.get? p.1 = some p.2 ∧ h.get? p.1 = none) : News g L h' (tl ++ news) := by
  intro p hp
  rcases List.mem_append.mp hp with hp | hp
  · have q := ht p hp
    have q2 := fresh_off F q.2
    exact ⟨q.1, q2.1, q2.2⟩
  · exact N p hp
theorem upd5 {g h h' : Heap} {L I DL cS : Addr} {oI oD o o2 : Obj} {r : List (Addr × Obj)} (N : News g L h ((I, oI) :: (DL, oD) :: (cS, o) :: r)) (hs : Heap.SameBut cS h h') (h2 : h'.get? cS = some o2) (hI : I ≠ cS) (hD : DL ≠ cS) (hr : ∀ p ∈ r, p.1 ≠ cS) : News g L h' ((I, oI) :: (DL, oD) :: (cS, o2) :: r) := by
  intro q hq
  rcases List.mem_cons.mp hq with rfl | hq
  · exact ⟨hs.extBut _ _ hI (N _ (.head _)).1, (N _ (.head _)).2⟩
  rcases List.mem_cons.mp hq with rfl | hq
  · exact ⟨hs.extBut _ _ hD (N _ (.tail _ (.head _))).1, (N _ (.tail _ (.head _))).2⟩
  rcases List.mem_cons.mp hq with rfl | hq
  · exact ⟨h2, (N (cS, o) (.tail _ (.tail _ (.head _)))).2⟩
  · exact ⟨hs.extBut _ _ (hr q hq) (N _ (.tail _ (.tail _ (.tail _ hq)))).1, (N _ (.tail _ (.tail _ (.tail _ hq)))).2⟩
theorem nums_of (ns : List Int) : ∃ nn : List Nat, [2051, 10000] ++ (ns.take 2).map (fun x => x.fmod 1000000000) ++ [21] = natI nn ∧ 3 ≤ nn.length ∧ nn.length ≤ 5 ∧ ∀ x ∈ nn, x < 1000000000 := by
  refine ⟨2051 :: 10000 :: ((ns.take 2).map fun x => (x.fmod 1000000000).toNat) ++ [21], ?_, ?_, ?_, ?_⟩
  · simp only [natI, List.map_cons, List.map_append, List.map_map, List.cons_append, List.nil_append, List.map_nil]
    congr 3
    refine List.map_congr_left fun x _ => ?_
    have := fmod_lo x (n := 1000000000) (by decide)
    simp only [Function.comp]; omega
  · simp
  · simp only [List.cons_append, List.length_cons, List.length_append, List.length_map, List.length_take, List.length_nil]; omega
  · intro x hx
    simp only [List.cons_append, List.mem_cons, List.mem_append, List.mem_map, List.not_mem_nil, or_false] at hx
    rcases hx with rfl | rfl | ⟨y, _, rfl⟩ | rfl
    · decide
    · decide
    · have h1 := fmod_lo y (n := 1000000000) (by decide)
      have h2 := fmod_hi y (n := 1000000000) (by decide)
      omega
    · decide
theorem news_three {g h : Heap} {L : Addr} {a x1 x2 x3 x4 x5 c d : Addr × Obj} (N : News g L h [a, x1, x2, x3, x4, x5, c, d]) : News g L h [c, d, a] := news_sub N fun p hp => by
  simp only [List.mem_cons, List.not_mem_nil, or_false] at hp ⊢
  rcases hp with hp | hp | hp <;> simp [hp]
theorem news_front {g h : Heap} {L : Addr} {xs l : List (Addr × Obj)} (N : News g L h l) (hs : ∀ p ∈ xs, p ∈ l) : News g L h (xs ++ l) := fun p hp => (List.mem_append.mp hp).elim (fun q => N p (hs p q)) (N p)
theorem in_front {xs l ys : List (Addr × Obj)} (hx : ∀ p ∈ xs, p ∈ ys) (hs : ∀ p ∈ ys, p ∈ l) : ∀ p ∈ xs, p ∈ l := fun p hp => hs p (hx p hp)
theorem long_seen {b : List Nat} {cs : List Cell} {p : List Nat} {i lm : Nat} (hok1 : ∀ c ∈ cs, CellOk c) (h0 : 0 < cs.length) (h : ((startsOf b.length cs).map fun k => (b ++ restOf cs).take k)[i]? = some p) (hl : longOf ((b ++ restOf cs).take (lstS b cs)) ≤ lm) : longOf p ≤ lm := by
  rw [List.getElem?_map] at h
  cases q : (startsOf b.length cs)[i]? with
  | none => rw [q] at h; cases h
  | some k =>
    rw [q] at h
    have e : (b ++ restOf cs).take k = p := Option.some.inj h
    have h1 := last_max (startsOf_sorted hok1 b.length) (lstS_get h0) k (List.mem_of_getElem? q)
    rw [← e]
    exact Nat.le_trans (longOf_take h1) hl
theorem law_end {s₀ s₁ : Shared} {ns : List Int} {L : Addr} {h : Heap} {m : Str → Option Value} {tk : Nat} (hg : s₁.gens = #[]) (F : Fr s₁.heap L h m) :
    GoodW PySem.Challenge.rw_mq0425_01.row.claim (classAt s₀.heap) (ExcName.means s₀.heap) [ofPy (PyData.list (List.map PyData.int ns))] s₁ (Except.ok (Flow.ret (Value.bool true))) { heap := h, gens := s₁.gens, drawn := s₁.drawn, toks := tk, os := s₁.os } := by
  wrow_close
theorem lawT : PySem.Challenge.rw_mq0425_01.Holds := by
  refine holds_law said39 fun said => ?_
  refine holds_open (r := PySem.Challenge.rw_mq0425_01.row) (q := hd.view_39) (loose := lo39) (Xt := Xt39) (XP := XL hd.view_39 []) (Yf := hk39.obs) (Ya := hk39.val) (YP := hk39.says) (N := 11046) left39 hk39.of hk39.keeps (fun s e => xl_of s (Bool.and_eq_true_iff.mp e).1) XL.keeps (by rfl) (by rfl) (by rfl) (fun s e => recFacts_of (Bool.and_eq_true_iff.mp e).2) (by rfl) (by assumption) (by decide +kernel) ⟨rfl, rfl, rfl, rfl, rfl, by decide +kernel⟩ ?hw ?hc
  all_goals clear said
  case hw => w_witness2
  k_go0
  all_goals try k_fold
  rename_i w s₀ s₁ mg mb G1 Y1 fa o1 pm1 doc1 ho1 hg1 KX X1 V1 GL1 T B1 TE1 TW1 x11 x10 M1 x9 x8 hcd1 ns hs1 hlay1 hL1 hr1 hl1 x6 x5 sl vs x2 hLs ra1 w1 r0 hI hr2 hc1 hc2 hB hD1 h₁ tk₁ F oS oL dS0 dL0 N0 X0
  have dS : oS.data = Data.cell none := dS0
  have dL : oL.data = Data.cell none := dL0
  clear dS0 dL0 X0 hD1 hcd1 hs1 hlay1 hL1 hr1 ra1 w1 r0 hr2 X1 V1 GL1 B1 TE1 TW1 M1 G1
  have gg : G w (ExcName.means s₀.heap) mg mb s₁.heap s₁.heap := ⟨KX, T, fun _ _ e => e⟩
  replace F : Fr s₁.heap s₁.heap.objs.size h₁ (set1 (Str.ofString "script") (.ref sl) (fun _ => none)) := F
  generalize hL0 : s₁.heap.objs.size = L at F N0 ⊢
  generalize hg0 : s₁.heap = g₀ at F N0 KX T hLs gg ⊢
  clear Y1 hc2 hl1 ho1
  repeat' ((fail_if_success (with_reducible show wpAny _ _ (eval (Expr.ListComp _ _ _ _) _) _ _ _)); (first | (k_unfold; (try dsimp only)) | walk1 | (dsimp only; walk1) | fail "no step"))
  rename Fr _ _ _ _ => F9
  rename News _ _ _ _ => N9
  refine LCg.ListComp_U F9 rfl (by decide) rfl (by decide) rfl ?_
  repeat' ((fail_if_success (with_reducible show LCg.CompSrc _ _ _ _ _ _ _ _ _ _ _ _ _ _)); (first | (k_unfold; (try dsimp only)) | walk1 | (dsimp only; walk1) | fail "no step"))
  rename Fr _ _ _ _ => F9
  rename News _ _ _ _ => N9
  rename IntsAre _ (List.take 2 ns) => hT2
  have hlen2 : (ns.take 2).length ≤ 2 := by rw [List.length_take]; omega
  refine LCg.CompSrc.ledger rfl F9 N9 (.head _) (by rw [sizeLine_eq]; simp only [List.size_toArray, hT2.length]; omega) fun ga => ?_
  refine comp_inv (fun i ys news => IntsAre ys (((ns.take 2).take i).map fun x => x.fmod 1000000000) ∧ news = _) ?_ ?_ _ 0 [] _ (Nat.zero_add _) ⟨.nil, rfl⟩
  · rintro i ys news v I oI C oC D m₂ h tk E' hi ⟨hy, rfl⟩ hv hC hx F₂ N₂ off ne
    obtain ⟨x, tx, rfl, hx2⟩ := hT2.at i v (by simpa using hv)
    dsimp only
    clear F9 N9
    repeat' (first | (k_unfold; (try dsimp only)) | walk1 | (dsimp only; walk1) | fail "no step")
    rw [List.take_add_one, hx2, List.map_append]
    exact ⟨_, _, _, rfl, F₂, N₂, off, .inr ⟨_, .head _, rfl, _, rfl⟩, hy.append (.cons _ _ .nil), rfl⟩
  · rintro ys news ⟨hy, rfl⟩ D h tk F₂ N₂ off
    dsimp only
    clear F9 N9
    rw [List.size_toArray, hT2.length, List.take_length] at hy
    repeat' ((fail_if_success (with_reducible show wpAny _ _ (exec (Stmt.Assign _ (Expr.ListComp _ _ _ _) _) _) _ _ _)); (first | (k_unfold; (try dsimp only)) | walk1 | (dsimp only; walk1) | fail "no step"))
    rename Fr _ _ _ _ => F9
    rename News _ _ _ _ => N9
    rename IntsAre _ (_ ++ [21]) => hN1
    rename _ ∧ _ => l9
    refine opq fun PP hPP => ?_
    obtain ⟨nn, hnn, hn3, hn5, hnb⟩ := nums_of ns
    refine hPP ?_
    clear hPP PP
    rw [hnn] at hN1
    have N8 := news_three N9
    clear N9 hnn
    rename List Value => wn
    have key : ∃ Dn : Addr, Fr g₀ L _ (set1 (Str.ofString "numbers") (.ref Dn) (set1 (Str.ofString "script") (.ref sl) fun _ => none)) ∧ News g₀ L _ [(L + 1 + 1, oS), (L + 1, oL), (Dn, W.listOf wn.toArray 0)] ∧ Dn ≠ L + 1 + 1 ∧ Dn ≠ L + 1 := ⟨_, F9, N8, Ne.symm (Nat.ne_of_lt l9.2.2.2.2.2.1), Ne.symm (Nat.ne_of_lt l9.2.2.2.2.2.2.1)⟩
    clear F9 N8 l9
    refine opq fun PP hPP => ?_
    obtain ⟨Dn, F9, N8, hDS, hDL⟩ := key
    refine hPP ?_
    clear hPP PP
    have hPn : ∀ p ∈ [(Dn, W.listOf wn.toArray 0)], p.1 ≠ L + 1 + 1 ∧ p.1 ≠ L + 1 := by
      intro p hp
      rw [List.mem_singleton.mp hp]
      exact ⟨hDS, hDL⟩
    refine LCg.Assign_ListComp_U F9 rfl (by with_unfolding_all rfl) (by with_unfolding_all rfl) (by decide) rfl (by decide) rfl rfl rfl ?_
    repeat' ((fail_if_success (with_reducible show LCg.CompSrc _ _ _ _ _ _ _ _ _ _ _ _ _ _)); (first | (k_unfold; (try dsimp only)) | walk1 | (dsimp only; walk1) | fail "no step"))
    refine LCg.CompSrc.ledger (its := wn.toArray) (k := 0) rfl F9 N8 (.tail _ (.tail _ (.head _))) (by rw [sizeLine_eq]; simp only [List.size_toArray, hN1.length, List.length_map]; omega) fun ga => ?_
    refine comp_inv (fun i ys news => ∃ tl cs, (Dn, W.listOf wn.toArray 0) ∈ tl ∧ (∀ p ∈ tl, p.1 ≠ L + 1 + 1 ∧ p.1 ≠ L + 1) ∧ Row (inL tl) ys cs ∧ (∀ c ∈ cs, CellOk2 c) ∧ cs.length = i ∧ news = (L + 1 + 1, oS) :: (L + 1, oL) :: tl) ?_ ?_ _ 0 [] _ (Nat.zero_add _) ⟨[(Dn, W.listOf wn.toArray 0)], [], List.mem_singleton_self _, hPn, .nil, (fun c hc => nomatch hc), rfl, rfl⟩
    · intro i ys news v I oI C oC D2 m₂ h2 tk2 E' hi hJ0 hv hC hx F₂ N₂ off ne
      refine opq fun PP hPP => ?_
      obtain ⟨tl, cs, hDn, hP, hrow, hok, hcl, rfl⟩ := hJ0
      obtain ⟨x, tx, rfl, hx2⟩ := hN1.at i v (by simpa using hv)
      refine hPP ?_
      clear hPP PP
      obtain ⟨n9, hn9, rfl⟩ : ∃ n9 : Nat, nn[i]? = some n9 ∧ (n9 : Int) = x := by
        rw [List.getElem?_map] at hx2
        cases q : nn[i]? with
        | none => rw [q] at hx2; cases hx2
        | some y => rw [q] at hx2; exact ⟨y, rfl, Option.some.inj hx2⟩
      dsimp only
      clear F9 N8
      repeat' ((fail_if_success (with_reducible show wpAny _ _ (call (.ref 802) _ _) _ _ _)); (first | (k_unfold; (try dsimp only)) | walk1 | (dsimp only; walk1) | fail "no step"))
      refine c_cell (hnb _ (List.mem_of_getElem? hn9)) (gg.fr F₂) (by walk_at "ar") (by walk_at "ar") ?_
      intro h' tk' T9 word way gap t1 t2 t3 hk' fT hT hw h10 hwx hg1 hg2 hg3
      have N₃ := News.put F₂ (News.grown N₂ hk') fT hT
      refine ⟨h', tk', (L + 1 + 1, oS) :: (L + 1, oL) :: (T9, tupOf #[.str (S word) t1, .str (S (spell word way)) t2, .str (S gap) t3]) :: tl, rfl, F₂.keeps hk', news_sub N₃ (fun p hp => ?_), ⟨off.1, off.2.1, ⟨fresh_ne fT (N₂ _ (.head _)).1, fresh_ne fT (N₂ _ (.tail _ (.head _))).1, fresh_ne fT (N₂ _ (.tail _ (.tail _ (.head _)))).1⟩, off.2.2⟩, .inr ⟨_, .tail _ (.tail _ (.tail _ hDn)), rfl, _, rfl⟩, _ :: tl, cs ++ [⟨word, spell word way, gap⟩], .tail _ hDn, ?_, ?_, ?_, by rw [List.length_append, hcl]; rfl, rfl⟩
      · revert p
        walk_at "sub"
      · intro p hp
        rcases List.mem_cons.mp hp with rfl | hp
        · exact ⟨fresh_ne fT (N₂ _ (.tail _ (.tail _ (.tail _ (.head _))))).1, fresh_ne fT (N₂ _ (.tail _ (.tail _ (.tail _ (.tail _ (.head _)))))).1⟩
        · exact hP p hp
      · exact (Row.mono hrow fun _ _ q => .tail _ q).snoc ⟨T9, t1, t2, t3, rfl, .head _⟩
      · intro c hc
        rcases List.mem_append.mp hc with hc | hc
        · exact hok c hc
        · rw [List.mem_singleton.mp hc]
          exact ⟨⟨hw, h10, ⟨way, rfl⟩, hg1, hg2, hg3⟩, hwx⟩
    · intro ys2 news hJ0 D2 h2 tk2 F₂ N₂ off2
      refine opq fun PP hPP => ?_
      obtain ⟨tl, cs, hDn, hP, hrow, hok, hcl, rfl⟩ := hJ0
      refine hPP ?_
      clear hPP PP
      dsimp only
      clear F9 N8
      rw [List.size_toArray, hN1.length, List.length_map] at hcl
      obtain ⟨p2, hp2⟩ : ∃ p, nn[2]? = some p := ⟨_, List.getElem?_eq_getElem (by omega)⟩
      repeat' ((fail_if_success (with_reducible show wpAny _ _ (exec (Stmt.Assign _ (Expr.BinOp _ _ _ _) _) _) _ _ _)); (first | (k_unfold; (try dsimp only)) | walk1 | (dsimp only; walk1) | fail "no step"))
      rename Fr _ _ _ _ => F9
      rename News _ _ _ _ => N9
      have hyl : ys2.length = nn.length := by rw [← hcl]; exact hrow.len
      have N8 := rotB N9
      have st1 : Stage := trivial
      have hP1 : ∀ p ∈ (D2, LCg.lst ys2) :: tl, p.1 ≠ L + 1 + 1 ∧ p.1 ≠ L + 1 := by
        intro p hp
        rcases List.mem_cons.mp hp with rfl | hp
        · exact ⟨Ne.symm off2.1, Ne.symm off2.2.1⟩
        · exact hP p hp
      clear N9
      repeat' ((fail_if_success (with_reducible show wpAny _ _ (subscriptTail _ (Expr.Slice none none (some _) _) _ _) _ _ _)); (first | (k_unfold; (try dsimp only)) | walk1 | (dsimp only; walk1) | fail "no step"))
      rename Fr _ _ _ _ => F7
      rename News _ _ _ _ => N7
      refine kba_turn (value' := Expr.Name (Str.ofString "_") ⟨0, 0, 0, 0⟩) (fun _ => rfl) ?_
      refine kmk_slice3_lit F7 N7 ⟨_, (N7 _ (.head _)).1, rfl, _, rfl⟩ IsPart.none IsPart.none (IsPart.int _ _) (by decide) (pick_rev _) ?_ (by with_unfolding_all rfl) (by intro _; with_unfolding_all rfl) (by rw [sizeLine_eq, List.size_toArray, List.length_take]; omega)
      intro D7 h7 F' N' l7
      clear F7 N7
      try dsimp only
      repeat' ((fail_if_success (with_reducible show wpAny _ _ (exec (Stmt.Assign _ (Expr.ListComp _ _ _ _) _) _) _ _ _)); (first | (k_unfold; (try dsimp only)) | walk1 | (dsimp only; walk1) | fail "no step"))
      rename Fr _ _ _ _ => F9
      rename News _ _ _ _ => N9
      have N7 := rotC N9
      clear N9
      rename Heap => H7
      have key2 : ∃ (R0 : Addr) (b : List Nat) (RR : List Value) (CC : List (List Cell)) (e0 : Nat) (mm : Str → Option Value) (tl2 : List (Addr × Obj)), Fr g₀ L H7 (set1 (Str.ofString "rows") (.ref R0) mm) ∧ News g₀ L H7 ((L + 1 + 1, oS) :: (L + 1, oL) :: tl2) ∧ (∀ p ∈ tl2, p.1 ≠ L + 1 + 1 ∧ p.1 ≠ L + 1) ∧ (R0, W.listOf RR.toArray e0) ∈ tl2 ∧
          All2 (RowT b (inL tl2)) RR CC ∧ CC.length = 2 ∧ (∀ cs ∈ CC, (∀ c ∈ cs, CellOk2 c) ∧ 3 ≤ cs.length ∧ cs.length ≤ 5) ∧ (∀ c ∈ b, c = 32 ∨ c = 9) ∧ b.length ≤ 2 := by
        refine ⟨_, _, [_, _], [cs, (cs.take (ys2.length - 1)).reverse ++ cs.drop (ys2.length - 1)], 0, _, _, F9, N7, ?_, .head _, .cons ⟨_, D2, ys2, _, ys2.length, rfl, .tail _ (.tail _ (.head _)), .tail _ (.tail _ (.tail _ (.tail _ (.head _)))), hrow.mono fun _ _ q => .tail _ (.tail _ (.tail _ (.tail _ (.tail _ q))))⟩ (.cons ⟨_, _, (ys2.take (ys2.length - 1)).reverse ++ ys2.drop (ys2.length - 1), _, 0, rfl, .tail _ (.head _), .tail _ (.tail _ (.tail _ (.head _))), ?_⟩ .nil), rfl, ?_, by assumption, by assumption⟩
        · intro p hp
          have hp0 := hp
          rcases List.mem_cons.mp hp with rfl | hp
          · exact ⟨news_ne N7 (.tail _ (.tail _ hp0)) (.head _) (by rw [dS]; intro e; cases e), news_ne N7 (.tail _ (.tail _ hp0)) (.tail _ (.head _)) (by rw [dL]; intro e; cases e)⟩
          rcases List.mem_cons.mp hp with rfl | hp
          · exact ⟨news_ne N7 (.tail _ (.tail _ hp0)) (.head _) (by rw [dS]; intro e; cases e), news_ne N7 (.tail _ (.tail _ hp0)) (.tail _ (.head _)) (by rw [dL]; intro e; cases e)⟩
          rcases List.mem_cons.mp hp with rfl | hp
          · exact ⟨news_ne N7 (.tail _ (.tail _ hp0)) (.head _) (by rw [dS]; intro e; cases e), news_ne N7 (.tail _ (.tail _ hp0)) (.tail _ (.head _)) (by rw [dL]; intro e; cases e)⟩
          rcases List.mem_cons.mp hp with rfl | hp
          · exact ⟨news_ne N7 (.tail _ (.tail _ hp0)) (.head _) (by rw [dS]; intro e; cases e), news_ne N7 (.tail _ (.tail _ hp0)) (.tail _ (.head _)) (by rw [dL]; intro e; cases e)⟩
          · exact hP1 p hp
        · exact (((All2.take hrow _).rev).app (All2.drop hrow _)).mono fun _ _ q => q.mono fun _ _ q => .tail _ (.tail _ (.tail _ (.tail _ (.tail _ q))))
        · intro cz hcz
          rcases List.mem_cons.mp hcz with rfl | hcz
          · exact ⟨hok, by omega, by omega⟩
          · rw [List.mem_singleton.mp hcz]
            refine ⟨fun c hc => ?_, ?_, ?_⟩
            · rcases List.mem_append.mp hc with hc | hc
              · exact hok c (List.mem_of_mem_take (List.mem_reverse.mp hc))
              · exact hok c (List.mem_of_mem_drop hc)
            · simp only [List.length_append, List.length_reverse, List.length_take, List.length_drop]; omega
            · simp only [List.length_append, List.length_reverse, List.length_take, List.length_drop]; omega
      rename Stage => kS
      clear F9 N7 kS hP1 hyl off2 hcl hok hrow hP hDn
      refine opq fun PP hPP => ?_
      obtain ⟨R0, b, RR, CC, e0, mm, tl2, F9, N7, hP2, hR0, hRR, hC2, hCk, hbw, hbl⟩ := key2
      refine hPP ?_
      clear hPP PP
      have hR2 : RR.length = 2 := by rw [hRR.len]; exact hC2
      refine LCp.Assign_ListComp_P F9 rfl (by with_unfolding_all rfl) (by with_unfolding_all rfl) (by decide) rfl (by decide) rfl rfl (by decide) rfl rfl ?_
      repeat' ((fail_if_success (with_reducible show LCp.SrcLP _ _ _ _ _ _ _ _ _ _ _ _ _ _ _)); (first | (k_unfold; (try dsimp only)) | walk1 | (dsimp only; walk1) | fail "no step"))
      refine LCp.SrcLP.ledger rfl F9 N7 (.tail _ (.tail _ hR0)) (by rw [sizeLine_eq, List.size_toArray]; omega) fun ga => ?_
      refine comp_invP (fun i ys news => ∃ tl3, (∀ q ∈ tl2, q ∈ tl3) ∧ (∀ p ∈ tl3, p.1 ≠ L + 1 + 1 ∧ p.1 ≠ L + 1) ∧ All2 (LineOf b (inL tl3)) ys (CC.take i) ∧ news = (L + 1 + 1, oS) :: (L + 1, oL) :: tl3) ?_ ?_ _ 0 [] _ (Nat.zero_add _) ⟨tl2, fun _ q => q, hP2, .nil, rfl⟩
      · intro i ys news v hi hJ0 hv
        refine opq fun PP hPP => ?_
        obtain ⟨tl3, hsub, hP3, hln, rfl⟩ := hJ0
        obtain ⟨cs, hcs, T, R, us, tb, e, rfl, hT, hR, hrow⟩ := hRR.at (show RR[i]? = some v by simpa using hv)
        obtain ⟨hok, hc3, hc5⟩ := hCk cs (List.mem_of_getElem? hcs)
        refine hPP ?_
        clear hPP PP
        refine ⟨T, _, .str (S b) tb, .ref R, _, rfl, .tail _ (.tail _ (hsub _ hT)), rfl, rfl, ?_⟩
        intro I oI C oC D m₂ h tk E' hC hx hx2 F₂ N₂ off ne
        dsimp only
        clear F9 N7
        repeat' ((fail_if_success (with_reducible show wpAny _ _ (call (.ref 809) _ _) _ _ _)); (first | (k_unfold; (try dsimp only)) | walk1 | (dsimp only; walk1) | fail "no step"))
        refine c_lawline (gg.fr F₂) (by walk_at "ar") (by walk_at "ar") (N₂ _ (.tail _ (.tail _ (.tail _ (.tail _ (.tail _ (hsub _ hR))))))).1 (hrow.mono fun a o q => (N₂ _ (.tail _ (.tail _ (.tail _ (.tail _ (.tail _ (hsub _ q))))))).1) (fun c hc => (hok c hc).1) (by omega) (by omega) ?_
        intro h' tk' T9 sx t' us' e' hk' fT fS nTS hT9 hS9 hI9
        have N₃ := News.put F₂ (News.put F₂ (News.grown N₂ hk') fS hS9) fT hT9
        refine ⟨h', tk', (L + 1 + 1, oS) :: (L + 1, oL) :: (T9, tupOf #[.str (S (b ++ restOf cs)) t', .ref sx]) :: (sx, W.listOf us'.toArray e') :: tl3, rfl, F₂.keeps hk', rotE N₃, ⟨off.1, off.2.1, ⟨fresh_ne fT (N₂ _ (.head _)).1, fresh_ne fT (N₂ _ (.tail _ (.head _))).1, fresh_ne fT (N₂ _ (.tail _ (.tail _ (.head _)))).1⟩, ⟨fresh_ne fS (N₂ _ (.head _)).1, fresh_ne fS (N₂ _ (.tail _ (.head _))).1, fresh_ne fS (N₂ _ (.tail _ (.tail _ (.head _)))).1⟩, off.2.2⟩, .inr ⟨_, .tail _ (.tail _ (.tail _ (.tail _ (hsub _ hR0)))), rfl, _, rfl⟩, _ :: _ :: tl3, fun q hq => .tail _ (.tail _ (hsub q hq)), ?_, ?_, rfl⟩
        · intro p hp
          rcases List.mem_cons.mp hp with rfl | hp
          · exact ⟨fresh_ne fT (N₂ _ (.tail _ (.tail _ (.tail _ (.head _))))).1, fresh_ne fT (N₂ _ (.tail _ (.tail _ (.tail _ (.tail _ (.head _)))))).1⟩
          rcases List.mem_cons.mp hp with rfl | hp
          · exact ⟨fresh_ne fS (N₂ _ (.tail _ (.tail _ (.tail _ (.head _))))).1, fresh_ne fS (N₂ _ (.tail _ (.tail _ (.tail _ (.tail _ (.head _)))))).1⟩
          · exact hP3 p hp
        · rw [List.take_add_one, hcs]
          exact (hln.mono fun _ _ x => x.mono fun _ _ q => .tail _ (.tail _ q)).snoc ⟨T9, sx, us', t', e', rfl, .head _, .tail _ (.head _), hI9⟩
      · intro ys3 news hJ0 D3 h3 tk3 F₂ N₂ off3
        refine opq fun PP hPP => ?_
        obtain ⟨tl3, hsub, hP3, hln, rfl⟩ := hJ0
        refine hPP ?_
        clear hPP PP
        dsimp only
        clear F9 N7
        rw [List.size_toArray, hR2, ← hC2, List.take_length] at hln
        have N7 := rotF N₂
        have hP4 : ∀ p ∈ (D3, LCg.lst ys3) :: tl3, p.1 ≠ L + 1 + 1 ∧ p.1 ≠ L + 1 := by
          intro p hp
          rcases List.mem_cons.mp hp with rfl | hp
          · exact ⟨Ne.symm off3.1, Ne.symm off3.2.1⟩
          · exact hP3 p hp
        clear N₂ off3
        repeat' ((fail_if_success (with_reducible show wpAny _ _ (exec (Stmt.For _ _ _ _ _) _) _ _ _)); (first | (k_unfold; (try dsimp only)) | walk1 | (dsimp only; walk1) | fail "no step"))
        refine for_one (h₀ := g₀) rfl (by rfl) (by rfl) ?_ (hE := by subst hL0; with_unfolding_all passes_own)
        repeat' ((fail_if_success (with_reducible show OneSrc _ _ _ _ _ _ _ _ _ _ _)); (first | (k_unfold; (try dsimp only)) | walk1 | (dsimp only; walk1) | fail "no step"))
        rename IsRange _ _ _ _ _ _ _ _ => R9
        rename Fr _ _ _ _ => F9
        rename News _ _ _ _ => N9
        refine ⟨_, _, _, _, (fun i m news => m = liM D3 R0 m ∧ news = (L + 1 + 1, oS) :: (L + 1, oL) :: (D3, LCg.lst ys3) :: tl3), oneIt_range R9 (by decide) (by decide) (by decide) (by decide), F9, N9, ⟨fr_liM F9 rfl rfl, rfl⟩, ?_, ?_⟩
        · rintro i v m₁ news₁ I oI h tk hi ⟨tv, rfl⟩ ⟨hm, rfl⟩ hoff F N
          rw [hm, show (0 : Int) + (i : Int) * 1 = (i : Int) by omega] at F
          clear hm F9 N9
          have hi2 : i < 2 := by have : (2 - 0 : Int).toNat = 2 := rfl; omega
          refine opq fun PP hPP => ?_
          obtain ⟨vl, hvl⟩ : ∃ v, ys3[i]? = some v := ⟨_, List.getElem?_eq_getElem (by rw [hln.len, hC2]; exact hi2)⟩
          obtain ⟨cs, hcs, T, sx, us, tl9, e, rfl, hT, hS, hI9⟩ := hln.at hvl
          obtain ⟨vr, hvr, RT, RL, ur, tb, er, rfl, hRT, hRL, hrow⟩ := hRR.at' hcs
          obtain ⟨hok, hc3, hc5⟩ := hCk cs (List.mem_of_getElem? hcs)
          refine hPP ?_
          clear hPP PP
          repeat' ((fail_if_success (with_reducible show wpAny _ _ (subscriptTail _ _ _ _) _ _ _)); (first | (k_unfold; (try dsimp only)) | walk1 | (dsimp only; walk1) | fail "no step"))
          refine ref_at (N _ (.tail _ (.tail _ (.tail _ (.head _))))).1 hvl (by rw [hln.len]; omega) ?_
          refine assign_Tuple_tuple rfl (isTup_of (N _ (.tail _ (.tail _ (.tail _ (.tail _ hT))))).1) rfl rfl fun h₅ he => ?_
          have F5 : Fr g₀ L h₅ (set1 (Str.ofString "place") (.int (i : Int) tv) (liM D3 R0 m₁)) := F.keeps fun b o q => he b o (Nat.ne_of_lt (Heap.lt_size q)) q
          have N5 := N.grown fun b o q => he b o (Nat.ne_of_lt (Heap.lt_size q)) q
          clear F N
          repeat' ((fail_if_success (with_reducible show wpAny _ _ (exec (Stmt.Assign _ (Expr.ListComp _ _ _ _) _) _) _ _ _)); (first | (k_unfold; (try dsimp only)) | walk1 | (dsimp only; walk1) | fail "no step"))
          rename Fr _ _ _ _ => F9
          rename News _ _ _ _ => N9
          refine LCg.Assign_ListComp_U F9 rfl (by with_unfolding_all rfl) (by with_unfolding_all rfl) (by decide) rfl (by decide) rfl rfl rfl ?_
          repeat' ((fail_if_success (with_reducible show wpAny _ _ (subscriptTail _ _ _ _) _ _ _)); (first | (k_unfold; (try dsimp only)) | walk1 | (dsimp only; walk1) | fail "no step"))
          refine ref_at (N9 _ (.tail _ (.tail _ (.tail _ (.tail _ (hsub _ hR0)))))).1 hvr (by rw [hR2]; decide) ?_
          repeat' ((fail_if_success (with_reducible show wpAny _ _ (subscriptTail _ _ _ _) _ _ _)); (first | (k_unfold; (try dsimp only)) | walk1 | (dsimp only; walk1) | fail "no step"))
          refine kba_turn (value' := Expr.Name (Str.ofString "_") ⟨0, 0, 0, 0⟩) (fun _ => rfl) ?_
          refine tup2_1 (N9 _ (.tail _ (.tail _ (.tail _ (.tail _ (hsub _ hRT)))))).1 ?_
          refine LCg.CompSrc.ledger rfl F9 N9 (.tail _ (.tail _ (.tail _ (.tail _ (hsub _ hRL))))) (by rw [sizeLine_eq, List.size_toArray, hrow.len]; omega) fun ga => ?_
          refine comp_inv (fun k zs news => StrsAre zs ((cs.take k).map fun c => S c.word) ∧ news = _) ?_ ?_ _ 0 [] _ (Nat.zero_add _) ⟨.nil, rfl⟩
          · rintro k zs news v I2 oI2 C2 oC2 D4 m₂ h2 tk2 E2 hk ⟨hz, rfl⟩ hv hC hx F₂ N₂ off ne
            refine opq fun PP hPP => ?_
            obtain ⟨c, hc, T4, q1, q2, q3, rfl, hT4⟩ := hrow.at (show ur[k]? = some v by simpa using hv)
            refine hPP ?_
            clear hPP PP
            dsimp only
            clear F9 N9
            repeat' ((fail_if_success (with_reducible show wpAny _ _ (subscriptTail _ _ _ _) _ _ _)); (first | (k_unfold; (try dsimp only)) | walk1 | (dsimp only; walk1) | fail "no step"))
            refine tup3_0 (N₂ _ (.tail _ (.tail _ (.tail _ (.tail _ (.tail _ (.tail _ (.tail _ (hsub _ hT4))))))))).1 ?_
            rw [List.take_add_one, hc, List.map_append]
            exact ⟨_, _, _, rfl, F₂, N₂, off, .inr ⟨_, .tail _ (.tail _ (.tail _ (.tail _ (hsub _ hRL)))), rfl, _, rfl⟩, hz.append' (.cons _ _ .nil), rfl⟩
          · rintro zs news ⟨hz, rfl⟩ D4 h2 tk2 F₂ N₂ off
            dsimp only
            clear F9 N9
            rw [List.size_toArray, hrow.len, List.take_length] at hz
            repeat' ((fail_if_success (with_reducible show wpAny _ _ (call (.ref 816) _ _) _ _ _)); (first | (k_unfold; (try dsimp only)) | walk1 | (dsimp only; walk1) | fail "no step"))
            refine c_told (gg.fr F₂) (by walk_at "ar") (by walk_at "ar") (fun c hc => (hok c hc).1) hbw (by omega) (by omega) ?_
            intro h6 tk6 A6 hk6 hrd6
            have F8 := Fr.keeps F₂ hk6
            have N8 := News.grown N₂ hk6
            clear F₂ N₂
            try dsimp only
            repeat' ((fail_if_success (with_reducible show wpAny _ _ (call (.type "zip") _ _) _ _ _)); (first | (k_unfold; (try dsimp only)) | walk1 | (dsimp only; walk1) | fail "no step"))
            rename Fr _ _ _ _ => F9
            rename News _ _ _ _ => N9
            have w1 := (N9 _ (.head _)).1
            have w2 := (N9 _ (.tail _ (.tail _ (.tail _ (.tail _ (.tail _ hS)))))).1
            have hzl := StrsAre.len_eq hz
            have hul := hI9.length
            rw [List.length_map] at hzl hul
            rw [startsOf_length] at hul
            refine call_zip_2 (xs := zs.toArray) (ys := us.toArray) ⟨_, w1, rfl, _, rfl⟩ ⟨_, w2, rfl, _, rfl⟩ fun h7 z1 z2 z3 z4 z5 _ hk7 => ?_
            repeat' ((fail_if_success (with_reducible show wpAny _ _ (call (.type "list") _ _) _ _ _)); (first | (k_unfold; (try dsimp only)) | walk1 | (dsimp only; walk1) | fail "no step"))
            refine call_list_zip (xs := zs.toArray) (ys := us.toArray) rfl (zipApart_new (Heap.lt_size w1) (Heap.lt_size w2)) (Heap.get?_none_of_le (Nat.le_add_right _ _)) (Heap.get?_none_of_le (Nat.le_refl _)) (Heap.get?_none_of_le (Nat.le_add_right _ _)) (Heap.get?_none_of_le (Nat.le_add_right _ _)) (by simp only [List.size_toArray]; omega) (by rw [sizeLine_eq, List.size_toArray]; omega) (by rw [List.size_toArray]; omega)
              z1 ⟨_, _, z3⟩ z2 z4 z5 ⟨_, hk7 _ _ w1, rfl, _, rfl⟩ ⟨_, hk7 _ _ w2, rfl, _, rfl⟩ hk7 ?_
            intro h8 S8 acc c8 k1 k2 k3 k4 k5
            have F8 := Fr.keeps F9 k1
            have N8 := News.grown N9 k1
            clear F9 N9
            try dsimp only
            repeat' ((fail_if_success (with_reducible show wpAny _ _ (compareOp _ _ _) _ _ _)); (first | (k_unfold; (try dsimp only)) | walk1 | (dsimp only; walk1) | fail "no step"))
            refine ne_dataH_same (Reads.keeps k1 hrd6) (reads_zip hz hI9 k5 k4 k3) (shaped_told _ _ fun c hc => (hok c hc).2) (shaped_told _ _ fun c hc => (hok c hc).2) (by show callerA.units + 3 + 64 < cLine; decide +kernel) (noMix_told _ _) ?_
            rw [PySem.Spec.same_self]
            try dsimp only [Bool.not_true]
            repeat' (first | (k_unfold; (try dsimp only)) | walk1 | (dsimp only; walk1) | fail "no step")
            rename Fr _ _ _ _ => F9
            rename News _ _ _ _ => N9
            exact ⟨_, _, _, _, rfl, F9, news_sub N9 (fun p hp => .tail _ hp), hoff, fr_liM F9 rfl rfl, rfl⟩
        · rintro h' tk m' news' F' N' ⟨hm, rfl⟩
          rw [hm] at F'
          clear hm F9 N9
          repeat' ((fail_if_success (with_reducible show wpAny _ _ (eval (Expr.ListComp _ _ _ _) _) _ _ _)); (first | (k_unfold; (try dsimp only)) | walk1 | (dsimp only; walk1) | fail "no step"))
          rename Fr _ _ _ _ => F9
          rename News _ _ _ _ => N9
          refine LCp.ListComp_P F9 rfl (by decide) rfl (by decide) rfl rfl (by decide) ?_
          repeat' ((fail_if_success (with_reducible show LCp.SrcLP _ _ _ _ _ _ _ _ _ _ _ _ _ _ _)); (first | (k_unfold; (try dsimp only)) | walk1 | (dsimp only; walk1) | fail "no step"))
          have hy2 : ys3.length = 2 := by rw [hln.len]; exact hC2
          refine LCp.SrcLP.ledger rfl F9 N9 (.tail _ (.tail _ (.head _))) (by rw [sizeLine_eq, List.size_toArray]; omega) fun ga => ?_
          refine comp_invP (fun i ys news => IntsAre ys ((CC.take i).map fun cs => (longOf ((b ++ restOf cs).take (lstS b cs)) : Int)) ∧ news = _) ?_ ?_ _ 0 [] _ (Nat.zero_add _) ⟨.nil, rfl⟩
          · rintro i ys news v hi ⟨hy, rfl⟩ hv
            refine opq fun PP hPP => ?_
            obtain ⟨cs, hcs, T, sx, us, tl9, e, rfl, hT, hS, hI9⟩ := hln.at (show ys3[i]? = some v by simpa using hv)
            obtain ⟨hok, hc3, hc5⟩ := hCk cs (List.mem_of_getElem? hcs)
            refine hPP ?_
            clear hPP PP
            have hok1 : ∀ c ∈ cs, CellOk c := fun c hc => (hok c hc).1
            have hla := lstS_last (b := b) (cs := cs) (by omega)
            have hlt := lstS_lt (b := b) hok1 (by omega)
            have hrl := restOf_len hok1
            refine ⟨T, _, .str (S (b ++ restOf cs)) tl9, .ref sx, _, rfl, .tail _ (.tail _ (.tail _ hT)), rfl, rfl, ?_⟩
            intro I oI C oC D m₂ h tk E' hC hx hx2 F₂ N₂ off ne
            dsimp only
            clear F9 N9
            repeat' ((fail_if_success (with_reducible show wpAny _ _ (subscriptTail _ _ _ _) _ _ _)); (first | (k_unfold; (try dsimp only)) | walk1 | (dsimp only; walk1) | fail "no step"))
            refine item_last ⟨_, (N₂ _ (.tail _ (.tail _ (.tail _ (.tail _ (.tail _ (.tail _ hS))))))).1, rfl, _, rfl⟩ hI9 hla fun t7 => ?_
            repeat' ((fail_if_success (with_reducible show wpAny _ _ (call (.ref 828) _ _) _ _ _)); (first | (k_unfold; (try dsimp only)) | walk1 | (dsimp only; walk1) | fail "no step"))
            refine c_longest (gg.fr F₂) (by walk_at "ar") (by walk_at "ar") (by rw [List.length_append]; omega) (Nat.le_of_lt hlt) ?_
            intro h4 tk4 t4 hk4
            have hfin : IntsAre (ys ++ [.int (longOf ((b ++ restOf cs).take (lstS b cs)) : Int) t4]) ((CC.take (i + 1)).map fun cs => (longOf ((b ++ restOf cs).take (lstS b cs)) : Int)) := by
              rw [List.take_add_one, hcs, List.map_append]
              exact hy.append (.cons _ _ .nil)
            show LCg.CompEnd _ _ _ _ _ _ _ _ _ _ _ _ _ _
            exact ⟨_, _, _, rfl, F₂.keeps hk4, News.grown N₂ hk4, off, .inr ⟨_, .tail _ (.tail _ (.head _)), rfl, _, rfl⟩, hfin, rfl⟩
          · rintro ys4 news ⟨hy, rfl⟩ D4 h4 tk4 F₂ N₂ off
            dsimp only
            clear F9 N9
            rw [List.size_toArray, hy2, ← hC2, List.take_length] at hy
            repeat' ((fail_if_success (with_reducible show wpAny _ _ (call (.builtin "max") _ _) _ _ _)); (first | (k_unfold; (try dsimp only)) | walk1 | (dsimp only; walk1) | fail "no step"))
            refine max_list_N rfl F₂ N₂ ⟨_, (N₂ _ (.head _)).1, rfl, _, rfl⟩ hy (by rw [List.length_map, hC2]; decide) fun h5 M tm tk5 F₃ N₃ hM hMx => ?_
            obtain ⟨lm, rfl, hlm, hlb⟩ : ∃ lm : Nat, M = (lm : Int) ∧ (∀ cs ∈ CC, longOf ((b ++ restOf cs).take (lstS b cs)) ≤ lm) ∧ lm < 900 := by
              obtain ⟨cs, hcs, rfl⟩ := List.mem_map.mp hM
              refine ⟨_, rfl, fun c2 hc2 => ?_, ?_⟩
              · have := hMx _ (List.mem_map_of_mem (f := fun cs => (longOf ((b ++ restOf cs).take (lstS b cs)) : Int)) hc2)
                omega
              · have h1 := longOf_le ((b ++ restOf cs).take (lstS b cs))
                obtain ⟨hok, hc3, hc5⟩ := hCk cs hcs
                have hrl := restOf_len fun c hc => (hok c hc).1
                rw [List.length_take, List.length_append] at h1
                omega
            clear F₂ N₂ hM hMx
            repeat' ((fail_if_success (with_reducible show wpAny _ _ (storeName _ _ _) _ _ _)); (first | (k_unfold; (try dsimp only)) | walk1 | (dsimp only; walk1) | fail "no step"))
            rename Fr _ _ _ _ => F9
            rename News _ _ _ _ => N9
            have w9 := N9 _ (.tail _ (.tail _ (.head _)))
            refine wpAny_storeName_cell rfl rfl rfl ⟨oL, w9.1, dL⟩ fun hN hc hsN => ?_
            obtain ⟨oL2, hL2, dL2⟩ := hc
            have F8 := F9.change hsN w9.2.1 w9.2.2
            have N8 : News g₀ L hN ((L + 1 + 1, oS) :: (L + 1, oL2) :: (D3, LCg.lst ys3) :: tl3) := by
              intro q hq
              rcases List.mem_cons.mp hq with rfl | hq
              · exact ⟨hsN.extBut _ _ (Ne.symm (Nat.ne_of_lt (Nat.lt_succ_self (L + 1)))) (N9 _ (.tail _ (.head _))).1, (N9 _ (.tail _ (.head _))).2⟩
              rcases List.mem_cons.mp hq with rfl | hq
              · exact ⟨hL2, w9.2⟩
              · exact ⟨hsN.extBut _ _ (hP4 q hq).2 (N9 _ (.tail _ (.tail _ (.tail _ hq)))).1, (N9 _ (.tail _ (.tail _ (.tail _ hq)))).2⟩
            clear F9 N9 w9
            try dsimp only
            repeat' ((fail_if_success (with_reducible show wpAny _ _ (exec (Stmt.Assign _ (Expr.ListComp _ _ _ _) _) _) _ _ _)); (first | (k_unfold; (try dsimp only)) | walk1 | (dsimp only; walk1) | fail "no step"))
            rename Fr _ _ _ _ => F9
            refine LCp.Assign_ListComp_P F9 rfl (by with_unfolding_all rfl) (by with_unfolding_all rfl) (by decide) rfl (by decide) rfl rfl (by decide) rfl rfl ?_
            repeat' ((fail_if_success (with_reducible show LCp.SrcLP _ _ _ _ _ _ _ _ _ _ _ _ _ _ _)); (first | (k_unfold; (try dsimp only)) | walk1 | (dsimp only; walk1) | fail "no step"))
            refine LCp.SrcLP.ledger rfl F9 N8 (.tail _ (.tail _ (.head _))) (by rw [sizeLine_eq, List.size_toArray]; omega) fun ga => ?_
            refine comp_invP (fun i ys news => ∃ tl5, (∀ q ∈ (D3, LCg.lst ys3) :: tl3, q ∈ tl5) ∧ (∀ p ∈ tl5, p.1 ≠ L + 1 + 1 ∧ p.1 ≠ L + 1) ∧ All2 (SeenL w b (lm + 1) (inL tl5)) ys (CC.take i) ∧ news = (L + 1 + 1, oS) :: (L + 1, oL2) :: tl5) ?_ ?_ _ 0 [] _ (Nat.zero_add _) ⟨_, fun _ q => q, hP4, .nil, rfl⟩
            · intro i ys news v hi hJ0 hv
              refine opq fun PP hPP => ?_
              obtain ⟨tl5, hsub5, hP5, hsn, rfl⟩ := hJ0
              obtain ⟨cs, hcs, T, sx, us, tl9, e, rfl, hT, hS, hI9⟩ := hln.at (show ys3[i]? = some v by simpa using hv)
              obtain ⟨hok, hc3, hc5⟩ := hCk cs (List.mem_of_getElem? hcs)
              refine hPP ?_
              clear hPP PP
              have hok1 : ∀ c ∈ cs, CellOk c := fun c hc => (hok c hc).1
              have hla := lstS_last (b := b) (cs := cs) (by omega)
              have hrl := restOf_len hok1
              refine ⟨T, _, .str (S (b ++ restOf cs)) tl9, .ref sx, _, rfl, .tail _ (.tail _ (hsub5 _ (.tail _ hT))), rfl, rfl, ?_⟩
              intro I oI C oC D m₂ h tk E' hC hx hx2 F₂ N₂ off ne
              dsimp only
              clear F9 N8
              repeat' ((fail_if_success (with_reducible show wpAny _ _ (call (.ref 833) _ _) _ _ _)); (first | (k_unfold; (try dsimp only)) | walk1 | (dsimp only; walk1) | fail "no step"))
              rw [show (lm : Int) + 1 = ((lm + 1 : Nat) : Int) by omega]
              have wS := N₂ _ (.tail _ (.tail _ (.tail _ (.tail _ (.tail _ (hsub5 _ (.tail _ hS)))))))
              refine c_seen (gg.fr F₂) (by walk_at "ar") (by walk_at "ar") (by rw [List.length_append]; omega) (startsOf_sorted hok1 _) hla (fun x hx => by rw [List.length_append]; exact startsOf_lt hok1 _ x hx) (by rw [startsOf_length]; omega) hI9 wS.1 wS.2.2 (by omega) ?_
              intro h6 tk6 A6 us6 e6 tl6 hk6 fA hA htl hsn6
              have N₃ : News g₀ L h6 ((A6, W.listOf us6.toArray e6) :: (tl6 ++ _)) := News.put F₂ (news_puts F₂ (News.grown N₂ hk6) htl) fA hA
              have hcS := (N₂ _ (.tail _ (.tail _ (.tail _ (.head _))))).1
              have hcL := (N₂ _ (.tail _ (.tail _ (.tail _ (.tail _ (.head _)))))).1
              have hcI := (N₂ _ (.head _)).1
              have hcC := (N₂ _ (.tail _ (.head _))).1
              have hcD := (N₂ _ (.tail _ (.tail _ (.head _)))).1
              have hfr : ∀ p ∈ (A6, W.listOf us6.toArray e6) :: tl6, h.get? p.1 = none := fun p hp => by
                rcases List.mem_cons.mp hp with rfl | hp
                · exact fA
                · exact (htl p hp).2
              show LCg.CompEnd _ _ _ _ _ _ _ _ _ _ _ _ _ _
              refine ⟨h6, tk6, (L + 1 + 1, oS) :: (L + 1, oL2) :: ((A6, W.listOf us6.toArray e6) :: tl6 ++ tl5), rfl, F₂.keeps hk6, fun p hp => ?_, LCg.Off3.of fun p hp => ?_, .inr ⟨_, .tail _ (.tail _ (List.mem_append_right _ (hsub5 _ (.head _)))), rfl, _, rfl⟩, _, fun q hq => List.mem_append_right _ (hsub5 q hq), fun p hp => ?_, ?_, rfl⟩
              · rcases List.mem_cons.mp hp with rfl | hp
                · exact N₃ _ (.tail _ (List.mem_append_right _ (.head _)))
                rcases List.mem_cons.mp hp with rfl | hp
                · exact N₃ _ (.tail _ (List.mem_append_right _ (.tail _ (.head _))))
                rcases List.mem_cons.mp hp with rfl | hp
                · exact N₃ _ (.tail _ (List.mem_append_right _ (.tail _ (.tail _ (.head _)))))
                rcases List.mem_cons.mp hp with rfl | hp
                · exact N₃ _ (.tail _ (List.mem_append_right _ (.tail _ (.tail _ (.tail _ (.head _))))))
                rcases List.mem_cons.mp hp with rfl | hp
                · exact N₃ _ (.tail _ (List.mem_append_right _ (.tail _ (.tail _ (.tail _ (.tail _ (.head _)))))))
                rcases List.mem_append.mp hp with hp | hp
                · rcases List.mem_cons.mp hp with rfl | hp
                  · exact N₃ _ (.head _)
                  · exact N₃ _ (.tail _ (List.mem_append_left _ hp))
                · exact N₃ _ (.tail _ (List.mem_append_right _ (.tail _ (.tail _ (.tail _ (.tail _ (.tail _ hp)))))))
              · rcases List.mem_cons.mp hp with rfl | hp
                · exact off.1
                rcases List.mem_cons.mp hp with rfl | hp
                · exact off.2.1
                rcases List.mem_append.mp hp with hp | hp
                · exact ⟨fresh_ne (hfr p hp) hcI, fresh_ne (hfr p hp) hcC, fresh_ne (hfr p hp) hcD⟩
                · exact off.2.2.mem p hp
              · rcases List.mem_append.mp hp with hp | hp
                · exact ⟨fresh_ne (hfr p hp) hcS, fresh_ne (hfr p hp) hcL⟩
                · exact hP5 p hp
              · rw [List.take_add_one, hcs]
                exact (hsn.mono fun _ _ x => x.mono fun _ _ q => List.mem_append_right _ q).snoc ⟨A6, us6, e6, rfl, List.mem_append_left _ (.head _), hsn6.mono fun _ _ x => x.mono fun _ _ q => List.mem_append_left _ (.tail _ q)⟩
            · intro ys5 news hJ0 D5 h5 tk5 F₂ N₂ off5
              refine opq fun PP hPP => ?_
              obtain ⟨tl5, hsub5, hP5, hsn, rfl⟩ := hJ0
              refine hPP ?_
              clear hPP PP
              dsimp only
              clear F9 N8
              rw [List.size_toArray, hy2, ← hC2, List.take_length] at hsn
              have N8 := rotF N₂
              have hP6 : ∀ p ∈ (D5, LCg.lst ys5) :: tl5, p.1 ≠ L + 1 + 1 ∧ p.1 ≠ L + 1 := by
                intro p hp
                rcases List.mem_cons.mp hp with rfl | hp
                · exact ⟨Ne.symm off5.1, Ne.symm off5.2.1⟩
                · exact hP5 p hp
              clear N₂ off5
              repeat' ((fail_if_success (with_reducible show wpAny _ _ (exec (Stmt.For _ _ _ _ _) _) _ _ _)); (first | (k_unfold; (try dsimp only)) | walk1 | (dsimp only; walk1) | fail "no step"))
              refine opq fun PP hPP => ?_
              obtain ⟨v0, hv0⟩ : ∃ v, ys5[0]? = some v := ⟨_, List.getElem?_eq_getElem (by rw [hsn.len, hC2]; decide)⟩
              obtain ⟨v1, hv1⟩ : ∃ v, ys5[1]? = some v := ⟨_, List.getElem?_eq_getElem (by rw [hsn.len, hC2]; decide)⟩
              obtain ⟨c0, hc0, A0, us0, e0', rfl, hA0, hs0⟩ := hsn.at hv0
              obtain ⟨c1, hc1', A1, us1, e1', rfl, hA1, hs1⟩ := hsn.at hv1
              refine hPP ?_
              clear hPP PP
              have hl0 : us0.length ≤ 5 := by rw [hs0.len, List.length_map, startsOf_length]; exact (hCk c0 (List.mem_of_getElem? hc0)).2.2
              have hl1' : us1.length ≤ 5 := by rw [hs1.len, List.length_map, startsOf_length]; exact (hCk c1 (List.mem_of_getElem? hc1')).2.2
              refine for_list (h₀ := g₀) rfl ?_ (hE := by subst hL0; with_unfolding_all passes_own)
              repeat' ((fail_if_success (with_reducible show wpAny _ _ (subscriptTail _ _ _ _) _ _ _)); (first | (k_unfold; (try dsimp only)) | walk1 | (dsimp only; walk1) | fail "no step"))
              refine ref_at (i := 0) (N8 _ (.tail _ (.tail _ (.head _)))).1 hv0 (by rw [hsn.len, hC2]; decide) ?_
              repeat' ((fail_if_success (with_reducible show wpAny _ _ (subscriptTail _ _ _ _) _ _ _)); (first | (k_unfold; (try dsimp only)) | walk1 | (dsimp only; walk1) | fail "no step"))
              refine ref_at (i := 1) (N8 _ (.tail _ (.tail _ (.head _)))).1 hv1 (by rw [hsn.len, hC2]; decide) ?_
              repeat' ((fail_if_success (with_reducible show wpAny _ _ (binaryOp _ _ _) _ _ _)); (first | (k_unfold; (try dsimp only)) | walk1 | (dsimp only; walk1) | fail "no step"))
              rename Fr _ _ _ _ => F9
              refine add_lists F9 N8 ⟨_, News.get N8 (.tail _ (.tail _ (.tail _ hA0))), rfl, _, rfl⟩ ⟨_, News.get N8 (.tail _ (.tail _ (.tail _ hA1))), rfl, _, rfl⟩ ?_ (by rw [sizeLine_eq]; omega)
              intro h6 F6 N6
              refine ⟨_, us0 ++ us1, 0, _, _, _, (fun i m news => ∃ (oS' : Obj) (v₀ : Option Value), oS'.data = Data.cell v₀ ∧ m = set1 (Str.ofString "seen") (.ref D5) m ∧ news = (L + 1 + 1, oS') :: (L + 1, oL2) :: (D5, LCg.lst ys5) :: tl5), rfl, .inr rfl, F6, N6, ⟨oS, none, dS, (set1_same rfl).symm, rfl⟩, ?_, ?_⟩
              · intro i v m₁ news₁ I oI s₂ hv ⟨oS', v₀, dS', hm, hnw⟩ hoff hDI F N
                subst hnw
                refine opq fun PP hPP => ?_
                obtain ⟨p, hp, T, wx, wd, nm, ct, cl, vw, ts, raw, bs, t1, tt, uc, ec, rfl, hT, hwx, hwd, hnm, hct, hvw, hcl, huc⟩ := (hs0.app hs1).at hv
                refine hPP ?_
                clear hPP PP
                rw [hm] at F
                clear hm
                refine assign_Tuple_tuple rfl (isTup_of (N _ (.tail _ (.tail _ (.tail _ (.tail _ (.tail _ hT)))))).1) rfl rfl fun h₅ he => ?_
                have F5 : Fr g₀ L h₅ (set1 (Str.ofString "seen") (.ref D5) m₁) := F.keeps fun b o q => he b o (Nat.ne_of_lt (Heap.lt_size q)) q
                have N5 := N.grown fun b o q => he b o (Nat.ne_of_lt (Heap.lt_size q)) q
                clear F N
                have hpl : p.length < 500 := by
                  have hk : ∀ c ∈ CC, (b ++ restOf c).length < 500 := fun c hc => by
                    obtain ⟨hok, _, h5⟩ := hCk c hc
                    have := restOf_len fun c hc => (hok c hc).1
                    rw [List.length_append]; omega
                  have hm := List.mem_of_getElem? hp
                  rcases List.mem_append.mp hm with hm | hm
                  · obtain ⟨k, _, rfl⟩ := List.mem_map.mp hm
                    have := hk c0 (List.mem_of_getElem? hc0)
                    rw [List.length_take]; omega
                  · obtain ⟨k, _, rfl⟩ := List.mem_map.mp hm
                    have := hk c1 (List.mem_of_getElem? hc1')
                    rw [List.length_take]; omega
                have hcnt : (wsOf (shadeOf p)).cnt.length < 1001 := by
                  have := wsRun_len (shadeOf p) ws0 0 (Nat.le_refl _) (Nat.le_refl _)
                  rw [shade_len] at this
                  unfold wsOf; omega
                dsimp only [List.cons_append, List.nil_append] at N5
                have w5 := N5 _ (.tail _ (.tail _ (.head _)))
                dsimp only at w5
                have nDL := news_ne N5 (.tail _ (.head _)) (.tail _ (.tail _ (.head _))) (by rw [dS']; intro e; cases e)
                refine assignInOrder_cons (wpAny_assign_Name (wpAny_storeName_cell rfl rfl rfl ⟨oS', w5.1, dS'⟩ fun hN hc hsN => ?_))
                obtain ⟨oS2, hS2, dS2⟩ := hc
                have F6 : Fr g₀ L hN (set1 (Str.ofString "seen") (.ref D5) m₁) := F5.change hsN w5.2.1 w5.2.2
                have N6 := upd5 N5 hsN hS2 (Ne.symm (hoff _ (.head _))) nDL (fun q hq => by
                  rcases List.mem_cons.mp hq with rfl | hq
                  · exact Nat.ne_of_lt (Nat.lt_succ_self (L + 1))
                  · exact (hP6 q hq).1)
                clear F5 N5 w5
                have N7 := news_front (xs := [(wx, instObj 101 wd), (wd, dictOf (wsEs w ts raw (wsOf (shadeOf p)).n (wsOf (shadeOf p)).nt nm bs) 5), (nm, tupOf #[.ref ct, .int ((wsOf (shadeOf p)).b : Int) t1]), (ct, tupOf vw.toArray), (cl, W.listOf uc.toArray ec)]) N6 (fun q hq => by
                  refine .tail _ (.tail _ (.tail _ (.tail _ (.tail _ ?_))))
                  rcases List.mem_cons.mp hq with rfl | hq; rotate_left
                  rcases List.mem_cons.mp hq with rfl | hq; rotate_left
                  rcases List.mem_cons.mp hq with rfl | hq; rotate_left
                  rcases List.mem_cons.mp hq with rfl | hq; rotate_left
                  rcases List.mem_cons.mp hq with rfl | hq; rotate_left
                  · cases hq
                  · exact hwx
                  · exact hwd
                  · exact hnm
                  · exact hct
                  · exact hcl)
                dsimp only [List.cons_append, List.nil_append] at N7
                clear N6
                try dsimp only
                repeat' ((fail_if_success (with_reducible show wpAny _ _ (eval (Expr.ListComp _ _ _ _) _) _ _ _)); (first | (k_unfold; (try dsimp only)) | walk1 | (dsimp only; walk1) | fail "no step"))
                rename Fr _ _ _ _ => F9
                rename News _ _ _ _ => N9
                refine LCg.ListComp_U F9 rfl (by decide) rfl (by decide) rfl ?_
                repeat' ((fail_if_success (with_reducible show LCg.CompSrc _ _ _ _ _ _ _ _ _ _ _ _ _ _)); (first | (k_unfold; (try dsimp only)) | walk1 | (dsimp only; walk1) | fail "no step"))
                rename IsRange _ _ _ _ _ _ _ _ => R8
                rename Fr _ _ _ _ => F9
                rename News _ _ _ _ => N9
                refine LCg.CompSrc.range (n := lm + 1) rfl F9 N9 R8 (small_up (by omega) (by omega) (by omega) (by omega)) (by rw [rangeSize_up]; congr 1; omega) (by rw [sizeLine_eq]; omega) fun ga => ?_
                refine comp_inv (n := lm + 1) (fun k zs news => IntsAre zs ((List.range k).map fun k => (colOf (k + 1) p : Int)) ∧ news = _) ?_ ?_ _ 0 [] _ (Nat.zero_add _) ⟨.nil, rfl⟩
                · rintro k zs news₂ v₂ I₂ oI₂ C₂ oC₂ D₂ m₂ h₃ tk₃ E₃ hk ⟨hz, rfl⟩ ⟨tv2, rfl⟩ hC hx F₂ N₂ off₂ ne₂
                  rw [show (1 : Int) + (k : Int) = ((k + 1 : Nat) : Int) by omega] at hx
                  dsimp only
                  clear F9 N9
                  repeat' ((fail_if_success (with_reducible show wpAny _ _ (call (.ref 70) _ _) _ _ _)); (first | (k_unfold; (try dsimp only)) | walk1 | (dsimp only; walk1) | fail "no step"))
                  rename Fr _ _ _ _ => F₃
                  refine c_indent (size := k + 1) ⟨(N₂ _ (.tail _ (.tail _ (.tail _ (.head _))))).1, (N₂ _ (.tail _ (.tail _ (.tail _ (.tail _ (.head _)))))).1, (N₂ _ (.tail _ (.tail _ (.tail _ (.tail _ (.tail _ (.head _))))))).1, (N₂ _ (.tail _ (.tail _ (.tail _ (.tail _ (.tail _ (.tail _ (.head _)))))))).1, hvw, hcnt⟩ (by omega) (by omega) (gg.fr F₃) (by walk_at "ar") (by walk_at "ar") (N₂ _ (.tail _ (.tail _ (.tail _ (.head _))))).2.2 (N₂ _ (.tail _ (.tail _ (.tail _ (.tail _ (.head _)))))).2.2 (N₂ _ (.tail _ (.tail _ (.tail _ (.tail _ (.tail _ (.head _))))))).2.2 (N₂ _ (.tail _ (.tail _ (.tail _ (.tail _ (.tail _ (.tail _ (.head _)))))))).2.2 ?_
                  intro h4 tk4 t4 hk4
                  rw [indent_col p (k + 1) (by omega)]
                  show LCg.CompEnd _ _ _ _ _ _ _ _ _ _ _ _ _ _
                  rw [List.range_succ, List.map_append]
                  exact ⟨_, _, _, rfl, F₃.keeps hk4, News.grown N₂ hk4, off₂, trivial, hz.append (.cons _ _ .nil), rfl⟩
                · rintro zs news₂ ⟨hz, rfl⟩ D₂ h₃ tk₃ F₂ N₂ off₂
                  dsimp only
                  clear F9 N9
                  repeat' ((fail_if_success (with_reducible show wpAny _ _ (compareOp _ _ _) _ _ _)); (first | (k_unfold; (try dsimp only)) | walk1 | (dsimp only; walk1) | fail "no step"))
                  refine ne_ints (N₂ _ (.head _)).1 hz (N₂ _ (.tail _ (.tail _ (.tail _ (.tail _ (.tail _ (.head _))))))).1 huc (by show callerA.units + 3 + 64 < cLine; decide +kernel) ?_
                  try dsimp only
                  repeat' (first | (k_unfold; (try dsimp only)) | walk1 | (dsimp only; walk1) | fail "no step")
                  rename Fr _ _ _ _ => F9
                  rename News _ _ _ _ => N9
                  refine ⟨rfl, _, _, _, (L + 1 + 1, oS2) :: (L + 1, oL2) :: (D5, LCg.lst ys5) :: tl5, rfl, F9, news_sub N9 (fun q hq => .tail _ (.tail _ (.tail _ (.tail _ (.tail _ (.tail _ hq)))))), fun q hq => ?_, oS2, _, dS2, (set1_same rfl).symm, rfl⟩
                  rcases List.mem_cons.mp hq with rfl | hq
                  · exact hoff (L + 1 + 1, oS') (.head _)
                  · exact hoff q (.tail _ hq)
              · intro h' tk' m' news' F' N' hJ0
                refine opq fun PP hPP => ?_
                obtain ⟨oS', v₀, dS', hm, rfl⟩ := hJ0
                refine hPP ?_
                clear hPP PP
                rw [hm] at F'
                clear hm F9 N8 F6 N6
                repeat' ((fail_if_success (with_reducible show wpAny _ _ (exec (Stmt.For _ _ _ _ _) _) _ _ _)); (first | (k_unfold; (try dsimp only)) | walk1 | (dsimp only; walk1) | fail "no step"))
                rename Fr _ _ _ _ => F9
                rename News _ _ _ _ => N9
                refine For_turns F9 ?_ (hE := by subst hL0; with_unfolding_all passes_own)
                repeat' ((fail_if_success (with_reducible show wpAny _ _ (subscriptTail _ _ _ _) _ _ _)); (first | (k_unfold; (try dsimp only)) | walk1 | (dsimp only; walk1) | fail "no step"))
                refine ref_at (i := 0) (N9 _ (.tail _ (.tail _ (.head _)))).1 hv0 (by rw [hsn.len, hC2]; decide) ?_
                repeat' ((fail_if_success (with_reducible show wpAny _ _ (subscriptTail _ _ _ _) _ _ _)); (first | (k_unfold; (try dsimp only)) | walk1 | (dsimp only; walk1) | fail "no step"))
                refine ref_at (i := 1) (N9 _ (.tail _ (.tail _ (.head _)))).1 hv1 (by rw [hsn.len, hC2]; decide) ?_
                repeat' ((fail_if_success (with_reducible show wpAny _ _ (call (.type "zip") _ _) _ _ _)); (first | (k_unfold; (try dsimp only)) | walk1 | (dsimp only; walk1) | fail "no step"))
                rename Fr _ _ _ _ => F9
                refine zip_const rfl F9 N9 (.tail _ (.tail _ (.tail _ hA0))) (.tail _ (.tail _ (.tail _ hA1))) ?_ ?_
                · intro i x y m₁ T h tk its hx hy hT F N
                  refine opq fun PP hPP => ?_
                  obtain ⟨p, hp, T0, wx, wd, nm, ct, cl, vw, ts, raw, bs, t1, tt, uc, ec, rfl, hT0, hwx, hwd, hnm, hct, hvw, hcl, huc⟩ := hs0.at hx
                  obtain ⟨q, hq, T1, vx, vd, nm', ct', cl', vw', ts', raw', bs', t1', tt', uc', ec', rfl, hT1, hvx, hvd, hnm', hct', hvw', hcl', huc'⟩ := hs1.at hy
                  refine hPP ?_
                  clear hPP PP
                  have hlp : longOf p ≤ lm := by
                    obtain ⟨hok, h3, _⟩ := hCk c0 (List.mem_of_getElem? hc0)
                    exact long_seen (fun c hc => (hok c hc).1) (by omega) hp (hlm _ (List.mem_of_getElem? hc0))
                  have hlq : longOf q ≤ lm := by
                    obtain ⟨hok, h3, _⟩ := hCk c1 (List.mem_of_getElem? hc1')
                    exact long_seen (fun c hc => (hok c hc).1) (by omega) hq (hlm _ (List.mem_of_getElem? hc1'))
                  have hb1 := shade_b p
                  have hb2 := shade_b q
                  have hc1 := shade_cnt p
                  have hc2 := shade_cnt q
                  refine assign_Tuple_tuple rfl hT rfl rfl fun h₅ he => ?_
                  have F5 : Fr g₀ L h₅ m₁ := F.keeps fun b o q => he b o (Nat.ne_of_lt (Heap.lt_size q)) q
                  have N5 := N.grown fun b o q => he b o (Nat.ne_of_lt (Heap.lt_size q)) q
                  have N7 := news_front (xs := [(T0, tupOf #[.ref wx, .ref cl, .int (longOf p : Int) tt]), (T1, tupOf #[.ref vx, .ref cl', .int (longOf q : Int) tt']), (wx, instObj 101 wd), (wd, dictOf (wsEs w ts raw (wsOf (shadeOf p)).n (wsOf (shadeOf p)).nt nm bs) 5), (nm, tupOf #[.ref ct, .int ((wsOf (shadeOf p)).b : Int) t1]), (ct, tupOf vw.toArray), (cl, W.listOf uc.toArray ec),
                    (vx, instObj 101 vd), (vd, dictOf (wsEs w ts' raw' (wsOf (shadeOf q)).n (wsOf (shadeOf q)).nt nm' bs') 5), (nm', tupOf #[.ref ct', .int ((wsOf (shadeOf q)).b : Int) t1']), (ct', tupOf vw'.toArray), (cl', W.listOf uc'.toArray ec')]) N5 (fun q hq => by
                    refine List.mem_append_right its (.tail _ (.tail _ (.tail _ ?_)))
                    rcases List.mem_cons.mp hq with rfl | hq; rotate_left
                    rcases List.mem_cons.mp hq with rfl | hq; rotate_left
                    rcases List.mem_cons.mp hq with rfl | hq; rotate_left
                    rcases List.mem_cons.mp hq with rfl | hq; rotate_left
                    rcases List.mem_cons.mp hq with rfl | hq; rotate_left
                    rcases List.mem_cons.mp hq with rfl | hq; rotate_left
                    rcases List.mem_cons.mp hq with rfl | hq; rotate_left
                    rcases List.mem_cons.mp hq with rfl | hq; rotate_left
                    rcases List.mem_cons.mp hq with rfl | hq; rotate_left
                    rcases List.mem_cons.mp hq with rfl | hq; rotate_left
                    rcases List.mem_cons.mp hq with rfl | hq; rotate_left
                    rcases List.mem_cons.mp hq with rfl | hq; rotate_left
                    · cases hq
                    · exact hT0
                    · exact hT1
                    · exact hwx
                    · exact hwd
                    · exact hnm
                    · exact hct
                    · exact hcl
                    · exact hvx
                    · exact hvd
                    · exact hnm'
                    · exact hct'
                    · exact hcl')
                  clear F N N5
                  generalize hzz : its ++ ((L + 1 + 1, oS') :: (L + 1, oL2) :: (D5, LCg.lst ys5) :: tl5) = tlz at N7 ⊢
                  dsimp only [List.cons_append, List.nil_append] at N7
                  repeat' ((fail_if_success (with_reducible show wpAny _ _ (call (.ref 840) _ _) _ _ _)); (first | (k_unfold; (try dsimp only)) | walk1 | (dsimp only; walk1) | fail "no step"))
                  rename Fr _ _ _ _ => F9
                  rename News _ _ _ _ => N9
                  refine c_unlike (lu := longOf p) (ll := longOf q) (n := lm + 1) (gg.fr F9) (by walk_at "ar") (by walk_at "ar") (N9 _ (.head _)).1 (N9 _ (.tail _ (.tail _ (.tail _ (.tail _ (.tail _ (.tail _ (.head _)))))))).1 huc (N9 _ (.tail _ (.head _))).1 (N9 _ (.tail _ (.tail _ (.tail _ (.tail _ (.tail _ (.tail _ (.tail _ (.tail _ (.tail _ (.tail _ (.tail _ (.head _))))))))))))).1 huc' (by omega) (by omega) ?_
                  intro h6 tk6 A6 e6 us6 tl6 hk6 hmd hfr
                  have F8 := Fr.keeps F9 hk6
                  have N6 := news_puts F9 (News.grown N9 hk6) hfr
                  have N8 := news_sub (l' := (T0, tupOf #[.ref wx, .ref cl, .int (longOf p : Int) tt]) :: (T1, tupOf #[.ref vx, .ref cl', .int (longOf q : Int) tt']) :: (wx, instObj 101 wd) :: (wd, dictOf (wsEs w ts raw (wsOf (shadeOf p)).n (wsOf (shadeOf p)).nt nm bs) 5) :: (nm, tupOf #[.ref ct, .int ((wsOf (shadeOf p)).b : Int) t1]) :: (ct, tupOf vw.toArray) ::
                    (vx, instObj 101 vd) :: (vd, dictOf (wsEs w ts' raw' (wsOf (shadeOf q)).n (wsOf (shadeOf q)).nt nm' bs') 5) :: (nm', tupOf #[.ref ct', .int ((wsOf (shadeOf q)).b : Int) t1']) :: (ct', tupOf vw'.toArray) :: (A6, W.listOf us6.toArray e6) :: (tl6 ++ tlz)) N6 (by
                    iterate 10 refine sub_cons (List.mem_append_right _ (by walk_at "memb")) ?_
                    refine sub_cons (List.Mem.head _) ?_
                    exact fun q hq => (List.mem_append.mp hq).elim (fun h => List.mem_append_left _ (List.Mem.tail _ h)) (fun h => List.mem_append_right _ (by walk_at "memb")))
                  clear F9 N9 N6
                  try dsimp only
                  repeat' ((fail_if_success (with_reducible show wpAny _ _ (subscriptTail _ _ _ _) _ _ _)); (first | (k_unfold; (try dsimp only)) | walk1 | (dsimp only; walk1) | fail "no step"))
                  rename Fr _ _ _ _ => F9
                  rename News _ _ _ _ => N9
                  refine tup3_0 (N9 _ (.head _)).1 ?_
                  repeat' ((fail_if_success (with_reducible show wpAny _ _ (subscriptTail _ _ _ _) _ _ _)); (first | (k_unfold; (try dsimp only)) | walk1 | (dsimp only; walk1) | fail "no step"))
                  refine tup3_0 (N9 _ (.tail _ (.head _))).1 ?_
                  repeat' ((fail_if_success (with_reducible show wpAny _ _ (call (.ref 84) _ _) _ _ _)); (first | (k_unfold; (try dsimp only)) | walk1 | (dsimp only; walk1) | fail "no step"))
                  rename Fr _ _ _ _ => F9
                  refine c_wit ⟨(N9 _ (.tail _ (.tail _ (.head _)))).1, (N9 _ (.tail _ (.tail _ (.tail _ (.head _))))).1, (N9 _ (.tail _ (.tail _ (.tail _ (.tail _ (.head _)))))).1, (N9 _ (.tail _ (.tail _ (.tail _ (.tail _ (.tail _ (.head _))))))).1, hvw, by omega⟩ ⟨(N9 _ (.tail _ (.tail _ (.tail _ (.tail _ (.tail _ (.tail _ (.head _)))))))).1, (N9 _ (.tail _ (.tail _ (.tail _ (.tail _ (.tail _ (.tail _ (.tail _ (.head _))))))))).1, (N9 _ (.tail _ (.tail _ (.tail _ (.tail _ (.tail _ (.tail _ (.tail _ (.tail _ (.head _)))))))))).1, (N9 _ (.tail _ (.tail _ (.tail _ (.tail _ (.tail _ (.tail _ (.tail _ (.tail _ (.tail _ (.head _))))))))))).1, hvw', by omega⟩ (gg.fr F9) (by walk_at "ar") (by walk_at "ar") (by omega) (by omega) (N9 _ (.tail _ (.tail _ (.head _)))).2.2 (N9 _ (.tail _ (.tail _ (.tail _ (.head _))))).2.2 (N9 _ (.tail _ (.tail _ (.tail _ (.tail _ (.head _)))))).2.2 (N9 _ (.tail _ (.tail _ (.tail _ (.tail _ (.tail _ (.head _))))))).2.2 (N9 _ (.tail _ (.tail _ (.tail _ (.tail _ (.tail _ (.tail _ (.head _)))))))).2.2 (N9 _ (.tail _ (.tail _ (.tail _ (.tail _ (.tail _ (.tail _ (.tail _ (.head _))))))))).2.2 (N9 _ (.tail _ (.tail _ (.tail _ (.tail _ (.tail _ (.tail _ (.tail _ (.tail _ (.head _)))))))))).2.2 (N9 _ (.tail _ (.tail _ (.tail _ (.tail _ (.tail _ (.tail _ (.tail _ (.tail _ (.tail _ (.head _))))))))))).2.2 ?_
                  intro h7 tk7 A7 hk7 hrd7
                  have F8 := Fr.keeps F9 hk7
                  have N8 := News.grown N9 hk7
                  clear F9 N9
                  try dsimp only
                  repeat' ((fail_if_success (with_reducible show wpAny _ _ (compareOp _ _ _) _ _ _)); (first | (k_unfold; (try dsimp only)) | walk1 | (dsimp only; walk1) | fail "no step"))
                  rename Fr _ _ _ _ => F9
                  rename News _ _ _ _ => N9
                  refine ne_wit hrd7 (hmd.list (fun p hp => (N9 p (.tail _ (.tail _ (.tail _ (.tail _ (.tail _ (.tail _ (.tail _ (.tail _ (.tail _ (.tail _ (.tail _ (List.mem_append_left _ hp))))))))))))).1) (N9 _ (.tail _ (.tail _ (.tail _ (.tail _ (.tail _ (.tail _ (.tail _ (.tail _ (.tail _ (.tail _ (.head _)))))))))))).1) (by show callerA.units + 3 + 64 < cLine; decide +kernel) ?_
                  try dsimp only
                  repeat' ((fail_if_success (with_reducible show wpAny _ _ (subscriptTail _ _ _ _) _ _ _)); (first | (k_unfold; (try dsimp only)) | walk1 | (dsimp only; walk1) | fail "no step"))
                  rename Fr _ _ _ _ => F9
                  rename News _ _ _ _ => N9
                  refine tup3_0 (N9 _ (.head _)).1 ?_
                  repeat' ((fail_if_success (with_reducible show wpAny _ _ (subscriptTail _ _ _ _) _ _ _)); (first | (k_unfold; (try dsimp only)) | walk1 | (dsimp only; walk1) | fail "no step"))
                  refine tup3_0 (N9 _ (.tail _ (.head _))).1 ?_
                  repeat' ((fail_if_success (with_reducible show wpAny _ _ (call (.ref 77) _ _) _ _ _)); (first | (k_unfold; (try dsimp only)) | walk1 | (dsimp only; walk1) | fail "no step"))
                  rename Fr _ _ _ _ => F9
                  refine c_equal ⟨(N9 _ (.tail _ (.tail _ (.head _)))).1, (N9 _ (.tail _ (.tail _ (.tail _ (.head _))))).1, (N9 _ (.tail _ (.tail _ (.tail _ (.tail _ (.head _)))))).1, (N9 _ (.tail _ (.tail _ (.tail _ (.tail _ (.tail _ (.head _))))))).1, hvw, by omega⟩ ⟨(N9 _ (.tail _ (.tail _ (.tail _ (.tail _ (.tail _ (.tail _ (.head _)))))))).1, (N9 _ (.tail _ (.tail _ (.tail _ (.tail _ (.tail _ (.tail _ (.tail _ (.head _))))))))).1, (N9 _ (.tail _ (.tail _ (.tail _ (.tail _ (.tail _ (.tail _ (.tail _ (.tail _ (.head _)))))))))).1, (N9 _ (.tail _ (.tail _ (.tail _ (.tail _ (.tail _ (.tail _ (.tail _ (.tail _ (.tail _ (.head _))))))))))).1, hvw', by omega⟩ (gg.fr F9) (by walk_at "ar") (by walk_at "ar") (N9 _ (.tail _ (.tail _ (.head _)))).2.2 (N9 _ (.tail _ (.tail _ (.tail _ (.head _))))).2.2 (N9 _ (.tail _ (.tail _ (.tail _ (.tail _ (.head _)))))).2.2 (N9 _ (.tail _ (.tail _ (.tail _ (.tail _ (.tail _ (.head _))))))).2.2 (N9 _ (.tail _ (.tail _ (.tail _ (.tail _ (.tail _ (.tail _ (.head _)))))))).2.2 (N9 _ (.tail _ (.tail _ (.tail _ (.tail _ (.tail _ (.tail _ (.tail _ (.head _))))))))).2.2 (N9 _ (.tail _ (.tail _ (.tail _ (.tail _ (.tail _ (.tail _ (.tail _ (.tail _ (.head _)))))))))).2.2 (N9 _ (.tail _ (.tail _ (.tail _ (.tail _ (.tail _ (.tail _ (.tail _ (.tail _ (.tail _ (.head _))))))))))).2.2 ?_
                  intro h8 tk8 hk8
                  rw [eq_shade]
                  have F8 := Fr.keeps F9 hk8
                  have N8 := News.grown N9 hk8
                  clear F9 N9
                  try dsimp only
                  repeat' ((fail_if_success (with_reducible show wpAny _ _ (compareOp _ _ _) _ _ _)); (first | (k_unfold; (try dsimp only)) | walk1 | (dsimp only; walk1) | fail "no step"))
                  rename Fr _ _ _ _ => F9
                  rename News _ _ _ _ => N9
                  refine eq_wit_nil (hmd.list (fun p hp => (N9 p (.tail _ (.tail _ (.tail _ (.tail _ (.tail _ (.tail _ (.tail _ (.tail _ (.tail _ (.tail _ (.tail _ (.tail _ (List.mem_append_left _ hp)))))))))))))).1) (N9 _ (.tail _ (.tail _ (.tail _ (.tail _ (.tail _ (.tail _ (.tail _ (.tail _ (.tail _ (.tail _ (.tail _ (.head _))))))))))))).1) (N9 _ (.head _)).1 (by show callerA.units + 3 + 64 < cLine; decide +kernel) ?_
                  try dsimp only
                  repeat' ((fail_if_success (with_reducible show wpAny _ _ (compareOp _ _ _) _ _ _)); (first | (k_unfold; (try dsimp only)) | walk1 | (dsimp only; walk1) | fail "no step"))
                  generalize decide (witTo (fun z => (colOf z p : Int)) (fun z => (colOf z q : Int)) (max (longOf p) (longOf q) + 1) = []) = bb
                  refine ne_bool ?_
                  rw [show (bb != bb) = false by cases bb <;> rfl]
                  repeat' (first | (k_unfold; (try dsimp only)) | walk1 | (dsimp only; walk1) | fail "no step")
                  rename Fr _ _ _ _ => F9
                  rename News _ _ _ _ => N9
                  refine ⟨rfl, _, _, _, rfl, F9, ?_⟩
                  rw [hzz]
                  exact news_sub N9 (fun q hq => .tail _ (.tail _ (.tail _ (.tail _ (.tail _ (.tail _ (.tail _ (.tail _ (.tail _ (.tail _ (.tail _ (.tail _ (List.mem_append_right _ hq)))))))))))))
                · intro h tk m F N
                  repeat' (first | (k_unfold; (try dsimp only)) | walk1 | (dsimp only; walk1) | fail "no step")
                  dsimp only
                  repeat' (first | (k_unfold; (try dsimp only)) | (k_end; wrow_close) | walk1 | (dsimp only; walk1) | (leave1; walk_say "STEP leave1"; try dsimp only) | fail "no step")
                  subst hL0
                  subst hg0
                  exact law_end hg1 F
end Mine
end
theorem Mine.lnEndLaw : True := by
  k_with_none
  trivial
open PySem PySem.W PyProof.Rows
theorem PySem.Challenge.cw_mq0425_01_holds : PySem.Challenge.rw_mq0425_01.Holds := by
  exact Mine.lawT
