import PyProof.Rows.All
import Wide.All
import OpenK.AllK
import Wide.FinOn
import PySem.Sre
import KE.KCallOwn
import KE.KLcTest
import KE.KStar
import KE.KSuper
import KE.KTryDeep
import Lean
import PySem.Challenge.RW_xl0017_01
set_option linter.all false
section
open PySem PySem.W PyProof.Rows
set_option Elab.async false
set_option maxRecDepth 100000
namespace Mine
noncomputable def nthS : List Stmt → Nat → Stmt
  | s :: _, 0 => s
  | _ :: r, n + 1 => nthS r n
  | [], _ => .Pass default
noncomputable def top (i : Nat) : Stmt := nthS PySem.Challenge.pw_xl0017_01.main.body i
noncomputable def clsB : Stmt → List Stmt
  | .ClassDef _ _ _ b _ _ _ _ _ _ _ => b
  | _ => []
noncomputable def meth (i j : Nat) : Stmt := nthS (clsB (top i)) j
noncomputable def fArgs : Stmt → Arguments
  | .FunctionDef _ a _ _ _ _ _ _ _ _ => a
  | _ => { posonlyargs := [], args := [], vararg := none, kwonlyargs := [], kw_defaults := [], kwarg := none, defaults := [] }
noncomputable def fBody : Stmt → List Stmt
  | .FunctionDef _ _ b _ _ _ _ _ _ _ => b
  | _ => []
noncomputable def fScope : Stmt → Scope
  | .FunctionDef _ _ _ _ _ _ s _ _ _ => s
  | _ => default
noncomputable def ob2 (P : Params) : Obj := ⟨.none, none, (.dict [⟨PyData.keyHash P (Str.ofString "\x69mport.loaded._sre"), .str (Str.ofString "\x69mport.loaded._sre") 183, (.bool true)⟩, ⟨PyData.keyHash P (Str.ofString "class._frozen_importlib.BuiltinImporter"), .str (Str.ofString "class._frozen_importlib.BuiltinImporter") 185, (.ref 14)⟩, ⟨PyData.keyHash P (Str.ofString "watched.\x69mport"), .str (Str.ofString "watched.\x69mport") 206, (.ref 18)⟩, ⟨PyData.keyHash P (Str.ofString "class._frozen_importlib.ModuleSpec"), .str (Str.ofString "class._frozen_importlib.ModuleSpec") 216, (.ref 22)⟩, ⟨PyData.keyHash P (Str.ofString "sys.modules.booked-epoch"), .str (Str.ofString "sys.modules.booked-epoch") 245, (.int 3 0)⟩, ⟨PyData.keyHash P (Str.ofString "\x69mport.later-laid._sre"), .str (Str.ofString "\x69mport.later-laid._sre") 270, (.bool true)⟩, ⟨PyData.keyHash P (Str.ofString "watched.library"), .str (Str.ofString "watched.library") 272, (.ref 27)⟩, ⟨PyData.keyHash P (Str.ofString "watched.library-objects"), .str (Str.ofString "watched.library-objects") 0, (.str (Str.ofString "\x0c") 0)⟩, ⟨PyData.keyHash P (Str.ofString "watched.library-deep._sre"), .str (Str.ofString "watched.library-deep._sre") 273, (.str (Str.ofString "\x04\x00\x00\x0b\x04\x00\x00\x0b\x04\x00\x00\x03\x04\x00\x00\x0b\x08\x04dict\x02") 0)⟩, ⟨PyData.keyHash P (Str.ofString "type.__subclasses__.Exception.0"), .str (Str.ofString "type.__subclasses__.Exception.0") 517, (.int 209 0)⟩, ⟨PyData.keyHash P (Str.ofString "type.__subclasses__.Exception.n"), .str (Str.ofString "type.__subclasses__.Exception.n") 518, (.int 1 0)⟩].toArray 11), [].toArray⟩
noncomputable def ob3 (P : Params) : Obj := ⟨(.type "dict"), none, (.dict [⟨PyData.keyHash P (Str.ofString "__name__"), .str (Str.ofString "__name__") 165, (.str (Str.ofString "law_xl0017_01") 617)⟩, ⟨PyData.keyHash P (Str.ofString "__doc__"), .str (Str.ofString "__doc__") 166, .none⟩, ⟨PyData.keyHash P (Str.ofString "__package__"), .str (Str.ofString "__package__") 167, .none⟩, ⟨PyData.keyHash P (Str.ofString "__loader__"), .str (Str.ofString "__loader__") 168, (.builtin "__main__.__loader__#opaque")⟩, ⟨PyData.keyHash P (Str.ofString "__spec__"), .str (Str.ofString "__spec__") 169, .none⟩, ⟨PyData.keyHash P (Str.ofString "__annotations__"), .str (Str.ofString "__annotations__") 170, (.ref 6)⟩, ⟨PyData.keyHash P (Str.ofString "__builtins__"), .str (Str.ofString "__builtins__") 171, (.ref 4)⟩, ⟨PyData.keyHash P (Str.ofString "__file__"), .str (Str.ofString "__file__") 173, (.str (Str.ofString "/claim/cut.py") 172)⟩, ⟨PyData.keyHash P (Str.ofString "__cached__"), .str (Str.ofString "__cached__") 174, .none⟩, ⟨PyData.keyHash P (Str.ofString "_sre"), .str (Str.ofString "_sre") 275, (.ref 12)⟩, ⟨PyData.keyHash P (Str.ofString "_wall"), .str (Str.ofString "_wall") 288, (.ref 38)⟩, ⟨PyData.keyHash P (Str.ofString "NL"), .str (Str.ofString "NL") 292, (.str (Str.ofString "\n") 291)⟩, ⟨PyData.keyHash P (Str.ofString "EMPTYSTRING"), .str (Str.ofString "EMPTYSTRING") 294, (.str (Str.ofString "") 293)⟩, ⟨PyData.keyHash P (Str.ofString "_ValueFormatter"), .str (Str.ofString "_ValueFormatter") 402, (.ref 111)⟩, ⟨PyData.keyHash P (Str.ofString "_Accumulator"), .str (Str.ofString "_Accumulator") 498, (.ref 195)⟩, ⟨PyData.keyHash P (Str.ofString "Error"), .str (Str.ofString "Error") 520, (.ref 209)⟩, ⟨PyData.keyHash P (Str.ofString "error_reply"), .str (Str.ofString "error_reply") 536, (.ref 222)⟩, ⟨PyData.keyHash P (Str.ofString "parse257"), .str (Str.ofString "parse257") 547, (.ref 231)⟩, ⟨PyData.keyHash P (Str.ofString "_twin_re_1"), .str (Str.ofString "_twin_re_1") 565, (.ref 236)⟩, ⟨PyData.keyHash P (Str.ofString "_twin_re_2"), .str (Str.ofString "_twin_re_2") 607, (.ref 241)⟩, ⟨PyData.keyHash P (Str.ofString "CRLF"), .str (Str.ofString "CRLF") 609, (.str (Str.ofString "\r\n") 608)⟩, ⟨PyData.keyHash P (Str.ofString "quotedata"), .str (Str.ofString "quotedata") 616, (.ref 248)⟩, ⟨PyData.keyHash P (Str.ofString "_law_number"), .str (Str.ofString "_law_number") 627, (.ref 255)⟩, ⟨PyData.keyHash P (Str.ofString "_law_folded"), .str (Str.ofString "_law_folded") 641, (.ref 262)⟩, ⟨PyData.keyHash P (Str.ofString "_law_told"), .str (Str.ofString "_law_told") 654, (.ref 269)⟩, ⟨PyData.keyHash P (Str.ofString "_law_beside"), .str (Str.ofString "_law_beside") 660, (.ref 274)⟩, ⟨PyData.keyHash P (Str.ofString "_law_refused"), .str (Str.ofString "_law_refused") 667, (.ref 281)⟩, ⟨PyData.keyHash P (Str.ofString "_law_read"), .str (Str.ofString "_law_read") 677, (.ref 288)⟩, ⟨PyData.keyHash P (Str.ofString "law"), .str (Str.ofString "law") 683, (.ref 293)⟩].toArray 29), [].toArray⟩
noncomputable def ob51 (_P : Params) : Obj := ⟨(.type "code"), none, (.fields [(.str (Str.ofString "__init__") 307), (.str (Str.ofString "_ValueFormatter.__init__") 308), (.str (Str.ofString "/claim/cut.py") 309), (.int 10 0), (.int 5 0), (.int 0 0), (.int 0 0), (.int 3 0), (.ref 46), (.bool true), (.int 276 0), (.ref 47), .none, (.ref 48), (.ref 49), (.ref 50), (.int 315 0), (.int 10 0), (.str (Str.ofString "/claim/cut.py") 316)].toArray), [].toArray⟩
noncomputable def ob52 (_P : Params) : Obj := ⟨(.type "function"), none, (.func { name := (Str.ofString "__init__"), qualname := (Str.ofString "_ValueFormatter.__init__"), params := fArgs (meth 5 0), body := .stmts (fBody (meth 5 0)), scope := fScope (meth 5 0), globals := 3, closure := [], defaults := .none, kwdefaults := .none, doc := .none, pyModule := (.str (Str.ofString "cpy313.email.header") 289), annotations := none, code := (.ref 51), closureTuple := .none, builtins := 0 }), [].toArray⟩
noncomputable def ob58 (_P : Params) : Obj := ⟨(.type "code"), none, (.fields [(.str (Str.ofString "_str") 318), (.str (Str.ofString "_ValueFormatter._str") 319), (.str (Str.ofString "/claim/cut.py") 320), (.int 18 0), (.int 2 0), (.int 0 0), (.int 0 0), (.int 3 0), (.ref 53), (.bool true), (.int 276 0), (.ref 54), .none, (.ref 55), (.ref 56), (.ref 57), (.int 323 0), (.int 18 0), (.str (Str.ofString "/claim/cut.py") 324)].toArray), [].toArray⟩
noncomputable def ob59 (_P : Params) : Obj := ⟨(.type "function"), none, (.func { name := (Str.ofString "_str"), qualname := (Str.ofString "_ValueFormatter._str"), params := fArgs (meth 5 1), body := .stmts (fBody (meth 5 1)), scope := fScope (meth 5 1), globals := 3, closure := [], defaults := .none, kwdefaults := .none, doc := .none, pyModule := (.str (Str.ofString "cpy313.email.header") 289), annotations := none, code := (.ref 58), closureTuple := .none, builtins := 0 }), [].toArray⟩
noncomputable def ob65 (_P : Params) : Obj := ⟨(.type "code"), none, (.fields [(.str (Str.ofString "__str__") 326), (.str (Str.ofString "_ValueFormatter.__str__") 327), (.str (Str.ofString "/claim/cut.py") 328), (.int 22 0), (.int 1 0), (.int 0 0), (.int 0 0), (.int 3 0), (.ref 60), (.bool true), (.int 276 0), (.ref 61), .none, (.ref 62), (.ref 63), (.ref 64), (.int 330 0), (.int 22 0), (.str (Str.ofString "/claim/cut.py") 331)].toArray), [].toArray⟩
noncomputable def ob66 (_P : Params) : Obj := ⟨(.type "function"), none, (.func { name := (Str.ofString "__str__"), qualname := (Str.ofString "_ValueFormatter.__str__"), params := fArgs (meth 5 2), body := .stmts (fBody (meth 5 2)), scope := fScope (meth 5 2), globals := 3, closure := [], defaults := .none, kwdefaults := .none, doc := .none, pyModule := (.str (Str.ofString "cpy313.email.header") 289), annotations := none, code := (.ref 65), closureTuple := .none, builtins := 0 }), [].toArray⟩
noncomputable def ob72 (_P : Params) : Obj := ⟨(.type "code"), none, (.fields [(.str (Str.ofString "newline") 333), (.str (Str.ofString "_ValueFormatter.newline") 334), (.str (Str.ofString "/claim/cut.py") 335), (.int 25 0), (.int 1 0), (.int 0 0), (.int 0 0), (.int 3 0), (.ref 67), (.bool true), (.int 276 0), (.ref 68), .none, (.ref 69), (.ref 70), (.ref 71), (.int 338 0), (.int 25 0), (.str (Str.ofString "/claim/cut.py") 339)].toArray), [].toArray⟩
noncomputable def ob73 (_P : Params) : Obj := ⟨(.type "function"), none, (.func { name := (Str.ofString "newline"), qualname := (Str.ofString "_ValueFormatter.newline"), params := fArgs (meth 5 3), body := .stmts (fBody (meth 5 3)), scope := fScope (meth 5 3), globals := 3, closure := [], defaults := .none, kwdefaults := .none, doc := .none, pyModule := (.str (Str.ofString "cpy313.email.header") 289), annotations := none, code := (.ref 72), closureTuple := .none, builtins := 0 }), [].toArray⟩
noncomputable def ob107 (_P : Params) : Obj := ⟨(.type "code"), none, (.fields [(.str (Str.ofString "_append_chunk") 375), (.str (Str.ofString "_ValueFormatter._append_chunk") 376), (.str (Str.ofString "/claim/cut.py") 377), (.int 48 0), (.int 3 0), (.int 0 0), (.int 0 0), (.int 3 0), (.ref 102), (.bool true), (.int 276 0), (.ref 103), .none, (.ref 104), (.ref 105), (.ref 106), (.int 386 0), (.int 48 0), (.str (Str.ofString "/claim/cut.py") 387)].toArray), [].toArray⟩
noncomputable def ob108 (_P : Params) : Obj := ⟨(.type "function"), none, (.func { name := (Str.ofString "_append_chunk"), qualname := (Str.ofString "_ValueFormatter._append_chunk"), params := fArgs (meth 5 8), body := .stmts (fBody (meth 5 8)), scope := fScope (meth 5 8), globals := 3, closure := [], defaults := .none, kwdefaults := .none, doc := .none, pyModule := (.str (Str.ofString "cpy313.email.header") 289), annotations := none, code := (.ref 107), closureTuple := .none, builtins := 0 }), [].toArray⟩
noncomputable def ob110 (P : Params) : Obj := ⟨(.type "dict"), none, (.dict [⟨PyData.keyHash P (Str.ofString "__module__"), .str (Str.ofString "__module__") 302, (.str (Str.ofString "cpy313.email.header") 289)⟩, ⟨PyData.keyHash P (Str.ofString "__firstlineno__"), .str (Str.ofString "__firstlineno__") 306, (.int 8 305)⟩, ⟨PyData.keyHash P (Str.ofString "__init__"), .str (Str.ofString "__init__") 317, (.ref 52)⟩, ⟨PyData.keyHash P (Str.ofString "_str"), .str (Str.ofString "_str") 325, (.ref 59)⟩, ⟨PyData.keyHash P (Str.ofString "__str__"), .str (Str.ofString "__str__") 332, (.ref 66)⟩, ⟨PyData.keyHash P (Str.ofString "newline"), .str (Str.ofString "newline") 340, (.ref 73)⟩, ⟨PyData.keyHash P (Str.ofString "add_transition"), .str (Str.ofString "add_transition") 347, (.ref 80)⟩, ⟨PyData.keyHash P (Str.ofString "feed"), .str (Str.ofString "feed") 357, (.ref 87)⟩, ⟨PyData.keyHash P (Str.ofString "_maxlengths"), .str (Str.ofString "_maxlengths") 364, (.ref 94)⟩, ⟨PyData.keyHash P (Str.ofString "_ascii_split"), .str (Str.ofString "_ascii_split") 374, (.ref 101)⟩, ⟨PyData.keyHash P (Str.ofString "_append_chunk"), .str (Str.ofString "_append_chunk") 388, (.ref 108)⟩, ⟨PyData.keyHash P (Str.ofString "__static_attributes__"), .str (Str.ofString "__static_attributes__") 395, (.ref 109)⟩, ⟨PyData.keyHash P (Str.ofString "__dict__"), .str (Str.ofString "__dict__") 397, (.ref 112)⟩, ⟨PyData.keyHash P (Str.ofString "__weakref__"), .str (Str.ofString "__weakref__") 399, (.ref 113)⟩, ⟨PyData.keyHash P (Str.ofString "__doc__"), .str (Str.ofString "__doc__") 400, .none⟩].toArray 4), [].toArray⟩
noncomputable def ob111 (_P : Params) : Obj := ⟨(.type "type"), none, (.cls { name := (Str.ofString "_ValueFormatter"), bases := [(.type "object")], mro := [(.ref 111), (.type "object")], ns := 110, qualname := (Str.ofString "_ValueFormatter"), hasDict := true, slotNames := [], subclasses := [], abstract := false, collection := none, hasDel := false }), [none, none, (some (.str (Str.ofString "_ValueFormatter") 295)), (some (.str (Str.ofString "_ValueFormatter") 303)), (some (.builtin "object.__new__")), (some (.bool true))].toArray⟩
noncomputable def ob112 (_P : Params) : Obj := ⟨(.type "getset_descriptor"), none, (.fields [(.str (Str.ofString "__dict__") 396), (.ref 111), (.builtin "function.__dict__"), (.builtin "function.__dict__#set")].toArray), [].toArray⟩
noncomputable def ob113 (_P : Params) : Obj := ⟨(.type "getset_descriptor"), none, (.fields [(.str (Str.ofString "__weakref__") 398), (.ref 111), (.builtin "ExceptionGroup.__weakref__"), .none].toArray), [].toArray⟩
noncomputable def ob119 (_P : Params) : Obj := ⟨(.type "cell"), none, (.cell (some (.ref 195))), [].toArray⟩
noncomputable def ob124 (_P : Params) : Obj := ⟨(.type "tuple"), none, (.seq [(.int 0 415)].toArray 0), [].toArray⟩
noncomputable def ob125 (_P : Params) : Obj := ⟨(.type "tuple"), none, (.seq [(.ref 119)].toArray 0), [].toArray⟩
noncomputable def ob131 (_P : Params) : Obj := ⟨(.type "code"), none, (.fields [(.str (Str.ofString "__init__") 416), (.str (Str.ofString "_Accumulator.__init__") 417), (.str (Str.ofString "/claim/cut.py") 418), (.int 76 0), (.int 2 0), (.int 0 0), (.int 0 0), (.int 3 0), (.ref 126), (.bool true), (.int 276 0), (.ref 127), .none, (.ref 128), (.ref 129), (.ref 130), (.int 422 0), (.int 76 0), (.str (Str.ofString "/claim/cut.py") 423)].toArray), [].toArray⟩
noncomputable def ob132 (_P : Params) : Obj := ⟨(.type "function"), none, (.func { name := (Str.ofString "__init__"), qualname := (Str.ofString "_Accumulator.__init__"), params := fArgs (meth 6 0), body := .stmts (fBody (meth 6 0)), scope := fScope (meth 6 0), globals := 3, closure := [((Str.ofString "__class__"), 119)], defaults := (.ref 124), kwdefaults := .none, doc := .none, pyModule := (.str (Str.ofString "cpy313.email.header") 289), annotations := none, code := (.ref 131), closureTuple := (.ref 125), builtins := 0 }), [].toArray⟩
noncomputable def ob138 (_P : Params) : Obj := ⟨(.type "code"), none, (.fields [(.str (Str.ofString "push") 425), (.str (Str.ofString "_Accumulator.push") 426), (.str (Str.ofString "/claim/cut.py") 427), (.int 80 0), (.int 3 0), (.int 0 0), (.int 0 0), (.int 3 0), (.ref 133), (.bool true), (.int 276 0), (.ref 134), .none, (.ref 135), (.ref 136), (.ref 137), (.int 431 0), (.int 80 0), (.str (Str.ofString "/claim/cut.py") 432)].toArray), [].toArray⟩
noncomputable def ob139 (_P : Params) : Obj := ⟨(.type "function"), none, (.func { name := (Str.ofString "push"), qualname := (Str.ofString "_Accumulator.push"), params := fArgs (meth 6 1), body := .stmts (fBody (meth 6 1)), scope := fScope (meth 6 1), globals := 3, closure := [], defaults := .none, kwdefaults := .none, doc := .none, pyModule := (.str (Str.ofString "cpy313.email.header") 289), annotations := none, code := (.ref 138), closureTuple := .none, builtins := 0 }), [].toArray⟩
noncomputable def ob140 (_P : Params) : Obj := ⟨(.type "tuple"), none, (.seq [(.int 0 434)].toArray 0), [].toArray⟩
noncomputable def ob146 (_P : Params) : Obj := ⟨(.type "code"), none, (.fields [(.str (Str.ofString "pop_from") 435), (.str (Str.ofString "_Accumulator.pop_from") 436), (.str (Str.ofString "/claim/cut.py") 437), (.int 83 0), (.int 2 0), (.int 0 0), (.int 0 0), (.int 3 0), (.ref 141), (.bool true), (.int 276 0), (.ref 142), .none, (.ref 143), (.ref 144), (.ref 145), (.int 441 0), (.int 83 0), (.str (Str.ofString "/claim/cut.py") 442)].toArray), [].toArray⟩
noncomputable def ob147 (_P : Params) : Obj := ⟨(.type "function"), none, (.func { name := (Str.ofString "pop_from"), qualname := (Str.ofString "_Accumulator.pop_from"), params := fArgs (meth 6 2), body := .stmts (fBody (meth 6 2)), scope := fScope (meth 6 2), globals := 3, closure := [], defaults := (.ref 140), kwdefaults := .none, doc := .none, pyModule := (.str (Str.ofString "cpy313.email.header") 289), annotations := none, code := (.ref 146), closureTuple := .none, builtins := 0 }), [].toArray⟩
noncomputable def ob148 (_P : Params) : Obj := ⟨(.type "tuple"), none, (.seq [(.ref 119)].toArray 0), [].toArray⟩
noncomputable def ob154 (_P : Params) : Obj := ⟨(.type "code"), none, (.fields [(.str (Str.ofString "pop") 444), (.str (Str.ofString "_Accumulator.pop") 445), (.str (Str.ofString "/claim/cut.py") 446), (.int 88 0), (.int 1 0), (.int 0 0), (.int 0 0), (.int 3 0), (.ref 149), (.bool true), (.int 276 0), (.ref 150), .none, (.ref 151), (.ref 152), (.ref 153), (.int 449 0), (.int 88 0), (.str (Str.ofString "/claim/cut.py") 450)].toArray), [].toArray⟩
noncomputable def ob155 (_P : Params) : Obj := ⟨(.type "function"), none, (.func { name := (Str.ofString "pop"), qualname := (Str.ofString "_Accumulator.pop"), params := fArgs (meth 6 3), body := .stmts (fBody (meth 6 3)), scope := fScope (meth 6 3), globals := 3, closure := [((Str.ofString "__class__"), 119)], defaults := .none, kwdefaults := .none, doc := .none, pyModule := (.str (Str.ofString "cpy313.email.header") 289), annotations := none, code := (.ref 154), closureTuple := (.ref 148), builtins := 0 }), [].toArray⟩
noncomputable def ob161 (_P : Params) : Obj := ⟨(.type "code"), none, (.fields [(.str (Str.ofString "__len__") 452), (.str (Str.ofString "_Accumulator.__len__") 453), (.str (Str.ofString "/claim/cut.py") 454), (.int 93 0), (.int 1 0), (.int 0 0), (.int 0 0), (.int 3 0), (.ref 156), (.bool true), (.int 276 0), (.ref 157), .none, (.ref 158), (.ref 159), (.ref 160), (.int 456 0), (.int 93 0), (.str (Str.ofString "/claim/cut.py") 457)].toArray), [].toArray⟩
noncomputable def ob162 (_P : Params) : Obj := ⟨(.type "function"), none, (.func { name := (Str.ofString "__len__"), qualname := (Str.ofString "_Accumulator.__len__"), params := fArgs (meth 6 4), body := .stmts (fBody (meth 6 4)), scope := fScope (meth 6 4), globals := 3, closure := [], defaults := .none, kwdefaults := .none, doc := .none, pyModule := (.str (Str.ofString "cpy313.email.header") 289), annotations := none, code := (.ref 161), closureTuple := .none, builtins := 0 }), [].toArray⟩
noncomputable def ob168 (_P : Params) : Obj := ⟨(.type "code"), none, (.fields [(.str (Str.ofString "__str__") 459), (.str (Str.ofString "_Accumulator.__str__") 460), (.str (Str.ofString "/claim/cut.py") 461), (.int 96 0), (.int 1 0), (.int 0 0), (.int 0 0), (.int 3 0), (.ref 163), (.bool true), (.int 276 0), (.ref 164), .none, (.ref 165), (.ref 166), (.ref 167), (.int 463 0), (.int 96 0), (.str (Str.ofString "/claim/cut.py") 464)].toArray), [].toArray⟩
noncomputable def ob169 (_P : Params) : Obj := ⟨(.type "function"), none, (.func { name := (Str.ofString "__str__"), qualname := (Str.ofString "_Accumulator.__str__"), params := fArgs (meth 6 5), body := .stmts (fBody (meth 6 5)), scope := fScope (meth 6 5), globals := 3, closure := [], defaults := .none, kwdefaults := .none, doc := .none, pyModule := (.str (Str.ofString "cpy313.email.header") 289), annotations := none, code := (.ref 168), closureTuple := .none, builtins := 0 }), [].toArray⟩
noncomputable def ob170 (_P : Params) : Obj := ⟨(.type "tuple"), none, (.seq [.none].toArray 0), [].toArray⟩
noncomputable def ob176 (_P : Params) : Obj := ⟨(.type "code"), none, (.fields [(.str (Str.ofString "reset") 466), (.str (Str.ofString "_Accumulator.reset") 467), (.str (Str.ofString "/claim/cut.py") 468), (.int 99 0), (.int 2 0), (.int 0 0), (.int 0 0), (.int 3 0), (.ref 171), (.bool true), (.int 276 0), (.ref 172), .none, (.ref 173), (.ref 174), (.ref 175), (.int 471 0), (.int 99 0), (.str (Str.ofString "/claim/cut.py") 472)].toArray), [].toArray⟩
noncomputable def ob177 (_P : Params) : Obj := ⟨(.type "function"), none, (.func { name := (Str.ofString "reset"), qualname := (Str.ofString "_Accumulator.reset"), params := fArgs (meth 6 6), body := .stmts (fBody (meth 6 6)), scope := fScope (meth 6 6), globals := 3, closure := [], defaults := (.ref 170), kwdefaults := .none, doc := .none, pyModule := (.str (Str.ofString "cpy313.email.header") 289), annotations := none, code := (.ref 176), closureTuple := .none, builtins := 0 }), [].toArray⟩
noncomputable def ob183 (_P : Params) : Obj := ⟨(.type "code"), none, (.fields [(.str (Str.ofString "is_onlyws") 474), (.str (Str.ofString "_Accumulator.is_onlyws") 475), (.str (Str.ofString "/claim/cut.py") 476), (.int 105 0), (.int 1 0), (.int 0 0), (.int 0 0), (.int 3 0), (.ref 178), (.bool true), (.int 276 0), (.ref 179), .none, (.ref 180), (.ref 181), (.ref 182), (.int 478 0), (.int 105 0), (.str (Str.ofString "/claim/cut.py") 479)].toArray), [].toArray⟩
noncomputable def ob184 (_P : Params) : Obj := ⟨(.type "function"), none, (.func { name := (Str.ofString "is_onlyws"), qualname := (Str.ofString "_Accumulator.is_onlyws"), params := fArgs (meth 6 7), body := .stmts (fBody (meth 6 7)), scope := fScope (meth 6 7), globals := 3, closure := [], defaults := .none, kwdefaults := .none, doc := .none, pyModule := (.str (Str.ofString "cpy313.email.header") 289), annotations := none, code := (.ref 183), closureTuple := .none, builtins := 0 }), [].toArray⟩
noncomputable def ob185 (_P : Params) : Obj := ⟨(.type "tuple"), none, (.seq [(.ref 119)].toArray 0), [].toArray⟩
noncomputable def ob191 (_P : Params) : Obj := ⟨(.type "code"), none, (.fields [(.str (Str.ofString "part_count") 481), (.str (Str.ofString "_Accumulator.part_count") 482), (.str (Str.ofString "/claim/cut.py") 483), (.int 108 0), (.int 1 0), (.int 0 0), (.int 0 0), (.int 3 0), (.ref 186), (.bool true), (.int 276 0), (.ref 187), .none, (.ref 188), (.ref 189), (.ref 190), (.int 486 0), (.int 108 0), (.str (Str.ofString "/claim/cut.py") 487)].toArray), [].toArray⟩
noncomputable def ob192 (_P : Params) : Obj := ⟨(.type "function"), none, (.func { name := (Str.ofString "part_count"), qualname := (Str.ofString "_Accumulator.part_count"), params := fArgs (meth 6 8), body := .stmts (fBody (meth 6 8)), scope := fScope (meth 6 8), globals := 3, closure := [((Str.ofString "__class__"), 119)], defaults := .none, kwdefaults := .none, doc := .none, pyModule := (.str (Str.ofString "cpy313.email.header") 289), annotations := none, code := (.ref 191), closureTuple := (.ref 185), builtins := 0 }), [].toArray⟩
noncomputable def ob194 (P : Params) : Obj := ⟨(.type "dict"), none, (.dict [⟨PyData.keyHash P (Str.ofString "__module__"), .str (Str.ofString "__module__") 410, (.str (Str.ofString "cpy313.email.header") 289)⟩, ⟨PyData.keyHash P (Str.ofString "__firstlineno__"), .str (Str.ofString "__firstlineno__") 414, (.int 74 413)⟩, ⟨PyData.keyHash P (Str.ofString "__init__"), .str (Str.ofString "__init__") 424, (.ref 132)⟩, ⟨PyData.keyHash P (Str.ofString "push"), .str (Str.ofString "push") 433, (.ref 139)⟩, ⟨PyData.keyHash P (Str.ofString "pop_from"), .str (Str.ofString "pop_from") 443, (.ref 147)⟩, ⟨PyData.keyHash P (Str.ofString "pop"), .str (Str.ofString "pop") 451, (.ref 155)⟩, ⟨PyData.keyHash P (Str.ofString "__len__"), .str (Str.ofString "__len__") 458, (.ref 162)⟩, ⟨PyData.keyHash P (Str.ofString "__str__"), .str (Str.ofString "__str__") 465, (.ref 169)⟩, ⟨PyData.keyHash P (Str.ofString "reset"), .str (Str.ofString "reset") 473, (.ref 177)⟩, ⟨PyData.keyHash P (Str.ofString "is_onlyws"), .str (Str.ofString "is_onlyws") 480, (.ref 184)⟩, ⟨PyData.keyHash P (Str.ofString "part_count"), .str (Str.ofString "part_count") 488, (.ref 192)⟩, ⟨PyData.keyHash P (Str.ofString "__static_attributes__"), .str (Str.ofString "__static_attributes__") 490, (.ref 193)⟩, ⟨PyData.keyHash P (Str.ofString "__dict__"), .str (Str.ofString "__dict__") 493, (.ref 196)⟩, ⟨PyData.keyHash P (Str.ofString "__weakref__"), .str (Str.ofString "__weakref__") 495, (.ref 197)⟩, ⟨PyData.keyHash P (Str.ofString "__doc__"), .str (Str.ofString "__doc__") 496, .none⟩].toArray 5), [].toArray⟩
noncomputable def ob195 (_P : Params) : Obj := ⟨(.type "type"), none, (.cls { name := (Str.ofString "_Accumulator"), bases := [(.type "list")], mro := [(.ref 195), (.type "list"), (.type "object")], ns := 194, qualname := (Str.ofString "_Accumulator"), hasDict := true, slotNames := [], subclasses := [], abstract := false, collection := none, hasDel := false }), [(some (.ref 116)), none, (some (.str (Str.ofString "_Accumulator") 403)), (some (.str (Str.ofString "_Accumulator") 411)), (some (.builtin "list.__new__")), (some (.bool true))].toArray⟩
noncomputable def ob196 (_P : Params) : Obj := ⟨(.type "getset_descriptor"), none, (.fields [(.str (Str.ofString "__dict__") 492), (.ref 195), (.builtin "function.__dict__"), (.builtin "function.__dict__#set")].toArray), [].toArray⟩
noncomputable def ob197 (_P : Params) : Obj := ⟨(.type "getset_descriptor"), none, (.fields [(.str (Str.ofString "__weakref__") 494), (.ref 195), (.builtin "ExceptionGroup.__weakref__"), .none].toArray), [].toArray⟩
noncomputable def ob208 (P : Params) : Obj := ⟨(.type "dict"), none, (.dict [⟨PyData.keyHash P (Str.ofString "__module__"), .str (Str.ofString "__module__") 508, (.str (Str.ofString "cpy313.ftplib") 499)⟩, ⟨PyData.keyHash P (Str.ofString "__firstlineno__"), .str (Str.ofString "__firstlineno__") 512, (.int 111 511)⟩, ⟨PyData.keyHash P (Str.ofString "__static_attributes__"), .str (Str.ofString "__static_attributes__") 513, (.ref 207)⟩, ⟨PyData.keyHash P (Str.ofString "__weakref__"), .str (Str.ofString "__weakref__") 515, (.ref 210)⟩, ⟨PyData.keyHash P (Str.ofString "__doc__"), .str (Str.ofString "__doc__") 516, .none⟩].toArray 3), [].toArray⟩
noncomputable def ob209 (_P : Params) : Obj := ⟨(.type "type"), none, (.cls { name := (Str.ofString "Error"), bases := [(.type "Exception")], mro := [(.ref 209), (.type "Exception"), (.type "BaseException"), (.type "object")], ns := 208, qualname := (Str.ofString "Error"), hasDict := true, slotNames := [], subclasses := [(.ref 222)], abstract := false, collection := none, hasDel := false }), [(some (.ref 200)), none, (some (.str (Str.ofString "Error") 501)), (some (.str (Str.ofString "Error") 509)), (some (.builtin "Exception.__new__")), (some (.bool true))].toArray⟩
noncomputable def ob210 (_P : Params) : Obj := ⟨(.type "getset_descriptor"), none, (.fields [(.str (Str.ofString "__weakref__") 514), (.ref 209), (.builtin "ExceptionGroup.__weakref__"), .none].toArray), [].toArray⟩
noncomputable def ob221 (P : Params) : Obj := ⟨(.type "dict"), none, (.dict [⟨PyData.keyHash P (Str.ofString "__module__"), .str (Str.ofString "__module__") 528, (.str (Str.ofString "cpy313.ftplib") 499)⟩, ⟨PyData.keyHash P (Str.ofString "__firstlineno__"), .str (Str.ofString "__firstlineno__") 532, (.int 113 531)⟩, ⟨PyData.keyHash P (Str.ofString "__static_attributes__"), .str (Str.ofString "__static_attributes__") 533, (.ref 220)⟩, ⟨PyData.keyHash P (Str.ofString "__doc__"), .str (Str.ofString "__doc__") 534, .none⟩].toArray 2), [].toArray⟩
noncomputable def ob222 (_P : Params) : Obj := ⟨(.type "type"), none, (.cls { name := (Str.ofString "error_reply"), bases := [(.ref 209)], mro := [(.ref 222), (.ref 209), (.type "Exception"), (.type "BaseException"), (.type "object")], ns := 221, qualname := (Str.ofString "error_reply"), hasDict := true, slotNames := [], subclasses := [], abstract := false, collection := none, hasDel := false }), [(some (.ref 213)), none, (some (.str (Str.ofString "error_reply") 521)), (some (.str (Str.ofString "error_reply") 529)), (some (.builtin "Exception.__new__")), (some (.bool true))].toArray⟩
noncomputable def ob230 (_P : Params) : Obj := ⟨(.type "code"), none, (.fields [(.str (Str.ofString "parse257") 537), (.str (Str.ofString "parse257") 538), (.str (Str.ofString "/claim/cut.py") 539), (.int 115 0), (.int 1 0), (.int 0 0), (.int 0 0), (.int 3 0), (.ref 225), (.bool true), (.int 276 0), (.ref 226), .none, (.ref 227), (.ref 228), (.ref 229), (.int 545 0), (.int 115 0), (.str (Str.ofString "/claim/cut.py") 546)].toArray), [].toArray⟩
noncomputable def ob231 (_P : Params) : Obj := ⟨(.type "function"), none, (.func { name := (Str.ofString "parse257"), qualname := (Str.ofString "parse257"), params := fArgs (top 10), body := .stmts (fBody (top 10)), scope := fScope (top 10), globals := 3, closure := [], defaults := .none, kwdefaults := .none, doc := .none, pyModule := (.str (Str.ofString "cpy313.ftplib") 499), annotations := none, code := (.ref 230), closureTuple := .none, builtins := 0 }), [].toArray⟩
noncomputable def ob235 (_P : Params) : Obj := ⟨(.type "tuple"), none, (.seq [(.int 14 0), (.int 4 0), (.int 0 0), (.int 1 0), (.int 1 0), (.int 6 0), (.int 1 0), (.int 16 0), (.int 46 0), (.int 1 0)].toArray 0), [].toArray⟩
noncomputable def ob236 (_P : Params) : Obj := ⟨(.type "re.Pattern"), none, (.fields [(.str (Str.ofString "(?m)^\\.") 551), (.int 40 564), (.int 0 0), .none, .none, (.ref 235), (.int 0 0)].toArray), [].toArray⟩
noncomputable def ob240 (_P : Params) : Obj := ⟨(.type "tuple"), none, (.seq [(.int 14 0), (.int 9 0), (.int 4 0), (.int 1 0), (.int 2 0), (.int 16 0), (.int 10 0), (.int 16 0), (.int 13 0), (.int 0 0), (.int 7 0), (.int 7 0), (.int 16 0), (.int 13 0), (.int 16 0), (.int 10 0), (.int 15 0), (.int 18 0), (.int 5 0), (.int 16 0), (.int 10 0), (.int 15 0), (.int 13 0), (.int 11 0), (.int 16 0), (.int 13 0), (.int 5 0), (.int 5 0), (.int 0 0), (.int 16 0), (.int 10 0), (.int 1 0), (.int 15 0), (.int 2 0), (.int 0 0), (.int 1 0)].toArray 0), [].toArray⟩
noncomputable def ob241 (_P : Params) : Obj := ⟨(.type "re.Pattern"), none, (.fields [(.str (Str.ofString "(?:\\r\\n|\\n|\\r(?!\\n))") 567), (.int 32 606), (.int 0 0), .none, .none, (.ref 240), (.int 0 0)].toArray), [].toArray⟩
noncomputable def ob247 (_P : Params) : Obj := ⟨(.type "code"), none, (.fields [(.str (Str.ofString "quotedata") 610), (.str (Str.ofString "quotedata") 611), (.str (Str.ofString "/claim/cut.py") 612), (.int 136 0), (.int 1 0), (.int 0 0), (.int 0 0), (.int 3 0), (.ref 242), (.bool true), (.int 276 0), (.ref 243), .none, (.ref 244), (.ref 245), (.ref 246), (.int 614 0), (.int 136 0), (.str (Str.ofString "/claim/cut.py") 615)].toArray), [].toArray⟩
noncomputable def ob248 (_P : Params) : Obj := ⟨(.type "function"), none, (.func { name := (Str.ofString "quotedata"), qualname := (Str.ofString "quotedata"), params := fArgs (top 15), body := .stmts (fBody (top 15)), scope := fScope (top 15), globals := 3, closure := [], defaults := .none, kwdefaults := .none, doc := .none, pyModule := (.str (Str.ofString "cpy313.smtplib") 548), annotations := none, code := (.ref 247), closureTuple := .none, builtins := 0 }), [].toArray⟩
noncomputable def ob254 (_P : Params) : Obj := ⟨(.type "code"), none, (.fields [(.str (Str.ofString "_law_number") 619), (.str (Str.ofString "_law_number") 620), (.str (Str.ofString "/claim/cut.py") 621), (.int 139 0), (.int 2 0), (.int 0 0), (.int 0 0), (.int 3 0), (.ref 249), (.bool true), (.int 276 0), (.ref 250), .none, (.ref 251), (.ref 252), (.ref 253), (.int 625 0), (.int 139 0), (.str (Str.ofString "/claim/cut.py") 626)].toArray), [].toArray⟩
noncomputable def ob255 (_P : Params) : Obj := ⟨(.type "function"), none, (.func { name := (Str.ofString "_law_number"), qualname := (Str.ofString "_law_number"), params := fArgs (top 17), body := .stmts (fBody (top 17)), scope := fScope (top 17), globals := 3, closure := [], defaults := .none, kwdefaults := .none, doc := .none, pyModule := (.str (Str.ofString "law_xl0017_01") 617), annotations := none, code := (.ref 254), closureTuple := .none, builtins := 0 }), [].toArray⟩
noncomputable def ob261 (_P : Params) : Obj := ⟨(.type "code"), none, (.fields [(.str (Str.ofString "_law_folded") 628), (.str (Str.ofString "_law_folded") 629), (.str (Str.ofString "/claim/cut.py") 630), (.int 144 0), (.int 6 0), (.int 0 0), (.int 0 0), (.int 3 0), (.ref 256), (.bool true), (.int 276 0), (.ref 257), .none, (.ref 258), (.ref 259), (.ref 260), (.int 639 0), (.int 144 0), (.str (Str.ofString "/claim/cut.py") 640)].toArray), [].toArray⟩
noncomputable def ob262 (_P : Params) : Obj := ⟨(.type "function"), none, (.func { name := (Str.ofString "_law_folded"), qualname := (Str.ofString "_law_folded"), params := fArgs (top 18), body := .stmts (fBody (top 18)), scope := fScope (top 18), globals := 3, closure := [], defaults := .none, kwdefaults := .none, doc := .none, pyModule := (.str (Str.ofString "law_xl0017_01") 617), annotations := none, code := (.ref 261), closureTuple := .none, builtins := 0 }), [].toArray⟩
noncomputable def ob268 (_P : Params) : Obj := ⟨(.type "code"), none, (.fields [(.str (Str.ofString "_law_told") 642), (.str (Str.ofString "_law_told") 643), (.str (Str.ofString "/claim/cut.py") 644), (.int 151 0), (.int 4 0), (.int 0 0), (.int 0 0), (.int 3 0), (.ref 263), (.bool true), (.int 276 0), (.ref 264), .none, (.ref 265), (.ref 266), (.ref 267), (.int 652 0), (.int 151 0), (.str (Str.ofString "/claim/cut.py") 653)].toArray), [].toArray⟩
noncomputable def ob269 (_P : Params) : Obj := ⟨(.type "function"), none, (.func { name := (Str.ofString "_law_told"), qualname := (Str.ofString "_law_told"), params := fArgs (top 19), body := .stmts (fBody (top 19)), scope := fScope (top 19), globals := 3, closure := [], defaults := .none, kwdefaults := .none, doc := .none, pyModule := (.str (Str.ofString "law_xl0017_01") 617), annotations := none, code := (.ref 268), closureTuple := .none, builtins := 0 }), [].toArray⟩
noncomputable def ob273 (_P : Params) : Obj := ⟨(.type "code"), none, (.fields [(.str (Str.ofString "_law_beside") 655), (.str (Str.ofString "_law_beside") 656), (.str (Str.ofString "/claim/cut.py") 657), (.int 159 0), (.int 4 0), (.int 0 0), (.int 0 0), (.int 3 0), (.ref 270), (.bool true), (.int 276 0), (.ref 271), .none, .none, .none, (.ref 272), (.int 658 0), (.int 159 0), (.str (Str.ofString "/claim/cut.py") 659)].toArray), [].toArray⟩
noncomputable def ob274 (_P : Params) : Obj := ⟨(.type "function"), none, (.func { name := (Str.ofString "_law_beside"), qualname := (Str.ofString "_law_beside"), params := fArgs (top 20), body := .stmts (fBody (top 20)), scope := fScope (top 20), globals := 3, closure := [], defaults := .none, kwdefaults := .none, doc := .none, pyModule := (.str (Str.ofString "law_xl0017_01") 617), annotations := none, code := (.ref 273), closureTuple := .none, builtins := 0 }), [].toArray⟩
noncomputable def ob280 (_P : Params) : Obj := ⟨(.type "code"), none, (.fields [(.str (Str.ofString "_law_refused") 661), (.str (Str.ofString "_law_refused") 662), (.str (Str.ofString "/claim/cut.py") 663), (.int 169 0), (.int 1 0), (.int 0 0), (.int 0 0), (.int 3 0), (.ref 275), (.bool true), (.int 276 0), (.ref 276), .none, (.ref 277), (.ref 278), (.ref 279), (.int 665 0), (.int 169 0), (.str (Str.ofString "/claim/cut.py") 666)].toArray), [].toArray⟩
noncomputable def ob281 (_P : Params) : Obj := ⟨(.type "function"), none, (.func { name := (Str.ofString "_law_refused"), qualname := (Str.ofString "_law_refused"), params := fArgs (top 21), body := .stmts (fBody (top 21)), scope := fScope (top 21), globals := 3, closure := [], defaults := .none, kwdefaults := .none, doc := .none, pyModule := (.str (Str.ofString "law_xl0017_01") 617), annotations := none, code := (.ref 280), closureTuple := .none, builtins := 0 }), [].toArray⟩
noncomputable def ob287 (_P : Params) : Obj := ⟨(.type "code"), none, (.fields [(.str (Str.ofString "_law_read") 668), (.str (Str.ofString "_law_read") 669), (.str (Str.ofString "/claim/cut.py") 670), (.int 175 0), (.int 1 0), (.int 0 0), (.int 0 0), (.int 3 0), (.ref 282), (.bool true), (.int 276 0), (.ref 283), .none, (.ref 284), (.ref 285), (.ref 286), (.int 675 0), (.int 175 0), (.str (Str.ofString "/claim/cut.py") 676)].toArray), [].toArray⟩
noncomputable def ob288 (_P : Params) : Obj := ⟨(.type "function"), none, (.func { name := (Str.ofString "_law_read"), qualname := (Str.ofString "_law_read"), params := fArgs (top 22), body := .stmts (fBody (top 22)), scope := fScope (top 22), globals := 3, closure := [], defaults := .none, kwdefaults := .none, doc := .none, pyModule := (.str (Str.ofString "law_xl0017_01") 617), annotations := none, code := (.ref 287), closureTuple := .none, builtins := 0 }), [].toArray⟩
noncomputable def ob292 (_P : Params) : Obj := ⟨(.type "code"), none, (.fields [(.str (Str.ofString "law") 678), (.str (Str.ofString "law") 679), (.str (Str.ofString "/claim/cut.py") 680), (.int 184 0), (.int 1 0), (.int 0 0), (.int 0 0), (.int 3 0), (.ref 289), (.bool true), (.int 276 0), (.ref 290), .none, .none, .none, (.ref 291), (.int 681 0), (.int 184 0), (.str (Str.ofString "/claim/cut.py") 682)].toArray), [].toArray⟩
noncomputable def ob293 (_P : Params) : Obj := ⟨(.type "function"), none, (.func { name := (Str.ofString "law"), qualname := (Str.ofString "law"), params := fArgs (top 23), body := .stmts (fBody (top 23)), scope := fScope (top 23), globals := 3, closure := [], defaults := .none, kwdefaults := .none, doc := .none, pyModule := (.str (Str.ofString "law_xl0017_01") 617), annotations := none, code := (.ref 292), closureTuple := .none, builtins := 0 }), [].toArray⟩
noncomputable def KK (P : Params) : Frag := (nat_lit 2, ob2 P) :: (nat_lit 3, ob3 P) :: (nat_lit 51, ob51 P) :: (nat_lit 52, ob52 P) :: (nat_lit 58, ob58 P) :: (nat_lit 59, ob59 P) :: (nat_lit 65, ob65 P) :: (nat_lit 66, ob66 P) :: (nat_lit 72, ob72 P) :: (nat_lit 73, ob73 P) :: (nat_lit 107, ob107 P) :: (nat_lit 108, ob108 P) :: (nat_lit 110, ob110 P) :: (nat_lit 111, ob111 P) :: (nat_lit 112, ob112 P) :: (nat_lit 113, ob113 P) :: (nat_lit 119, ob119 P) :: (nat_lit 124, ob124 P) :: (nat_lit 125, ob125 P) :: (nat_lit 131, ob131 P) :: (nat_lit 132, ob132 P) :: (nat_lit 138, ob138 P) :: (nat_lit 139, ob139 P) :: (nat_lit 140, ob140 P) :: (nat_lit 146, ob146 P) :: (nat_lit 147, ob147 P) :: (nat_lit 148, ob148 P) :: (nat_lit 154, ob154 P) :: (nat_lit 155, ob155 P) :: (nat_lit 161, ob161 P) :: (nat_lit 162, ob162 P) :: (nat_lit 168, ob168 P) :: (nat_lit 169, ob169 P) :: (nat_lit 170, ob170 P) :: (nat_lit 176, ob176 P) :: (nat_lit 177, ob177 P) :: (nat_lit 183, ob183 P) :: (nat_lit 184, ob184 P) :: (nat_lit 185, ob185 P) :: (nat_lit 191, ob191 P) :: (nat_lit 192, ob192 P) :: (nat_lit 194, ob194 P) :: (nat_lit 195, ob195 P) :: (nat_lit 196, ob196 P) :: (nat_lit 197, ob197 P) :: (nat_lit 208, ob208 P) :: (nat_lit 209, ob209 P) :: (nat_lit 210, ob210 P) :: (nat_lit 221, ob221 P) :: (nat_lit 222, ob222 P) :: (nat_lit 230, ob230 P) :: (nat_lit 231, ob231 P) :: (nat_lit 235, ob235 P) :: (nat_lit 236, ob236 P) :: (nat_lit 240, ob240 P) :: (nat_lit 241, ob241 P) :: (nat_lit 247, ob247 P) :: (nat_lit 248, ob248 P) :: (nat_lit 254, ob254 P) :: (nat_lit 255, ob255 P) :: (nat_lit 261, ob261 P) :: (nat_lit 262, ob262 P) :: (nat_lit 268, ob268 P) :: (nat_lit 269, ob269 P) :: (nat_lit 273, ob273 P) :: (nat_lit 274, ob274 P) :: (nat_lit 280, ob280 P) :: (nat_lit 281, ob281 P) :: (nat_lit 287, ob287 P) :: (nat_lit 288, ob288 P) :: (nat_lit 292, ob292 P) :: (nat_lit 293, ob293 P) :: []
noncomputable def kAddrs : List Addr := (KK { strHash := fun _ => 0, shareClass := fun _ => 0, mergeTok := id, idOf := fun _ => 0, idOfShared := fun _ _ => 0, followText := fun _ => false, idOfImm := fun _ => 0 }).map (·.1)
noncomputable def qv : Program := view PySem.Challenge.pw_xl0017_01 [0, 1, 3, 4, 5, 6, 8, 9, 10, 12, 13, 14, 15, 17, 18, 19, 20, 21, 22, 23]
noncomputable def lo : List Str := [Str.ofString "_Accumulator", Str.ofString "_twin_re_1", Str.ofString "_twin_re_2"]
theorem ws : PySem.Challenge.rw_xl0017_01.wellSaid = true := by decide +kernel
noncomputable def Yf (s : Shared) : List (Option Obj) × Option Obj × Option Obj := (kAddrs.map s.heap.get?, s.heap.get? 157, s.heap.get? 164)
noncomputable def tab0 : Obj := { cls := .none, data := .fields #[] }
noncomputable def Ya (w : World) : List (Option Obj) × Option Obj × Option Obj := ((KK w.params).map fun p => some p.2, some tab0, some tab0)
structure YP (w : World) (h : Heap) : Prop where
  k : (KK w.params).In h
  t1 : h.get? 157 = some tab0
  t2 : h.get? 164 = some tab0
theorem left : LeftO PySem.Challenge.pw_xl0017_01 qv lo (fun s => xlAt qv [] s && recOk [] s) Yf Ya 3964 := fun w => by kernel_rfl!
end Mine
end
section
open PySem PySem.W PyProof.Rows
set_option Elab.async false
set_option maxRecDepth 100000
namespace Mine
noncomputable abbrev MM (w : World) : Model := model PySem.Challenge.pw_xl0017_01 w
noncomputable abbrev TR (mg mb : Str → Option Value) (h : Heap) : Prop := TopRead qv (looseW qv lo) mg mb h
theorem reg : KK = KK ∧ PySem.Challenge.rw_xl0017_01 = PySem.Challenge.rw_xl0017_01 := by
  k_fill
  exact ⟨rfl, rfl⟩

section
variable {w : World} {g : Heap} {s : Shared} {A : Around} {R : Result → Shared → Prop} {mg mb : Str → Option Value} {news : List (Addr × Obj)}

/-- what stands at an entry: a base that holds all but the listed objects -/
structure BaseAt (w : World) (g : Heap) (mg mb : Str → Option Value) (h0 : Heap) (W : List Addr) (L : Addr) (b : Heap) : Prop where
  k : (KK w.params).In b
  t : TR mg mb b
  g : g.StaysIn b
  old : ∀ a o, h0.get? a = some o → a ∉ W → b.get? a = some o
  of : ∀ a o, b.get? a = some o → h0.get? a = some o
  fresh : h0.get? L = none

theorem get_size_none (h : Heap) : h.get? h.objs.size = none := by
  cases e : h.get? h.objs.size with
  | none => rfl
  | some o => exact absurd (Heap.lt_size e) (Nat.lt_irrefl _)

theorem enterE {name qual : Str} {params : Arguments} {body : List Stmt} {scope : Scope} {dV kV doc pm cdv ct oc : Value} {an od : Option Addr} {osl : Array (Option Value)} {f : Addr} {args : Args} {binds : List (Str × Value)}
    (X : (KK w.params).In g) (T : TR mg mb g) (kg : g.StaysIn s.heap)
    (hn : ∀ p ∈ news, s.heap.get? p.1 = some p.2 ∧ g.get? p.1 = none)
    (ho : (KK w.params).lookup f = some ⟨oc, od, .func (fnOf name qual params body scope dV kV doc pm an cdv ct), osl⟩) (hcd : codeIn (KK w.params) cdv qual = true) (hroom : A.depth < recursionLimit)
    (hbind : BindsTo s (fnOf name qual params body scope dV kV doc pm an cdv ct) args binds) (hloc : ∀ y ∈ binds, scope.names.lookup y.1 = some .local)
    (h : ∀ b L h₁, Fr b L h₁ (fun y => binds.reverse.lookup y) → News b L h₁ news → BaseAt w g mg mb s.heap (news.map (·.1)) L b →
      wpAny (MM w) (A.deeper (envOf qual scope L f cdv)) (execs body (envOf qual scope L f cdv))
        (fun fl s' => R (.ok (.ret (match fl with | .ret v => v | _ => .none))) s')
        (fun e s' => wpAny (MM w) (A.deeper (envOf qual scope L f cdv)) (leaving (envOf qual scope L f cdv) e) (fun _ s'' => R (.error e) s'') (fun e' s'' => R (.error e') s'') s')
        { s with heap := h₁, toks := s.toks + binds.length })
    (hcell : ∀ x ∈ scope.names, x.2 ≠ .cell := by decide) (hco : scope.isCoroutine = false := by rfl) (hgen : scope.isGenerator = false := by rfl) (hk : scope.kind = .function := by rfl) :
    codeAny (MM w) A (.call (.ref f) args) R s := by
  have kX : ∀ a o, g.get? a = some o → a ∉ news.map (·.1) := fun a o e q => by
    obtain ⟨p, hp, rfl⟩ := List.mem_map.mp q
    rw [(hn p hp).2] at e; cases e
  have st : g.StaysIn (hideAll s.heap (news.map (·.1))) := fun a o e => hideAll_get _ (kg a o e) (kX a o e)
  have Xb : (KK w.params).In (hideAll s.heap (news.map (·.1))) := X.keeps st
  have Tb : TR mg mb (hideAll s.heap (news.map (·.1))) := T.keeps st
  refine codeAny_call_def (fd := fnOf name qual params body scope dV kV doc pm an cdv ct) (body := body) (binds := binds) hroom (kg _ _ (X _ _ ho)) rfl (T.nolimit.keeps kg) (codeRec_of (X.keeps kg) hcd) rfl hbind hcell hloc (fun h₁ hns hk₁ => ?_) hco hgen hk
  exact h (hideAll s.heap (news.map (·.1))) s.heap.objs.size h₁ ⟨hns, fun b o e => hk₁ b o (of_hideAll _ e), Nat.le_of_eq (hideAll_size _ _)⟩
    (fun p hp => ⟨hk₁ _ _ (hn p hp).1, Nat.ne_of_lt (Heap.lt_size (hn p hp).1), hideAll_none _ (List.mem_map_of_mem hp)⟩)
    ⟨Xb, Tb, st, fun a o e q => hideAll_get _ e q, fun a o e => of_hideAll _ e, get_size_none _⟩

theorem enter {name qual : Str} {params : Arguments} {body : List Stmt} {scope : Scope} {dV kV doc pm cdv ct oc : Value} {an od : Option Addr} {osl : Array (Option Value)} {f : Addr} {args : Args} {binds : List (Str × Value)}
    (X : (KK w.params).In g) (T : TR mg mb g) (kg : g.StaysIn s.heap)
    (hn : ∀ p ∈ news, s.heap.get? p.1 = some p.2 ∧ g.get? p.1 = none)
    (ho : (KK w.params).lookup f = some ⟨oc, od, .func (fnOf name qual params body scope dV kV doc pm an cdv ct), osl⟩) (hcd : codeIn (KK w.params) cdv qual = true) (hroom : A.depth < recursionLimit)
    (hbind : BindsTo s (fnOf name qual params body scope dV kV doc pm an cdv ct) args binds) (hloc : ∀ y ∈ binds, scope.names.lookup y.1 = some .local)
    (h : ∀ b L h₁, Fr b L h₁ (fun y => binds.reverse.lookup y) → News b L h₁ news → BaseAt w g mg mb s.heap (news.map (·.1)) L b →
      wpAny (MM w) (A.deeper (envOf qual scope L f cdv)) (execs body (envOf qual scope L f cdv))
        (fun fl s' => R (.ok (.ret (match fl with | .ret v => v | _ => .none))) s') (fun _ _ => False)
        { s with heap := h₁, toks := s.toks + binds.length })
    (hcell : ∀ x ∈ scope.names, x.2 ≠ .cell := by decide) (hco : scope.isCoroutine = false := by rfl) (hgen : scope.isGenerator = false := by rfl) (hk : scope.kind = .function := by rfl) :
    codeAny (MM w) A (.call (.ref f) args) R s :=
  enterE X T kg hn ho hcd hroom hbind hloc (fun b L h₁ F N B => wpAny_mono (h b L h₁ F N B) (fun _ _ x => x) fun _ _ x => x.elim) hcell hco hgen hk

/-- all objects but the listed ones are as they were -/
noncomputable def Kept (W : List Addr) (h h' : Heap) : Prop := ∀ a o, h.get? a = some o → a ∉ W → h'.get? a = some o
theorem Kept.refl (h : Heap) : Kept [] h h := fun _ _ e _ => e
theorem Kept.trans {W W' : List Addr} {h h' h'' : Heap} (x : Kept W h h') (y : Kept W' h' h'') (hs : ∀ a ∈ W', a ∈ W ∨ h.get? a = none) : Kept W h h'' := fun a o e q => y a o (x a o e q) fun q' => by
  rcases hs a q' with z | z
  · exact q z
  · rw [z] at e; cases e
theorem BaseAt.kept {W : List Addr} {h0 b h' : Heap} {L : Addr} {m : Str → Option Value} (B : BaseAt w g mg mb h0 W L b) (F : Fr b L h' m) : Kept W h0 h' := fun a o e q => F.keep _ _ (B.old a o e q)
theorem BaseAt.new {W : List Addr} {h0 b : Heap} {L a : Addr} (B : BaseAt w g mg mb h0 W L b) (ha : a ∉ W) (e : b.get? a = none) : h0.get? a = none := by
  cases q : h0.get? a with
  | none => rfl
  | some o => rw [B.old a o q ha] at e; cases e

/-- a call that keeps all but W: the frame and the ledger go on -/
theorem called {W : List Addr} {b h h' : Heap} {L : Addr} {m : Str → Option Value} {news' : List (Addr × Obj)} (F : Fr b L h m) (hk : Kept W h h') (hW : ∀ a ∈ W, a ≠ L ∧ b.get? a = none)
    (hn : ∀ p ∈ news', h'.get? p.1 = some p.2 ∧ p.1 ≠ L ∧ b.get? p.1 = none) : Fr b L h' m ∧ News b L h' news' := by
  obtain ⟨oL, es, ep, hL, r⟩ := F.ns
  refine ⟨⟨⟨oL, es, ep, hk _ _ hL fun q => (hW _ q).1 rfl, r⟩, fun a o e => hk a o (F.keep a o e) fun q => ?_, F.above⟩, hn⟩
  rw [(hW a q).2] at e; cases e
end
inductive Ex1 {α1 : Type} (P : α1 → Prop) : Prop
  | mk (a1 : α1) (h : P a1) : Ex1 P
inductive Ex2 {α1 α2 : Type} (P : α1 → α2 → Prop) : Prop
  | mk (a1 : α1) (a2 : α2) (h : P a1 a2) : Ex2 P
inductive Ex3 {α1 α2 α3 : Type} (P : α1 → α2 → α3 → Prop) : Prop
  | mk (a1 : α1) (a2 : α2) (a3 : α3) (h : P a1 a2 a3) : Ex3 P
inductive Ex6 {α1 α2 α3 α4 α5 α6 : Type} (P : α1 → α2 → α3 → α4 → α5 → α6 → Prop) : Prop
  | mk (a1 : α1) (a2 : α2) (a3 : α3) (a4 : α4) (a5 : α5) (a6 : α6) (h : P a1 a2 a3 a4 a5 a6) : Ex6 P
inductive Ex8 {α1 α2 α3 α4 α5 α6 α7 α8 : Type} (P : α1 → α2 → α3 → α4 → α5 → α6 → α7 → α8 → Prop) : Prop
  | mk (a1 : α1) (a2 : α2) (a3 : α3) (a4 : α4) (a5 : α5) (a6 : α6) (a7 : α7) (a8 : α8) (h : P a1 a2 a3 a4 a5 a6 a7 a8) : Ex8 P
inductive Ex9 {α1 α2 α3 α4 α5 α6 α7 α8 α9 : Type} (P : α1 → α2 → α3 → α4 → α5 → α6 → α7 → α8 → α9 → Prop) : Prop
  | mk (a1 : α1) (a2 : α2) (a3 : α3) (a4 : α4) (a5 : α5) (a6 : α6) (a7 : α7) (a8 : α8) (a9 : α9) (h : P a1 a2 a3 a4 a5 a6 a7 a8 a9) : Ex9 P
inductive Ex10 {α1 α2 α3 α4 α5 α6 α7 α8 α9 α10 : Type} (P : α1 → α2 → α3 → α4 → α5 → α6 → α7 → α8 → α9 → α10 → Prop) : Prop
  | mk (a1 : α1) (a2 : α2) (a3 : α3) (a4 : α4) (a5 : α5) (a6 : α6) (a7 : α7) (a8 : α8) (a9 : α9) (a10 : α10) (h : P a1 a2 a3 a4 a5 a6 a7 a8 a9 a10) : Ex10 P
inductive Ex13 {α1 α2 α3 α4 α5 α6 α7 α8 α9 α10 α11 α12 α13 : Type} (P : α1 → α2 → α3 → α4 → α5 → α6 → α7 → α8 → α9 → α10 → α11 → α12 → α13 → Prop) : Prop
  | mk (a1 : α1) (a2 : α2) (a3 : α3) (a4 : α4) (a5 : α5) (a6 : α6) (a7 : α7) (a8 : α8) (a9 : α9) (a10 : α10) (a11 : α11) (a12 : α12) (a13 : α13) (h : P a1 a2 a3 a4 a5 a6 a7 a8 a9 a10 a11 a12 a13) : Ex13 P
inductive A4 (p1 p2 p3 p4 : Prop) : Prop
  | mk (h1 : p1) (h2 : p2) (h3 : p3) (h4 : p4) : A4 p1 p2 p3 p4
inductive A5 (p1 p2 p3 p4 p5 : Prop) : Prop
  | mk (h1 : p1) (h2 : p2) (h3 : p3) (h4 : p4) (h5 : p5) : A5 p1 p2 p3 p4 p5
inductive A6 (p1 p2 p3 p4 p5 p6 : Prop) : Prop
  | mk (h1 : p1) (h2 : p2) (h3 : p3) (h4 : p4) (h5 : p5) (h6 : p6) : A6 p1 p2 p3 p4 p5 p6
inductive A8 (p1 p2 p3 p4 p5 p6 p7 p8 : Prop) : Prop
  | mk (h1 : p1) (h2 : p2) (h3 : p3) (h4 : p4) (h5 : p5) (h6 : p6) (h7 : p7) (h8 : p8) : A8 p1 p2 p3 p4 p5 p6 p7 p8
inductive A9 (p1 p2 p3 p4 p5 p6 p7 p8 p9 : Prop) : Prop
  | mk (h1 : p1) (h2 : p2) (h3 : p3) (h4 : p4) (h5 : p5) (h6 : p6) (h7 : p7) (h8 : p8) (h9 : p9) : A9 p1 p2 p3 p4 p5 p6 p7 p8 p9
inductive A11 (p1 p2 p3 p4 p5 p6 p7 p8 p9 p10 p11 : Prop) : Prop
  | mk (h1 : p1) (h2 : p2) (h3 : p3) (h4 : p4) (h5 : p5) (h6 : p6) (h7 : p7) (h8 : p8) (h9 : p9) (h10 : p10) (h11 : p11) : A11 p1 p2 p3 p4 p5 p6 p7 p8 p9 p10 p11
inductive A12 (p1 p2 p3 p4 p5 p6 p7 p8 p9 p10 p11 p12 : Prop) : Prop
  | mk (h1 : p1) (h2 : p2) (h3 : p3) (h4 : p4) (h5 : p5) (h6 : p6) (h7 : p7) (h8 : p8) (h9 : p9) (h10 : p10) (h11 : p11) (h12 : p12) : A12 p1 p2 p3 p4 p5 p6 p7 p8 p9 p10 p11 p12
inductive A16 (p1 p2 p3 p4 p5 p6 p7 p8 p9 p10 p11 p12 p13 p14 p15 p16 : Prop) : Prop
  | mk (h1 : p1) (h2 : p2) (h3 : p3) (h4 : p4) (h5 : p5) (h6 : p6) (h7 : p7) (h8 : p8) (h9 : p9) (h10 : p10) (h11 : p11) (h12 : p12) (h13 : p13) (h14 : p14) (h15 : p15) (h16 : p16) : A16 p1 p2 p3 p4 p5 p6 p7 p8 p9 p10 p11 p12 p13 p14 p15 p16
theorem dd1 {A : Around} {env : Env} {n m : Nat} (h : A.depth < n) (k : n + 1 ≤ m) : (A.deeper env).depth < m := Nat.lt_of_lt_of_le (Nat.succ_lt_succ h) k
theorem dd2 {A : Around} {env : Env} {n m : Nat} (h : A.depth < n) (k : n + 1 ≤ m) : (A.deeper env).in1.depth < m := Nat.lt_of_lt_of_le (Nat.succ_lt_succ h) k
theorem du1 {A : Around} {env : Env} {n m : Nat} (h : A.units < n) (k : n + 3 ≤ m) : (A.deeper env).units < m := Nat.lt_of_lt_of_le (Nat.succ_lt_succ (Nat.succ_lt_succ (Nat.succ_lt_succ h))) k
end Mine
end
section
open PySem PySem.W PyProof.Rows PySem.Calls
set_option Elab.async false
set_option maxRecDepth 100000
namespace Mine
noncomputable abbrev accO (dx : Addr) (items : Array Value) (n : Nat) : Obj := ⟨.ref 195, some dx, .seq items n, #[]⟩

section
variable {prog : Program} {w : World} {A : Around} {E : Value → Shared → Prop} {s : Shared} {K : Frag} {x C : Addr} {ox od : Obj} {name : Str} {id : String}
theorem check_meth {M : Model} {i owner n : String} {self : Value} {rest : List Value} {kw : List (Str × Value)} {Q : Unit → Shared → Prop}
    (hk : builtinKind i = some .method) (hs : splitId i = some (owner, n)) (hi : Looks M s.heap (isInstance self (.type owner)) true) (ha : argsOk i ⟨self :: rest, kw⟩) (q : Q () s) :
    wpAny M A (checkBuiltinCall i ⟨self :: rest, kw⟩) Q E s := by
  simp only [checkBuiltinCall, hk, hs]
  refine wpAny_bind (hi.here ?_)
  simp only [Bool.not_true, Bool.false_eq_true, if_false]
  cases hsig : Manifest.signature? i with
  | none => exact wpAny_pure q
  | some sig =>
    simp only [argsOk, hsig] at ha
    have h2 : Bind.checkArgs i sig ⟨self :: rest, kw⟩ = pure () := ha
    show wpAny M A (Bind.checkArgs i sig ⟨self :: rest, kw⟩) Q E s
    rw [h2]; exact wpAny_pure q
theorem acc_isList {items : Array Value} {n : Nat} {dx : Addr} (X : (KK w.params).In s.heap) (hx : s.heap.get? x = some (accO dx items n)) : Looks (model prog w) s.heap (isInstance (.ref x) (.type "list")) true :=
  ((Looks.ld hx).andThen .now).andThen (looks_subIn (K := KK w.params) (t := .ref 195) X (by kernel_rfl!))
end

theorem lm_call {prog : Program} {w : World} {A : Around} {E : Value → Shared → Prop} {s : Shared} {x dx : Addr} {items : Array Value} {n : Nat} {id nm : String} {b : Builtin} {rest : List Value} {Q : Value → Shared → Prop}
    (hp : plainId id = true) (he : entryFor table id = some b) (hk : builtinKind id = some .method ∨ builtinKind id = some .slot) (hs : splitId id = some ("list", nm)) (ha : argsOk id ⟨.ref x :: rest, []⟩)
    (X : (KK w.params).In s.heap) (hx : s.heap.get? x = some (accO dx items n))
    (h : wpAny (model prog w) A.in1 (b ⟨.ref x :: rest, []⟩) (fun fin s' => ∃ v, fin = .done (.ret v) ∧ Q v s') E s) : wpAny (model prog w) A (call (.builtin id) (.ref x :: rest)) Q E s := by
  refine wpAny_call (codeAny_call_builtin hp he ?_)
  have fin := wpAny_mono h (Q' := fun fin s' => match fin with
      | .done f => (match (Except.ok f : Result) with | .ok (.ret v) => Q v s' | .ok _ => False | .error e => E e s')
      | .again c' => c'.quiet = true ∧ codeAny (model prog w) A c' (fun r s' => match r with | .ok (.ret v) => Q v s' | .ok _ => False | .error e => E e s') s')
    (fun fin s' h' => by obtain ⟨v, rfl, hv⟩ := h'; exact hv) fun _ _ h' => h'
  rcases hk with hk | hk
  · exact check_meth hk hs (acc_isList X hx) ha fin
  · exact check_slot hk hs (acc_isList X hx) ha fin
namespace F
theorem entry_append : entryFor table "list.append" = some Builtin.«list.append» := entryFor_of_tree (by kernel_rfl)
theorem args_append (a b : Value) : argsOk "list.append" ⟨[a, b], []⟩ := by unfold argsOk; kernel_rfl
theorem entry_pop : entryFor table "list.pop" = some Builtin.«list.pop» := entryFor_of_tree (by kernel_rfl)
theorem args_pop (a : Value) : argsOk "list.pop" ⟨[a], []⟩ := by unfold argsOk; kernel_rfl
theorem entry_len : entryFor table "list.__len__" = some Builtin.«list.__len__» := entryFor_of_tree (by kernel_rfl)
theorem args_len (a : Value) : argsOk "list.__len__" ⟨[a], []⟩ := by unfold argsOk; kernel_rfl
theorem entry_init : entryFor table "list.__init__" = some Builtin.«list.__init__» := entryFor_of_tree (by kernel_rfl)
theorem args_init (a : Value) : argsOk "list.__init__" ⟨[a], []⟩ := by unfold argsOk; kernel_rfl
theorem entry_getitem : entryFor table "list.__getitem__" = some Builtin.«list.__getitem__» := entryFor_of_tree (by kernel_rfl)
theorem args_getitem (a b : Value) : argsOk "list.__getitem__" ⟨[a, b], []⟩ := by unfold argsOk; kernel_rfl
theorem entry_setitem : entryFor table "list.__setitem__" = some Builtin.«list.__setitem__» := entryFor_of_tree (by kernel_rfl)
theorem args_setitem (a b c : Value) : argsOk "list.__setitem__" ⟨[a, b, c], []⟩ := by unfold argsOk; kernel_rfl
theorem entry_iter : entryFor table "list.__iter__" = some Builtin.«list.__iter__» := entryFor_of_tree (by kernel_rfl)
theorem args_iter (a : Value) : argsOk "list.__iter__" ⟨[a], []⟩ := by unfold argsOk; kernel_rfl
end F
section
variable {prog : Program} {w : World} {A : Around} {E : Value → Shared → Prop} {s : Shared} {x dx L : Addr} {items : Array Value} {n : Nat}
theorem append_acc {v : Value} {Q : Value → Shared → Prop} (X : (KK w.params).In s.heap) (hx : s.heap.get? x = some (accO dx items n)) (hz : items.size ≤ sizeLine)
    (h : Q .none { s with heap := s.heap.update x (Obj.mapSeq (·.push v)) }) : wpAny (model prog w) A (call (.builtin "list.append") [.ref x, v]) Q E s := by
  refine lm_call (nm := "append") (by decide +kernel) F.entry_append (.inl (by decide +kernel)) (by decide +kernel) (F.args_append _ _) X hx ?_
  unfold Builtin.«list.append»
  refine wpAny_bind (m := selfAndOne _ _) (wpAny_pure ?_)
  exact wpAny_bind (wpAny_updateSeq hx rfl (wpAny_pure ⟨_, rfl, h⟩) hz (by simp; omega))
theorem mapSeq_push {v : Value} : Obj.mapSeq (·.push v) (accO dx items n) = accO dx (items.push v) (n + 1) := by simp [Obj.mapSeq]

end
end Mine
end
section
open PySem PySem.W PyProof.Rows PySem.Calls
set_option Elab.async false
set_option maxRecDepth 100000
namespace Mine
namespace F
theorem slot_mget : Slot "method_descriptor" "__get__" "method_descriptor.__get__" := .of (owner := "method_descriptor") (n := "__get__") (by rw [typeLookup_type, builtinLookup_eq_fast]; kernel_rfl) (by decide +kernel) (by decide +kernel) (by decide +kernel)
  (by first | exact .inl (by decide +kernel) | exact .inr (by decide +kernel)) (by rw [isSubtype_type]; kernel_rfl)
theorem slot_wget : Slot "wrapper_descriptor" "__get__" "wrapper_descriptor.__get__" := .of (owner := "wrapper_descriptor") (n := "__get__") (by rw [typeLookup_type, builtinLookup_eq_fast]; kernel_rfl) (by decide +kernel) (by decide +kernel) (by decide +kernel)
  (by first | exact .inl (by decide +kernel) | exact .inr (by decide +kernel)) (by rw [isSubtype_type]; kernel_rfl)
theorem entry_mget : entryFor table "method_descriptor.__get__" = some Builtin.«method_descriptor.__get__» := entryFor_of_tree (by kernel_rfl)
theorem entry_wget : entryFor table "wrapper_descriptor.__get__" = some Builtin.«wrapper_descriptor.__get__» := entryFor_of_tree (by kernel_rfl)
theorem mgetArgs (a b c : Value) : argsOk "method_descriptor.__get__" ⟨[a, b, c], []⟩ := by unfold argsOk; kernel_rfl
theorem wgetArgs (a b c : Value) : argsOk "wrapper_descriptor.__get__" ⟨[a, b, c], []⟩ := by unfold argsOk; kernel_rfl
end F
noncomputable abbrev bndO (bt id : String) (x : Addr) : Obj := { cls := .type bt, dict := none, data := .fields #[.builtin id, .ref x], slots := #[] }
section
variable {prog : Program} {w : World} {M : Model} {A : Around} {E : Value → Shared → Prop} {h : Heap} {g : Array GenState} {d : Drawn} {t : Nat} {os : OsState}
structure GetBi (id dt bt gid : String) (b : Builtin) : Prop where
  type : typeOf (.builtin id) = pure (.type dt)
  slot : Slot dt "__get__" gid
  entry : entryFor table gid = some b
  args : ∀ a b c, argsOk gid ⟨[a, b, c], []⟩
  get : ∀ {prog : Program} {w : World} {A : Around} {E : Value → Shared → Prop} {x C : Addr} {h : Heap} {g : Array GenState} {d : Drawn} {t : Nat} {os : OsState} {Q : Fin → Shared → Prop},
    Looks (model prog w) h (isInstance (.ref x) (.type "list")) true → Q (.done (.ret (.ref h.objs.size))) ⟨h.push (bndO bt id x), g, d, t, os⟩ → wpAny (model prog w) A (b ⟨[.builtin id, .ref x, .ref C], []⟩) Q E ⟨h, g, d, t, os⟩

theorem get_pop : GetBi "list.pop" "method_descriptor" "builtin_function_or_method" "method_descriptor.__get__" Builtin.«method_descriptor.__get__» :=
  ⟨by kernel_rfl, F.slot_mget, F.entry_mget, F.mgetArgs, fun hi hq => by
    unfold Builtin.«method_descriptor.__get__»
    have h1 : (".".intercalate ("list.pop".cutAt '.').dropLast) = "list" := by decide +kernel
    repeat (first | (rw [h1]; refine Looks.at hi ?_) | (with_reducible refine wpAny_newObj_type ?_ (by size_fits)) | wp_step | (unfold newFields) | dsimp only)
    all_goals exact hq⟩
theorem get_len : GetBi "list.__len__" "wrapper_descriptor" "method-wrapper" "wrapper_descriptor.__get__" Builtin.«wrapper_descriptor.__get__» :=
  ⟨by kernel_rfl, F.slot_wget, F.entry_wget, F.wgetArgs, fun hi hq => by
    unfold Builtin.«wrapper_descriptor.__get__»
    have h1 : (".".intercalate ("list.__len__".cutAt '.').dropLast) = "list" := by decide +kernel
    repeat (first | (rw [h1]; refine Looks.at hi ?_) | (with_reducible refine wpAny_newObj_type ?_ (by size_fits)) | wp_step | (unfold newFields) | dsimp only)
    all_goals exact hq⟩
end
end Mine
end
section
open PySem PySem.W PyProof.Rows PySem.Calls
set_option Elab.async false
set_option maxRecDepth 100000
namespace Mine
section
variable {prog : Program} {w : World} {A : Around} {E : Value → Shared → Prop} {s : Shared} {K : Frag} {x C : Addr} {ox : Obj} {od : Option Obj} {name : Str} {id : String}
theorem callSpecial_bi {args : List Value} {Q : Option Value → Shared → Prop} (X : K.In s.heap) (I : InstAt s.heap x ox C od) (hf : findIn K (.ref C) name = some (some (.builtin id)))
    (hb : bindSpecial (.builtin id) (.ref x) = pure (.builtin id, [.ref x])) (h : wpAny (model prog w) A (call (.builtin id) (.ref x :: args)) (fun v s' => Q (some v) s') E s) :
    wpAny (model prog w) A (callSpecial? (.ref x) name args) Q E s := by
  unfold callSpecial?
  refine wpAny_bind ((I.type.andThen (looks_findIn X hf)).here ?_)
  dsimp only
  refine wpAny_holding ?_
  rw [hb]
  refine wpAny_bind (wpAny_pure ?_)
  exact wpAny_bind (wpAny_mono h (fun v s' hv => wpAny_pure hv) fun _ _ z => z)

theorem looks_noSeq {M : Model} {h : Heap} (X : K.In h) (hn : noSeq K C = true) : ∀ l : List String, (∀ n ∈ l, n ∈ seqItemTypes) → Looks M h (l.anyM fun n => isSubtype (.ref C) (.type n)) false
  | [], _ => .now
  | a :: r, hl => by
    have e : subIn K (.ref C) (.type a) = some false := by
      have := List.all_eq_true.mp hn a (hl a (.head _))
      simpa using this
    show Looks M h (List.anyM _ _) false
    unfold List.anyM
    exact (looks_subIn X e).andThen (looks_noSeq X hn r fun n h => hl n (.tail _ h))
theorem seqKey {k : Value} {Q : Value → Shared → Prop} (X : K.In s.heap) (I : InstAt s.heap x ox C od) (hn : noSeq K C = true) (h : Q k s) : wpAny (model prog w) A (sequenceKey (.ref x) k name) Q E s := by
  unfold sequenceKey
  refine wpAny_bind (I.type.here ?_)
  dsimp only
  refine wpAny_bind (Looks.here (looks_noSeq X hn _ fun _ h => h) ?_)
  exact wpAny_pure h
end
theorem noSeq_acc (w : World) : noSeq (KK w.params) 195 = true := by k_is
section
variable {prog : Program} {w : World} {A : Around} {E : Value → Shared → Prop} {s : Shared} {x dx : Addr} {items : Array Value} {n : Nat} {od : Obj}
theorem acc_inst {h : Heap} (hx : h.get? x = some (accO dx items n)) (hd : h.get? dx = some od) : InstAt h x (accO dx items n) 195 (some od) := ⟨hx, rfl, rfl, hd⟩

theorem getItem_acc_k {k : Int} {t : Tok} {v : Value} {Q : Value → Shared → Prop} (X : (KK w.params).In s.heap) (hx : s.heap.get? x = some (accO dx items n)) (hd : s.heap.get? dx = some od)
    (h0 : 0 ≤ k) (hfit : k < 2 ^ 63) (hv : items[k.toNat]? = some v) (h : Q v s) : wpAny (model prog w) A (getItem (.ref x) (.int k t)) Q E s := by
  unfold getItem
  refine wpAny_holding (wpAny_bind (seqKey X (acc_inst hx hd) (noSeq_acc w) ?_))
  refine wpAny_bind (callSpecial_bi (id := "list.__getitem__") X (acc_inst hx hd) (by k_is) (slot_list_getitem.bind _) ?_)
  refine lm_call (nm := "__getitem__") (by decide +kernel) F.entry_getitem (.inl (by decide +kernel)) (by decide +kernel) (F.args_getitem _ _) X hx ?_
  show wpAny _ _ (Builtin.List.listSubscript? (.int k t) >>= _) _ _ s
  refine wpAny_bind (wpAny_listSubscript_int (fitsIndex_of h0 hfit) ?_)
  clear hfit
  obtain ⟨j, rfl⟩ := Int.eq_ofNat_of_zero_le h0
  have hv' : items[j]? = some v := hv
  show wpAny _ _ ((seqItemAt x j >>= fun r => pure (r.map (j, ·))) >>= _) _ _ s
  refine wpAny_bind (wpAny_bind (wpAny_seqItemAt hx rfl (wpAny_pure ?_)))
  rw [hv']
  first
    | exact wpAny_bind (wpAny_pure (wpAny_pure ⟨v, rfl, wpAny_pure h⟩))
    | exact wpAny_pure ⟨v, rfl, wpAny_pure h⟩
theorem getItem_acc_int {i : Nat} {t : Tok} {v : Value} {Q : Value → Shared → Prop} (X : (KK w.params).In s.heap) (hx : s.heap.get? x = some (accO dx items n)) (hd : s.heap.get? dx = some od)
    (hv : items[i]? = some v) (hz : i < 2 ^ 62) (h : Q v s) : wpAny (model prog w) A (getItem (.ref x) (.int i t)) Q E s :=
  getItem_acc_k X hx hd (Int.natCast_nonneg _) (by omega) (by simpa using hv) h

theorem getItem_acc_slice {sl : Addr} {vl vu vs : Value} {lo hi st : Option Int} {Q : Value → Shared → Prop} (X : (KK w.params).In s.heap) (hx : s.heap.get? x = some (accO dx items n)) (hd : s.heap.get? dx = some od)
    (hs : s.heap.IsSliceOf sl vl vu vs) (pl : IsPart vl lo) (pu : IsPart vu hi) (ps : IsPart vs st) (h0 : st ≠ some 0) (hsz : items.size ≤ sizeLine)
    (h : Q (.ref s.heap.objs.size) { s with heap := s.heap.push { cls := .type "list", data := .seq (slicePick items lo hi st) } }) :
    wpAny (model prog w) A (getItem (.ref x) (.ref sl)) Q E s := by
  obtain ⟨os, hos, hcs, hds⟩ := id hs
  have hTs : s.TypeIs (.ref sl) "slice" := ⟨os, hos, hcs⟩
  unfold getItem
  refine wpAny_holding (wpAny_bind (seqKey X (acc_inst hx hd) (noSeq_acc w) ?_))
  refine wpAny_bind (callSpecial_bi (id := "list.__getitem__") X (acc_inst hx hd) (by k_is) (slot_list_getitem.bind _) ?_)
  refine lm_call (nm := "__getitem__") (by decide +kernel) F.entry_getitem (.inl (by decide +kernel)) (by decide +kernel) (F.args_getitem _ _) X hx ?_
  show wpAny _ _ (Builtin.List.listSubscript? (.ref sl) >>= _) _ _ s
  refine wpAny_bind ?_
  unfold Builtin.List.listSubscript?
  refine wpAny_bind (wpAny_specialOf hTs slice_no_index ?_)
  simp only [Option.isNone_none, if_true]
  refine wpAny_pure ?_
  show wpAny _ _ (typeOf (.ref sl) >>= _) _ _ s
  refine wpAny_bind (wpAny_typeOf hTs ?_)
  rw [if_neg (by decide)]
  rw [listSliceParts_eq]
  have hstep : ¬ ((rawPart st == rawInt 0) = true) := by
    cases st with
    | none => exact Bool.false_ne_true
    | some c =>
      intro hh
      have : c = 0 := by simpa [rawPart, rawInt] using hh
      exact h0 (by rw [this])
  refine wpAny_bind (wpAny_bind (wpAny_field hos hds (x := vs) rfl (wpAny_bind (wpAny_listPart ps ?_))))
  rw [if_neg hstep]
  refine wpAny_bind (wpAny_field hos hds (x := vl) rfl (wpAny_bind (wpAny_listPart pl ?_)))
  refine wpAny_bind (wpAny_field hos hds (x := vu) rfl (wpAny_bind (wpAny_listPart pu (wpAny_pure ?_))))
  refine wpAny_bind (m := Builtin.List.listItems (.ref x)) ?_
  unfold Builtin.List.listItems
  refine wpAny_bind (wpAny_seqItems hx rfl (wpAny_pure ?_))
  refine wpAny_bind (wpAny_of_eq (sliceIndices_raw lo hi st items.size h0) ?_)
  refine wpAny_bind (wpAny_newObj_type (wpAny_pure ⟨_, rfl, wpAny_pure h⟩) (Nat.le_trans (slicePick_size_le items lo hi st) hsz))

theorem setItem_acc_slice {sl l : Addr} {vl vu : Value} {lo hi : Option Int} {new : Array Value} {Q : Unit → Shared → Prop} (X : (KK w.params).In s.heap) (hx : s.heap.get? x = some (accO dx items n)) (hd : s.heap.get? dx = some od)
    (hs : s.heap.IsSliceOf sl vl vu .none) (pl : IsPart vl lo) (pu : IsPart vu hi) (hl : s.heap.IsList l new) (hsz : items.size + new.size ≤ sizeLine)
    (h : Q () { s with heap := s.heap.update x (Obj.mapSeq fun xs => xs.extract 0 (sliceBounds lo hi none items.size).1.toNat ++ new ++ xs.extract (max (sliceBounds lo hi none items.size).1 (sliceBounds lo hi none items.size).2.1).toNat xs.size) }) :
    wpAny (model prog w) A (setItem (.ref x) (.ref sl) (.ref l)) Q E s := by
  obtain ⟨os, hos, hcs, hds⟩ := id hs
  have hTs : s.TypeIs (.ref sl) "slice" := ⟨os, hos, hcs⟩
  obtain ⟨ol, hol, hcl, nel, hdl⟩ := id hl
  have hxl : x ≠ l := by rintro rfl; rw [hx] at hol; cases hol; cases hcl
  unfold setItem
  refine wpAny_holding (wpAny_bind (seqKey X (acc_inst hx hd) (noSeq_acc w) ?_))
  refine wpAny_bind (callSpecial_bi (id := "list.__setitem__") X (acc_inst hx hd) (by k_is) (slot_list_setitem.bind _) ?_)
  refine lm_call (nm := "__setitem__") (by decide +kernel) F.entry_setitem (.inr (by decide +kernel)) (by decide +kernel) (F.args_setitem _ _ _) X hx ?_
  show wpAny _ _ (Builtin.List.listSubscript? (.ref sl) >>= _) _ _ s
  refine wpAny_bind ?_
  unfold Builtin.List.listSubscript?
  refine wpAny_bind (wpAny_specialOf hTs slice_no_index ?_)
  simp only [Option.isNone_none, if_true]
  refine wpAny_pure ?_
  show wpAny _ _ (typeOf (.ref sl) >>= _) _ _ s
  refine wpAny_bind (wpAny_typeOf hTs ?_)
  rw [if_neg (by decide)]
  rw [listSliceParts_eq]
  refine wpAny_bind (wpAny_bind (wpAny_field hos hds (x := .none) rfl (wpAny_bind (wpAny_listPart .none ?_))))
  rw [if_neg (show ¬ ((rawPart none == rawInt 0) = true) from Bool.false_ne_true)]
  refine wpAny_bind (wpAny_field hos hds (x := vl) rfl (wpAny_bind (wpAny_listPart pl ?_)))
  refine wpAny_bind (wpAny_field hos hds (x := vu) rfl (wpAny_bind (wpAny_listPart pu (wpAny_pure ?_))))
  dsimp only
  rw [if_neg (show ¬ (Builtin.List.listSameRef (.ref x) (.ref l) = true) by simp [Builtin.List.listSameRef, hxl])]
  have hTl : s.TypeIs (.ref l) "list" := ⟨ol, hol, hcl⟩
  refine wpAny_bind (m := Builtin.List.listAllItems (.ref l) _) ?_
  unfold Builtin.List.listAllItems
  refine wpAny_bind (wpAny_typeOf hTl ?_)
  rw [if_pos (by decide)]
  refine wpAny_listItems hol hdl ?_
  refine wpAny_bind (wpAny_listItems hx rfl ?_)
  refine wpAny_bind (wpAny_of_eq (sliceIndices_raw lo hi none items.size (by simp)) ?_)
  rw [if_pos (show ((sliceBounds lo hi none items.size).2.2 == 1) = true by simp [sliceBounds])]
  refine wpAny_bind (wpAny_rule ?_)
  rw [if_neg (show ¬ (Builtin.List.listTooLong (items.size + new.size) = true) by unfold Builtin.List.listTooLong; simp; exact hsz)]
  unfold Builtin.List.listUpdate
  refine wpAny_bind (wpAny_updateSeq hx rfl ?_ ?_ ?_)
  · exact wpAny_bind (wpAny_letGo (wpAny_pure ⟨_, rfl, wpAny_pure h⟩))
  · omega
  · simp only [Array.size_append, Array.size_extract]
    generalize (sliceBounds lo hi none items.size).fst = a
    generalize (sliceBounds lo hi none items.size).2.fst = b
    have : a.toNat ≤ (max a b).toNat := by omega
    omega

theorem iter_acc {Q : Value → Shared → Prop} (X : (KK w.params).In s.heap) (hx : s.heap.get? x = some (accO dx items n)) (hd : s.heap.get? dx = some od)
    (h : Q (.ref s.heap.objs.size) { s with heap := s.heap.push { cls := .type "list_iterator", data := .fields #[.ref x, rawInt 0] } }) : wpAny (model prog w) A (pyIter (.ref x)) Q E s := by
  unfold pyIter
  have I := acc_inst hx hd
  refine wpAny_bind ((I.type.andThen (looks_findIn X (by k_is))).here ?_)
  dsimp only
  refine wpAny_bind (m := callSpecialIfBoundUnlessNone? (.ref x) "__iter__" _) ?_
  simp only [callSpecialIfBoundUnlessNone?, bindSpecialIfBound?]
  refine wpAny_holding (wpAny_bind (wpAny_bind ((I.type.andThen (looks_findIn X (by k_is))).here ?_)))
  simp only [slot_list_iter.bind]
  refine wpAny_bind (wpAny_askSetting (wpAny_ite ?_))
  have fin : ∀ refuse : Sem Value, wpAny (model prog w) A (if (Value.builtin "list.__iter__" == Value.none) = true then (refuse >>= fun v => pure (some v)) else (call (.builtin "list.__iter__") [.ref x] >>= fun v => pure (some v)))
      (fun r s' => r = some (.ref s.heap.objs.size) ∧ s' = { s with heap := s.heap.push { cls := .type "list_iterator", data := .fields #[.ref x, rawInt 0] } }) E s := by
    intro refuse
    rw [if_neg (show ¬ ((Value.builtin "list.__iter__" == Value.none) = true) from Bool.false_ne_true)]
    refine wpAny_bind (wpAny_mono (lm_call (nm := "__iter__") (Q := fun v s' => v = .ref s.heap.objs.size ∧ s' = { s with heap := s.heap.push { cls := .type "list_iterator", data := .fields #[.ref x, rawInt 0] } }) (by decide +kernel) F.entry_iter (.inr (by decide +kernel)) (by decide +kernel) (F.args_iter _) X hx ?_) (fun v s' hv => wpAny_pure ?_) fun _ _ z => z)
    · show wpAny _ _ (do ret (← newFields "list_iterator" [.ref x, rawInt 0])) _ _ s
      exact wpAny_bind (wpAny_newObj_type (wpAny_pure ⟨_, rfl, rfl, rfl⟩))
    · obtain ⟨rfl, rfl⟩ := hv; exact ⟨rfl, rfl⟩
  split
  · refine wpAny_bind (wpAny_pure (wpAny_pure ?_))
    dsimp only
    refine wpAny_mono (fin _) (fun r s' hr => ?_) fun _ _ z => z
    obtain ⟨rfl, rfl⟩ := hr
    dsimp only
    exact wpAny_bind (wpAny_specialOf (T := "list_iterator") ⟨_, Heap.get?_push_size _ rfl, rfl⟩ slot_listiter_next.lookup (wpAny_pure h))
  · refine wpAny_tryCatch (wpAny_bind (wpAny_pure (wpAny_pure ?_)))
    dsimp only
    refine wpAny_mono (fin _) (fun r s' hr => ?_) fun _ _ z => z
    obtain ⟨rfl, rfl⟩ := hr
    dsimp only
    exact wpAny_bind (wpAny_specialOf (T := "list_iterator") ⟨_, Heap.get?_push_size _ rfl, rfl⟩ slot_listiter_next.lookup (wpAny_pure h))
end
end Mine
end
section
open PySem PySem.W PyProof.Rows PySem.Calls
set_option Elab.async false
set_option maxRecDepth 100000
namespace Mine
namespace F
theorem args_lga (a b : Value) : argsOk "list.__getattribute__" ⟨[a, b], []⟩ := by unfold argsOk; kernel_rfl
end F
section
variable {prog : Program} {w : World} {A : Around} {E : Value → Shared → Prop} {s : Shared} {x dx : Addr} {items : Array Value} {n : Nat} {od : Obj} {name : Str}
theorem getAttr_acc {expr : Bool} {v : Value} {Q : Value → Shared → Prop} (X : (KK w.params).In s.heap) (hx : s.heap.get? x = some (accO dx items n)) (hd : s.heap.get? dx = some od)
    (hf : findObj (KK w.params) 195 (some od) name = some (.value v)) (hh : handedIn v = true) (h : Q v { s with toks := s.toks + 1 }) : wpAny (model prog w) A (getAttr (.ref x) name expr) Q E s := by
  have I := acc_inst hx hd
  obtain ⟨hp, g, d, t, os⟩ := s
  have L0 := I.type (M := model prog w)
  have L1 : Looks (model prog w) hp (typeLookup (.ref 195) "__getattribute__") (some (.builtin "list.__getattribute__")) := looks_findIn X (by k_is)
  have L2 : Looks (model prog w) hp (typeLookup (.ref 195) "__getattr__") none := looks_findIn X (by k_is)
  have L3 := looks_find (M := model prog w) X I hf
  unfold getAttr getAttrBy
  refine wpAny_bind (wpAny_mkText (wpAny_holding (wpAny_bind (L0.at (wpAny_bind (L1.at ?_))))))
  show wpAny _ _ (getAttrByItsOwn (.ref x) (.str name t) (.ref 195) (.builtin "list.__getattribute__") true expr) _ _ _
  unfold getAttrByItsOwn
  refine wpAny_bind (m := hookBefore _) ?_
  show wpAny _ _ (typeLookup (.ref 195) "__getattr__") _ _ _
  refine L2.at ?_
  refine wpAny_bind (wpAny_attempt (wpAny_holding ?_))
  rw [show callGetattribute (.ref x) (.str name t) (.builtin "list.__getattribute__") expr = boundAndCalled (.builtin "list.__getattribute__") (.ref x) (.str name t) from by cases expr <;> rfl]
  unfold boundAndCalled
  rw [F.slot_list_getattribute.bind]
  refine wpAny_bind (wpAny_pure ?_)
  dsimp only
  refine wpAny_mono (lm_call (nm := "__getattribute__") (Q := fun r s' => r = v ∧ s' = ⟨hp, g, d, t + 1, os⟩) (by decide +kernel) F.entry_list_ga (.inr (by decide +kernel)) (by decide +kernel) (F.args_list_getattribute_2 _ _) X hx ?_) (fun r s' hr => ?_) fun _ _ z => z
  · refine wpAny_bind (wpAny_pure (wpAny_bind (wpAny_pure (wpAny_bind (L0.at (wpAny_bind (L3.at ?_)))))))
    exact wpAny_pure ⟨_, rfl, rfl, rfl⟩
  · obtain ⟨rfl, rfl⟩ := hr
    rw [handedOut_of hh]; exact wpAny_pure h

theorem refuse_acc (v : Value) : refuseLoop v "__setattr__" [.ref 195, .type "list", .type "object"] = pure () := by
  rw [refuseLoop_ref]; kernel_rfl
theorem cls_acc0 (w : World) : ((clsIn (KK w.params) 195).any fun cd => cd.mro == [.ref 195, .type "list", .type "object"] && cd.hasDict) = true := by kernel_rfl!
theorem cls_acc (w : World) : ∃ cd, clsIn (KK w.params) 195 = some cd ∧ cd.mro = [.ref 195, .type "list", .type "object"] ∧ cd.hasDict = true := by
  obtain ⟨cd, h1, h2⟩ := any_some (cls_acc0 w)
  rw [Bool.and_eq_true] at h2
  exact ⟨cd, h1, eq_of_beq h2.1, h2.2⟩
theorem setAttr_acc {es : List DictEntry} {c : Nat} {v : Value} {Q : Unit → Shared → Prop} (X : (KK w.params).In s.heap) (hx : s.heap.get? x = some (accO dx items n)) (hd : s.heap.get? dx = some (dictOf es c))
    (hn : findIn (KK w.params) (.ref 195) name = some none) (hr : es.any (·.refKey) = false) {es' : List DictEntry} {c' : Nat}
    (e : (putL name (PyData.keyHash w.params name) (.str name (s.toks + 1)) v es, putN name es c) = (es', c')) (hz : es'.length ≤ 990)
    (h : ∀ h', h'.get? dx = some (dictOf es' c') → (∀ a o, a ≠ dx → s.heap.get? a = some o → h'.get? a = some o) → Q () { s with heap := h', toks := s.toks + 2 }) : wpAny (model prog w) A (setAttr (.ref x) name v) Q E s := by
  have I := acc_inst hx hd
  obtain ⟨hp, g, d, t, os⟩ := s
  have SF := PySem.F.store_object
  obtain ⟨cd, hc, hm, hdict⟩ := cls_acc w
  have L0 := I.type (M := model prog w)
  have LS : Looks (model prog w) hp (typeLookup (.ref 195) "__setattr__") (some (.builtin "object.__setattr__")) := looks_findIn X (by k_is)
  have LM : Looks (model prog w) hp (mroOf (.ref 195)) [.ref 195, .type "list", .type "object"] := hm ▸ (looks_clsIn X hc).andThen .now
  have LN : Looks (model prog w) hp (typeLookup (.ref 195) name) none := looks_findIn X hn
  have LI : Looks (model prog w) hp (isInstance (.ref x) (.type "object")) true := L0.andThen (looks_subIn (K := KK w.params) X (by k_is))
  unfold setAttr
  refine wpAny_bind (wpAny_mkText ?_)
  refine wpAny_bind (callSpecial_bi (id := "object.__setattr__") X (acc_inst hx hd) (by k_is) (SF.slot.bind _) ?_)
  refine wpAny_call (codeAny_call_builtin SF.slot.plain SF.entry (@check_slot (model prog w) _ _ _ "object.__setattr__" "object" "__setattr__" (.ref x) [.str name t, v] [] _ SF.kind SF.split LI (SF.args (.ref x) (.str name t) v) ?_))
  rw [osa_eq, refuse_eq]
  refine wpAny_bind (wpAny_bind (L0.at (wpAny_bind (LM.at ?_))))
  rw [refuse_acc]
  refine wpAny_pure (wpAny_bind (L0.at (wpAny_bind (LN.at (wpAny_bind (wpAny_pure ?_))))))
  dsimp only
  have LC := looks_clsIn (M := model prog w) X hc
  unfold Builtin.ObjectAttr.storeInOwnDict
  refine wpAny_bind (wpAny_pure (wpAny_bind (wpAny_bind (wpAny_loadPart hx (wpAny_bind (LC.at ?_))))))
  rw [hdict]
  refine wpAny_pure (a := some dx) (wpAny_bind (wpAny_pure (wpAny_bind ?_)))
  unfold nsSet
  refine wpAny_bind (wpAny_bind (wpAny_askSetting (wpAny_pure (wpAny_bind (wpAny_mkText (wpAny_bind (wpAny_loadPart hd ?_)))))))
  dsimp only
  obtain ⟨e1, e2⟩ := Prod.mk.inj e
  have hp' : Obj.putName name (PyData.keyHash w.params name) (.str name (t + 1)) v (dictOf es c) = dictOf es' c' := by rw [putName_dict, e1, e2]
  have hk : aRefKeyMayBeTheName name es.toArray = false := by
    rw [aRefKeyMayBeTheName_at]
    have : es.toArray.any (·.refKey) = false := by rw [List.any_toArray]; exact hr
    rw [this, Bool.and_false]
  rw [if_neg (by rw [hk]; decide)]
  refine wpAny_updatePart hd ?_
  have hd' := (Heap.get?_update_self (Obj.putName name (PyData.keyHash w.params name) (.str name (t + 1)) v) hd (by rw [hp']; rfl)).trans (congrArg some hp')
  refine wpAny_bind (wpAny_lookBehind hd' (pastItsLine_dict (by rw [List.size_toArray, sizeLine_eq]; omega)) ?_)
  refine wpAny_pure (wpAny_pure (h _ hd' fun a o ne q => ?_))
  exact (Heap.get?_update_other _ _ (Ne.symm ne)).trans q
end
end Mine
end
section
open PySem PySem.W PyProof.Rows PySem.Calls
set_option Elab.async false
set_option maxRecDepth 100000
namespace Mine
theorem made_acc0 (w : World) : (match (KK w.params).lookup 195 with
  | some ⟨_, _, .cls cd, sl⟩ => !cd.abstract && !cd.hasDel && (sl.toList[4]?).join == some (.builtin "list.__new__")
  | _ => false) = true := by kernel_rfl!
theorem made_acc (w : World) : ∃ oc od cd sl, (KK w.params).lookup 195 = some ⟨oc, od, .cls cd, sl⟩ ∧ cd.abstract = false ∧ cd.hasDel = false ∧ (sl.toList[4]?).join = some (.builtin "list.__new__") ∧ cd.mro = [.ref 195, .type "list", .type "object"] := by
  have e := made_acc0 w
  obtain ⟨cd', h1, h2, _⟩ := cls_acc w
  unfold clsIn at h1
  split at e
  · rename_i oc od cd sl ho
    rw [ho] at h1
    obtain rfl : cd = cd' := Option.some.inj h1
    simp only [Bool.and_eq_true, Bool.not_eq_true', beq_iff_eq] at e
    exact ⟨oc, od, _, sl, ho, e.1.1, e.1.2, e.2, h2⟩
  · cases e
namespace F
theorem kind_new : builtinKind "list.__new__" = some .builtinFn := by decide +kernel
theorem split_new : splitId "list.__new__" = some ("list", "__new__") := by decide +kernel
theorem args_new (a : Value) : (match Manifest.signature? "list.__new__" with | some sig => Bind.checkArgs "list.__new__" sig ⟨[.ref 195, a], []⟩ | _ => pure ()) = pure () := by kernel_rfl
end F
section
variable {prog : Program} {w : World} {A : Around} {R : Result → Shared → Prop} {s : Shared}
theorem looks_made (X : (KK w.params).In s.heap) : Looks (model prog w) s.heap (Bind.madeBy (.ref 195)) (some "list.__new__") := by
  obtain ⟨oc, od, cd, sl, ho, ha, hdel, h4, hm⟩ := made_acc w
  have hcls : clsIn (KK w.params) 195 = some cd := by unfold clsIn; rw [ho]
  have LM : Looks (model prog w) s.heap (mroOf (.ref 195)) [.ref 195, .type "list", .type "object"] := hm ▸ (looks_clsIn (M := model prog w) X hcls).andThen .now
  intro A Q E s k q
  unfold Bind.madeBy
  refine wpAny_bind (LM A _ E s k ?_)
  rw [List.forIn_cons]
  refine wpAny_bind (wpAny_bind (wpAny_bind (wpAny_bind (wpAny_loadPart (k _ _ (X _ _ ho)) (wpAny_pure ?_)))))
  dsimp only
  rw [← Array.getElem?_toList, h4]
  exact wpAny_pure (wpAny_pure (wpAny_pure q))
theorem new_acc {a : Value} (X : (KK w.params).In s.heap)
    (hq : R (.ok (.ret (.ref (s.heap.objs.size + 1)))) { s with heap := (s.heap.push emptyDict).push (accO s.heap.objs.size #[] 0) }) :
    codeAny (model prog w) A (.call (.builtin "list.__new__") ⟨[.ref 195, a], []⟩) R s := by
  obtain ⟨oc, od, cd, sl, ho, ha, hdel, h4, hm⟩ := made_acc w
  obtain ⟨hp, g, d, t, os⟩ := s
  have hC : hp.get? 195 = some ⟨oc, od, .cls cd, sl⟩ := X _ _ ho
  have hcls : clsIn (KK w.params) 195 = some cd := by unfold clsIn; rw [ho]
  have LC := looks_clsIn (M := model prog w) X hcls
  have LM : Looks (model prog w) hp (mroOf (.ref 195)) [.ref 195, .type "list", .type "object"] := hm ▸ LC.andThen .now
  have made : Looks (model prog w) hp (Bind.madeBy (.ref 195)) (some "list.__new__") := looks_made X
  have base : Looks (model prog w) hp (Bind.staticBase (.ref 195)) (.ref 195) := by
    intro A Q E s k q
    unfold Bind.staticBase
    refine wpAny_bind (LM A _ E s k ?_)
    rw [List.forIn_cons]
    exact wpAny_bind (wpAny_bind (wpAny_bind (made A _ E s k (wpAny_pure (wpAny_pure (wpAny_pure q))))))
  refine codeAny_call_builtin_code (plainId_quiet PySem.F.plain_list_new _) ?_
  simp only [checkBuiltinCall, F.kind_new, F.split_new]
  have LS : Looks (model prog w) hp (isSubtype (.ref 195) (.type "list")) true := looks_subIn (K := KK w.params) X (by k_is)
  have LT : Looks (model prog w) hp (isType (.ref 195)) true := fun A Q E s k q => by
    unfold isType loadHead
    refine wpAny_bind (wpAny_loadPart (k _ _ hC) ?_)
    exact wpAny_pure q
  have here : Looks (model prog w) hp (Bind.madeHere "list.__new__" (.ref 195)) () := base.andThen (made.andThen (Looks.of_pure (by simp only [Option.map_some, bne_self_eq_false, Bool.false_eq_true, if_false])))
  rw [if_pos (by decide)]
  refine wpAny_bind (LT.at ?_)
  simp only [Bool.not_true, Bool.false_eq_true, if_false]
  refine wpAny_bind (LS.at ?_)
  simp only [Bool.not_true, Bool.false_eq_true, if_false]
  refine wpAny_bind (base.at (wpAny_bind (made.at ?_)))
  simp only [bne_self_eq_false, Bool.false_eq_true, if_false]
  refine wpAny_of_eq (F.args_new a) ?_
  refine codeAny_builtin_stack PySem.F.entry_list_new rfl fun p st => ?_
  rw [Around.under_plainId PySem.F.plain_list_new _]
  have hown := owner_list_new
  simp only [hown]
  refine wpAny_bind (LT.at ?_)
  simp only [Bool.not_true, Bool.false_eq_true, if_false]
  refine wpAny_bind (LS.at ?_)
  simp only [Bool.not_true, Bool.false_eq_true, if_false]
  refine wpAny_bind (wpAny_pure ?_)
  have hC' := Heap.get?_push_of_some (accO hp.objs.size #[] 0) (Heap.get?_push_of_some emptyDict hC)
  rw [if_neg (by decide)]
  unfold newDict
  refine wpAny_bind (wpAny_newObj_type (wpAny_bind ?_))
  show wpAny _ _ (newObjAsIs _ _ _) _ _ _
  unfold newObjAsIs classHasDel
  refine wpAny_bind (wpAny_alloc (wpAny_bind (wpAny_bind (wpAny_load hC' (wpAny_pure ?_)))))
  rw [hdel]
  refine wpAny_pure (wpAny_pure ?_)
  show R _ _
  rw [Heap.size_push]
  exact hq

theorem init_fn (w : World) : findIn (KK w.params) (.ref 195) "__init__" = some (some (.ref 132)) := by k_is
theorem make_acc {a : Value} (X : (KK w.params).In s.heap)
    (hq : codeAny (model prog w) (A.under (.builtin "type.__call__" ⟨[.ref 195, a], []⟩)) (.call (.ref 132) ⟨[.ref (s.heap.objs.size + 1), a], []⟩) (InitBack (s.heap.objs.size + 1) R) { s with heap := (s.heap.push emptyDict).push (accO s.heap.objs.size #[] 0) }) :
    codeAny (model prog w) A (.call (.ref 195) ⟨[a], []⟩) R s := by
  obtain ⟨oc, od, cd, sl, ho, ha, hdel, h4, hm⟩ := made_acc w
  obtain ⟨hp, g, d, t, os⟩ := s
  have hC : hp.get? 195 = some ⟨oc, od, .cls cd, sl⟩ := X _ _ ho
  have call : Looks (model prog w) hp (specialOf (.ref 195) "__call__") (some (.builtin "type.__call__")) := looks_specialIn (K := KK w.params) X (by k_is)
  have typ : Looks (model prog w) hp (isInstance (.ref 195) (.type "type")) true := looks_instIn (K := KK w.params) X (by k_is)
  have hi : Looks (model prog w) hp (typeLookup (.ref 195) "__init__") (some (.ref 132)) := looks_findIn (K := KK w.params) X (init_fn w)
  have hnew : Looks (model prog w) hp (typeLookup (.ref 195) "__new__") (some (.builtin "list.__new__")) := looks_findIn (K := KK w.params) X (by k_is)
  have self : Looks (model prog w) hp (isSubtype (.ref 195) (.ref 195)) true := looks_subIn (K := KK w.params) X (by k_is)
  have hb : ∀ self, Looks (model prog w) hp (bindSpecial (.ref 132) self) (.ref 132, [self]) := fun self => bind_fn (K := KK w.params) X self (by k_is)
  refine codeAny_of_tree ?_
  show wpAny _ _ (callAny (.ref 195) _) _ _ _
  refine nd_load hC ?_
  show wpAny _ _ (callAny.viaDunder (.ref 195) _) _ _ _
  unfold callAny.viaDunder
  refine wpAny_bind (call.at ?_)
  dsimp only
  rw [tc_bind]
  refine wpAny_bind (wpAny_pure (wpAny_bind (wpAny_pure ?_)))
  refine wpAny_pure (a := Fin.again (.call (.builtin "type.__call__") ⟨[.ref 195, a], []⟩)) (And.intro rfl ?_)
  refine codeAny_call_builtin_at (Code.quiet_builtin _ (by decide +kernel)) entry_typeCall (check_slot tc_kind tc_split typ (tc_args _ _ _) ?_)
  unfold Builtin.«type.__call__»
  have LM : Looks (model prog w) hp (mroOf (.ref 195)) [.ref 195, .type "list", .type "object"] := hm ▸ ((Looks.ld (part := none) hC).andThen .now).andThen .now
  have made : Looks (model prog w) hp (Bind.madeBy (.ref 195)) (some "list.__new__") := looks_made X
  repeat (first | simp only [List.isEmpty_cons, Bool.false_eq_true, if_false] | with_reducible refine wpAny_call ?_ | lk)
  refine new_acc X ?_
  have k : ∀ b o, hp.get? b = some o → ((hp.push emptyDict).push (accO hp.objs.size #[] 0)).get? b = some o := fun b o e => Heap.get?_push_of_some _ (Heap.get?_push_of_some _ e)
  have hx : ((hp.push emptyDict).push (accO hp.objs.size #[] 0)).get? (hp.objs.size + 1) = some (accO hp.objs.size #[] 0) := by heap_get
  have t1 : Looks (model prog w) ((hp.push emptyDict).push (accO hp.objs.size #[] 0)) (typeOf (.ref (hp.objs.size + 1))) (.ref 195) := (Looks.ld hx).andThen .now
  have s1 := self.keeps k
  have i1 := hi.keeps k
  have b1 := (hb (.ref (hp.objs.size + 1))).keeps k
  unfold isInstance callSpecial? specialOf
  repeat (first | with_reducible refine wpAny_call ?_ | lk)
  refine codeAny_mono hq fun r s' z => ?_
  rcases r with e | (v | _ | _ | _) <;> first | exact z | exact z.elim | skip
  obtain ⟨rfl, z⟩ := z
  exact wpAny_pure (wpAny_pure z)
end
end Mine
end
section
open PySem PySem.W PyProof.Rows PySem.Calls
set_option Elab.async false
set_option maxRecDepth 100000
namespace Mine
section
variable {w : World} {g : Heap} {s : Shared} {A : Around} {R : Result → Shared → Prop} {mg mb : Str → Option Value} {news : List (Addr × Obj)}
/-- entering a function that holds its class's cell: as enterE, with the running code known -/
theorem enterS {name qual : Str} {params : Arguments} {body : List Stmt} {scope : Scope} {dV kV doc pm cdv ct oc : Value} {an od : Option Addr} {osl : Array (Option Value)} {f cc : Addr} {args : Args} {binds : List (Str × Value)}
    (X : (KK w.params).In g) (T : TR mg mb g) (kg : g.StaysIn s.heap)
    (hn : ∀ p ∈ news, s.heap.get? p.1 = some p.2 ∧ g.get? p.1 = none)
    (ho : (KK w.params).lookup f = some ⟨oc, od, .func (ksFn name qual params body scope dV kV doc pm an cdv ct cc), osl⟩) (hcd : codeIn (KK w.params) cdv qual = true) (hroom : A.depth < recursionLimit)
    (hbind : BindsTo s (ksFn name qual params body scope dV kV doc pm an cdv ct cc) args binds) (hloc : ∀ y ∈ binds, scope.names.lookup y.1 = some .local)
    (h : ∀ b L h₁, Fr b L h₁ (fun y => binds.reverse.lookup y) → News b L h₁ news → BaseAt w g mg mb s.heap (news.map (·.1)) L b →
      _root_.PySem.wpAt (MM w) (A.deeper (ksEnv qual scope L f cdv cc)) (.func body (ksEnv qual scope L f cdv cc)) (execs body (ksEnv qual scope L f cdv cc))
        (fun fl s' => R (.ok (.ret (match fl with | .ret v => v | _ => .none))) s') (fun _ _ => False)
        { s with heap := h₁, toks := s.toks + binds.length })
    (hcell : ∀ x ∈ scope.names, x.2 ≠ .cell) (hco : scope.isCoroutine = false) (hgen : scope.isGenerator = false) (hk : scope.kind = .function) :
    codeAny (MM w) A (.call (.ref f) args) R s := by
  have kX : ∀ a o, g.get? a = some o → a ∉ news.map (·.1) := fun a o e q => by
    obtain ⟨p, hp, rfl⟩ := List.mem_map.mp q
    rw [(hn p hp).2] at e; cases e
  have st : g.StaysIn (hideAll s.heap (news.map (·.1))) := fun a o e => hideAll_get _ (kg a o e) (kX a o e)
  have Xb : (KK w.params).In (hideAll s.heap (news.map (·.1))) := X.keeps st
  have Tb : TR mg mb (hideAll s.heap (news.map (·.1))) := T.keeps st
  refine ks_codeAny_call_defAt (fd := ksFn name qual params body scope dV kV doc pm an cdv ct cc) (body := body) (binds := binds) hroom (kg _ _ (X _ _ ho)) rfl (T.nolimit.keeps kg) (codeRec_of (X.keeps kg) hcd) rfl hbind hcell hloc (fun h₁ hns hk₁ => ?_) hco hgen hk
  exact ks_wpAt_mono (h (hideAll s.heap (news.map (·.1))) s.heap.objs.size h₁ ⟨hns, fun b o e => hk₁ b o (of_hideAll _ e), Nat.le_of_eq (hideAll_size _ _)⟩
    (fun p hp => ⟨hk₁ _ _ (hn p hp).1, Nat.ne_of_lt (Heap.lt_size (hn p hp).1), hideAll_none _ (List.mem_map_of_mem hp)⟩)
    ⟨Xb, Tb, st, fun a o e q => hideAll_get _ e q, fun a o e => of_hideAll _ e, get_size_none _⟩) (fun _ _ z => z) fun _ _ z => z.elim
end
section
variable {w : World} {A : Around} {E : Value → Shared → Prop} {s : Shared} {x dx : Addr} {items : Array Value} {n : Nat} {od : Obj}
variable {h₀ : Heap} {L : Addr} {m mg mb : Str → Option Value}
/-- the object that super() gives in a method of the list subclass -/
theorem super_node {body : List Stmt} {q : Str} {scope : Scope} {p0 p1 : Pos} {attr : Str} {whole : Sem Value} {fd : FuncData} {ar : Arg} {vs : Array Value} {file : Str} {tf : Tok} {oc ccl : Value} {odd cdd : Option Addr} {osl ccs : Array (Option Value)} {f cda : Addr} {Q : Value → Shared → Prop}
    (F : Fr h₀ L s.heap m) (X : (KK w.params).In s.heap) (T : TR mg mb s.heap)
    (hf : (KK w.params).lookup f = some ⟨oc, odd, .func fd, osl⟩) (hp : (fd.params.posonlyargs ++ fd.params.args).head? = some ar) (hv : m ar.arg = some (.ref x)) (hx : s.heap.get? x = some (accO dx items n)) (hd : s.heap.get? dx = some od)
    (hcode : (KK w.params).lookup cda = some ⟨ccl, cdd, .fields vs, ccs⟩) (hvs : vs[2]? = some (.str file tf)) (hfile : ((MM w).prog.main.file == file) = true)
    (hat : (attr == ("__class__" : Str)) = false) (hks : scope.names.lookup ("super" : Str) = some .globalImplicit) (hkc : scope.names.lookup ("__class__" : Str) = some .free) (hka : scope.names.lookup ar.arg = some .local) (hk : scope.kind = .function)
    (htop : ((MM w).prog.main.scope.names.lookup ("super" : Str)).isSome = false)
    (h : ∀ h', h'.get? s.heap.objs.size = some (ks_superObj 195 x 195) → (∀ y o, s.heap.get? y = some o → h'.get? y = some o) → Q (.ref s.heap.objs.size) { s with heap := h' }) :
    _root_.PySem.wpAt (MM w) A (.func body (ksEnv q scope L f (.ref cda) 119)) (attributeBase (.Call (.Name "super" p0) [] [] p1) attr (ksEnv q scope L f (.ref cda) 119) whole) Q E s := by
  obtain ⟨oC, odC, cdC, slC, hoC, ha, hdel, h4, hm⟩ := made_acc w
  obtain ⟨hh, g, d, t, os⟩ := s
  have hC : hh.get? 195 = some ⟨oC, odC, .cls cdC, slC⟩ := X _ _ hoC
  have hcell : hh.get? 119 = some (ob119 w.params) := X _ _ (by k_is)
  have I := acc_inst hx hd
  refine ks_wpAt_super_base (env := ksEnv q scope L f (.ref cda) 119) hks hkc hat rfl (X _ _ hf) rfl hp rfl (X _ _ hcode) rfl hvs hfile htop ?_
  refine ks_loadName_global hk hks (loadGlobal_builtin (env := ksEnv q scope L f (.ref cda) 119) T.g (mg_none_of X T.g (by k_is)) T.b ((T.builtins _ (by decide +kernel)).trans (show bootBuiltins "super" = some (.type "super") by decide +kernel)) ⟨rfl, ?_⟩)
  refine wpAny_loadName_free hk hkc rfl ⟨_, hcell, rfl⟩ ?_
  refine wpAny_loadName_local hk hka F.ns hv ?_
  refine ks_wpAny_isType_cls hC rfl ⟨rfl, ?_⟩
  refine ks_wpAny_call_super hC rfl hx rfl (fun c e => ?_) (looks_subIn (K := KK w.params) X (by k_is)) (fun h' e k => h h' e k)
  cases e

set_option maxHeartbeats 4000000 in
/-- a method of a list builtin, looked up on that object -/
theorem super_method {id dt bt gid : String} {b : Builtin} {name : Str} {pl : Sem Bool} {so : Addr} {Q : Value × List Value → Shared → Prop} (G : GetBi id dt bt gid b) (X : (KK w.params).In s.heap) (hx : s.heap.get? x = some (accO dx items n)) (hd : s.heap.get? dx = some od)
    (hso : s.heap.get? so = some (ks_superObj 195 x 195)) (hm : ks_superIn (KK w.params) 195 195 name = some (some (.builtin id))) (hn : (name == ("__class__" : Str)) = false)
    (h : Q (.ref s.heap.objs.size, []) { s with heap := s.heap.push (bndO bt id x), toks := s.toks + 1 }) : wpAny (MM w) A (getMethod (.ref so) name pl) Q E s := by
  obtain ⟨oC, odC, cdC, slC, hoC, ha, hdel, h4, hmr⟩ := made_acc w
  obtain ⟨hh, g, d, t, os⟩ := s
  have hcls : clsIn (KK w.params) 195 = some cdC := by unfold clsIn; rw [hoC]
  have LM : Looks (MM w) hh (mroOf (.ref 195)) [.ref 195, .type "list", .type "object"] := hmr ▸ (looks_clsIn (M := MM w) X hcls).andThen .now
  have hno : Looks (MM w) hh (opaqueClassAbove (.ref 195)) none := looks_opaque X (by k_is)
  unfold ks_superIn at hm
  rw [hcls, Option.bind_some, hmr] at hm
  generalize hl : List.drop 1 (List.dropWhile (fun x => x != Value.ref 195) [Value.ref 195, Value.type "list", Value.type "object"]) = l at hm
  have hlk := PySem.F.ks_slot_super_ga.lookup
  have hcan := PySem.F.ks_canon_super_ga
  have hT : ∀ t', (⟨hh, g, d, t', os⟩ : Shared).TypeIs (.ref so) "super" := fun _ => ⟨_, hso, rfl⟩
  have hxC : x ≠ 195 := by
    rintro rfl
    have := X _ _ hoC
    rw [hx] at this; cases this
  have hTf : ∀ t', (⟨hh, g, d, t', os⟩ : Shared).TypeIs (.builtin id) dt := fun _ => G.type
  have inner : ∀ (A : Around) (tk : Tok) (t : Nat) (E : Value → Shared → Prop), wpAny (MM w) A (Builtin.«super.__getattribute__» ⟨[.ref so, .str name tk], []⟩) (fun fin s' => ∃ v, fin = .done (.ret v) ∧ v = .ref hh.objs.size ∧ s' = ⟨hh.push (bndO bt id x), g, d, t, os⟩) E ⟨hh, g, d, t, os⟩ := by
    intro A tk t E
    have hne : (Value.ref x == Value.ref 195) = false := by simp [hxC]
    have hdt : (ks_superObj 195 x 195).data = .fields #[.ref 195, .ref x, .ref 195] := rfl
    have f0 : (#[.ref 195, .ref x, .ref 195] : Array Value)[0]? = some (.ref 195) := rfl
    have f1 : (#[.ref 195, .ref x, .ref 195] : Array Value)[1]? = some (.ref x) := rfl
    have f2 : (#[.ref 195, .ref x, .ref 195] : Array Value)[2]? = some (.ref 195) := rfl
    have LI : Looks (MM w) hh (isInstance (.ref x) (.type "list")) true := acc_isList X hx
    have gl := G.slot.lookup
    unfold Builtin.«super.__getattribute__»
    repeat (first
      | (with_reducible refine wpAny_field hso hdt f0 ?_) | (with_reducible refine wpAny_field hso hdt f1 ?_) | (with_reducible refine wpAny_field hso hdt f2 ?_)
      | (with_reducible refine ks_wpAny_notOpaque hno ?_)
      | (with_reducible refine Looks.at LM ?_; rw [hl])
      | ((with_reducible show wpAny _ _ (forIn _ _ _) _ _ _); refine ks_forIn_along X (fun _ _ => rfl) rfl ?_ hm)
      | (with_reducible refine wpAny_typeOf (hTf _) ?_)
      | (with_reducible refine wpAny_call_entry G.slot (hTf _) G.entry (G.get LI ?_) (G.args _ _ _))
      | (with_reducible refine ⟨_, rfl, ?_⟩)
      | (simp only [hn, hne, Bool.or_false, Bool.false_eq_true, if_false])
      | wp_step
      | dsimp only)
    all_goals (constructor <;> first | rfl | trivial)
  unfold getMethod
  refine wpAny_bind (wpAny_specialOf (hT _) hlk ?_)
  show wpAny _ _ (if (Manifest.canonical "super.__getattribute__" != "object.__getattribute__") = true then _ else _) _ _ _
  rw [if_pos hcan]
  unfold getAttr getAttrBy
  refine wpAny_bind (wpAny_bind (wpAny_mkText (wpAny_holding (wpAny_bind (wpAny_typeOf (hT _) (wpAny_bind (wpAny_of_eq hlk ?_)))))))
  show wpAny _ _ (getAttrByItsOwn (.ref so) (.str name t) (.type "super") (.builtin "super.__getattribute__") true false) _ _ _
  unfold getAttrByItsOwn hookBefore callGetattribute boundAndCalled
  refine wpAny_bind (wpAny_of_eq (show (if onTheHeap (.type "super") then typeLookup (.type "super") "__getattr__" else pure none) = pure none from rfl) ?_)
  refine wpAny_bind (wpAny_attempt (wpAny_holding ?_))
  show wpAny _ _ (bindSpecial (.builtin "super.__getattribute__") (.ref so) >>= _) _ _ _
  refine wpAny_bind (wpAny_of_eq (PySem.F.ks_slot_super_ga.bind _) ?_)
  refine wpAny_mono (Q := fun v s' => v = .ref hh.objs.size ∧ s' = ⟨hh.push (bndO bt id x), g, d, t + 1, os⟩) (E := fun _ _ => False)
    (wpAny_call_entry PySem.F.ks_slot_super_ga (hT _) PySem.F.ks_entry_super_ga (inner _ _ _ _) (PySem.F.ks_gaArgs_super _ _)) (fun v s' hv => ?_) fun _ _ z => z.elim
  obtain ⟨rfl, rfl⟩ := hv
  exact wpAny_pure (wpAny_pure h)

/-- calling such a bound object -/
theorem call_bound {id bt : String} {q : Addr} {b : Builtin} {Q : Value → Shared → Prop} (hq : s.heap.get? q = some (bndO bt id x)) (hbt : bt = "method-wrapper" ∨ bt = "builtin_function_or_method")
    (hc : ∀ (A : Around) (E : Value → Shared → Prop) (Q : Unit → Shared → Prop), Q () s → wpAny (MM w) A (checkBoundCall id ⟨[.ref x], []⟩) Q E s) (hp : plainId id = true) (he : entryFor table id = some b)
    (h : wpAny (MM w) A.in1 (b ⟨[.ref x], []⟩) (fun fin s' => ∃ v, fin = .done (.ret v) ∧ Q v s') E s) : wpAny (MM w) A (call (.ref q) []) Q E s := by
  refine wpAny_call (codeAny_of_tree ?_)
  show wpAny _ A.in1 (callAny (.ref q) _) _ _ _
  unfold callAny
  refine wpAny_bind (wpAny_load hq ?_)
  have fin : wpAny (MM w) A.in1 (do checkBoundCall id ⟨[.ref x], []⟩; again (.builtin id ⟨[.ref x], []⟩)) (fun fin s' => match fin with
      | .done f => (match (Except.ok f : Result) with | .ok (.ret v) => Q v s' | .ok _ => False | .error e => E e s')
      | .again c' => c'.quiet = true ∧ codeAny (MM w) A c' (fun r s' => match r with | .ok (.ret v) => Q v s' | .ok _ => False | .error e => E e s') s')
      (fun e s' => match (Except.error e : Result) with | .ok (.ret v) => Q v s' | .ok _ => False | .error e => E e s') s := by
    refine wpAny_bind (hc _ _ _ (wpAny_pure ⟨plainId_quiet hp _, codeAny_builtin he ?_⟩))
    rw [Around.under_plainId hp _]
    refine wpAny_mono h (fun fin s' h' => ?_) fun _ _ h' => h'
    obtain ⟨v, rfl, hv⟩ := h'
    exact hv
  rcases hbt with rfl | rfl <;> exact fin
end
end Mine
end
section
open PySem PySem.W PyProof.Rows PySem.Calls
set_option Elab.async false
set_option maxRecDepth 100000
namespace Mine
noncomputable abbrev isD (P : Params) (c : Nat) (i : Int) (it : Nat) : Obj := dictOf [⟨PyData.keyHash P (Str.ofString "_initial_size"), .str (Str.ofString "_initial_size") c, .int i it⟩] 1
section
variable {w : World} {A : Around} {E : Value → Shared → Prop} {s : Shared} {x dx : Addr} {items : Array Value} {n : Nat} {od : Obj}
variable {h₀ : Heap} {L : Addr} {m mg mb : Str → Option Value}
theorem callWith0 {env : Env} {pos : Pos} {q : Addr} {bt id : String} {Q : Value → Shared → Prop} (hq : s.heap.get? q = some (bndO bt id x)) (hbt : bt = "method-wrapper" ∨ bt = "builtin_function_or_method")
    (h : wpAny (MM w) A (call (.ref q) []) Q E s) : wpAny (MM w) A (callWith pos (.ref q) [] (backTo pos (starEach [] env)) []) Q E s := by
  refine callWith_of (P := fun hp => hp.get? q = some (bndO bt id x)) rfl (fun hp e => ⟨.machine, .inr (.inl rfl), ?_⟩) (evalArgs_nil3 ⟨hq, h⟩)
  refine (Looks.ld (part := none) e).andThen ?_
  rcases hbt with rfl | rfl <;> exact .now

/-- super().NAME() in a method of the list subclass, NAME a builtin of list without arguments -/
theorem super_expr {body : List Stmt} {q : Str} {scope : Scope} {p0 p1 p2 p3 : Pos} {name : Str} {fd : FuncData} {ar : Arg} {vs : Array Value} {file : Str} {tf : Tok} {oc ccl : Value} {odd cdd : Option Addr} {osl ccs : Array (Option Value)} {f cda : Addr} {Q : Value → Shared → Prop}
    {id dt bt gid : String} {gb b : Builtin} (G : GetBi id dt bt gid gb)
    (F : Fr h₀ L s.heap m) (X : (KK w.params).In s.heap) (T : TR mg mb s.heap)
    (hf : (KK w.params).lookup f = some ⟨oc, odd, .func fd, osl⟩) (hp : (fd.params.posonlyargs ++ fd.params.args).head? = some ar) (hv : m ar.arg = some (.ref x)) (hx : s.heap.get? x = some (accO dx items n)) (hd : s.heap.get? dx = some od)
    (hcode : (KK w.params).lookup cda = some ⟨ccl, cdd, .fields vs, ccs⟩) (hvs : vs[2]? = some (.str file tf)) (hfile : ((MM w).prog.main.file == file) = true)
    (hat : (name == ("__class__" : Str)) = false) (hks : scope.names.lookup ("super" : Str) = some .globalImplicit) (hkc : scope.names.lookup ("__class__" : Str) = some .free) (hka : scope.names.lookup ar.arg = some .local) (hk : scope.kind = .function)
    (htop : ((MM w).prog.main.scope.names.lookup ("super" : Str)).isSome = false)
    (hm : ks_superIn (KK w.params) 195 195 name = some (some (.builtin id)))
    (hbt : bt = "method-wrapper" ∨ bt = "builtin_function_or_method") (hpl : plainId id = true) (he : entryFor table id = some b)
    (hc : ∀ (s : Shared) (A : Around) (E : Value → Shared → Prop) (Q : Unit → Shared → Prop), (KK w.params).In s.heap → s.heap.get? x = some (accO dx items n) → Q () s → wpAny (MM w) A (checkBoundCall id ⟨[.ref x], []⟩) Q E s)
    {pl : Sem Bool} (hev : eval (.Call (.Attribute (.Call (.Name "super" p0) [] [] p1) name p2) [] [] p3) (ksEnv q scope L f (.ref cda) 119) = (do
      let ov ← attributeBase (.Call (.Name "super" p0) [] [] p1) name (ksEnv q scope L f (.ref cda) 119) (eval (.Call (.Name "super" p0) [] [] p1) (ksEnv q scope L f (.ref cda) 119))
      standAt p2.atName
      let (gg, first) ← holding [ov] (getMethod ov name pl)
      callWith p3 gg first (backTo p3 (starEach [] (ksEnv q scope L f (.ref cda) 119))) []))
    (h : ∀ h', (∀ y o, s.heap.get? y = some o → h'.get? y = some o) → wpAny (MM w) A.in1 (b ⟨[.ref x], []⟩) (fun fin s' => ∃ v, fin = .done (.ret v) ∧ Q v s') E { s with heap := h', toks := s.toks + 1 }) :
    _root_.PySem.wpAt (MM w) A (.func body (ksEnv q scope L f (.ref cda) 119)) (eval (.Call (.Attribute (.Call (.Name "super" p0) [] [] p1) name p2) [] [] p3) (ksEnv q scope L f (.ref cda) 119)) Q E s := by
  refine ks_wpAt_MethodCall (pl := pl) ?_ hev
  · refine (super_node F X T hf hp hv hx hd hcode hvs hfile hat hks hkc hka hk htop fun h' hso k => ?_)
    have hx' := k _ _ hx
    have hd' := k _ _ hd
    refine super_method G (X.keeps k) hx' hd' hso hm hat ?_
    have k2 : ∀ y o, s.heap.get? y = some o → (h'.push (bndO bt id x)).get? y = some o := fun y o e => Heap.get?_push_of_some _ (k y o e)
    have hq : (h'.push (bndO bt id x)).get? h'.objs.size = some (bndO bt id x) := Heap.get?_push_at rfl rfl
    refine callWith0 hq hbt (call_bound hq hbt (fun A E Q z => hc _ A E Q (X.keeps k2) (k2 _ _ hx) z) hpl he ?_)
    exact h _ k2
end
theorem file_ok (w : World) : ((MM w).prog.main.file == ("/claim/cut.py" : Str)) = true := (by decide +kernel : (PySem.Challenge.pw_xl0017_01.main.file == ("/claim/cut.py" : Str)) = true)
theorem top_ok (w : World) : ((MM w).prog.main.scope.names.lookup ("super" : Str)).isSome = false := (by decide +kernel : (PySem.Challenge.pw_xl0017_01.main.scope.names.lookup ("super" : Str)).isSome = false)
theorem sup_len (w : World) : ks_superIn (KK w.params) 195 195 "__len__" = some (some (.builtin "list.__len__")) := by kernel_rfl!
theorem sup_pop (w : World) : ks_superIn (KK w.params) 195 195 "pop" = some (some (.builtin "list.pop")) := by kernel_rfl!
theorem sup_init (w : World) : ks_superIn (KK w.params) 195 195 "__init__" = some (some (.builtin "list.__init__")) := by kernel_rfl!
theorem chk_len (x : Addr) : checkBoundCall "list.__len__" ⟨[.ref x], []⟩ = pure () := by kernel_rfl
section
variable {w : World} {g : Heap} {s : Shared} {A : Around} {E : Value → Shared → Prop} {x dx : Addr} {items : Array Value} {n : Nat}
theorem len_raw {Q : Value → Shared → Prop} (hx : s.heap.get? x = some (accO dx items n)) (h : Q (.int items.size s.toks) { s with toks := s.toks + 1 }) :
    wpAny (MM w) A (Builtin.«list.__len__» ⟨[.ref x], []⟩) (fun fin s' => ∃ v, fin = .done (.ret v) ∧ Q v s') E s := by
  unfold Builtin.«list.__len__»
  refine wpAny_bind (m := slotArgs _ _ _) (wpAny_pure ?_)
  dsimp only
  unfold seqSize
  refine wpAny_bind (wpAny_bind (wpAny_loadPart hx ?_))
  exact wpAny_pure (wpAny_bind (wpAny_mkInt (wpAny_pure ⟨_, rfl, h⟩)))
theorem erase_last (items : Array Value) (v : Value) : (items.push v).eraseIdxIfInBounds items.size = items := by
  unfold Array.eraseIdxIfInBounds
  rw [dif_pos (by simp)]
  apply Array.ext'
  rw [Array.toList_eraseIdx, Array.toList_push, List.eraseIdx_append_of_length_le (by simp)]
  simp
theorem pop_raw {v : Value} {Q : Value → Shared → Prop} (hx : s.heap.get? x = some (accO dx (items.push v) n)) (hz : items.size < sizeLine)
    (h : ∀ h', h'.get? x = some (accO dx items (n + 1)) → Kept [x] s.heap h' → Q v { s with heap := h' }) : wpAny (MM w) A (Builtin.«list.pop» ⟨[.ref x], []⟩) (fun fin s' => ∃ v, fin = .done (.ret v) ∧ Q v s') E s := by
  unfold Builtin.«list.pop»
  refine wpAny_bind (m := selfAndSome _ _ _ _ _) (wpAny_pure ?_)
  refine wpAny_bind (wpAny_pure ?_)
  dsimp only
  rw [if_neg (by decide)]
  refine wpAny_bind (wpAny_listItems hx rfl ?_)
  rw [if_neg (by simp)]
  have e : ((seqIndex? (-1) (items.push v).size).bind fun k => (items.push v)[k]?.map (k, ·)) = some (items.size, v) := by
    have h2 : seqIndex? (-1) (items.size + 1) = some items.size := by
      unfold seqIndex?
      dsimp only
      have h3 : (if (-1 : Int) < 0 then -1 + ((items.size + 1 : Nat) : Int) else -1) = items.size := by rw [if_pos (by decide)]; omega
      rw [h3, if_pos (by simp; omega)]
      simp
    rw [Array.size_push, h2]; simp
  rw [e]
  dsimp only
  have en : Obj.mapSeq (·.eraseIdxIfInBounds items.size) (accO dx (items.push v) n) = accO dx items (n + 1) := by
    unfold Obj.mapSeq
    simp only [erase_last, Array.size_push]
    rw [if_neg (by simp)]
  have up := Heap.get?_update_self (Obj.mapSeq (·.eraseIdxIfInBounds items.size)) hx (by rw [en]; rfl)
  rw [en] at up
  exact wpAny_bind (wpAny_updateSeq hx rfl (wpAny_pure ⟨_, rfl, h _ up fun a o e q => (Heap.get?_update_other _ _ (fun z => q (by simp [z]))).trans e⟩) (by rw [Array.size_push]; omega) (by rw [erase_last]; omega))
theorem Kept.trans2 {W : List Addr} {h h' h'' : Heap} (x : Kept [] h h') (y : Kept W h' h'') : Kept W h h'' := fun a o e q => y a o (x a o e (by simp)) q
theorem Kept.shrink {W W' : List Addr} {h h' : Heap} (k : Kept W h h') (hs : ∀ a ∈ W, a ∉ W' → ∀ o, h.get? a = some o → h'.get? a = some o) : Kept W' h h' := fun a o e q => by
  by_cases z : a ∈ W
  · exact hs a z q o e
  · exact k a o e z
theorem keptAll {mg mb : Str → Option Value} {h0 b h₁ : Heap} {L : Addr} {m : Str → Option Value} {news : List (Addr × Obj)} (B : BaseAt w g mg mb h0 (news.map (·.1)) L b) (F : Fr b L h₁ m) (N : News b L h₁ news) (hn : ∀ p ∈ news, h0.get? p.1 = some p.2) : Kept [] h0 h₁ :=
  (B.kept F).shrink fun a ha _ o e => by
    obtain ⟨p, hp, rfl⟩ := List.mem_map.mp ha
    rw [hn p hp] at e; cases e
    exact (N p hp).1
end
section
variable {w : World} {A : Around} {E : Value → Shared → Prop} {s : Shared} {x dx : Addr} {items : Array Value} {n : Nat} {od : Obj} {name : Str}
theorem method_acc {pl : Sem Bool} {Q : Value × List Value → Shared → Prop} {v : Value} {T : String} (X : (KK w.params).In s.heap) (hx : s.heap.get? x = some (accO dx items n)) (hd : s.heap.get? dx = some od)
    (hf : findIn (KK w.params) (.ref 195) name = some (some v)) (ht : typeIn (KK w.params) v = some (.type T)) (hT : (Value.type T != .type "function" && Value.type T != .type "method_descriptor" && Value.type T != .type "wrapper_descriptor") = false) (hs : lookIn name od = some none) (h : Q (v, [.ref x]) s) :
    wpAny (MM w) A (getMethod (.ref x) name pl) Q E s := by
  have hcan : Manifest.canonical "list.__getattribute__" = "object.__getattribute__" := by decide +kernel
  have I := acc_inst hx hd
  have hga : findIn (KK w.params) (.ref 195) "__getattribute__" = some (some (.builtin "list.__getattribute__")) := by k_is
  have hk : findIn (KK w.params) (.ref 195) "__getattr__" = some none := by k_is
  unfold getMethod specialOf
  refine wpAny_bind (wpAny_bind (I.type.here ((looks_findIn X hga).here ?_)))
  dsimp only
  rw [hcan, if_neg (by decide)]
  refine wpAny_bind (wpAny_bind (I.type.here ((looks_findIn X hk).here ?_)))
  refine wpAny_bind (wpAny_bind (I.type.here ((looks_findIn X hf).here (wpAny_bind ((looks_typeIn X ht).here ?_)))))
  rw [if_neg (by rw [hT]; decide)]
  refine wpAny_bind (wpAny_loadPart hx ?_)
  refine wpAny_bind (wpAny_bind (wpAny_loadPart hd ?_))
  rw [nsLook_of hs]
  exact wpAny_pure (wpAny_bind (wpAny_rule (wpAny_pure h)))
end
section
variable {w : World} {g : Heap} {s : Shared} {A : Around} {R : Result → Shared → Prop} {mg mb : Str → Option Value} {x dx : Addr} {items : Array Value} {n : Nat} {od : Obj}
theorem part_count_spec (X : (KK w.params).In g) (T : TR mg mb g) (kg : g.StaysIn s.heap) (hx : s.heap.get? x = some (accO dx items n)) (hd : s.heap.get? dx = some od) (gx : g.get? x = none) (gd : g.get? dx = none) (hA : A.depth < 900)
    (h : ∀ h' tk t, Kept [] s.heap h' → R (.ok (.ret (.int items.size t))) { s with heap := h', toks := tk }) : codeAny (MM w) A (.call (.ref 192) ⟨[.ref x], []⟩) R s := by
  refine' enterS (news := [(x, accO dx items n), (dx, od)]) (binds := [("self", .ref x)]) X T kg ?n ?ho ?hcd ?room ?bind ?loc ?_ ?c1 ?c2 ?c3 ?c4
  case ho => k_is
  case hcd => k_is
  case room => first | exact Nat.lt_of_lt_of_le hA (by decide) | exact Nat.lt_of_lt_of_le (by omega : _ < 990) (by decide)
  case bind => exact BindsTo.of_eq rfl
  case loc => exact locs rfl
  case n =>
    intro p hp
    simp only [List.mem_cons, List.mem_nil_iff, or_false] at hp
    rcases hp with rfl | rfl
    · exact ⟨hx, gx⟩
    · exact ⟨hd, gd⟩
  case c1 => decide
  case c2 => rfl
  case c3 => rfl
  case c4 => rfl
  intro b L h₁ F N B
  refine ks_wpAt_execs_cons ?_
  refine ks_wpAt_Return_some ?_
  have X1 : (KK w.params).In h₁ := B.k.keeps F.keep
  have T1 : TR mg mb h₁ := B.t.keeps F.keep
  have hx1 := (N _ (List.mem_cons_self ..)).1
  have hd1 := (N _ (List.mem_cons_of_mem _ (List.mem_cons_self ..))).1
  refine super_expr get_len F X1 T1 (by k_is) rfl rfl hx1 hd1 (by k_is) rfl (file_ok w) (by decide +kernel) (by rfl) (by rfl) (by rfl) rfl (top_ok w) (sup_len w) (.inl rfl) (by decide +kernel) Mine.F.entry_len (fun s A E Q _ _ q => wpAny_of_eq (chk_len x) q) rfl (fun h' k => ?_)
  refine len_raw (k _ _ hx1) ?_
  refine h _ _ _ ?_
  exact (keptAll B F N (by simpa using ⟨hx, hd⟩)).trans (W' := []) (fun a o e _ => k a o e) (fun a q => by cases q)
theorem sig_pop : ∃ sig, Manifest.signature? "list.pop" = some sig ∧ ∀ x, Bind.checkArgs "list.pop" { sig with full := "_Accumulator.pop" } ⟨[.ref x], []⟩ = pure () :=
  ⟨(Manifest.signature? "list.pop").get (by decide +kernel), (Option.some_get _).symm, fun x => by kernel_rfl⟩
theorem qual_acc (w : World) : ((clsIn (KK w.params) 195).any fun cd => cd.qualname.toString == "_Accumulator") = true := by kernel_rfl!
theorem chk_pop {E : Value → Shared → Prop} {Q : Unit → Shared → Prop} (X : (KK w.params).In s.heap) (hx : s.heap.get? x = some (accO dx items n)) (q : Q () s) : wpAny (MM w) A (checkBoundCall "list.pop" ⟨[.ref x], []⟩) Q E s := by
  obtain ⟨sig, hs, hc⟩ := sig_pop
  obtain ⟨oc, od, cd, sl, ho, ha, hdel, h4, hm⟩ := made_acc w
  have hcls : clsIn (KK w.params) 195 = some cd := by unfold clsIn; rw [ho]
  have hq : cd.qualname.toString = "_Accumulator" := by
    have := qual_acc w
    rw [hcls] at this
    exact eq_of_beq this
  have LC := looks_clsIn (M := MM w) X hcls
  have LI : Looks (MM w) s.heap (isInstance (.ref x) (.type "module")) false := ((Looks.ld hx).andThen .now).andThen (looks_subIn (K := KK w.params) (t := .ref 195) X (by k_is))
  have LT : Looks (MM w) s.heap (typeOf (.ref 195)) (.type "type") := looks_typeIn (K := KK w.params) X (by k_is)
  obtain ⟨hp, g, d, t, os⟩ := s
  unfold checkBoundCall
  rw [hs, show builtinKind "list.pop" = some .method by decide +kernel]
  dsimp only
  rw [if_neg (by decide)]
  refine wpAny_bind (LI.at ?_)
  rw [if_neg (by decide +kernel)]
  refine wpAny_bind (ks_wpAny_isType_inst hx (fun c e => by cases e) ?_)
  rw [if_neg (by decide)]
  refine wpAny_bind (wpAny_bind (wpAny_loadPart hx (wpAny_pure ?_)))
  dsimp only
  refine wpAny_bind (LC.at (wpAny_bind (LT.at ?_)))
  rw [if_pos (by decide), hq]
  refine wpAny_of_eq (hc x) ?_
  exact q
theorem pop_spec {its : Array Value} {v : Value} {c it : Nat} {i : Int} (X : (KK w.params).In g) (T : TR mg mb g) (kg : g.StaysIn s.heap) (hx : s.heap.get? x = some (accO dx (its.push v) n)) (hd : s.heap.get? dx = some (isD w.params c i it)) (gx : g.get? x = none) (gd : g.get? dx = none) (hA : A.depth < 890)
    (hz : its.size < sizeLine)
    (h : ∀ h' tk, Kept [x] s.heap h' → h'.get? x = some (accO dx its (n + 1)) → R (.ok (.ret v)) { s with heap := h', toks := tk }) : codeAny (MM w) A (.call (.ref 155) ⟨[.ref x], []⟩) R s := by
  refine' enterS (news := [(x, accO dx (its.push v) n), (dx, isD w.params c i it)]) (binds := [("self", .ref x)]) X T kg ?n ?ho ?hcd ?room ?bind ?loc ?_ ?c1 ?c2 ?c3 ?c4
  case ho => k_is
  case hcd => k_is
  case room => first | exact Nat.lt_of_lt_of_le hA (by decide) | exact Nat.lt_of_lt_of_le (by omega : _ < 990) (by decide)
  case bind => exact BindsTo.of_eq rfl
  case loc => exact locs rfl
  case n =>
    intro p hp
    simp only [List.mem_cons, List.mem_nil_iff, or_false] at hp
    rcases hp with rfl | rfl
    · exact ⟨hx, gx⟩
    · exact ⟨hd, gd⟩
  case c1 => decide
  case c2 => rfl
  case c3 => rfl
  case c4 => rfl
  intro b L h₁ F N B
  have X1 : (KK w.params).In h₁ := B.k.keeps F.keep
  have T1 : TR mg mb h₁ := B.t.keeps F.keep
  have hx1 := (N _ (List.mem_cons_self ..)).1
  have hd1 := (N _ (List.mem_cons_of_mem _ (List.mem_cons_self ..))).1
  refine ks_wpAt_execs_cons (ks_wpAt_If (wpAt_of_wpAny ?_))
  have X' := B.k
  have T' := B.t
  iterate 3 walk1
  refine method_acc X1 hx1 hd1 (by k_is) (by k_is) (by decide) rfl ?_
  iterate 1 walk1
  refine wpAny_call (part_count_spec X' T' F.keep hx1 hd1 (N _ (List.mem_cons_self ..)).2.2 (N _ (List.mem_cons_of_mem _ (List.mem_cons_self ..))).2.2 (by first | exact dd1 hA (by decide) | (simp only [depth_deeper]; omega)) (fun h₂ tk t k => ?_))
  obtain ⟨F2, N2⟩ := called F k (fun a q => by cases q) (fun p hp => ⟨k _ _ (N p hp).1 (by simp), (N p hp).2⟩)
  dsimp only
  clear k N hx1 hd1 X1 T1 F
  iterate 3 walk1
  rw [if_neg (by rw [Array.size_push, beq_iff_eq]; omega)]
  refine wpAt_of_wpAny (wpAny_execs_nil ?_)
  refine ks_wpAt_execs_cons (ks_wpAt_Return_some ?_)
  have X2 : (KK w.params).In h₂ := X'.keeps F2.keep
  have T2 : TR mg mb h₂ := T'.keeps F2.keep
  have hx2 := (N2 _ (List.mem_cons_self ..)).1
  have hd2 := (N2 _ (List.mem_cons_of_mem _ (List.mem_cons_self ..))).1
  refine super_expr get_pop F2 X2 T2 (by k_is) rfl rfl hx2 hd2 (by k_is) rfl (file_ok w) (by decide +kernel) (by rfl) (by rfl) (by rfl) rfl (top_ok w) (sup_pop w) (.inr rfl) (by decide +kernel) Mine.F.entry_pop (fun s A E Q X hx q => chk_pop X hx q) rfl (fun h' k => ?_)
  refine pop_raw (k _ _ hx2) hz (fun h3 hx3 k3 => ?_)
  refine h _ _ ?_ hx3
  have k0 := (keptAll B F2 N2 (by simpa using ⟨hx, hd⟩))
  exact (k0.trans (W' := []) (fun a o e _ => k a o e) (fun a q => by cases q)).trans2 k3
end
end Mine
end
section
open PySem PySem.W PyProof.Rows PySem.Calls
set_option Elab.async false
set_option maxRecDepth 100000
namespace Mine
noncomputable def IsSeq (h : Heap) (l : Addr) (items : Array Value) : Prop := ∃ o n, h.get? l = some o ∧ o.data = .seq items n
theorem IsSeq.at {h h' : Heap} {l : Addr} {items : Array Value} (x : IsSeq h l items) (k : ∀ o, h.get? l = some o → h'.get? l = some o) : IsSeq h' l items := let ⟨o, n, a, b⟩ := x; ⟨o, n, k _ a, b⟩
section
variable {prog : Program} {w : World} {A : Around} {E : Value → Shared → Prop} {s : Shared}
/-- a turn of a list iterator over anything that holds a sequence -/
theorem next_seq {it l : Addr} {i : Nat} {items : Array Value} {x : Value} {Q : Option Value → Shared → Prop} (hit : s.heap.IsListIter it l i) (hl : IsSeq s.heap l items) (hx : items[i]? = some x)
    (hQ : ∀ h', h'.IsListIter it l (i + 1) → Heap.SameBut it s.heap h' → Q (some x) { s with heap := h' }) : wpAny (model prog w) A (pyNext (.ref it)) Q E s := by
  obtain ⟨o, ho, hc, hd⟩ := id hit
  obtain ⟨ol, nl, hol, hdl⟩ := hl
  unfold pyNext
  refine wpAny_bind (wpAny_attempt (wpAny_callSpecial?_slot (name := Str.ofString "__next__") hit.typeIs slot_listiter_next (wpAny_call_entry slot_listiter_next hit.typeIs entry_listiter_next ?_ (args_listiter_next _))))
  show wpAny _ _ (field (.ref it) 0 >>= _) _ _ s
  refine wpAny_bind (wpAny_field ho hd (x := .ref l) rfl ?_)
  show wpAny _ _ (if (Value.ref l == Value.none) = true then _ else (field (.ref it) 1 >>= _)) _ _ s
  rw [if_neg (show ¬ ((Value.ref l == Value.none) = true) from Bool.false_ne_true)]
  refine wpAny_bind (wpAny_field ho hd (x := .int i 0) rfl ?_)
  show wpAny _ _ (seqItems? (.ref l) >>= _) _ _ s
  refine wpAny_bind (wpAny_seqItems hol hdl ?_)
  simp only [Int.toNat_natCast, hx]
  refine wpAny_bind (wpAny_setField ho hd (by simp) ?_)
  refine wpAny_pure ⟨x, rfl, wpAny_pure (hQ _ ⟨_, Heap.get?_update_self _ ho (Obj.isFreed_of_fields (Obj.data_mapFields hd _)), (Obj.cls_mapFields ..).trans hc, ?_⟩ (Heap.SameBut.update ..))⟩
  rw [Obj.data_mapFields hd]
  simp [rawInt]

/-- the end of such an iterator -/
theorem end_seq {it l : Addr} {i : Nat} {items : Array Value} {Q : Option Value → Shared → Prop} (hh : A.handled = none) (hit : s.heap.IsListIter it l i) (hl : IsSeq s.heap l items) (hx : items[i]? = none)
    (hQ : ∀ h', Heap.ExtBut it s.heap h' → Q none { s with heap := h' }) : wpAny (model prog w) A (pyNext (.ref it)) Q E s := by
  obtain ⟨o, ho, hc, hd⟩ := id hit
  obtain ⟨ol, nl, hol, hdl⟩ := hl
  unfold pyNext
  refine wpAny_bind (wpAny_attempt (wpAny_callSpecial?_slot (name := Str.ofString "__next__") hit.typeIs slot_listiter_next (wpAny_call_entry slot_listiter_next hit.typeIs entry_listiter_next ?_ (args_listiter_next _))))
  show wpAny _ _ (field (.ref it) 0 >>= _) _ _ s
  refine wpAny_bind (wpAny_field ho hd (x := .ref l) rfl ?_)
  show wpAny _ _ (if (Value.ref l == Value.none) = true then _ else (field (.ref it) 1 >>= _)) _ _ s
  rw [if_neg (show ¬ ((Value.ref l == Value.none) = true) from Bool.false_ne_true)]
  refine wpAny_bind (wpAny_field ho hd (x := .int i 0) rfl ?_)
  show wpAny _ _ (seqItems? (.ref l) >>= _) _ _ s
  refine wpAny_bind (wpAny_seqItems hol hdl ?_)
  simp only [Int.toNat_natCast, hx]
  refine wpAny_bind (wpAny_rule (wpAny_bind (wpAny_setField ho hd (by simp) ?_)))
  show wpAny _ _ (newExc (.type "StopIteration") [] >>= _) _ _ _
  refine wpAny_bind ?_
  simp only [newExc, newTuple]
  refine wpAny_bind (wpAny_newObj_type ?_ (by size_fits))
  refine wpAny_bind (m := firstArgMember _ _) (wpAny_of_eq (a := Value.none) rfl ?_)
  refine wpAny_newObj_type ?_ (by size_fits)
  simp only [raiseNew]
  refine wpAny_bind (wpAny_handled ?_)
  rw [show A.in1.handled = none from hh]
  refine wpAny_bind (wpAny_pure (wpAny_throw ?_))
  refine wpAny_bind (wpAny_isInstance (T := "StopIteration") (b := true) ⟨_, Heap.get?_push_size _ rfl, rfl⟩ isSubtype_stop ?_)
  exact wpAny_pure (hQ _ (((Heap.SameBut.update ..).extBut.push _).push _))
end

/-- walking the pairs of a sequence -/
theorem walks_seq {prog : Program} {w : World} {A : Around} (hh : A.handled = none) (I ax : Addr) (hne : ax ≠ I) (items : Array Value) (Ts : Nat → Addr) (vals : Nat → Array Value)
    (hit : ∀ j, j < items.size → items[j]? = some (.ref (Ts j))) (hTI : ∀ j, j < items.size → Ts j ≠ I) :
    WalksU prog w A I (I :: ax :: (List.range items.size).map Ts) [I] items.size (fun j v => v = vals j)
      (fun j h => h.IsListIter I ax j ∧ IsSeq h ax items ∧ ∀ k, k < items.size → h.IsTuple (Ts k) (vals k))
      (fun j T h => (j < items.size ∧ T = Ts j) ∧ h.IsListIter I ax (j + 1) ∧ IsSeq h ax items ∧ ∀ k, k < items.size → h.IsTuple (Ts k) (vals k)) where
  sub := fun b hb => by simp at hb; simp [hb]
  frame := fun _ _ _ st hk => ⟨st.1.at fun o e => hk I (by simp) o e, st.2.1.at fun o e => hk ax (by simp) o e,
    fun k hk' => (st.2.2 k hk').at fun o e => hk (Ts k) (List.mem_cons_of_mem _ (List.mem_cons_of_mem _ (List.mem_map.mpr ⟨k, List.mem_range.mpr hk', rfl⟩))) o e⟩
  item := fun i s Q E hi st hQ => by
    refine next_seq st.1 st.2.1 (x := .ref (Ts i)) (hit i hi) fun h' hit' hs' => ?_
    have tup : ∀ k, k < items.size → h'.IsTuple (Ts k) (vals k) := fun k hk' => (st.2.2 k hk').extBut hs'.extBut (hTI k hk')
    exact hQ (Ts i) (vals i) h' s.toks rfl (tup i hi) ⟨⟨hi, rfl⟩, hit', st.2.1.at fun o e => hs'.extBut ax o hne e, tup⟩ fun b o hb e => hs'.extBut b o (fun h => hb (by simp [h])) e
  go := fun _ _ _ _ _ s Q _ hm hQ => wpAny_letOwnedTupleGo_listiter hm.2.1 (hQ s.heap hm.2 fun _ _ _ e => e)
  apart := fun j T _ hm hmem => by
    rcases List.mem_cons.mp hmem with e | e
    · exact hTI j hm.1.1 (hm.1.2 ▸ e)
    · cases e
  done := fun s Q E st hQ => end_seq hh st.1 st.2.1 (by simp) fun h' he' => hQ h' s.toks fun b o hb e => he' b o (fun h => hb (by simp [h])) e
  self := fun _ _ _ _ st hQ => wpAny_pyIter_listiter st.1 hQ
end Mine
end
section
open PySem PySem.W PyProof.Rows PySem.Calls
set_option Elab.async false
set_option maxRecDepth 100000
namespace Mine
theorem pass_all (n : Nat) : passing (fun _ => true) n 0 = List.range n := by
  simp [passing]
section
variable {prog : Program} {w : World} {A : Around} {E : Value → Shared → Prop} {s : Shared}
theorem shiftW {I : Addr} {fp wr : List Addr} {G : Array GenState → Array GenState → Prop} {n : Nat} {P : Nat → Value → Prop} {St : Nat → Shared → Prop} (W : WalksS prog w A I fp wr G n P St) :
    WalksS prog w A I fp wr G (n + 1) (fun j v => ∃ k, j = k + 1 ∧ P k v) (fun j s => ∃ k, j = k + 1 ∧ St k s) where
  sub := W.sub
  grefl := W.grefl
  gtrans := W.gtrans
  frame := fun i s h' tk st ht hk => by
    obtain ⟨k, rfl, st⟩ := st
    exact ⟨k, rfl, W.frame k s h' tk st ht hk⟩
  item := fun i s Q E hi st hQ => by
    obtain ⟨k, rfl, st⟩ := st
    exact W.item k s Q E (by (first | lia | omega)) st fun v s' hp hs hm => hQ v s' ⟨k, rfl, hp⟩ ⟨k + 1, rfl, hs⟩ hm
  done := fun s Q E st hQ => by
    obtain ⟨k, e, st⟩ := st
    obtain rfl : n = k := by (first | lia | omega)
    exact W.done s Q E st hQ
  self := fun i s Q E st hQ => by
    obtain ⟨k, rfl, st⟩ := st
    exact W.self k s Q E st hQ
namespace F
theorem args_sum2 (a b : Value) : argsOk "sum" ⟨[a, b], []⟩ := by unfold argsOk; kernel_rfl
end F
/-- sum(GENERATOR, START) -/
theorem sum2 {I : Addr} {fp wr : List Addr} {G : Array GenState → Array GenState → Prop} {n : Nat} {P : Nat → Value → Prop} {St : Nat → Shared → Prop} {i : Int} {ti : Tok} {Q : Value → Shared → Prop}
    (W : WalksS prog w A.in1 I fp wr G n P St) (val : Nat → Int) (hval : ∀ i v, P i v → ∃ t, v = .int (val i) t) (hst : St 0 s) (hfp : ∀ b ∈ fp, b < s.heap.objs.size)
    (hQ : ∀ s' t', Moved wr G s s' → Q (.int (preSum (fun j => if j = 0 then i else val (j - 1)) (n + 1)) t') s') : wpAny (model prog w) A (call (.builtin "sum") [.ref I, .int i ti]) Q E s := by
  refine call_function_tree PySem.F.kind_sum PySem.F.plain_sum PySem.F.entry_sum (F.args_sum2 _ _) ?_
  unfold Builtin.«sum»
  simp only [List.length_cons, List.length_nil]
  rw [if_neg (by decide)]
  refine wpAny_bind (wpAny_of_eq (show Builtin.Builtins.bindParams "sum" ["start"] 0 ⟨[.int i ti], []⟩ = pure [some (.int i ti)] from rfl) ?_)
  refine wpAny_bind (W.self 0 _ _ _ hst ?_)
  have fin : ∀ (t' : Tok) (tk : Tok) (stage : Int), (stage = 0 ∨ stage = 2) → s.toks ≤ tk → wpAny (model prog w) A.in1 (do
      for (ty, what, hint) in [("str", "strings", "''"), ("bytes", "bytes", "b''"), ("bytearray", "bytearray", "b''")] do
        if ← isInstance (.int i t') (.type ty) then
          rule "sum.start-refused"; raiseError "TypeError" s!"sum() can't sum {what} [use {hint}.join(seq) instead]"
      again (.builtin "sum.loop" ⟨[.ref I, ← newList [.int i t'], rawInt stage, rawInt 0], []⟩))
      (fun fin s' => match fin with | .done f => (match f with | .ret v => Q v s' | _ => False) | .again c' => c'.quiet = true ∧ codeAny (model prog w) A c' (fun r s' => match r with | .ok (.ret v) => Q v s' | .ok _ => False | .error e => E e s') s') E { s with toks := tk } := by
    intro t' tk stage hs ht
    simp only [List.forIn_cons, List.forIn_nil]
    refine wpAny_bind (wpAny_bind (wpAny_bind (wpAny_isInstance (T := "int") (b := false) (typeIs_int _ _ _) PySem.sub_int_str ?_)))
    simp only [Bool.false_eq_true, if_false]
    refine wpAny_pure (wpAny_bind (wpAny_bind (wpAny_isInstance (T := "int") (b := false) (typeIs_int _ _ _) PySem.sub_int_bytes ?_)))
    simp only [Bool.false_eq_true, if_false]
    refine wpAny_pure (wpAny_bind (wpAny_bind (wpAny_isInstance (T := "int") (b := false) (typeIs_int _ _ _) PySem.sub_int_bytearray ?_)))
    simp only [Bool.false_eq_true, if_false]
    refine wpAny_pure (wpAny_pure ?_)
    refine wpAny_bind (wpAny_newObj_type ?_)
    have hSf : s.heap.objs.size ∉ fp := fun hm => Nat.lt_irrefl _ (hfp _ hm)
    have e1 : preSum (fun j => if j = 0 then i else val (j - 1)) 1 = i := by simp [preSum]
    refine wpAny_pure ⟨plainId_quiet PySem.F.plain_sum_loop _, codeAny_sum_loopAnyS (shiftW W) (fun j => if j = 0 then i else val (j - 1)) (fun j v hp => ?_) s.heap.objs.size hSf n 1 _ t' 0 stage hs (by (first | lia | omega)) (by (first | lia | omega))
      ⟨0, rfl, W.frame 0 s _ _ hst ht fun b _ o e => Heap.get?_push_of_some _ e⟩ (by rw [e1]; exact Heap.get?_push_size _ rfl) fun s' t'' hm => ?_⟩
    · obtain ⟨k, rfl, hp⟩ := hp
      obtain ⟨t, rfl⟩ := hval k v hp
      exact ⟨t, by simp⟩
    · exact hQ s' t'' (hm.drop_new ht)
  dsimp only
  split
  · refine wpAny_bind (wpAny_rule (wpAny_bind (wpAny_mkInt ?_)))
    refine wpAny_bind (wpAny_pure ?_)
    refine wpAny_mono (fin s.toks (s.toks + 1) 0 (.inl rfl) (Nat.le_succ _)) (fun r s' hr => ?_) fun _ _ e => e
    rcases r with (_ | _ | _ | _) | _ <;> exact hr
  · refine wpAny_bind (wpAny_pure ?_)
    refine wpAny_mono (fin ti s.toks 2 (.inr rfl) (Nat.le_refl _)) (fun r s' hr => ?_) fun _ _ e => e
    rcases r with (_ | _ | _ | _) | _ <;> exact hr
end
end Mine
end
section
open PySem PySem.W PyProof.Rows PySem.Calls
set_option Elab.async false
set_option maxRecDepth 100000
namespace Mine
section
variable {w : World} {A : Around} {E : Value → Shared → Prop} {s : Shared} {x dx : Addr} {items : Array Value} {n : Nat} {od : Obj}
noncomputable def CodeX (h : Heap) (c P : Addr) (ps : Array Value) : Prop := h.IsCode c P ps ∧ h.TableAt c P ps
theorem CodeX.keeps {h h' : Heap} {c P : Addr} {ps : Array Value} (x : CodeX h c P ps) (hk : ∀ b o, h.get? b = some o → h'.get? b = some o) : CodeX h' c P ps := ⟨x.1.keeps hk, x.2.keeps hk⟩
theorem CodeX.push {h : Heap} {c P : Addr} {ps : Array Value} (x : CodeX h c P ps) (o : Obj) : CodeX (h.push o) c P ps := ⟨x.1.push o, x.2.push o⟩
theorem genexpr_X {M : Model} {env : Env} {c P : Addr} {ps : Array Value} {pos : Pos} {qualname : Str} {scope : Scope} {Q : Value → Shared → Prop} (hc : env.code = .ref c) (hok : CodeX s.heap c P ps)
    (hQ : ∀ code h' tk ps', Heap.ExtBut P s.heap h' → CodeX h' c P ps' → Q code { s with heap := h', toks := tk }) : wpAny M A (genexprCode env pos qualname scope) Q E s := by
  cases hf : codeAmong pos ps.toList with
  | some c' => exact wpAny_genexprCode_hit hc hok.1 hf (hQ c' s.heap s.toks ps (Heap.ExtBut.refl _ _) hok)
  | none => exact wpAny_genexprCodeX hc hok.1 hok.2 hf (fun c' h' tk hx _ _ a _ t _ => hQ _ h' tk _ hx ⟨a, t⟩)
theorem code_ne {h : Heap} {cc P a : Addr} {o : Obj} (hok : ∃ ps, CodeX h cc P ps) (e : h.get? a = some o) (hne : ∀ ps, o.data ≠ .fields ps) : a ≠ P := by
  obtain ⟨ps, ⟨o', vs, file, tf, flags, tg, inF, text, tt, op, ho, hd, h11, h2, h7, h9, h10, hop, hpd, htr, hcP⟩, _⟩ := hok
  rintro rfl
  rw [hop] at e; cases e
  exact hne _ hpd
set_option maxHeartbeats 2000000 in
/-- a generator expression over the pairs of the list subclass -/
theorem gen_acc {env : Env} {elt : Expr} {xa xb nm : Str} {pa pb pt ipos pos : Pos} {kt : Nat} {scope : Scope} {cc P bm : Addr} {ob : Obj} {mg : Str → Option Value} {Ts : Nat → Addr} {va vb : Nat → Value} {Fv : Nat → Value → Prop} {Q : Value → Shared → Prop}
    (hh : A.handled = none) (hco : scope.isCoroutine = false) (hclos : closureFor scope env = pure []) (hcell : ∀ y ∈ scope.names, y.2 ≠ .cell) (h0 : scope.names.lookup (".0" : Str) = some NameKind.local)
    (hxa : scope.names.lookup xa = some .local) (hxb : scope.names.lookup xb = some .local) (hab : xa ≠ xb) (hkind : scope.kind = .function) (hroom : A.depth < recursionLimit)
    (X : (KK w.params).In s.heap) (hx : s.heap.get? x = some (accO dx items n)) (hd : s.heap.get? dx = some od) (hlim : s.heap.NoLimit) (M : BMod s.heap env.globals mg bm ob)
    (hcode : env.code = .ref cc) (hok : ∃ ps, CodeX s.heap cc P ps)
    (hT : ∀ j, j < items.size → items[j]? = some (.ref (Ts j)) ∧ s.heap.IsTuple (Ts j) #[va j, vb j])
    (hit : ∀ (Q : Value → Shared → Prop), Q (.ref x) s → wpAny (MM w) A (eval (.Name nm ipos) env) Q E s)
    (hq : ∀ code C href, (∀ b o, b ≠ P → s.heap.get? b = some o → href.get? b = some o) → s.heap.objs.size < C →
      QuietGenT PySem.Challenge.pw_xl0017_01 w (genEnv scope [] C code builtinsNs env) xa xb [] elt (List.range C) [s.heap.objs.size] (fun j v => j < items.size ∧ v = #[va j, vb j]) (fun _ => true) Fv href)
    (hQ : ∀ a s5, (∀ b o, b ≠ P → s.heap.get? b = some o → s5.heap.get? b = some o) → (∃ ps, CodeX s5.heap cc P ps) → (AllBare s.gens → AllBare s5.gens) → s5.os = s.os → s5.drawn = s.drawn →
      Gen PySem.Challenge.pw_xl0017_01 w A (s.heap.objs.size - 1) a items.size (fun j y => ∃ i, (List.range items.size)[j]? = some i ∧ Fv i y) s5 → Q (.ref a) s5) :
    wpAny (MM w) A (eval (.GeneratorExp elt [⟨.Tuple [.Name xa pa, .Name xb pb] kt pt, .Name nm ipos, [], 0⟩] scope pos) env) Q E s := by
  refine wpAny_GeneratorExp_walksQT hh hco hclos hcell h0 hxa hxb hab hkind hroom (hit _ ?_) (fun _ => rfl)
  refine iter_acc X hx hd ⟨hlim.push _, ?_⟩
  obtain ⟨ps, hok⟩ := hok
  have okX : ∃ ps, CodeX s.heap cc P ps := ⟨ps, hok⟩
  refine genexpr_X hcode (hok.push _) fun code h₃ tk₃ ps' hx₃ hcode₃ => ?_
  obtain ⟨Io, hIo⟩ : ∃ Io : Obj, Io = { cls := .type "list_iterator", data := .fields #[.ref x, rawInt 0] } := ⟨_, rfl⟩
  rw [← hIo] at hx₃
  have up : ∀ b o, b ≠ P → s.heap.get? b = some o → h₃.get? b = some o := fun b o hb e => hx₃ b o hb (Heap.get?_push_of_some _ e)
  have hPlt : P < s.heap.objs.size := by
    obtain ⟨o, vs, file, tf, flags, tg, inF, text, tt, op, ho, hd, h11, h2, h7, h9, h10, hop, r⟩ := hok.1
    exact Heap.lt_size hop
  have hI : h₃.get? s.heap.objs.size = some Io := hx₃ _ _ (Nat.ne_of_gt hPlt) (Heap.get?_push_size _ (by rw [hIo]; rfl))
  have hsz : s.heap.objs.size < h₃.objs.size := Heap.lt_size hI
  have hxP : x ≠ P := code_ne okX hx (fun _ e => by cases e)
  obtain ⟨om, es, ep, hom, hdm, rm⟩ := M.ns
  have hgP : env.globals ≠ P := code_ne okX hom (fun _ e => by rw [hdm] at e; cases e)
  have hbP : bm ≠ P := code_ne okX M.obj (fun _ e => by rw [M.data] at e; cases e)
  have M₃ : BMod h₃ env.globals mg bm ob := ⟨⟨om, es, ep, up _ _ hgP hom, hdm, rm⟩, M.name, M.ne, up _ _ hbP M.obj, M.cls, M.dict, M.data⟩
  have hcP : cStatics ≠ P := by
    obtain ⟨_, hns, _⟩ := hlim
    obtain ⟨o, es, ep, ho, hd, _⟩ := hns
    exact code_ne okX ho (fun _ e => by rw [hd] at e; cases e)
  have hl₃ : h₃.NoLimit := (hlim.push Io).extBut hx₃ hcP
  refine wpAny_builtinsFor M₃.ns M₃.name M₃.ne M₃.obj M₃.cls M₃.dict M₃.data ?_
  have hxlt : x < s.heap.objs.size := Heap.lt_size hx
  have hTlt : ∀ j, j < items.size → Ts j < s.heap.objs.size := fun j hj => by obtain ⟨o, e, _⟩ := (hT j hj).2; exact Heap.lt_size e
  have hTP : ∀ j, j < items.size → Ts j ≠ P := fun j hj => by
    obtain ⟨o, e, r⟩ := (hT j hj).2
    refine code_ne okX e (fun _ q => ?_)
    obtain ⟨_, _, d⟩ := r
    rw [d] at q; cases q
  refine ⟨s.heap.objs.size, _, _, _, _, _, _, (fun _ => true), Fv, rfl, (fun A' hA => (walks_seq hA s.heap.objs.size x (Nat.ne_of_lt hxlt) items Ts (fun j => #[va j, vb j]) (fun j hj => (hT j hj).1) (fun j hj => Nat.ne_of_lt (hTlt j hj))).bound),
    (fun i vals hv => ⟨_, _, hv.2⟩), ⟨⟨_, hI, by rw [hIo], by rw [hIo]; rfl⟩, ⟨_, _, up _ _ hxP hx, rfl⟩, fun k hk => ?_⟩, (fun b hb => ?_), hl₃, ?_, (fun href hhref => ?_), fun a h₅ tk gs hgb hag hsz₅ hk₅ W hat => ?_⟩
  · obtain ⟨o, e, r⟩ := (hT k hk).2
    exact ⟨o, up _ _ (hTP k hk) e, r⟩
  · rcases List.mem_cons.mp hb with rfl | hb
    · exact hsz
    · rcases List.mem_cons.mp hb with rfl | hb
      · exact Nat.lt_trans hxlt hsz
      · obtain ⟨k, hk, rfl⟩ := List.mem_map.mp hb
        exact Nat.lt_trans (hTlt k (List.mem_range.mp hk)) hsz
  · intro hm
    rcases List.mem_cons.mp hm with e | e
    · obtain ⟨_, hns, _⟩ := hlim
      exact absurd (e ▸ hns.lt) (Nat.lt_irrefl _)
    · cases e
  · exact hq code h₃.objs.size href (fun b o hb e => hhref _ _ (up b o hb e)) hsz
  · rw [pass_all, List.length_range] at W
    refine hQ a _ (fun b o hb e => hk₅ _ _ (up b o hb e)) ⟨ps', hcode₃.keeps hk₅⟩ (fun G => G.push hgb) rfl rfl ⟨_, _, _, _, W, hat, (fun i s' st => st.1.typeIs), List.mem_cons_self, fun b hb => ?_, fun b hb => ?_⟩
    · show b < h₅.objs.size
      rw [hsz₅]
      rcases List.mem_cons.mp hb with rfl | hb
      · exact Nat.lt_succ_self _
      · rcases List.mem_cons.mp hb with rfl | hb
        · exact Nat.lt_succ_of_lt hag
        · exact Nat.lt_succ_of_lt (Nat.lt_trans (List.mem_range.mp hb) hag)
    · have hp : P < s.heap.objs.size := hPlt
      rcases List.mem_cons.mp hb with rfl | hb
      · exact Nat.lt_of_le_of_lt (Nat.sub_le _ _) hsz
      · rcases List.mem_cons.mp hb with rfl | hb
        · exact Nat.sub_lt (Nat.lt_of_le_of_lt (Nat.zero_le _) hp) (by decide)
        · cases hb
end
end Mine
end
section
open PySem PySem.W PyProof.Rows PySem.Calls
set_option Elab.async false
set_option maxRecDepth 1000
namespace Mine
theorem name_genB {M : Model} {w : World} {A : Around} {E : Value → Shared → Prop} {s : Shared} {b : Heap} {L : Addr} {m mg mb : Str → Option Value} {env : Env} {x : Str} {pos : Pos} {v : Value} {Q : Value → Shared → Prop} (F : Fr b L s.heap m) (X : (KK w.params).In b) (T : TR mg mb b) (e : nsIn (KK w.params) mainGlobals x = some none)
    (hv : bootBuiltins x = some v) (hn : x ≠ "__name__") (hg : env.globals = mainGlobals) (hb : env.builtins = builtinsNs) (hk : env.scope.kind = .function) (hx : env.kindOf x = some .globalImplicit) (hd : (x == ("__debug__" : Str)) = false) (h : Q v s) :
    wpAny M A (eval (.Name x pos) env) Q E s :=
  Name_function_global hk hx (loadGlobal_builtin (env := env) (by rw [hg]; exact T.g.keeps F.keep) (mg_none_of X T.g e) (by rw [hb]; exact T.b.keeps F.keep) ((T.builtins x hn).trans hv) h) hd
theorem name_genL {M : Model} {A : Around} {E : Value → Shared → Prop} {s : Shared} {b : Heap} {L : Addr} {m : Str → Option Value} {env : Env} {x : Str} {pos : Pos} {v : Value} {Q : Value → Shared → Prop} (F : Fr b L s.heap m) (hl : env.locals = L) (hk : env.scope.kind = .function) (hx : env.kindOf x = some .local) (hv : m x = some v) (hd : (x == ("__debug__" : Str)) = false) (h : Q v s) :
    wpAny M A (eval (.Name x pos) env) Q E s :=
  wpAny_Name (wpAny_loadName_local hk hx (by rw [hl]; exact F.ns) hv h) hd
/-- the pairs that a sequence of the list subclass holds -/
structure Pairs (h : Heap) (items : Array Value) (ps : List (Str × Str)) : Prop where
  ex : ∃ (Ts : Nat → Addr) (ft pt : Nat → Tok), items.size = ps.length ∧ ∀ k p, ps[k]? = some p → items[k]? = some (.ref (Ts k)) ∧ h.IsTuple (Ts k) #[.str p.1 (ft k), .str p.2 (pt k)]
noncomputable def TabOk (h : Heap) : Prop := (∃ ps, CodeX h 161 157 ps) ∧ ∃ ps, CodeX h 168 164 ps
theorem code_two {h h' : Heap} {c P : Addr} (x : ∃ ps, CodeX h c P ps) (kc : ∀ o, h.get? c = some o → h'.get? c = some o) (kp : ∀ o, h.get? P = some o → h'.get? P = some o) : ∃ ps, CodeX h' c P ps := by
  obtain ⟨ps, ⟨o, vs, file, tf, flags, tg, inF, text, tt, op, a, r1, r2, r3, r4, r5, r6, b, r⟩, ⟨oc, vc, q1, q2⟩, q3⟩ := x
  exact ⟨ps, ⟨o, vs, file, tf, flags, tg, inF, text, tt, op, kc _ a, r1, r2, r3, r4, r5, r6, kp _ b, r⟩, ⟨oc, vc, kc _ q1, q2⟩, kp _ q3⟩
noncomputable def accLen (i : Int) (ps : List (Str × Str)) : Int := i + (ps.map fun p => ((p.1.length : Int) + p.2.length)).sum
noncomputable def Small (ps : List (Str × Str)) : Prop := ps.length ≤ 1000 ∧ ∀ p ∈ ps, p.1.length ≤ 1000 ∧ p.2.length ≤ 1000
theorem preSum_list : ∀ (l : List Int) (val : Nat → Int) (i : Int), (∀ j v, l[j]? = some v → val j = v) → preSum (fun j => if j = 0 then i else val (j - 1)) (l.length + 1) = i + l.sum := by
  intro l
  have key : ∀ (k : Nat) (val : Nat → Int) (i : Int), k ≤ l.length → (∀ j v, l[j]? = some v → val j = v) → preSum (fun j => if j = 0 then i else val (j - 1)) (k + 1) = i + (l.take k).sum := by
    intro k val i
    induction k with
    | zero => intro _ _; simp [preSum]
    | succ k ih =>
      intro hk hv
      rw [preSum, ih (by (first | lia | omega)) hv]
      have hk' : k < l.length := by (first | lia | omega)
      rw [List.take_add_one, List.getElem?_eq_getElem hk']
      simp only [Option.toList_some, List.sum_append, List.sum_cons, List.sum_nil]
      rw [if_neg (by (first | lia | omega)), show k + 1 - 1 = k by (first | lia | omega), hv k _ (List.getElem?_eq_getElem hk')]
      (first | lia | omega)
  intro val i hv
  rw [key l.length val i (Nat.le_refl _) hv, List.take_length]
theorem find_init (w : World) (c it : Nat) (i : Int) : findObj (KK w.params) 195 (some (isD w.params c i it)) "_initial_size" = some (.value (.int i it)) :=
  findObj_own (by k_is) (attr := none) (by k_is) (by k_is) rfl
section
variable {w : World} {g : Heap} {s : Shared} {A : Around} {R : Result → Shared → Prop} {mg mb : Str → Option Value} {x dx : Addr} {items : Array Value} {n c it : Nat} {i : Int} {ps : List (Str × Str)}
theorem len_spec (X : (KK w.params).In g) (T : TR mg mb g) {bm : Addr} {ob : Obj} (BM : BMod g mainGlobals mg bm ob) (kg : g.StaysIn s.heap) (hx : s.heap.get? x = some (accO dx items n)) (hd : s.heap.get? dx = some (isD w.params c i it)) (gx : g.get? x = none) (gd : g.get? dx = none) (hA : A.depth < 880) (hh : A.handled = none)
    (hP : Pairs s.heap items ps) (hS : Small ps) (hTab : TabOk s.heap) (g1 : g.get? 157 = none)
    (h : ∀ s' t, Kept [157] s.heap s'.heap → TabOk s'.heap → s'.os = s.os → (AllBare s.gens → AllBare s'.gens) → R (.ok (.ret (.int (accLen i ps) t))) s') : codeAny (MM w) A (.call (.ref 162) ⟨[.ref x], []⟩) R s := by
  obtain ⟨⟨tps, ht1⟩, ht2⟩ := hTab
  have nx : x ≠ 157 := code_ne ⟨_, ht1⟩ hx (fun _ e => by cases e)
  have ndx : dx ≠ 157 := code_ne ⟨_, ht1⟩ hd (fun _ e => by cases e)
  obtain ⟨to, hto⟩ : ∃ to, s.heap.get? 157 = some to := by
    obtain ⟨o, vs, file, tf, flags, tg, inF, text, tt, op, ho, hd, h11, h2, h7, h9, h10, hop, r⟩ := ht1.1
    exact ⟨op, hop⟩
  refine' enter (news := [(x, accO dx items n), (dx, isD w.params c i it), (157, to)]) (binds := [("self", .ref x)]) X T kg ?n ?ho ?hcd ?room ?bind ?loc ?_ ?c1 ?c2 ?c3 ?c4
  case ho => k_is
  case hcd => k_is
  case room => first | exact Nat.lt_of_lt_of_le hA (by decide) | exact Nat.lt_of_lt_of_le (by (first | lia | omega) : _ < 990) (by decide)
  case bind => exact BindsTo.of_eq rfl
  case loc => exact locs rfl
  case n =>
    intro p hp
    simp only [List.mem_cons, List.mem_nil_iff, or_false] at hp
    rcases hp with rfl | rfl | rfl
    · exact ⟨hx, gx⟩
    · exact ⟨hd, gd⟩
    · exact ⟨hto, g1⟩
  case c1 => decide
  case c2 => rfl
  case c3 => rfl
  case c4 => rfl
  intro b L h₁ F N B
  have X1 : (KK w.params).In h₁ := B.k.keeps F.keep
  have T1 : TR mg mb h₁ := B.t.keeps F.keep
  have hx1 := (N _ (List.mem_cons_self ..)).1
  have hd1 := (N _ (List.mem_cons_of_mem _ (List.mem_cons_self ..))).1
  have X' := B.k
  have T' := B.t
  have kA : Kept [] s.heap h₁ := keptAll B F N (by simpa using ⟨hx, hd, hto⟩)
  have BM1 : BMod h₁ mainGlobals mg bm ob := (BM.keeps B.g).keeps F.keep
  obtain ⟨Ts, ft, pt, hsz, hTs⟩ := hP.ex
  iterate 6 walk1
  refine gen_acc (P := 157) (cc := 161) (mg := mg) (bm := bm) (ob := ob) (Ts := Ts) (va := fun j => .str (ps.getD j ("", "")).1 (ft j)) (vb := fun j => .str (ps.getD j ("", "")).2 (pt j)) (Fv := fun j v => ∃ t, v = .int ((((ps.getD j ("", "")).1.length : Int) + (ps.getD j ("", "")).2.length)) t)
    hh rfl rfl (by decide) (by rfl) (by rfl) (by rfl) (by decide) rfl (Nat.lt_of_lt_of_le (by simp only [depth_deeper]; (first | lia | omega) : _ < 990) (by decide)) X1 hx1 hd1 T1.nolimit BM1 rfl ⟨_, ht1.keeps fun b o e => kA b o e (by simp)⟩ (fun j hj => ?_) (fun Q q => ?_) (fun code C href hk hC => ?_) (fun a s5 k5 tab5 gs5 os5 dr5 hg => ?_)
  · have hj' : j < ps.length := by (first | lia | omega)
    have e : ps[j]? = some (ps.getD j ("", "")) := by rw [List.getD_eq_getElem?_getD, List.getElem?_eq_getElem hj']; rfl
    obtain ⟨a, o, ho, r⟩ := hTs j _ e
    exact ⟨a, o, kA _ _ ho (by simp), r⟩
  · iterate 1 walk1
    exact q
  · refine ⟨fun A' E' i va vb s₂ m₂ hA hp hn ha hb hk2 => ?_, fun A' E' i va vb s₂ m₂ hA hp _ hn ha hb hk2 => ?_⟩
    · exact wpAny_pure ⟨rfl, s₂.heap, s₂.toks, rfl, fun _ _ e => e⟩
    · obtain ⟨hi, he⟩ := hp
      have hpm : (ps.getD i ("", "")).1.length ≤ 1000 ∧ (ps.getD i ("", "")).2.length ≤ 1000 := by
        have hi' : i < ps.length := by (first | lia | omega)
        refine hS.2 _ ?_
        rw [List.getD_eq_getElem?_getD, List.getElem?_eq_getElem hi']
        exact List.getElem_mem hi'
      generalize ps.getD i ("", "") = p at he hpm ⊢
      obtain ⟨hp1, hp2⟩ := hpm
      obtain ⟨rfl, rfl⟩ : va = _ ∧ vb = _ := by simpa using he
      have F2 : Fr b C s₂.heap m₂ := ⟨hn, fun a o e => by
        have ne : a ≠ 157 := fun z => by rw [z, (N (157, to) (by k_mem)).2.2] at e; cases e
        have e1 := F.keep a o e
        have hlt := Heap.lt_size e1
        exact hk2 a (List.mem_range.mpr (Nat.lt_trans hlt hC)) (by simp only [List.mem_singleton]; exact Nat.ne_of_lt hlt) o (hk a o ne e1),
        Nat.le_trans F.above (Nat.le_of_lt (Nat.lt_trans F.ns.lt hC))⟩
      clear F N B hk hk2 hn
      iterate 2 walk1
      refine name_genB F2 X' T' (by k_is) boot_len (by decide) rfl rfl rfl rfl (by decide) ?_
      iterate 2 walk1
      refine name_genL F2 rfl rfl rfl ha (by decide) ?_
      walk1
      refine PyProof.Rows.len_str (by (first | lia | omega)) ?_
      walk1
      refine name_genB (s := { s₂ with toks := s₂.toks + 1 + 1 }) F2 X' T' (by k_is) boot_len (by decide) rfl rfl rfl rfl (by decide) ?_
      iterate 2 walk1
      refine name_genL (s := { s₂ with toks := s₂.toks + 1 + 1 }) F2 rfl rfl rfl hb (by decide) ?_
      walk1
      refine PyProof.Rows.len_str (by (first | lia | omega)) ?_
      walk1
      exact ⟨⟨_, rfl⟩, s₂.heap, _, rfl, fun _ _ e => e⟩
  · obtain ⟨F2, N2⟩ := called (W := [157]) (news' := [(x, accO dx items n), (dx, isD w.params c i it)]) F (fun a o e q => k5 a o (by simpa using q) e) (fun a q => by
        obtain rfl : a = 157 := by simpa using q
        exact (N (157, to) (by k_mem)).2) (fun p hp => by
        have hp' : p ∈ [(x, accO dx items n), (dx, isD w.params c i it), (157, to)] := by
          simp only [List.mem_cons, List.mem_nil_iff, or_false] at hp ⊢
          rcases hp with rfl | rfl <;> simp
        refine ⟨k5 _ _ ?_ (N p hp').1, (N p hp').2⟩
        intro z
        simp only [List.mem_cons, List.mem_nil_iff, or_false] at hp
        rcases hp with rfl | rfl
        · exact nx (by simpa using z)
        · exact ndx (by simpa using z))
    clear F N
    have hx2 := (N2 _ (List.mem_cons_self ..)).1
    have hd2 := (N2 _ (List.mem_cons_of_mem _ (List.mem_cons_self ..))).1
    iterate 3 walk1
    refine getAttr_acc (X'.keeps F2.keep) hx2 hd2 (find_init w c it i) rfl ?_
    walk1
    obtain ⟨fp, wr, gi, St, W, hst, _, _, hfp, hwr⟩ := hg
    refine sum2 (s := { s5 with toks := s5.toks + 1 }) W.in4_1 (fun j => ((ps.getD j ("", "")).1.length : Int) + (ps.getD j ("", "")).2.length) (fun j v hv => ?_) (W.frame 0 s5 _ _ hst (Nat.le_succ _) fun _ _ _ e => e) hfp (fun s' t' hm => ?_)
    · obtain ⟨k, hk, t, rfl⟩ := hv
      have : k = j := by
        obtain ⟨hl, e⟩ := List.getElem?_eq_some_iff.mp hk
        simpa using e.symm
      exact ⟨t, by rw [this]⟩
    · have ev : preSum (fun j => if j = 0 then i else ((ps.getD (j - 1) ("", "")).1.length : Int) + (ps.getD (j - 1) ("", "")).2.length) (items.size + 1) = accLen i ps := by
        have := preSum_list (ps.map fun p => ((p.1.length : Int) + p.2.length)) (fun j => ((ps.getD j ("", "")).1.length : Int) + (ps.getD j ("", "")).2.length) i (fun j v hv => by
          rw [List.getElem?_map] at hv
          cases e : ps[j]? with
          | none => rw [e] at hv; cases hv
          | some p =>
            rw [e] at hv
            rw [List.getD_eq_getElem?_getD, e]
            exact Option.some.inj hv)
        rw [List.length_map] at this
        rw [hsz]
        exact this
      have k6 : Kept [] s5.heap s'.heap ∨ True := .inr trivial
      have up : ∀ b o, h₁.get? b = some o → b ≠ 157 → s'.heap.get? b = some o := fun b o e ne => hm.heap b o (fun hb => by
        exact absurd (Heap.lt_size e) (Nat.not_lt.mpr (Nat.le_of_pred_lt (hwr b hb)))) (k5 b o ne e)
      have kk : Kept [157] s.heap s'.heap := fun b o e q => up b o (kA b o e (by simp)) (by simpa using q)
      have h157 : ∀ o, s5.heap.get? 157 = some o → s'.heap.get? 157 = some o := fun o e => hm.heap 157 o (fun hb => by
        exact absurd (Heap.lt_size (kA _ _ hto (by simp))) (Nat.not_lt.mpr (Nat.le_of_pred_lt (hwr _ hb)))) e
      refine h s' t' ?_ ⟨?_, ?_⟩ ?_ ?_ |> fun z => by rw [← ev] at z; exact z
      · exact kk
      · refine code_two tab5 (fun o e => ?_) h157
        have h161 : s'.heap.get? 161 = some (ob161 w.params) := up 161 _ (X1 _ _ (by k_is)) (by decide)
        have h161' : s5.heap.get? 161 = some (ob161 w.params) := k5 161 _ (by decide) (X1 _ _ (by k_is))
        rw [h161'] at e; cases e; exact h161
      · exact code_two ht2 (fun o e => kk _ _ e (by decide)) (fun o e => kk _ _ e (by decide))
      · exact hm.os.trans os5
      · exact fun G => (gs5 G).moved hm.gens
end
end Mine
end
section
open PySem PySem.W PyProof.Rows PySem.Calls
set_option Elab.async false
set_option maxRecDepth 1000
namespace Mine
noncomputable def pairStr (p : Str × Str) : Str := Txt.join "" [p.1, p.2]
noncomputable def accStr (ps : List (Str × Str)) : Str := Txt.join "" (ps.map pairStr)
theorem pairStr_len (p : Str × Str) : (pairStr p).length ≤ p.1.length + p.2.length := by
  have h := StrLaws.join_length_le "" [p.1, p.2]
  unfold pairStr Txt.join
  rw [StrLaws.glued_eq_join]
  have e : (Str.ofString "").length = 0 := by decide
  rw [e] at h
  simpa using h
theorem sum_le (B : Nat) : ∀ l : List Nat, (∀ a ∈ l, a ≤ B) → l.sum ≤ l.length * B
  | [], _ => by simp
  | a :: r, h => by
    have h1 := sum_le B r fun b hb => h b (.tail _ hb)
    have h2 := h a (.head _)
    rw [List.sum_cons, List.length_cons, Nat.succ_mul]
    (first | lia | omega)
theorem small_sum {ps : List (Str × Str)} (h : Small ps) : ((ps.map pairStr).map (·.length)).sum ≤ 2000000 := by
  have := sum_le 2000 ((ps.map pairStr).map (·.length)) (fun a ha => by
    obtain ⟨y, hy, rfl⟩ := List.mem_map.mp ha
    obtain ⟨p, hp, rfl⟩ := List.mem_map.mp hy
    have h1 := h.2 p hp
    have h2 := pairStr_len p
    (first | lia | omega))
  rw [List.length_map, List.length_map] at this
  have h3 := h.1
  (first | lia | omega)
theorem texts_of {n : Nat} {l : List (Str × Tok)} {ps : List (Str × Str)} (hn : n = ps.length)
    (h : ItemsOf (fun j y => ∃ i, (List.range n)[j]? = some i ∧ ∃ t, y = .str (pairStr (ps.getD i ("", ""))) t) (strValues l).toArray n) : l.map (·.1) = ps.map pairStr := by
  obtain ⟨hs, hv⟩ := h
  have hl : l.length = n := by simpa [strValues] using hs
  apply List.ext_getElem?
  intro j
  rw [List.getElem?_map, List.getElem?_map]
  cases e : l[j]? with
  | none =>
    rw [List.getElem?_eq_none_iff] at e
    rw [List.getElem?_eq_none (by (first | lia | omega))]
    rfl
  | some q =>
    obtain ⟨i, hi, t, ht⟩ := hv j (.str q.1 q.2) (by simp [strValues, e])
    obtain ⟨hlt, he⟩ := List.getElem?_eq_some_iff.mp hi
    have hij : i = j := by simpa using he.symm
    subst hij
    have hip : i < ps.length := by simpa [hn] using hlt
    rw [List.getElem?_eq_getElem hip]
    have hq := (Value.str.inj ht).1
    rw [List.getD_eq_getElem?_getD, List.getElem?_eq_getElem hip] at hq
    exact congrArg some hq
section
variable {w : World} {g : Heap} {s : Shared} {A : Around} {R : Result → Shared → Prop} {mg mb : Str → Option Value} {x dx : Addr} {items : Array Value} {n c it : Nat} {i : Int} {ps : List (Str × Str)}
theorem str_spec (X : (KK w.params).In g) (T : TR mg mb g) {bm : Addr} {ob : Obj} (BM : BMod g mainGlobals mg bm ob) (kg : g.StaysIn s.heap) (hx : s.heap.get? x = some (accO dx items n)) (hd : s.heap.get? dx = some (isD w.params c i it)) (gx : g.get? x = none) (gd : g.get? dx = none) (hA : A.depth < 880) (hh : A.handled = none)
    (hP : Pairs s.heap items ps) (hS : Small ps) (hTab : TabOk s.heap) (g1 : g.get? 164 = none)
    (h : ∀ s' t, Kept [164] s.heap s'.heap → TabOk s'.heap → s'.os = s.os → (AllBare s.gens → AllBare s'.gens) → R (.ok (.ret (.str (accStr ps) t))) s') : codeAny (MM w) A (.call (.ref 169) ⟨[.ref x], []⟩) R s := by
  obtain ⟨ht2, ⟨tps, ht1⟩⟩ := hTab
  have nx : x ≠ 164 := code_ne ⟨_, ht1⟩ hx (fun _ e => by cases e)
  have ndx : dx ≠ 164 := code_ne ⟨_, ht1⟩ hd (fun _ e => by cases e)
  obtain ⟨to, hto⟩ : ∃ to, s.heap.get? 164 = some to := by
    obtain ⟨o, vs, file, tf, flags, tg, inF, text, tt, op, ho, hd, h11, h2, h7, h9, h10, hop, r⟩ := ht1.1
    exact ⟨op, hop⟩
  refine' enter (news := [(x, accO dx items n), (dx, isD w.params c i it), (164, to)]) (binds := [("self", .ref x)]) X T kg ?n ?ho ?hcd ?room ?bind ?loc ?_ ?c1 ?c2 ?c3 ?c4
  case ho => k_is
  case hcd => k_is
  case room => first | exact Nat.lt_of_lt_of_le hA (by decide) | exact Nat.lt_of_lt_of_le (by (first | lia | omega) : _ < 990) (by decide)
  case bind => exact BindsTo.of_eq rfl
  case loc => exact locs rfl
  case n =>
    intro p hp
    simp only [List.mem_cons, List.mem_nil_iff, or_false] at hp
    rcases hp with rfl | rfl | rfl
    · exact ⟨hx, gx⟩
    · exact ⟨hd, gd⟩
    · exact ⟨hto, g1⟩
  case c1 => decide
  case c2 => rfl
  case c3 => rfl
  case c4 => rfl
  intro b L h₁ F N B
  have X1 : (KK w.params).In h₁ := B.k.keeps F.keep
  have T1 : TR mg mb h₁ := B.t.keeps F.keep
  have hx1 := (N _ (List.mem_cons_self ..)).1
  have hd1 := (N _ (List.mem_cons_of_mem _ (List.mem_cons_self ..))).1
  have X' := B.k
  have T' := B.t
  have kA : Kept [] s.heap h₁ := keptAll B F N (by simpa using ⟨hx, hd, hto⟩)
  have BM1 : BMod h₁ mainGlobals mg bm ob := (BM.keeps B.g).keeps F.keep
  obtain ⟨Ts, ft, pt, hsz, hTs⟩ := hP.ex
  have kA : Kept [] s.heap h₁ := keptAll B F N (by simpa using ⟨hx, hd, hto⟩)
  have BM1 : BMod h₁ mainGlobals mg bm ob := (BM.keeps B.g).keeps F.keep
  obtain ⟨Ts, ft, pt, hsz, hTs⟩ := hP.ex
  iterate 7 walk1
  refine gen_acc (P := 164) (cc := 168) (mg := mg) (bm := bm) (ob := ob) (Ts := Ts) (va := fun j => .str (ps.getD j ("", "")).1 (ft j)) (vb := fun j => .str (ps.getD j ("", "")).2 (pt j)) (Fv := fun j v => ∃ t, v = .str (pairStr (ps.getD j ("", ""))) t)
    hh rfl rfl (by decide) (by rfl) (by rfl) (by rfl) (by decide) rfl (Nat.lt_of_lt_of_le (by simp only [depth_deeper]; (first | lia | omega) : _ < 990) (by decide)) X1 hx1 hd1 T1.nolimit BM1 rfl ⟨_, ht1.keeps fun b o e => kA b o e (by simp)⟩ (fun j hj => ?_) (fun Q q => ?_) (fun code C href hk hC => ?_) (fun a s5 k5 tab5 gs5 os5 dr5 hg => ?_)
  · have hj' : j < ps.length := by (first | lia | omega)
    have e : ps[j]? = some (ps.getD j ("", "")) := by rw [List.getD_eq_getElem?_getD, List.getElem?_eq_getElem hj']; rfl
    obtain ⟨a, o, ho, r⟩ := hTs j _ e
    exact ⟨a, o, kA _ _ ho (by simp), r⟩
  · iterate 1 walk1
    exact q
  · refine ⟨fun A' E' i va vb s₂ m₂ hA hp hn ha hb hk2 => ?_, fun A' E' i va vb s₂ m₂ hA hp _ hn ha hb hk2 => ?_⟩
    · exact wpAny_pure ⟨rfl, s₂.heap, s₂.toks, rfl, fun _ _ e => e⟩
    · obtain ⟨hi, he⟩ := hp
      have hpm : (ps.getD i ("", "")).1.length ≤ 1000 ∧ (ps.getD i ("", "")).2.length ≤ 1000 := by
        have hi' : i < ps.length := by (first | lia | omega)
        refine hS.2 _ ?_
        rw [List.getD_eq_getElem?_getD, List.getElem?_eq_getElem hi']
        exact List.getElem_mem hi'
      generalize ps.getD i ("", "") = p at he hpm ⊢
      obtain ⟨hp1, hp2⟩ := hpm
      obtain ⟨rfl, rfl⟩ : va = _ ∧ vb = _ := by simpa using he
      have F2 : Fr b C s₂.heap m₂ := ⟨hn, fun a o e => by
        have ne : a ≠ 164 := fun z => by rw [z, (N (164, to) (by k_mem)).2.2] at e; cases e
        have e1 := F.keep a o e
        have hlt := Heap.lt_size e1
        exact hk2 a (List.mem_range.mpr (Nat.lt_trans hlt hC)) (by simp only [List.mem_singleton]; exact Nat.ne_of_lt hlt) o (hk a o ne e1),
        Nat.le_trans F.above (Nat.le_of_lt (Nat.lt_trans F.ns.lt hC))⟩
      clear F N B hk hk2 hn
      walk1
      refine nameG_K F2 X' T' (by k_is) ?_ rfl rfl rfl (by decide)
      iterate 5 walk1
      refine name_genL F2 rfl rfl rfl ha (by decide) ?_
      walk1
      refine name_genL F2 rfl rfl rfl hb (by decide) ?_
      walk1
      unfold newTuple
      refine wpAny_newObj_type ?_ (by size_fits)
      walk1
      refine join_tuple (ys := [p.1, p.2]) ⟨_, Heap.get?_push_size _ rfl, rfl, _, rfl⟩ (.cons _ _ (.cons _ _ .nil)) (by rw [show (Str.ofString "").length = 0 by decide]; simp only [List.map_cons, List.map_nil, List.sum_cons, List.sum_nil]; (first | lia | omega)) (fun t' k => ?_)
      exact ⟨⟨_, rfl⟩, _, _, rfl, fun _ _ e => Heap.get?_push_of_some _ e⟩
  · walk1
    obtain ⟨fp, wr, gi, St, W, hst, hty, hI, hfp, hwr⟩ := hg
    refine SC.joinGen (WalksS.of_in1 (A := (A.deeper _).in1.in1) (WalksS.of_in1 (A := (A.deeper _).in1.in1.in1) W)) hty hst hfp hI (fun j v hv => ?_) (fun s' l hm hl => ?_) (by have := hS.1; rw [hsz]; exact Nat.le_trans this (by decide))
    · obtain ⟨k, hk, t, rfl⟩ := hv
      exact ⟨_, _, rfl⟩
    · have ht := texts_of hsz hl
      rw [ht]
      refine ⟨joinOk_of (by have := small_sum hS; rw [show (Str.ofString "").length = 0 by decide]; (first | lia | omega)), fun t' k => ?_⟩
      have up : ∀ b o, h₁.get? b = some o → b ≠ 164 → s'.heap.get? b = some o := fun b o e ne => hm.heap b o (fun hb => by
        exact absurd (Heap.lt_size e) (Nat.not_lt.mpr (Nat.le_of_pred_lt (hwr b hb)))) (k5 b o ne e)
      have kk : Kept [164] s.heap s'.heap := fun b o e q => up b o (kA b o e (by simp)) (by simpa using q)
      have h157 : ∀ o, s5.heap.get? 164 = some o → s'.heap.get? 164 = some o := fun o e => hm.heap 164 o (fun hb => by
        exact absurd (Heap.lt_size (kA _ _ hto (by simp))) (Nat.not_lt.mpr (Nat.le_of_pred_lt (hwr _ hb)))) e
      refine h { s' with toks := k } t' kk ⟨?_, ?_⟩ (hm.os.trans os5) (fun G => (gs5 G).moved hm.gens)
      · exact code_two ht2 (fun o e => kk _ _ e (by decide)) (fun o e => kk _ _ e (by decide))
      · refine code_two tab5 (fun o e => ?_) h157
        have h161 : s'.heap.get? 168 = some (ob168 w.params) := up 168 _ (X1 _ _ (by k_is)) (by decide)
        have h161' : s5.heap.get? 168 = some (ob168 w.params) := k5 168 _ (by decide) (X1 _ _ (by k_is))
        rw [h161'] at e; cases e; exact h161
end
end Mine
end
section
open PySem PySem.W PyProof.Rows PySem.Calls
set_option Elab.async false
set_option maxRecDepth 100000
namespace Mine
section
variable {w : World} {g : Heap} {s : Shared} {A : Around} {R : Result → Shared → Prop} {mg mb : Str → Option Value} {x dx : Addr} {items : Array Value} {n c it : Nat} {i : Int} {ps : List (Str × Str)}
theorem push_spec {f p : Value} (X : (KK w.params).In g) (T : TR mg mb g) (kg : g.StaysIn s.heap) (hx : s.heap.get? x = some (accO dx items n)) (hd : s.heap.get? dx = some (isD w.params c i it)) (gx : g.get? x = none) (gd : g.get? dx = none) (hA : A.depth < 880)
    (hz : items.size ≤ 1000)
    (h : ∀ h' tk t, Kept [x] s.heap h' → s.heap.get? t = none → h'.IsTuple t #[f, p] → h'.get? x = some (accO dx (items.push (.ref t)) (n + 1)) → R (.ok (.ret .none)) { s with heap := h', toks := tk }) : codeAny (MM w) A (.call (.ref 139) ⟨[.ref x, f, p], []⟩) R s := by
  refine' enter (news := [(x, accO dx items n), (dx, isD w.params c i it)]) (binds := [("self", .ref x), ("fws", f), ("string", p)]) X T kg ?n ?ho ?hcd ?room ?bind ?loc ?_ ?c1 ?c2 ?c3 ?c4
  case ho => k_is
  case hcd => k_is
  case room => first | exact Nat.lt_of_lt_of_le hA (by decide) | exact Nat.lt_of_lt_of_le (by omega : _ < 990) (by decide)
  case bind => exact BindsTo.of_eq rfl
  case loc => exact locs rfl
  case n =>
    intro p hp
    simp only [List.mem_cons, List.mem_nil_iff, or_false] at hp
    rcases hp with rfl | rfl
    · exact ⟨hx, gx⟩
    · exact ⟨hd, gd⟩
  case c1 => decide
  case c2 => rfl
  case c3 => rfl
  case c4 => rfl
  intro b L h₁ F N B
  have X1 : (KK w.params).In h₁ := B.k.keeps F.keep
  have hx1 := (N _ (List.mem_cons_self ..)).1
  have hd1 := (N _ (List.mem_cons_of_mem _ (List.mem_cons_self ..))).1
  have X' := B.k
  have T' := B.t
  have kA : Kept [] s.heap h₁ := keptAll B F N (by simpa using ⟨hx, hd⟩)
  iterate 4 walk1
  refine method_acc X1 hx1 hd1 (by k_is) (by k_is) (by decide) rfl ?_
  iterate 10 walk1
  rename_i D h₂ F2 N2 l
  have X2 : (KK w.params).In h₂ := X'.keeps F2.keep
  have hx2 : h₂.get? x = some (accO dx items n) := (N2 (x, accO dx items n) (by k_mem)).1
  have hd2 : h₂.get? dx = some (isD w.params c i it) := (N2 (dx, isD w.params c i it) (by k_mem)).1
  have ht2 := N2 _ (List.mem_cons_self ..)
  have ndx : dx ≠ x := fun z => by rw [z, hx] at hd; cases hd
  refine append_acc X2 hx2 (Nat.le_trans hz (by decide)) ?_
  refine wpAny_execs_nil ?_
  have up := Heap.get?_update_self (Obj.mapSeq (·.push (.ref D))) hx2 (by rw [mapSeq_push]; rfl)
  rw [mapSeq_push] at up
  refine h _ _ D (fun a o e q => ?_) (B.new (by
      simp only [List.map_cons, List.map_nil, List.mem_cons, List.mem_nil_iff, or_false, not_or]
      exact ⟨Nat.ne_of_gt l.1, Nat.ne_of_gt l.2⟩) ht2.2.2) ⟨_, (Heap.get?_update_other _ _ (Nat.ne_of_lt l.1)).trans ht2.1, rfl, _, rfl⟩ up
  have q' : a ≠ x := by simpa using q
  refine (Heap.get?_update_other _ _ (Ne.symm q')).trans ?_
  by_cases z : a = dx
  · rw [z, hd] at e; cases e; rw [z]; exact hd2
  · exact B.kept F2 a o e (by simp [q', z])
end
end Mine
end
section
open PySem PySem.W PyProof.Rows PySem.Calls
set_option Elab.async false
set_option maxRecDepth 100000
namespace Mine
section
variable {w : World} {A : Around} {E : Value → Shared → Prop} {s : Shared} {x dx : Addr} {items : Array Value} {n : Nat} {od : Obj}
theorem sub_acc {value slice : Expr} {i : Value} {l : List Value} {Q : Value → Shared → Prop} (X : (KK w.params).In s.heap) (hx : s.heap.get? x = some (accO dx items n)) (hd : s.heap.get? dx = some od)
    (h : wpAny (MM w) A (getItem (.ref x) i) Q E s) (hs : subscripted slice false (.ref x) i = operate l (getItem (.ref x) i) := by with_unfolding_all rfl) : wpAny (MM w) A (subscriptTail value slice (.ref x) i) Q E s := by
  unfold subscriptTail getitemInPython
  have I := acc_inst hx hd
  refine wpAny_bind (wpAny_bind (wpAny_bind (I.type.here ((looks_findIn (K := KK w.params) X (by k_is)).here ?_))))
  refine wpAny_pure ?_
  rw [hs]
  refine wpAny_bind (wpAny_operating (wpAny_mono h (fun r s₃ h₃ => ?_) fun _ _ x => x))
  exact wpAny_bind (wpAny_letTemporaryGo (wpAny_pure h₃))
/-- BASE[LOWER:UPPER] of the list subclass: a new list -/
theorem slice_acc {env : Env} {value : Expr} {lower upper : Option Expr} {p pos : Pos} {Q : Value → Shared → Prop}
    (h : wpAny (MM w) A (eval value env) (fun o s₁ => wpAny (MM w) A (evalPart lower env) (fun vl s₂ => wpAny (MM w) A (evalPart upper env) (fun vu s₃ =>
      ∃ x dx items n od lo hi, o = .ref x ∧ (KK w.params).In s₃.heap ∧ s₃.heap.get? x = some (accO dx items n) ∧ s₃.heap.get? dx = some od ∧ IsPart vl lo ∧ IsPart vu hi ∧ items.size ≤ sizeLine ∧
        ∀ h' l, h'.IsList l (slicePick items lo hi none) → s₃.heap.get? l = none → (∀ a o, s₃.heap.get? a = some o → h'.get? a = some o) → Q (.ref l) { s₃ with heap := h' }) E s₂) E s₁) E s) :
    wpAny (MM w) A (eval (.Subscript value (.Slice lower upper none p) pos) env) Q E s := by
  refine Subscript_ (wpAny_mono h (fun o s₁ h₁ => wpAny_Slice (wpAny_mono h₁ (fun vl s₂ h₂ => wpAny_mono h₂ (fun vu s₃ h₃ => ?_) fun _ _ e => e) fun _ _ e => e)) fun _ _ e => e)
  obtain ⟨x, dx, items, n, od, lo, hi, rfl, X, hx, hd, pl, pu, hz, hq⟩ := h₃
  rw [evalPart_none]
  refine wpAny_pure ?_
  have k1 : ∀ a o, s₃.heap.get? a = some o → (s₃.heap.push { cls := .type "slice", data := .fields #[vl, vu, .none] }).get? a = some o := fun a o e => Heap.get?_push_of_some _ e
  refine sub_acc (X.keeps k1) (k1 _ _ hx) (k1 _ _ hd) (getItem_acc_slice (X.keeps k1) (k1 _ _ hx) (k1 _ _ hd) (Heap.IsSliceOf.new ..) pl pu .none (by simp) hz ?_)
  refine hq _ _ ⟨_, Heap.get?_push_size _ rfl, rfl, _, rfl⟩ ?_ (fun a o e => Heap.get?_push_of_some _ (k1 a o e))
  cases e : s₃.heap.get? (s₃.heap.push { cls := .type "slice", data := .fields #[vl, vu, .none] }).objs.size with
  | none => rfl
  | some o =>
    have := Heap.lt_size e
    rw [Heap.size_push] at this
    exact absurd this (Nat.not_lt.mpr (Nat.le_succ _))
/-- BASE[LOWER:UPPER] = VALUE, VALUE a list -/
theorem set_slice_acc {env : Env} {o value : Expr} {lower upper : Option Expr} {p pos' pos : Pos} {Q : Flow → Shared → Prop}
    (h : wpAny (MM w) A (eval value env) (fun v s₀ => wpAny (MM w) A (eval o env) (fun ov s₁ => wpAny (MM w) A (evalPart lower env) (fun vl s₂ => wpAny (MM w) A (evalPart upper env) (fun vu s₃ =>
      ∃ x dx items n od lo hi l new, ov = .ref x ∧ v = .ref l ∧ (KK w.params).In s₃.heap ∧ s₃.heap.get? x = some (accO dx items n) ∧ s₃.heap.get? dx = some od ∧ IsPart vl lo ∧ IsPart vu hi ∧ s₃.heap.IsList l new ∧ items.size + new.size ≤ sizeLine ∧
        ∀ h' n', h'.get? x = some (accO dx (items.extract 0 (sliceBounds lo hi none items.size).1.toNat ++ new ++ items.extract (max (sliceBounds lo hi none items.size).1 (sliceBounds lo hi none items.size).2.1).toNat items.size) n') →
          (∀ a o, a ≠ x → s₃.heap.get? a = some o → h'.get? a = some o) → Q .next { s₃ with heap := h' }) E s₂) E s₁) E s₀) E s)
    (hs : swapsWith value (some (.Subscript o (.Slice lower upper none p) pos')) pos.line env = pure false) :
    wpAny (MM w) A (exec (.Assign [.Subscript o (.Slice lower upper none p) pos'] value pos) env) Q E s := by
  refine wpAny_Assign_Subscript (wpAny_mono h (fun v s₀ h₀ => wpAny_mono h₀ (fun ov s₁ h₁ => wpAny_Slice (wpAny_mono h₁ (fun vl s₂ h₂ => wpAny_mono h₂ (fun vu s₃ h₃ => ?_) fun _ _ e => e) fun _ _ e => e)) fun _ _ e => e) fun _ _ e => e) hs
  obtain ⟨x, dx, items, n, od, lo, hi, l, new, rfl, rfl, X, hx, hd, pl, pu, hl, hz, hq⟩ := h₃
  rw [evalPart_none]
  refine wpAny_pure ?_
  have k1 : ∀ a o, s₃.heap.get? a = some o → (s₃.heap.push { cls := .type "slice", data := .fields #[vl, vu, .none] }).get? a = some o := fun a o e => Heap.get?_push_of_some _ e
  have hl1 : (s₃.heap.push { cls := .type "slice", data := .fields #[vl, vu, .none] }).IsList l new := hl.push _
  refine setItem_acc_slice (X.keeps k1) (k1 _ _ hx) (k1 _ _ hd) (Heap.IsSliceOf.new ..) pl pu hl1 hz ?_
  have up := Heap.get?_update_self (Obj.mapSeq fun xs => xs.extract 0 (sliceBounds lo hi none items.size).1.toNat ++ new ++ xs.extract (max (sliceBounds lo hi none items.size).1 (sliceBounds lo hi none items.size).2.1).toNat xs.size) (k1 _ _ hx) rfl
  refine hq _ _ (up.trans rfl) (fun a o ne e => (Heap.get?_update_other _ _ (Ne.symm ne)).trans (k1 a o e))
end
theorem bounds_from (k n : Nat) (hk : k ≤ n) : sliceBounds (some (k : Int)) none none n = ((k : Int), (n : Int), 1) := by
  unfold sliceBounds
  simp only [Option.getD_none]
  have h1 : ¬ ((k : Int) < 0) := by (first | lia | omega)
  simp only [h1, if_false, show (1 : Int) > 0 by decide, if_true]
  congr 1
  (first | lia | omega)
theorem bounds_all (n : Nat) : sliceBounds none none none n = (0, (n : Int), 1) := by
  unfold sliceBounds
  simp
theorem cut_from (items : Array Value) (k : Nat) (hk : k ≤ items.size) : items.extract 0 ((k : Int)).toNat ++ #[] ++ items.extract (max (k : Int) (items.size : Int)).toNat items.size = (items.toList.take k).toArray := by
  have e : (max (k : Int) (items.size : Int)).toNat = items.size := by (first | lia | omega)
  rw [e]
  apply Array.ext'
  simp
theorem cut_all (items new : Array Value) : items.extract 0 ((0 : Int)).toNat ++ new ++ items.extract (max (0 : Int) (items.size : Int)).toNat items.size = new := by
  have e : (max (0 : Int) (items.size : Int)).toNat = items.size := by (first | lia | omega)
  rw [e]
  apply Array.ext'
  simp
theorem grown {b h h' : Heap} {L l : Addr} {lo : Obj} {m : Str → Option Value} {news : List (Addr × Obj)} (F : Fr b L h m) (N : News b L h news) (k : ∀ a o, h.get? a = some o → h'.get? a = some o) (hl : h'.get? l = some lo) (nl : h.get? l = none) :
    Fr b L h' m ∧ News b L h' ((l, lo) :: news) := by
  obtain ⟨oL, es, ep, hL, r⟩ := F.ns
  refine ⟨⟨⟨oL, es, ep, k _ _ hL, r⟩, fun a o e => k a o (F.keep a o e), F.above⟩, fun p hp => ?_⟩
  rcases List.mem_cons.mp hp with rfl | hp
  · refine ⟨hl, fun z => ?_, ?_⟩
    · have z : l = L := z
      rw [← z, nl] at hL; cases hL
    · show b.get? l = none
      cases e : b.get? l with
      | none => rfl
      | some o => rw [F.keep _ _ e] at nl; cases nl
  · exact ⟨k _ _ (N p hp).1, (N p hp).2⟩
section
variable {w : World} {g : Heap} {s : Shared} {A : Around} {R : Result → Shared → Prop} {mg mb : Str → Option Value} {x dx : Addr} {items : Array Value} {n c it : Nat} {i : Int} {ps : List (Str × Str)}
theorem pop_from_spec {k : Nat} {tki : Tok} (X : (KK w.params).In g) (T : TR mg mb g) (kg : g.StaysIn s.heap) (hx : s.heap.get? x = some (accO dx items n)) (hd : s.heap.get? dx = some (isD w.params c i it)) (gx : g.get? x = none) (gd : g.get? dx = none) (hA : A.depth < 880)
    (hz : items.size ≤ 1000) (hk : k ≤ items.size)
    (h : ∀ h' tk l n', Kept [x] s.heap h' → s.heap.get? l = none → h'.IsList l (items.toList.drop k).toArray → h'.get? x = some (accO dx (items.toList.take k).toArray n') → R (.ok (.ret (.ref l))) { s with heap := h', toks := tk }) : codeAny (MM w) A (.call (.ref 147) ⟨[.ref x, .int k tki], []⟩) R s := by
  refine' enter (news := [(x, accO dx items n), (dx, isD w.params c i it)]) (binds := [("self", .ref x), ("i", .int k tki)]) X T kg ?n ?ho ?hcd ?room ?bind ?loc ?_ ?c1 ?c2 ?c3 ?c4
  case ho => k_is
  case hcd => k_is
  case room => first | exact Nat.lt_of_lt_of_le hA (by decide) | exact Nat.lt_of_lt_of_le (by (first | lia | omega) : _ < 990) (by decide)
  case bind => first | exact BindsTo.of_eq rfl | exact binds_K (X.keeps kg) rfl (by k_is) rfl rfl rfl
  case loc => exact locs rfl
  case n =>
    intro p hp
    simp only [List.mem_cons, List.mem_nil_iff, or_false] at hp
    rcases hp with rfl | rfl
    · exact ⟨hx, gx⟩
    · exact ⟨hd, gd⟩
  case c1 => decide
  case c2 => rfl
  case c3 => rfl
  case c4 => rfl
  intro b L h₁ F N B
  have X' := B.k
  have T' := B.t
  have kA : Kept [] s.heap h₁ := keptAll B F N (by simpa using ⟨hx, hd⟩)
  iterate 2 walk1
  refine slice_acc ?_
  iterate 4 walk1
  refine ⟨x, dx, items, n, _, some k, none, rfl, X'.keeps F.keep, (N (x, accO dx items n) (by k_mem)).1, (N (dx, isD w.params c i it) (by k_mem)).1, IsPart.int k tki, .none, Nat.le_trans hz (by decide), fun h₂ l hl nl k2 => ?_⟩
  obtain ⟨lo, hlo, lcls, ln, ldat⟩ := hl
  obtain ⟨F2, N2⟩ := grown F N k2 hlo nl
  have kB : Kept [] s.heap h₂ := fun a o e q => k2 a o (kA a o e q)
  clear F N
  dsimp only
  walk1
  rename_i h3 F3 N3
  iterate 2 walk1
  refine' set_slice_acc ?_ ?hs
  case hs => rfl
  iterate 5 walk1
  iterate 2 walk1
  rename_i l2 h4 F4 N4 lt4
  have hx4 := (N4 (x, accO dx items n) (by k_mem)).1
  have hd4 := (N4 (dx, isD w.params c i it) (by k_mem)).1
  have hl4 := (N4 (l, lo) (by k_mem)).1
  have hxl : l ≠ x := fun z => by rw [z] at nl; have := kA _ _ hx (by simp); rw [this] at nl; cases nl
  refine ⟨x, dx, items, n, _, some k, none, l2, #[], rfl, rfl, X'.keeps F4.keep, hx4, hd4, IsPart.int k tki, .none, ⟨_, (N4 (l2, W.listOf #[] 0) (by k_mem)).1, rfl, _, rfl⟩, by simpa using Nat.le_trans hz (by decide), fun h5 n' hx5 k5 => ?_⟩
  rw [bounds_from k _ hk] at hx5
  dsimp only at hx5
  rw [cut_from items k hk] at hx5
  obtain ⟨F5, N5⟩ := called (W := [x]) (news' := [(l, lo), (dx, isD w.params c i it)]) F4 (fun a o e q => k5 a o (by simpa using q) e) (fun a q => by
      obtain rfl : a = x := by simpa using q
      exact (N4 (a, accO dx items n) (by k_mem)).2) (fun p hp => by
      simp only [List.mem_cons, List.mem_nil_iff, or_false] at hp
      rcases hp with rfl | rfl
      · exact ⟨k5 _ _ hxl hl4, (N4 (l, lo) (by k_mem)).2⟩
      · exact ⟨k5 _ _ (fun z => by have z : dx = x := z; rw [z, hx] at hd; cases hd) hd4, (N4 (dx, isD w.params c i it) (by k_mem)).2⟩)
  clear F4 N4
  dsimp only
  iterate 3 walk1
  refine h h5 _ l n' (fun a o e q => ?_) ?_ ⟨lo, (N5 (l, lo) (by k_mem)).1, lcls, ln, by rw [ldat, slicePick_from items k hk]⟩ hx5
  · by_cases z : a = dx
    · rw [z, hd] at e; cases e; rw [z]; exact (N5 (dx, isD w.params c i it) (by k_mem)).1
    · exact B.kept F5 a o e (by simp only [List.map_cons, List.map_nil, List.mem_cons, List.mem_nil_iff, or_false, not_or]; exact ⟨by simpa using q, z⟩)
  · cases e : s.heap.get? l with
    | none => rfl
    | some o => have := kA _ _ e (by simp); have nl : h₁.get? l = none := nl; rw [this] at nl; cases nl
end
end Mine
end
section
open PySem PySem.W PyProof.Rows PySem.Calls
set_option Elab.async false
set_option maxRecDepth 100000
namespace Mine
section
variable {w : World} {g : Heap} {s : Shared} {A : Around} {R : Result → Shared → Prop} {mg mb : Str → Option Value} {x dx : Addr} {items : Array Value} {n c it : Nat} {i : Int} {ps : List (Str × Str)}
theorem reset1_spec {l : Addr} {new : Array Value} (X : (KK w.params).In g) (T : TR mg mb g) (kg : g.StaysIn s.heap) (hx : s.heap.get? x = some (accO dx items n)) (hd : s.heap.get? dx = some (isD w.params c i it)) (gx : g.get? x = none) (gd : g.get? dx = none) (hA : A.depth < 880)
    (hl : s.heap.IsList l new) (gl : g.get? l = none) (hz : items.size ≤ 1000) (hz2 : new.size ≤ 1000)
    (h : ∀ h' tk n' c' it', Kept [x, dx] s.heap h' → h'.get? x = some (accO dx new n') → h'.get? dx = some (isD w.params c' 0 it') → R (.ok (.ret .none)) { s with heap := h', toks := tk }) : codeAny (MM w) A (.call (.ref 177) ⟨[.ref x, .ref l], []⟩) R s := by
  obtain ⟨lo, hlo, lcls, ln, ldat⟩ := hl
  have ndx : dx ≠ x := fun z => by rw [z, hx] at hd; cases hd
  have nlx : l ≠ x := fun z => by rw [z, hx] at hlo; cases hlo; cases lcls
  have nld : l ≠ dx := fun z => by rw [z, hd] at hlo; cases hlo; cases ldat
  refine' enter (news := [(x, accO dx items n), (dx, isD w.params c i it), (l, lo)]) (binds := [("self", .ref x), ("startval", .ref l)]) X T kg ?n ?ho ?hcd ?room ?bind ?loc ?_ ?c1 ?c2 ?c3 ?c4
  case ho => k_is
  case hcd => k_is
  case room => first | exact Nat.lt_of_lt_of_le hA (by decide) | exact Nat.lt_of_lt_of_le (by omega : _ < 990) (by decide)
  case bind => first | exact BindsTo.of_eq rfl | exact binds_K (X.keeps kg) rfl (by k_is) rfl rfl rfl
  case loc => exact locs rfl
  case n =>
    intro p hp
    simp only [List.mem_cons, List.mem_nil_iff, or_false] at hp
    rcases hp with rfl | rfl | rfl
    · exact ⟨hx, gx⟩
    · exact ⟨hd, gd⟩
    · exact ⟨hlo, gl⟩
  case c1 => decide
  case c2 => rfl
  case c3 => rfl
  case c4 => rfl
  intro b L h₁ F N B
  have X' := B.k
  have T' := B.t
  iterate 8 walk1
  iterate 3 walk1
  refine' set_slice_acc ?_ ?hs
  case hs => rfl
  iterate 4 walk1
  have hx1 := (N (x, accO dx items n) (by k_mem)).1
  have hd1 := (N (dx, isD w.params c i it) (by k_mem)).1
  have hl1 := (N (l, lo) (by k_mem)).1
  refine ⟨x, dx, items, n, _, none, none, l, new, rfl, rfl, X'.keeps F.keep, hx1, hd1, .none, .none, ⟨lo, hl1, lcls, ln, ldat⟩, Nat.le_trans (Nat.add_le_add hz hz2) (by decide), fun h2 n' hx2 k2 => ?_⟩
  rw [bounds_all] at hx2
  dsimp only at hx2
  rw [cut_all] at hx2
  obtain ⟨F2, N2⟩ := called (W := [x]) (news' := [(x, accO dx new n'), (dx, isD w.params c i it), (l, lo)]) F (fun a o e q => k2 a o (by simpa using q) e) (fun a q => by
      obtain rfl : a = x := by simpa using q
      exact (N (a, accO dx items n) (by k_mem)).2) (fun p hp => by
      simp only [List.mem_cons, List.mem_nil_iff, or_false] at hp
      rcases hp with rfl | rfl | rfl
      · exact ⟨hx2, (N (x, accO dx items n) (by k_mem)).2⟩
      · exact ⟨k2 _ _ ndx hd1, (N (dx, isD w.params c i it) (by k_mem)).2⟩
      · exact ⟨k2 _ _ nlx hl1, (N (l, lo) (by k_mem)).2⟩)
  clear F N
  dsimp only
  iterate 4 walk1
  refine setAttr_acc (X'.keeps F2.keep) hx2 (N2 (dx, isD w.params c i it) (by k_mem)).1 (by k_is) rfl rfl (Nat.le_of_ble_eq_true rfl) (fun h3 hd3 k3 => ?_)
  refine wpAny_execs_nil ?_
  refine h h3 _ n' c _ (fun a o e q => ?_) (k3 _ _ (Ne.symm ndx) hx2) hd3
  have q1 : a ≠ x ∧ a ≠ dx := by simpa using q
  refine k3 _ _ q1.2 ?_
  by_cases z : a = l
  · rw [z, hlo] at e; cases e; rw [z]; exact (N2 (l, lo) (by k_mem)).1
  · exact B.kept F2 a o e (by simp only [List.map_cons, List.map_nil, List.mem_cons, List.mem_nil_iff, or_false, not_or]; exact ⟨q1.1, q1.2, z⟩)
theorem reset0_spec (X : (KK w.params).In g) (T : TR mg mb g) (kg : g.StaysIn s.heap) (hx : s.heap.get? x = some (accO dx items n)) (hd : s.heap.get? dx = some (isD w.params c i it)) (gx : g.get? x = none) (gd : g.get? dx = none) (hA : A.depth < 880)
    (hz : items.size ≤ 1000)
    (h : ∀ h' tk n' c' it', Kept [x, dx] s.heap h' → h'.get? x = some (accO dx #[] n') → h'.get? dx = some (isD w.params c' 0 it') → R (.ok (.ret .none)) { s with heap := h', toks := tk }) : codeAny (MM w) A (.call (.ref 177) ⟨[.ref x], []⟩) R s := by
  have ndx : dx ≠ x := fun z => by rw [z, hx] at hd; cases hd
  refine' enter (news := [(x, accO dx items n), (dx, isD w.params c i it)]) (binds := [("self", .ref x), ("startval", .none)]) X T kg ?n ?ho ?hcd ?room ?bind ?loc ?_ ?c1 ?c2 ?c3 ?c4
  case ho => k_is
  case hcd => k_is
  case room => first | exact Nat.lt_of_lt_of_le hA (by decide) | exact Nat.lt_of_lt_of_le (by omega : _ < 990) (by decide)
  case bind => first | exact BindsTo.of_eq rfl | exact binds_K (X.keeps kg) rfl (by k_is) rfl rfl rfl
  case loc => exact locs rfl
  case n =>
    intro p hp
    simp only [List.mem_cons, List.mem_nil_iff, or_false] at hp
    rcases hp with rfl | rfl
    · exact ⟨hx, gx⟩
    · exact ⟨hd, gd⟩
  case c1 => decide
  case c2 => rfl
  case c3 => rfl
  case c4 => rfl
  intro b L h₁ F N B
  have X' := B.k
  have T' := B.t
  iterate 18 walk1
  refine' set_slice_acc ?_ ?hs
  case hs => rfl
  iterate 4 walk1
  rename_i l h0 l1 h1 F N
  have hx1 := (N (x, accO dx items n) (by k_mem)).1
  have hd1 := (N (dx, isD w.params c i it) (by k_mem)).1
  refine ⟨x, dx, items, n, _, none, none, l, #[], rfl, rfl, X'.keeps F.keep, hx1, hd1, .none, .none, ⟨_, (N (l, W.listOf #[] 0) (by k_mem)).1, rfl, _, rfl⟩, by simpa using Nat.le_trans hz (by decide), fun h2 n' hx2 k2 => ?_⟩
  rw [bounds_all] at hx2
  dsimp only at hx2
  rw [cut_all] at hx2
  obtain ⟨F2, N2⟩ := called (W := [x]) (news' := [(x, accO dx #[] n'), (dx, isD w.params c i it)]) F (fun a o e q => k2 a o (by simpa using q) e) (fun a q => by
      obtain rfl : a = x := by simpa using q
      exact (N (a, accO dx items n) (by k_mem)).2) (fun p hp => by
      simp only [List.mem_cons, List.mem_nil_iff, or_false] at hp
      rcases hp with rfl | rfl
      · exact ⟨hx2, (N (x, accO dx items n) (by k_mem)).2⟩
      · exact ⟨k2 _ _ ndx hd1, (N (dx, isD w.params c i it) (by k_mem)).2⟩)
  clear F N
  dsimp only
  iterate 4 walk1
  refine setAttr_acc (X'.keeps F2.keep) hx2 (N2 (dx, isD w.params c i it) (by k_mem)).1 (by k_is) rfl rfl (Nat.le_of_ble_eq_true rfl) (fun h3 hd3 k3 => ?_)
  refine wpAny_execs_nil ?_
  refine h h3 _ n' c _ (fun a o e q => ?_) (k3 _ _ (Ne.symm ndx) hx2) hd3
  have q1 : a ≠ x ∧ a ≠ dx := by simpa using q
  refine k3 _ _ q1.2 ?_
  exact B.kept F2 a o e (by simp only [List.map_cons, List.map_nil, List.mem_cons, List.mem_nil_iff, or_false, not_or]; exact ⟨q1.1, q1.2⟩)
end
end Mine
end
section
open PySem PySem.W PyProof.Rows PySem.Calls
set_option Elab.async false
set_option maxRecDepth 100000
namespace Mine
section
variable {w : World} {A : Around} {E : Value → Shared → Prop} {s : Shared} {x dx : Addr} {items : Array Value} {n : Nat} {od : Obj}
/-- len of the list subclass: by its __len__ -/
theorem len_acc2 {Q : Value → Shared → Prop} {b : Heap} {L : Addr} {m : Str → Option Value} (F : Fr b L s.heap m) (X : (KK w.params).In b) (hx : s.heap.get? x = some (accO dx items n)) (hd : s.heap.get? dx = some od)
    (h : codeAny (MM w) A.in1 (.call (.ref 162) ⟨[.ref x], []⟩) (fun r s' => match r with | .ok (.ret v) => PySem.W.LenBack Q v s' | .ok _ => False | .error e => E e s') s) : wpAny (MM w) A (call (.builtin "len") [.ref x]) Q E s :=
  len_K F X (acc_inst hx hd) (by k_is) (by k_is) (wpAny_call h)
/-- truth of the list subclass: by its __len__ -/
theorem truthy_acc {Q : Bool → Shared → Prop} {b : Heap} {L : Addr} {m : Str → Option Value} (F : Fr b L s.heap m) (X : (KK w.params).In b) (hx : s.heap.get? x = some (accO dx items n)) (hd : s.heap.get? dx = some od)
    (h : codeAny (MM w) A.in1 (.call (.ref 162) ⟨[.ref x], []⟩) (fun r s' => match r with | .ok (.ret (.int k _)) => (0 ≤ k ∧ k < 2 ^ 63) ∧ Q (k != 0) { s' with toks := s'.toks + 1 } | _ => False) s) : wpAny (MM w) A (truthy (.ref x)) Q E s := by
  have I := acc_inst hx hd
  have X1 := X.keeps F.keep
  unfold truthy
  refine wpAny_bind (m := callSpecial? (.ref x) (Str.ofString "__bool__")) (wpAny_bind (wpAny_bind (I.type.here ((looks_findIn (K := KK w.params) X1 (by k_is)).here (wpAny_pure ?_)))))
  refine wpAny_bind (wpAny_bind (I.type.here ((looks_findIn (K := KK w.params) X1 (show findIn (KK w.params) (.ref 195) "__len__" = some (some (.ref 162)) by k_is)).here ?_)))
  rw [if_neg (by simp)]
  refine wpAny_bind (wpAny_runValue (codeAny_builtin entry_len ?_))
  rw [Around.under_plainId plain_len _]
  unfold Builtin.«len»
  refine wpAny_bind (m := oneArg "len" _) (wpAny_pure ?_)
  refine wpAny_bind (m := callSpecial? (.ref x) (Str.ofString "__len__")) (special_fn (K := KK w.params) (f := 162) X1 I (by k_is) (beq_iff_eq.mp (show isFn (KK w.params) (.ref 162) = true by k_is)) (wpAny_call (codeAny_mono h fun r s' z => ?_)))
  rcases r with e | (v | _ | _ | _) <;> first | exact z.elim | skip
  rename_i v
  cases v <;> first | exact z.elim | skip
  rename_i k u
  obtain ⟨⟨h0, h1⟩, hq⟩ := z
  dsimp only
  refine wpAny_bind (wpAny_holding (wpAny_pure ?_))
  refine wpAny_bind (wpAny_letGo ?_)
  show wpAny _ _ (if k < 0 then _ else _) _ _ _
  rw [if_neg (by omega)]
  show wpAny _ _ (if k ≥ 2 ^ 63 then _ else _) _ _ _
  rw [if_neg (by omega)]
  exact wpAny_bind (wpAny_mkInt (wpAny_pure (wpAny_pure hq)))
end
theorem tab_objs {h : Heap} (t : TabOk h) : Ex2 fun (o1 o2 : Obj) => A4 (h.get? 157 = some o1) (∃ p, o1.data = .fields p) (h.get? 164 = some o2) (∃ p, o2.data = .fields p) := by
  obtain ⟨⟨ps, ⟨o, vs, file, tf, flags, tg, inF, text, tt, op, ho, hd, h11, h2, h7, h9, h10, hop, hpd, r⟩, _⟩, ⟨ps', ⟨o', vs', file', tf', flags', tg', inF', text', tt', op', ho', hd', h11', h2', h7', h9', h10', hop', hpd', r'⟩, _⟩⟩ := t
  exact ⟨op, op', hop, ⟨_, hpd⟩, hop', ⟨_, hpd'⟩⟩
theorem Pairs.kept {h h' : Heap} {W : List Addr} {items : Array Value} {ps : List (Str × Str)} (P : Pairs h items ps) (k : Kept W h h') (hW : ∀ a ∈ W, ∀ o, h.get? a = some o → o.cls ≠ .type "tuple") : Pairs h' items ps := by
  obtain ⟨Ts, ft, pt, hs, hp⟩ := P.ex
  refine ⟨Ts, ft, pt, hs, fun j p e => ⟨(hp j p e).1, ?_⟩⟩
  obtain ⟨o, ho, hc, r⟩ := (hp j p e).2
  exact ⟨o, k _ _ ho (fun q => hW _ q o ho hc), hc, r⟩
theorem tab_cls {h : Heap} (t : TabOk h) (a : Addr) (ha : a = 157 ∨ a = 164) : ∀ o, h.get? a = some o → ∀ xs n, o.data ≠ .seq xs n := by
  obtain ⟨o1, o2, h1, ⟨p1, d1⟩, h2, p2, d2⟩ := tab_objs t
  intro o e xs n q
  rcases ha with rfl | rfl
  · rw [h1] at e; cases e; rw [d1] at q; cases q
  · rw [h2] at e; cases e; rw [d2] at q; cases q
theorem Pairs.keptT {h h' : Heap} {W : List Addr} {items : Array Value} {ps : List (Str × Str)} (P : Pairs h items ps) (k : Kept W h h') (t : TabOk h) (hW : ∀ a ∈ W, (a = 157 ∨ a = 164) ∨ ∀ o, h.get? a = some o → o.cls ≠ .type "tuple") : Pairs h' items ps := by
  obtain ⟨Ts, ft, pt, hs, hp⟩ := P.ex
  refine ⟨Ts, ft, pt, hs, fun j p e => ⟨(hp j p e).1, ?_⟩⟩
  obtain ⟨o, ho, hc, n, hd⟩ := (hp j p e).2
  refine ⟨o, k _ _ ho (fun q => ?_), hc, n, hd⟩
  rcases hW _ q with z | z
  · exact tab_cls t _ z o ho _ _ hd
  · exact z o ho hc
theorem tab_kept {h h' : Heap} {W : List Addr} (t : TabOk h) (k : Kept W h h') (n1 : 157 ∉ W) (n2 : 164 ∉ W) (n3 : 161 ∉ W := by decide) (n4 : 168 ∉ W := by decide) : TabOk h' :=
  ⟨code_two t.1 (fun o e => k _ _ e n3) (fun o e => k _ _ e n1), code_two t.2 (fun o e => k _ _ e n4) (fun o e => k _ _ e n2)⟩
theorem accLen_lt {ps : List (Str × Str)} (h : Small ps) : accLen 0 ps < 2 ^ 63 := by
  have h1 := h.1
  have key : ∀ l : List (Str × Str), (∀ p ∈ l, p.1.length ≤ 1000 ∧ p.2.length ≤ 1000) → (l.map fun p => ((p.1.length : Int) + p.2.length)).sum ≤ 2000 * l.length := by
    intro l
    induction l with
    | nil => intro _; simp
    | cons p r ih =>
      intro hp
      have a1 := ih fun q hq => hp q (.tail _ hq)
      have a2 := hp p (.head _)
      rw [List.map_cons, List.sum_cons, List.length_cons]
      omega
  have h2 := key ps h.2
  unfold accLen
  omega
section
variable {w : World} {g : Heap} {s : Shared} {A : Around} {R : Result → Shared → Prop} {mg mb : Str → Option Value} {x dx : Addr} {items : Array Value} {n c it : Nat} {i : Int} {ps : List (Str × Str)}
theorem onlyws_spec (X : (KK w.params).In g) (T : TR mg mb g) {bm : Addr} {ob : Obj} (BM : BMod g mainGlobals mg bm ob) (kg : g.StaysIn s.heap) (hx : s.heap.get? x = some (accO dx items n)) (hd : s.heap.get? dx = some (isD w.params c i it)) (gx : g.get? x = none) (gd : g.get? dx = none) (hA : A.depth < 860) (hh : A.handled = none) (hu : A.units < 9000)
    (hP : Pairs s.heap items ps) (hS : Small ps) (hTab : TabOk s.heap) (g1 : g.get? 157 = none) (g2 : g.get? 164 = none) (hl : 0 < accLen i ps)
    (h : ∀ s', Kept [157, 164] s.heap s'.heap → TabOk s'.heap → s'.os = s.os → (AllBare s.gens → AllBare s'.gens) → R (.ok (.ret (.bool (decide (i = 0) && Txt.isspace (accStr ps))))) s') : codeAny (MM w) A (.call (.ref 184) ⟨[.ref x], []⟩) R s := by
  have nx : x ≠ 157 := fun z => tab_cls hTab 157 (.inl rfl) _ (z ▸ hx) _ _ rfl
  have nx2 : x ≠ 164 := fun z => tab_cls hTab 164 (.inr rfl) _ (z ▸ hx) _ _ rfl
  have ndx2 : dx ≠ 164 := by
    rintro rfl
    obtain ⟨o1, o2, h1, d1, h2, ⟨p, d2⟩⟩ := tab_objs hTab
    rw [hd] at h2; cases h2; cases d2
  have ndx : dx ≠ 157 := by
    rintro rfl
    obtain ⟨o1, o2, h1, ⟨p, d1⟩, r⟩ := tab_objs hTab
    rw [hd] at h1; cases h1; cases d1
  obtain ⟨o1, o2, h1, d1, h2, d2⟩ := tab_objs hTab
  refine' enter (news := [(x, accO dx items n), (dx, isD w.params c i it), (157, o1), (164, o2)]) (binds := [("self", .ref x)]) X T kg ?n ?ho ?hcd ?room ?bind ?loc ?_ ?c1 ?c2 ?c3 ?c4
  case ho => k_is
  case hcd => k_is
  case room => first | exact Nat.lt_of_lt_of_le hA (by decide) | exact Nat.lt_of_lt_of_le (by omega : _ < 990) (by decide)
  case bind => exact BindsTo.of_eq rfl
  case loc => exact locs rfl
  case n =>
    intro p hp
    simp only [List.mem_cons, List.mem_nil_iff, or_false] at hp
    rcases hp with rfl | rfl | rfl | rfl
    · exact ⟨hx, gx⟩
    · exact ⟨hd, gd⟩
    · exact ⟨h1, g1⟩
    · exact ⟨h2, g2⟩
  case c1 => decide
  case c2 => rfl
  case c3 => rfl
  case c4 => rfl
  intro b L h₁ F N B
  have X' := B.k
  have T' := B.t
  have hx1 := (N (x, accO dx items n) (by k_mem)).1
  have hd1 := (N (dx, isD w.params c i it) (by k_mem)).1
  have kA : Kept [] s.heap h₁ := keptAll B F N (by simpa using ⟨hx, hd, h1, h2⟩)
  iterate 5 walk1
  walk1
  refine getAttr_acc (X'.keeps F.keep) hx1 hd1 (find_init w c it i) rfl ?_
  iterate 3 walk1
  by_cases hi : i = 0
  · subst hi
    refine ite_pos (by decide) ?_
    iterate 4 walk1
    refine not_of ?_
    refine truthy_acc F X' hx1 hd1 (len_spec X' T' (BM.keeps B.g) F.keep hx1 hd1 (N (x, accO dx items n) (by k_mem)).2.2 (N (dx, isD w.params c 0 it) (by k_mem)).2.2 (by first | exact dd2 hA (by decide) | (simp only [depth_in1, depth_deeper]; omega)) hh (hP.keptT kA hTab (fun a q => by cases q)) hS (tab_kept hTab kA (by simp) (by simp)) (N (157, o1) (by k_mem)).2.2 (fun s' t k1 t1 os1 gs1 => ?_))
    refine ⟨⟨Int.le_of_lt hl, accLen_lt hS⟩, ?_⟩
    have hne : (accLen 0 ps != 0) = true := by simpa using Int.ne_of_gt hl
    rw [hne]
    obtain ⟨F2, N2⟩ := called (W := [157]) (news' := [(x, accO dx items n), (dx, isD w.params c 0 it), (164, o2)]) F k1 (fun a q => by
      obtain rfl : a = 157 := by simpa using q
      exact (N (157, o1) (by k_mem)).2) (fun p hp => by
      simp only [List.mem_cons, List.mem_nil_iff, or_false] at hp
      rcases hp with rfl | rfl | rfl
      · exact ⟨k1 _ _ hx1 (by simpa using nx), (N (x, accO dx items n) (by k_mem)).2⟩
      · exact ⟨k1 _ _ hd1 (by simpa using ndx), (N (dx, isD w.params c 0 it) (by k_mem)).2⟩
      · exact ⟨k1 _ _ (N (164, o2) (by k_mem)).1 (by simp), (N (164, o2) (by k_mem)).2⟩)
    have nb : b.get? 157 = none := (N (157, o1) (by k_mem)).2.2
    clear N F
    have hx2 := (N2 (x, accO dx items n) (by k_mem)).1
    have hd2 := (N2 (dx, isD w.params c 0 it) (by k_mem)).1
    walk1
    refine ite_neg (by decide) ?_
    iterate 8 walk1
    have X2 : (KK w.params).In s'.heap := X'.keeps F2.keep
    refine kso_call (f := 169) (K := KK w.params) (by rw [cLine_is]; show A.units + 3 + 1 + 1 < 9900; omega) X2 (acc_inst hx2 hd2) (by k_is) (by k_is) (wpAny_call ?_)
    refine str_spec X' T' (BM.keeps B.g) F2.keep hx2 hd2 (N2 (x, accO dx items n) (by k_mem)).2.2 (N2 (dx, isD w.params c 0 it) (by k_mem)).2.2 (by first | exact dd2 hA (by decide) | (simp only [depth_in1, depth_deeper]; omega)) hh ((hP.keptT kA hTab (fun a q => by cases q)).keptT k1 (tab_kept hTab kA (by simp) (by simp)) (fun a q => .inl (.inl (by simpa using q)))) hS t1 (N2 (164, o2) (by k_mem)).2.2 (fun s2 t2 k2 t3 os2 gs2 => ?_)
    obtain ⟨F3, N3⟩ := called (W := [164]) (news' := [(x, accO dx items n), (dx, isD w.params c 0 it)]) F2 k2 (fun a q => by
      obtain rfl : a = 164 := by simpa using q
      exact (N2 (164, o2) (by k_mem)).2) (fun p hp => by
      simp only [List.mem_cons, List.mem_nil_iff, or_false] at hp
      rcases hp with rfl | rfl
      · exact ⟨k2 _ _ hx2 (by simpa using nx2), (N2 (x, accO dx items n) (by k_mem)).2⟩
      · exact ⟨k2 _ _ hd2 (by simpa using ndx2), (N2 (dx, isD w.params c 0 it) (by k_mem)).2⟩)
    clear N2 F2
    dsimp only [PySem.W.StrBack]
    iterate 3 walk1
    have z := h s2 (fun a o e q => by
      have q' : a ≠ 157 ∧ a ≠ 164 := by simpa using q
      exact k2 a o (k1 a o (kA a o e (by simp)) (by simpa using q'.1)) (by simpa using q'.2)) t3 (os2.trans os1) (fun G => gs2 (gs1 G))
    rw [decide_eq_true rfl, Bool.true_and] at z
    exact z
  · refine ite_neg (by simpa using hi) ?_
    dsimp only
    have e1 : (i == 0) = false := by simpa using hi
    rw [e1]
    have z := h { s with heap := h₁, toks := s.toks + [(Str.ofString "self", Value.ref x)].length + 1 + 1 } (fun a o e q => kA a o e (by simp)) (tab_kept hTab kA (by simp) (by simp)) rfl id
    rw [decide_eq_false hi, Bool.false_and] at z
    exact z
end
end Mine
end
section
open PySem PySem.W PyProof.Rows PySem.Calls
set_option Elab.async false
set_option maxRecDepth 100000
namespace Mine
theorem get_init : GetBi "list.__init__" "wrapper_descriptor" "method-wrapper" "wrapper_descriptor.__get__" Builtin.«wrapper_descriptor.__get__» :=
  ⟨by kernel_rfl, F.slot_wget, F.entry_wget, F.wgetArgs, fun hi hq => by
    unfold Builtin.«wrapper_descriptor.__get__»
    have h1 : (".".intercalate ("list.__init__".cutAt '.').dropLast) = "list" := by decide +kernel
    repeat (first | (rw [h1]; refine Looks.at hi ?_) | (with_reducible refine wpAny_newObj_type ?_ (by size_fits)) | wp_step | (unfold newFields) | dsimp only)
    all_goals exact hq⟩
theorem chk_init (x : Addr) : checkBoundCall "list.__init__" ⟨[.ref x], []⟩ = pure () := by kernel_rfl
section
variable {w : World} {g : Heap} {s : Shared} {A : Around} {E : Value → Shared → Prop} {x dx : Addr} {items : Array Value} {n : Nat}
theorem init_raw {Q : Value → Shared → Prop} (hx : s.heap.get? x = some (accO dx #[] n)) (h : ∀ h', h'.get? x = some (accO dx #[] n) → (∀ a o, s.heap.get? a = some o → h'.get? a = some o) → Q .none { s with heap := h' }) :
    wpAny (MM w) A (Builtin.«list.__init__» ⟨[.ref x], []⟩) (fun fin s' => ∃ v, fin = .done (.ret v) ∧ Q v s') E s := by
  unfold Builtin.«list.__init__»
  dsimp only
  rw [if_neg (by decide)]
  rw [if_neg (by decide)]
  refine wpAny_bind (wpAny_listItems hx rfl ?_)
  have up := Heap.get?_update_self (Obj.mapSeq fun _ => #[]) hx rfl
  refine wpAny_bind (wpAny_updateSeq hx rfl ?_ (by simp) (by simp))
  refine wpAny_bind (wpAny_letGo (wpAny_pure ⟨_, rfl, h _ (up.trans rfl) fun a o e => ?_⟩))
  by_cases z : a = x
  · rw [z, hx] at e; cases e; rw [z]; exact up.trans rfl
  · exact (Heap.get?_update_other _ _ (Ne.symm z)).trans e
end
section
variable {w : World} {g : Heap} {s : Shared} {A : Around} {R : Result → Shared → Prop} {mg mb : Str → Option Value} {x dx : Addr} {items : Array Value} {n c it : Nat} {i : Int}
theorem init_spec (X : (KK w.params).In g) (T : TR mg mb g) (kg : g.StaysIn s.heap) (hx : s.heap.get? x = some (accO dx #[] n)) (hd : s.heap.get? dx = some (dictOf [] 0)) (gx : g.get? x = none) (gd : g.get? dx = none) (hA : A.depth < 890)
    (h : ∀ h' tk c, Kept [dx] s.heap h' → h'.get? dx = some (isD w.params c i it) → R (.ok (.ret .none)) { s with heap := h', toks := tk }) : codeAny (MM w) A (.call (.ref 132) ⟨[.ref x, .int i it], []⟩) R s := by
  have ndx : dx ≠ x := fun z => by rw [z, hx] at hd; cases hd
  refine' enterS (news := [(x, accO dx #[] n), (dx, dictOf [] 0)]) (binds := [("self", .ref x), ("initial_size", .int i it)]) X T kg ?n ?ho ?hcd ?room ?bind ?loc ?_ ?c1 ?c2 ?c3 ?c4
  case ho => k_is
  case hcd => k_is
  case room => first | exact Nat.lt_of_lt_of_le hA (by decide) | exact Nat.lt_of_lt_of_le (by omega : _ < 990) (by decide)
  case bind => exact binds_K (X.keeps kg) rfl (by k_is) rfl rfl rfl
  case loc => exact locs rfl
  case n =>
    intro p hp
    simp only [List.mem_cons, List.mem_nil_iff, or_false] at hp
    rcases hp with rfl | rfl
    · exact ⟨hx, gx⟩
    · exact ⟨hd, gd⟩
  case c1 => decide
  case c2 => rfl
  case c3 => rfl
  case c4 => rfl
  intro b L h₁ F N B
  have X' := B.k
  have T' := B.t
  have X1 : (KK w.params).In h₁ := B.k.keeps F.keep
  have hx1 := (N (x, accO dx #[] n) (by k_mem)).1
  have hd1 := (N (dx, dictOf [] 0) (by k_mem)).1
  refine ks_wpAt_execs_cons ?_
  refine' ks_wpAt_Assign_Attr ?_ ?hs
  case hs => rfl
  refine wpAt_of_wpAny ?_
  iterate 2 walk1
  refine setAttr_acc X1 hx1 hd1 (by k_is) rfl rfl (Nat.le_of_ble_eq_true rfl) (fun h2 hd2 k2 => ?_)
  dsimp only
  obtain ⟨F2, N2⟩ := called (W := [dx]) (news' := [(x, accO dx #[] n), (dx, isD w.params (s.toks + 2 + 1) i it)]) F (fun a o e q => k2 a o (by simpa using q) e) (fun a q => by
      obtain rfl : a = dx := by simpa using q
      exact (N (a, dictOf [] 0) (by k_mem)).2) (fun p hp => by
      simp only [List.mem_cons, List.mem_nil_iff, or_false] at hp
      rcases hp with rfl | rfl
      · exact ⟨k2 _ _ (Ne.symm ndx) hx1, (N (x, accO dx #[] n) (by k_mem)).2⟩
      · exact ⟨hd2, (N (dx, dictOf [] 0) (by k_mem)).2⟩)
  have X2 : (KK w.params).In h2 := X'.keeps F2.keep
  have T2 : TR mg mb h2 := T'.keeps F2.keep
  have hx2 := (N2 (x, accO dx #[] n) (by k_mem)).1
  refine ks_wpAt_execs_cons ?_
  refine' ks_wpAt_Expr_any ?_ ?hi ?hs
  case hi => rfl
  case hs => rfl
  refine super_expr get_init F2 X2 T2 (by k_is) rfl rfl hx2 hd2 (by k_is) rfl (file_ok w) (by decide +kernel) (by rfl) (by rfl) (by rfl) rfl (top_ok w) (sup_init w) (.inl rfl) (by decide +kernel) Mine.F.entry_init (fun s A E Q _ _ q => wpAny_of_eq (chk_init x) q) rfl (fun h' k => ?_)
  refine init_raw (k _ _ hx2) (fun h3 hx3 k3 => ?_)
  refine wpAt_of_wpAny (wpAny_execs_nil ?_)
  refine h h3 _ _ (fun a o e q => ?_) (k3 _ _ (k _ _ hd2))
  have q' : a ≠ dx := by simpa using q
  refine k3 _ _ (k _ _ ?_)
  by_cases z : a = x
  · rw [z, hx] at e; cases e; rw [z]; exact hx2
  · exact B.kept F2 a o e (by simp only [List.map_cons, List.map_nil, List.mem_cons, List.mem_nil_iff, or_false, not_or]; exact ⟨z, q'⟩)
end
end Mine
end
section
open PySem PySem.W PyProof.Rows PySem.Calls
set_option Elab.async false
set_option maxRecDepth 100000
namespace Mine
noncomputable abbrev pgD (P : Params) (W : Int) (signs : Str) (l x : Addr) (k : Nat → Nat) : Obj := dictOf [
  ⟨PyData.keyHash P (Str.ofString "_maxlen"), .str (Str.ofString "_maxlen") (k 0), .int W (k 1)⟩,
  ⟨PyData.keyHash P (Str.ofString "_continuation_ws"), .str (Str.ofString "_continuation_ws") (k 2), .str (Str.ofString "\t") (k 3)⟩,
  ⟨PyData.keyHash P (Str.ofString "_continuation_ws_len"), .str (Str.ofString "_continuation_ws_len") (k 4), .int 1 (k 5)⟩,
  ⟨PyData.keyHash P (Str.ofString "_splitchars"), .str (Str.ofString "_splitchars") (k 6), .str signs (k 7)⟩,
  ⟨PyData.keyHash P (Str.ofString "_lines"), .str (Str.ofString "_lines") (k 8), .ref l⟩,
  ⟨PyData.keyHash P (Str.ofString "_current_line"), .str (Str.ofString "_current_line") (k 9), .ref x⟩] 6
theorem tup2_ne {w : World} {A : Around} {E : Value → Shared → Prop} {s : Shared} {a b : Addr} {f p f' p' : Str} {t1 t2 t3 t4 : Tok} {Q : Value → Shared → Prop} (ha : s.heap.IsTuple a #[.str f t1, .str p t2]) (hb : s.heap.IsTuple b #[.str f' t3, .str p' t4])
    (o1 : PyData.strOk f = true) (o2 : PyData.strOk p = true) (o3 : PyData.strOk f' = true) (o4 : PyData.strOk p' = true)
    (hu : A.units + 64 < cLine) (h : Q (.bool (!(f == f' && p == p'))) s) : wpAny (MM w) A (compareOp .NotEq (.ref a) (.ref b)) Q E s := by
  obtain ⟨oa, ga, ca, na, da⟩ := ha
  obtain ⟨ob, gb, cb, nb, db⟩ := hb
  refine' ne_dataH_same (da := .tuple [.str f, .str p]) (db := .tuple [.str f', .str p']) (.tuple ga ca da (.cons (.str _ _) (.cons (.str _ _) .nil))) (.tuple gb cb db (.cons (.str _ _) (.cons (.str _ _) .nil))) ?s1 ?s2 hu ?s3 ?_
  case s1 => simp [SeqAt.shaped, PyData.canLay0, PyData.canLayAll0, PyData.depth, PyData.depthAll, o1, o2]
  case s2 => simp [SeqAt.shaped, PyData.canLay0, PyData.canLayAll0, PyData.depth, PyData.depthAll, o3, o4]
  case s3 => simp [SeqAt.noMix, SeqAt.noMixAll]
  have e : PySem.Spec.same (.tuple [.str f, .str p]) (.tuple [.str f', .str p']) = (f == f' && p == p') := by
    simp [PySem.Spec.same, PySem.Spec.sameAll]
  rw [e]; exact h
theorem Pairs.snoc_inv {h : Heap} {items : Array Value} {psi : List (Str × Str)} {q : Str × Str} (P : Pairs h items (psi ++ [q])) : ∃ its T ft pt, items = its.push (.ref T) ∧ Pairs h its psi ∧ h.IsTuple T #[.str q.1 ft, .str q.2 pt] := by
  obtain ⟨Ts, ft, pt, hs, hp⟩ := P.ex
  rw [List.length_append, List.length_singleton] at hs
  obtain ⟨a, t⟩ := hp psi.length q (by simp)
  have e : items = items.pop.push (.ref (Ts psi.length)) := by
    apply Array.ext_getElem?
    intro j
    rw [Array.getElem?_push, Array.size_pop, hs]
    by_cases z : j = psi.length
    · rw [z, if_pos (by (first | lia | omega))]; exact a
    · rw [if_neg (by (first | lia | omega))]
      rw [Array.getElem?_pop]
      split
      · rfl
      · rw [Array.getElem?_eq_none (by (first | lia | omega))]
  refine ⟨items.pop, Ts psi.length, ft psi.length, pt psi.length, e, ⟨Ts, ft, pt, by rw [Array.size_pop]; (first | lia | omega), fun k p hk => ?_⟩, t⟩
  have hlt : k < psi.length := by
    obtain ⟨hh, _⟩ := List.getElem?_eq_some_iff.mp hk
    exact hh
  obtain ⟨a', t'⟩ := hp k p (by rw [List.getElem?_append_left hlt]; exact hk)
  refine ⟨?_, t'⟩
  rw [Array.getElem?_pop, if_pos (by (first | lia | omega))]
  exact a'
theorem Pairs.snoc {h : Heap} {its : Array Value} {psi : List (Str × Str)} {T : Addr} {f p : Str} {t1 t2 : Tok} (P : Pairs h its psi) (ht : h.IsTuple T #[.str f t1, .str p t2]) : Pairs h (its.push (.ref T)) (psi ++ [(f, p)]) := by
  obtain ⟨Ts, ft, pt, hs, hp⟩ := P.ex
  refine ⟨fun k => if k = psi.length then T else Ts k, fun k => if k = psi.length then t1 else ft k, fun k => if k = psi.length then t2 else pt k, by simp [hs], fun k q hk => ?_⟩
  by_cases z : k = psi.length
  · subst z
    rw [List.getElem?_append_right (Nat.le_refl _)] at hk
    simp at hk
    subst hk
    simp only [if_pos]
    exact ⟨by rw [← hs]; simp, ht⟩
  · simp only [z, if_false]
    have hlt : k < psi.length := by
      obtain ⟨hh, _⟩ := List.getElem?_eq_some_iff.mp hk
      simp at hh
      (first | lia | omega)
    rw [List.getElem?_append_left hlt] at hk
    obtain ⟨a, t⟩ := hp k q hk
    refine ⟨?_, t⟩
    rw [Array.getElem?_push, if_neg (by (first | lia | omega))]
    exact a
theorem page_ne0 {w : World} {h : Heap} {p dp l x dx : Addr} {Wd : Int} {signs : Str} {k : Nat → Nat} {lv : List (Str × Tok)} {ln n c it : Nat} {i : Int} {items : Array Value}
    (hp : h.get? p = some (instObj 111 dp)) (hdp : h.get? dp = some (pgD w.params Wd signs l x k)) (hl : h.get? l = some (PySem.W.listOf (strValues lv).toArray ln)) (hx : h.get? x = some (accO dx items n)) (hd : h.get? dx = some (isD w.params c i it)) :
    p ≠ dp ∧ p ≠ l ∧ p ≠ x ∧ p ≠ dx ∧ dp ≠ l ∧ dp ≠ x ∧ dp ≠ dx ∧ l ≠ x ∧ l ≠ dx ∧ x ≠ dx := by
  refine ⟨?_, ?_, ?_, ?_, ?_, ?_, ?_, ?_, ?_, ?_⟩ <;> intro z <;> subst z
  · rw [hp] at hdp; cases hdp
  · rw [hp] at hl; cases hl
  · rw [hp] at hx; cases hx
  · rw [hp] at hd; cases hd
  · rw [hdp] at hl; have z := congrArg (fun o : Option Obj => o.map (·.cls)) hl; simp at z
  · rw [hdp] at hx; cases hx
  · rw [hdp] at hd; have z := congrArg (fun o : Option Obj => match o with | some ⟨_, _, .dict _ n, _⟩ => n | _ => 0) hd; exact absurd (show (6 : Nat) = 1 from z) (by decide)
  · rw [hl] at hx; have z := congrArg (fun o : Option Obj => o.map (·.cls)) hx; simp at z
  · rw [hl] at hd; have z := congrArg (fun o : Option Obj => o.map (·.cls)) hd; simp at z
  · rw [hx] at hd; cases hd
theorem tab_ne {h : Heap} (t : TabOk h) {a : Addr} {o : Obj} (e : h.get? a = some o) (hn : ∀ p, o.data ≠ .fields p) : a ≠ 157 ∧ a ≠ 164 := by
  obtain ⟨o1, o2, h1, ⟨p1, d1⟩, h2, p2, d2⟩ := tab_objs t
  refine ⟨fun z => ?_, fun z => ?_⟩
  · rw [z, h1] at e; cases e; exact hn _ d1
  · rw [z, h2] at e; cases e; exact hn _ d2
theorem page_ne {w : World} {h : Heap} {p dp l x dx : Addr} {Wd : Int} {signs : Str} {k : Nat → Nat} {lv : List (Str × Tok)} {ln n c it : Nat} {i : Int} {items : Array Value}
    (hp : h.get? p = some (instObj 111 dp)) (hdp : h.get? dp = some (pgD w.params Wd signs l x k)) (hl : h.get? l = some (PySem.W.listOf (strValues lv).toArray ln)) (hx : h.get? x = some (accO dx items n)) (hd : h.get? dx = some (isD w.params c i it)) (hT : TabOk h) :
    p ≠ dp ∧ dp ≠ p ∧ p ≠ l ∧ l ≠ p ∧ p ≠ x ∧ x ≠ p ∧ p ≠ dx ∧ dx ≠ p ∧ dp ≠ l ∧ l ≠ dp ∧ dp ≠ x ∧ x ≠ dp ∧ dp ≠ dx ∧ dx ≠ dp ∧ l ≠ x ∧ x ≠ l ∧ l ≠ dx ∧ dx ≠ l ∧ x ≠ dx ∧ dx ≠ x ∧ p ≠ 157 ∧ 157 ≠ p ∧ p ≠ 164 ∧ 164 ≠ p ∧ dp ≠ 157 ∧ 157 ≠ dp ∧ dp ≠ 164 ∧ 164 ≠ dp ∧ l ≠ 157 ∧ 157 ≠ l ∧ l ≠ 164 ∧ 164 ≠ l ∧ x ≠ 157 ∧ 157 ≠ x ∧ x ≠ 164 ∧ 164 ≠ x ∧ dx ≠ 157 ∧ 157 ≠ dx ∧ dx ≠ 164 ∧ 164 ≠ dx := by
  obtain ⟨n1, n2, n3, n4, n5, n6, n7, n8, n9, n10⟩ := page_ne0 hp hdp hl hx hd
  have tp := tab_ne hT hp (fun _ e => by cases e)
  have tdp := tab_ne hT hdp (fun _ e => by cases e)
  have tl := tab_ne hT hl (fun _ e => by cases e)
  have tx := tab_ne hT hx (fun _ e => by cases e)
  have td := tab_ne hT hd (fun _ e => by cases e)
  exact ⟨n1, n1.symm, n2, n2.symm, n3, n3.symm, n4, n4.symm, n5, n5.symm, n6, n6.symm, n7, n7.symm, n8, n8.symm, n9, n9.symm, n10, n10.symm, tp.1, tp.1.symm, tp.2, tp.2.symm, tdp.1, tdp.1.symm, tdp.2, tdp.2.symm, tl.1, tl.1.symm, tl.2, tl.2.symm, tx.1, tx.1.symm, tx.2, tx.2.symm, td.1, td.1.symm, td.2, td.2.symm⟩
theorem calledN {Wc : List Addr} {b h h' : Heap} {L : Addr} {m : Str → Option Value} {news : List (Addr × Obj)} (F : Fr b L h m) (N : News b L h news) (k : Kept Wc h h') (hW : ∀ a ∈ Wc, a ∈ news.map (·.1))
    (upd rest : List (Addr × Obj)) (hu : ∀ p ∈ upd, h'.get? p.1 = some p.2 ∧ p.1 ∈ Wc) (hr : ∀ p ∈ rest, p ∈ news ∧ p.1 ∉ Wc) : Fr b L h' m ∧ News b L h' (upd ++ rest) := by
  refine called F k (fun a ha => ?_) fun p hp => ?_
  · obtain ⟨q, hq, rfl⟩ := List.mem_map.mp (hW a ha)
    exact (N _ hq).2
  · rcases List.mem_append.mp hp with z | z
    · obtain ⟨e, ha⟩ := hu p z
      obtain ⟨q, hq, hh⟩ := List.mem_map.mp (hW _ ha)
      exact ⟨e, hh ▸ (N _ hq).2⟩
    · obtain ⟨hm, hn⟩ := hr p z
      exact ⟨k _ _ (N p hm).1 hn, (N p hm).2⟩
theorem star_tuple {w : World} {A : Around} {E : Value → Shared → Prop} {s : Shared} {a : Addr} {vals : Array Value} {Q : List Value → Shared → Prop} (ht : s.heap.IsTuple a vals) (hz : vals.size ≤ sizeLine)
    (h : ∀ h', (∀ a o, s.heap.get? a = some o → h'.get? a = some o) → Q vals.toList { s with heap := h' }) : StarOf (MM w) A E (.ref a) Q s := by
  obtain ⟨o, D, hc, n, hd⟩ := ht
  have z : wpAny (MM w) A (collect (.ref a)) Q E s := wpAny_collect_seq a (.inr rfl) D hc hd (fun h' hk => h h' hk) hz
  unfold StarOf notIterableAtAll
  exact wpAny_bind (wpAny_specialOf (T := "tuple") ⟨o, D, hc⟩ PySem.F.slot_tuple_iter.lookup (wpAny_pure ⟨rfl, z⟩))
theorem tuple_keeps {h h' : Heap} {a : Addr} {vals : Array Value} (k : ∀ a o, h.get? a = some o → h'.get? a = some o) (t : h.IsTuple a vals) : h'.IsTuple a vals := let ⟨o, e, r⟩ := t; ⟨o, k _ _ e, r⟩
/-- tuples stand in the base, too -/
theorem BaseAt.tuple {w : World} {g : Heap} {mg mb : Str → Option Value} {h0 b : Heap} {W : List Addr} {L a : Addr} {vals : Array Value} (B : BaseAt w g mg mb h0 W L b) (t : h0.IsTuple a vals) (hW : ∀ c ∈ W, ∀ o, h0.get? c = some o → o.cls ≠ .type "tuple" ∨ ∀ xs n, o.data ≠ .seq xs n) : b.IsTuple a vals := by
  obtain ⟨o, e, hc, n, hd⟩ := t
  refine ⟨o, B.old _ _ e (fun q => ?_), hc, n, hd⟩
  rcases hW _ q _ e with z | z
  · exact z hc
  · exact z _ _ hd
theorem BaseAt.pairs {w : World} {g : Heap} {mg mb : Str → Option Value} {h0 b : Heap} {W : List Addr} {L : Addr} {items : Array Value} {ps : List (Str × Str)} (B : BaseAt w g mg mb h0 W L b) (P : Pairs h0 items ps) (hW : ∀ c ∈ W, ∀ o, h0.get? c = some o → o.cls ≠ .type "tuple" ∨ ∀ xs n, o.data ≠ .seq xs n) : Pairs b items ps := by
  obtain ⟨Ts, ft, pt, hs, hp⟩ := P.ex
  exact ⟨Ts, ft, pt, hs, fun k p e => ⟨(hp k p e).1, B.tuple (hp k p e).2 hW⟩⟩
theorem grownN {b h h' : Heap} {L : Addr} {m : Str → Option Value} {news : List (Addr × Obj)} (F : Fr b L h m) (N : News b L h news) (k : ∀ a o, h.get? a = some o → h'.get? a = some o) : Fr b L h' m ∧ News b L h' news := by
  obtain ⟨oL, es, ep, hL, r⟩ := F.ns
  exact ⟨⟨⟨oL, es, ep, k _ _ hL, r⟩, fun a o e => k a o (F.keep a o e), F.above⟩, fun p hp => ⟨k _ _ (N p hp).1, (N p hp).2⟩⟩
theorem tab_of {w : World} {h h' : Heap} (X : (KK w.params).In h) (X' : (KK w.params).In h') (t : TabOk h) (e1 : ∀ o, h.get? 157 = some o → h'.get? 157 = some o) (e2 : ∀ o, h.get? 164 = some o → h'.get? 164 = some o) : TabOk h' := by
  have a1 : h.get? 161 = some (ob161 w.params) := X _ _ (by k_is)
  have a2 : h'.get? 161 = some (ob161 w.params) := X' _ _ (by k_is)
  have b1 : h.get? 168 = some (ob168 w.params) := X _ _ (by k_is)
  have b2 : h'.get? 168 = some (ob168 w.params) := X' _ _ (by k_is)
  exact ⟨code_two t.1 (fun o e => by rw [a1] at e; rw [← e]; exact a2) e1, code_two t.2 (fun o e => by rw [b1] at e; rw [← e]; exact b2) e2⟩
theorem accLen_lt2 {i : Int} {ps : List (Str × Str)} (h : Small ps) (hi : i ≤ 100000) : accLen i ps < 2 ^ 63 := by
  have := accLen_lt h
  have h1 := h.1
  have key : ∀ l : List (Str × Str), (∀ p ∈ l, p.1.length ≤ 1000 ∧ p.2.length ≤ 1000) → (l.map fun p => ((p.1.length : Int) + p.2.length)).sum ≤ 2000 * l.length := by
    intro l
    induction l with
    | nil => intro _; simp
    | cons p r ih =>
      intro hp
      have a1 := ih fun q hq => hp q (.tail _ hq)
      have a2 := hp p (.head _)
      rw [List.map_cons, List.sum_cons, List.length_cons]
      (first | lia | omega)
  have h2 := key ps h.2
  unfold accLen
  (first | lia | omega)
theorem xne_code {w : World} {h : Heap} {x dx : Addr} {items : Array Value} {n c it : Nat} {i : Int} (X : (KK w.params).In h) (hx : h.get? x = some (accO dx items n)) (hd : h.get? dx = some (isD w.params c i it)) : 161 ∉ [x, dx] ∧ 168 ∉ [x, dx] := by
  have a1 : h.get? 161 = some (ob161 w.params) := X _ _ (by k_is)
  have b1 : h.get? 168 = some (ob168 w.params) := X _ _ (by k_is)
  constructor <;>
  · simp only [List.mem_cons, List.mem_nil_iff, or_false, not_or]
    constructor <;> intro z
    · first | (rw [← z, a1] at hx; cases hx) | (rw [← z, b1] at hx; cases hx)
    · first | (rw [← z, a1] at hd; have := congrArg (fun o : Option Obj => o.map (·.cls)) hd; simp [ob161] at this) | (rw [← z, b1] at hd; have := congrArg (fun o : Option Obj => o.map (·.cls)) hd; simp [ob168] at this)
end Mine
end
section
open PySem PySem.W PyProof.Rows PySem.Calls
set_option Elab.async false
set_option maxRecDepth 100000
namespace Mine
/-- a page's objects stand apart -/
structure PNE (p dp l x dx : Addr) : Prop where
  p_dp : p ≠ dp
  p_l : p ≠ l
  p_x : p ≠ x
  p_dx : p ≠ dx
  dp_l : dp ≠ l
  dp_x : dp ≠ x
  dp_dx : dp ≠ dx
  l_x : l ≠ x
  l_dx : l ≠ dx
  x_dx : x ≠ dx
  p_1 : p ≠ 157
  p_2 : p ≠ 164
  dp_1 : dp ≠ 157
  dp_2 : dp ≠ 164
  l_1 : l ≠ 157
  l_2 : l ≠ 164
  x_1 : x ≠ 157
  x_2 : x ≠ 164
  dx_1 : dx ≠ 157
  dx_2 : dx ≠ 164
theorem page_pne {w : World} {h : Heap} {p dp l x dx : Addr} {Wd : Int} {signs : Str} {k : Nat → Nat} {lv : List (Str × Tok)} {ln n c it : Nat} {i : Int} {items : Array Value}
    (hp : h.get? p = some (instObj 111 dp)) (hdp : h.get? dp = some (pgD w.params Wd signs l x k)) (hl : h.get? l = some (PySem.W.listOf (strValues lv).toArray ln)) (hx : h.get? x = some (accO dx items n)) (hd : h.get? dx = some (isD w.params c i it)) (hT : TabOk h) : PNE p dp l x dx := by
  obtain ⟨n1, n2, n3, n4, n5, n6, n7, n8, n9, n10⟩ := page_ne0 hp hdp hl hx hd
  have tp := tab_ne hT hp (fun _ e => by cases e)
  have tdp := tab_ne hT hdp (fun _ e => by cases e)
  have tl := tab_ne hT hl (fun _ e => by cases e)
  have tx := tab_ne hT hx (fun _ e => by cases e)
  have td := tab_ne hT hd (fun _ e => by cases e)
  exact ⟨n1, n2, n3, n4, n5, n6, n7, n8, n9, n10, tp.1, tp.2, tdp.1, tdp.2, tl.1, tl.2, tx.1, tx.2, td.1, td.2⟩
theorem an {α : Type} {P : α → Prop} : ∀ q ∈ ([] : List α), P q := fun _ h => nomatch h
theorem ac {α : Type} {P : α → Prop} {a : α} {l : List α} (h : P a) (r : ∀ q ∈ l, P q) : ∀ q ∈ a :: l, P q := List.forall_mem_cons.mpr ⟨h, r⟩
theorem nin1 {a w1 : Addr} (h : a ≠ w1) : a ∉ [w1] := fun q => by
  rcases List.mem_cons.mp q with z | z
  · exact h z
  · cases z
theorem ninc {a w1 : Addr} {W : List Addr} (h : a ≠ w1) (r : a ∉ W) : a ∉ w1 :: W := fun q => by
  rcases List.mem_cons.mp q with z | z
  · exact h z
  · exact r z
theorem nin2 {a w1 w2 : Addr} (h1 : a ≠ w1) (h2 : a ≠ w2) : a ∉ [w1, w2] := ninc h1 (nin1 h2)
theorem nin5 {a w1 w2 w3 w4 w5 : Addr} (h1 : a ≠ w1) (h2 : a ≠ w2) (h3 : a ≠ w3) (h4 : a ≠ w4) (h5 : a ≠ w5) : a ∉ [w1, w2, w3, w4, w5] := ninc h1 (ninc h2 (ninc h3 (nin2 h4 h5)))
theorem ne_of_nin5 {a w1 w2 w3 w4 w5 : Addr} (h : a ∉ [w1, w2, w3, w4, w5]) : a ≠ w1 ∧ a ≠ w2 ∧ a ≠ w3 ∧ a ≠ w4 ∧ a ≠ w5 := by simpa using h
section
variable {b h h' g : Heap} {L : Addr} {m : Str → Option Value} {news r : List (Addr × Obj)} {a w1 w2 w3 w4 w5 : Addr} {o o0 p1 p2 p3 p4 p5 : Obj} {W : List Addr}
theorem nwn : News b L h [] := fun _ q => nomatch q
theorem nwc (x : h.get? a = some o ∧ a ≠ L ∧ b.get? a = none) (N : News b L h r) : News b L h ((a, o) :: r) := fun p q => by
  rcases List.mem_cons.mp q with rfl | q
  · exact x
  · exact N p q
theorem nws (N : News b L h news) (m : (a, o) ∈ news) (R : News b L h r) : News b L h ((a, o) :: r) := nwc (N _ m) R
theorem nkc (N : News b L h news) (k : Kept W h h') (m : (a, o) ∈ news) (n : a ∉ W) (R : News b L h' r) : News b L h' ((a, o) :: r) := nwc ⟨k _ _ (N _ m).1 n, (N _ m).2⟩ R
theorem nk1 (N : News b L h news) (k : Kept [w1] h h') (m : (a, o) ∈ news) (n1 : a ≠ w1) (R : News b L h' r) : News b L h' ((a, o) :: r) := nkc N k m (nin1 n1) R
theorem nk2 (N : News b L h news) (k : Kept [w1, w2] h h') (m : (a, o) ∈ news) (n1 : a ≠ w1) (n2 : a ≠ w2) (R : News b L h' r) : News b L h' ((a, o) :: r) := nkc N k m (nin2 n1 n2) R
theorem nk5 (N : News b L h news) (k : Kept [w1, w2, w3, w4, w5] h h') (m : (a, o) ∈ news) (n1 : a ≠ w1) (n2 : a ≠ w2) (n3 : a ≠ w3) (n4 : a ≠ w4) (n5 : a ≠ w5) (R : News b L h' r) : News b L h' ((a, o) :: r) := nkc N k m (nin5 n1 n2 n3 n4 n5) R
theorem nu (o0 : Obj) (N : News b L h news) (m : (a, o0) ∈ news) (e : h'.get? a = some o) (R : News b L h' r) : News b L h' ((a, o) :: r) := nwc ⟨e, (N _ m).2⟩ R
theorem nkt (N : News b L h news) (k : Kept [w1] h h') (ht : ∀ q ∈ r, q ∈ news) (hn : ∀ q ∈ r, q.1 ≠ w1) : News b L h' r := fun q hq => ⟨k _ _ (N q (ht q hq)).1 (nin1 (hn q hq)), (N q (ht q hq)).2⟩
theorem calledF (F : Fr b L h m) (N : News b L h news) (k : Kept W h h') (hW : ∀ a ∈ W, ∃ o, (a, o) ∈ news) : Fr b L h' m :=
  (called (news' := []) F k (fun a ha => let ⟨_, hm⟩ := hW a ha; (N _ hm).2) an).1
theorem inW1 (m1 : (w1, p1) ∈ news) : ∀ a ∈ [w1], ∃ o, (a, o) ∈ news := ac ⟨_, m1⟩ an
theorem inW2 (m1 : (w1, p1) ∈ news) (m2 : (w2, p2) ∈ news) : ∀ a ∈ [w1, w2], ∃ o, (a, o) ∈ news := ac ⟨_, m1⟩ (inW1 m2)
theorem inW5 (m1 : (w1, p1) ∈ news) (m2 : (w2, p2) ∈ news) (m3 : (w3, p3) ∈ news) (m4 : (w4, p4) ∈ news) (m5 : (w5, p5) ∈ news) : ∀ a ∈ [w1, w2, w3, w4, w5], ∃ o, (a, o) ∈ news := ac ⟨_, m1⟩ (ac ⟨_, m2⟩ (ac ⟨_, m3⟩ (inW2 m4 m5)))
end
theorem page_tup {w : World} {h : Heap} {p dp l x dx : Addr} {Wd : Int} {signs : Str} {k : Nat → Nat} {lv : List (Str × Tok)} {ln n c it : Nat} {i : Int} {items : Array Value} {o1 o2 : Obj}
    (hp : h.get? p = some (instObj 111 dp)) (hdp : h.get? dp = some (pgD w.params Wd signs l x k)) (hl : h.get? l = some (PySem.W.listOf (strValues lv).toArray ln)) (hx : h.get? x = some (accO dx items n)) (hd : h.get? dx = some (isD w.params c i it))
    (h1 : h.get? 157 = some o1) (d1 : ∃ p, o1.data = .fields p) (h2 : h.get? 164 = some o2) (d2 : ∃ p, o2.data = .fields p) :
    ∀ a ∈ [p, dp, l, x, dx, 157, 164], ∀ o, h.get? a = some o → o.cls ≠ .type "tuple" ∨ ∀ xs n, o.data ≠ .seq xs n := by
  refine ac ?_ (ac ?_ (ac ?_ (ac ?_ (ac ?_ (ac ?_ (ac ?_ an)))))) <;> intro o e
  · rw [hp] at e; cases e; exact .inl (by simp)
  · rw [hdp] at e; cases e; exact .inl (by simp)
  · rw [hl] at e; cases e; exact .inl (by simp)
  · rw [hx] at e; cases e; exact .inl (by simp)
  · rw [hd] at e; cases e; exact .inl (by simp)
  · rw [h1] at e; cases e; obtain ⟨q, d1⟩ := d1; exact .inr (fun xs n z => by rw [d1] at z; cases z)
  · rw [h2] at e; cases e; obtain ⟨q, d2⟩ := d2; exact .inr (fun xs n z => by rw [d2] at z; cases z)
theorem ent7 {h g : Heap} {a1 a2 a3 a4 a5 a6 a7 : Addr} {o1 o2 o3 o4 o5 o6 o7 : Obj} (e1 : h.get? a1 = some o1 ∧ g.get? a1 = none) (e2 : h.get? a2 = some o2 ∧ g.get? a2 = none) (e3 : h.get? a3 = some o3 ∧ g.get? a3 = none) (e4 : h.get? a4 = some o4 ∧ g.get? a4 = none) (e5 : h.get? a5 = some o5 ∧ g.get? a5 = none) (e6 : h.get? a6 = some o6 ∧ g.get? a6 = none) (e7 : h.get? a7 = some o7 ∧ g.get? a7 = none) :
    ∀ p ∈ [(a1, o1), (a2, o2), (a3, o3), (a4, o4), (a5, o5), (a6, o6), (a7, o7)], h.get? p.1 = some p.2 ∧ g.get? p.1 = none := ac e1 (ac e2 (ac e3 (ac e4 (ac e5 (ac e6 (ac e7 an))))))
theorem ent3 {h g : Heap} {a1 a2 a3 : Addr} {o1 o2 o3 : Obj} (e1 : h.get? a1 = some o1 ∧ g.get? a1 = none) (e2 : h.get? a2 = some o2 ∧ g.get? a2 = none) (e3 : h.get? a3 = some o3 ∧ g.get? a3 = none) :
    ∀ p ∈ [(a1, o1), (a2, o2), (a3, o3)], h.get? p.1 = some p.2 ∧ g.get? p.1 = none := ac e1 (ac e2 (ac e3 an))
theorem kept_page5 {w : World} {g : Heap} {mg mb m : Str → Option Value} {h0 h' b : Heap} {L p dp l x dx : Addr} {op odp : Obj} (B : BaseAt w g mg mb h0 [p, dp, l, x, dx, 157, 164] L b) (F : Fr b L h' m) (hp : h0.get? p = some op) (hp' : h'.get? p = some op) (hdp : h0.get? dp = some odp) (hdp' : h'.get? dp = some odp) : Kept [l, x, dx, 157, 164] h0 h' := fun a o e q => by
  by_cases z1 : a = p
  · rw [z1, hp] at e; cases e; rw [z1]; exact hp'
  · by_cases z2 : a = dp
    · rw [z2, hdp] at e; cases e; rw [z2]; exact hdp'
    · exact B.kept F a o e (ninc z1 (ninc z2 q))
theorem kept_page2 {w : World} {g : Heap} {mg mb m : Str → Option Value} {h0 h' b : Heap} {L p dp l x dx : Addr} {op odp ol od o2 : Obj} (B : BaseAt w g mg mb h0 [p, dp, l, x, dx, 157, 164] L b) (F : Fr b L h' m) (hp : h0.get? p = some op) (hp' : h'.get? p = some op) (hdp : h0.get? dp = some odp) (hdp' : h'.get? dp = some odp) (hl : h0.get? l = some ol) (hl' : h'.get? l = some ol) (hd : h0.get? dx = some od) (hd' : h'.get? dx = some od) (h2 : h0.get? 164 = some o2) (h2' : h'.get? 164 = some o2) : Kept [x, 157] h0 h' := fun a o e q => by
  have q' : a ≠ x ∧ a ≠ 157 := by simpa using q
  by_cases z1 : a = p
  · rw [z1, hp] at e; cases e; rw [z1]; exact hp'
  · by_cases z2 : a = dp
    · rw [z2, hdp] at e; cases e; rw [z2]; exact hdp'
    · by_cases z3 : a = l
      · rw [z3, hl] at e; cases e; rw [z3]; exact hl'
      · by_cases z4 : a = dx
        · rw [z4, hd] at e; cases e; rw [z4]; exact hd'
        · by_cases z5 : a = 164
          · rw [z5, h2] at e; cases e; rw [z5]; exact h2'
          · exact B.kept F a o e (by simp [z1, z2, z3, z4, z5, q'])
theorem newsPlus {b h h' : Heap} {L a : Addr} {o : Obj} {m : Str → Option Value} {news' : List (Addr × Obj)} (F : Fr b L h m) (fa : h.get? a = none) (N' : News b L h' news') (e : h'.get? a = some o) : News b L h' ((a, o) :: news') := fun q hq => by
  rcases List.mem_cons.mp hq with rfl | hq
  · refine ⟨e, fun z => ?_, ?_⟩
    · obtain ⟨oL, es, ep, hL, r⟩ := F.ns
      have z : a = L := z
      rw [← z, fa] at hL; cases hL
    · show b.get? a = none
      cases e : b.get? a with
      | none => rfl
      | some o => rw [F.keep _ _ e] at fa; cases fa
  · exact N' q hq
section
variable {prog : Program} {w : World} {A : Around} {s : Shared} {R : Result → Shared → Prop}
theorem loopF {target it body orelse env} (I : Nat → Shared → Prop)
    (turn : ∀ n s, I n s → ∀ J : Shared → Prop, (∀ s₃, (∃ m, m < n ∧ I m s₃) → J s₃) → wpAny (model prog w) A (pyNext it) (fun r s₁ => match r with
      | none => wpAny (model prog w) A (execs orelse env) (fun f s₃ => R (.ok f) s₃) (fun _ _ => False) s₁
      | some v => wpAny (model prog w) A (assign target env v) (fun _ s₂ => wpAny (model prog w) A (execs body env) (fun f s₃ => match f with
          | .next | .cont => J s₃
          | .brk => R (.ok .next) s₃
          | .ret v => R (.ok (.ret v)) s₃) (fun _ _ => False) s₂) (fun _ _ => False) s₁) (fun _ _ => False) s)
    (n : Nat) (h : I n s) (ht : ∀ v, letOwnedTupleGo target it v = pure () := by intro _; rfl) : codeAny (model prog w) A (.forLoop target it body orelse env) R s := by
  refine codeAny_forLoop I (fun n s hI => wpAny_mono (turn n s hI _ (fun _ h => h)) (fun r s₁ h₁ => ?_) (fun _ _ z => z.elim)) n h ht
  cases r with
  | none => exact wpAny_mono h₁ (fun _ _ h => h) (fun _ _ z => z.elim)
  | some v => exact wpAny_mono h₁ (fun _ s₂ h₂ => wpAny_mono h₂ (fun f s₃ h₃ => by cases f <;> exact h₃) (fun _ _ z => z.elim)) (fun _ _ z => z.elim)
theorem loopW {test body orelse env} (I : Nat → Shared → Prop)
    (turn : ∀ n s, I n s → ∀ J : Shared → Prop, (∀ s₃, (∃ m, m < n ∧ I m s₃) → J s₃) →
      wpAny (model prog w) A (isTrue test env (eval test env)) (fun b s₂ =>
        if b then wpAny (model prog w) A (execs body env) (fun f s₃ => match f with
            | .next | .cont => J s₃
            | .brk => R (.ok .next) s₃
            | .ret v => R (.ok (.ret v)) s₃) (fun _ _ => False) s₂
        else wpAny (model prog w) A (execs orelse env) (fun f s₃ => R (.ok f) s₃) (fun _ _ => False) s₂)
        (fun _ _ => False) s)
    (n : Nat) (h : I n s) : codeAny (model prog w) A (.whileLoop test body orelse env) R s := by
  refine codeAny_whileLoop I (fun n s hI => wpAny_mono (turn n s hI _ (fun _ h => h)) (fun b s₂ h₂ => ?_) (fun _ _ z => z.elim)) n h
  cases b with
  | false => exact wpAny_mono h₂ (fun _ _ h => h) (fun _ _ z => z.elim)
  | true => exact wpAny_mono h₂ (fun f s₃ h₃ => by cases f <;> exact h₃) (fun _ _ z => z.elim)
end
end Mine
end
section
open PySem PySem.W PyProof.Rows PySem.Calls
set_option Elab.async false
set_option maxRecDepth 100000
namespace Mine
section
variable {w : World} {A : Around} {E : Value → Shared → Prop} {s : Shared} {x dx : Addr} {items : Array Value} {n : Nat} {od : Obj} {name : Str}
theorem getAttr_bound {expr : Bool} {f : Addr} {Q : Value → Shared → Prop} (X : (KK w.params).In s.heap) (hx : s.heap.get? x = some (accO dx items n)) (hd : s.heap.get? dx = some od)
    (hf : findObj (KK w.params) 195 (some od) name = some (.bind (.builtin "function.__get__") (.ref f))) (ht : ∃ o, (KK w.params).lookup f = some o ∧ o.cls = .type "function")
    (h : ∀ q h', h'.get? q = some (methodObj (.ref f) (.ref x)) → (∀ a o, s.heap.get? a = some o → h'.get? a = some o) → Q (.ref q) { s with heap := h', toks := s.toks + 1 }) : wpAny (MM w) A (getAttr (.ref x) name expr) Q E s := by
  have I := acc_inst hx hd
  obtain ⟨of, hof, hofc⟩ := ht
  obtain ⟨hp, g, d, t, os⟩ := s
  have L0 := I.type (M := MM w)
  have L1 : Looks (MM w) hp (typeLookup (.ref 195) "__getattribute__") (some (.builtin "list.__getattribute__")) := looks_findIn (K := KK w.params) X (by k_is)
  have L2 : Looks (MM w) hp (typeLookup (.ref 195) "__getattr__") none := looks_findIn (K := KK w.params) X (by k_is)
  have L3 := looks_find (M := MM w) X I hf
  unfold getAttr getAttrBy
  refine wpAny_bind (wpAny_mkText (wpAny_holding (wpAny_bind (L0.at (wpAny_bind (L1.at ?_))))))
  show wpAny _ _ (getAttrByItsOwn (.ref x) (.str name t) (.ref 195) (.builtin "list.__getattribute__") true expr) _ _ _
  unfold getAttrByItsOwn
  refine wpAny_bind (m := hookBefore _) ?_
  show wpAny _ _ (typeLookup (.ref 195) "__getattr__") _ _ _
  refine L2.at ?_
  refine wpAny_bind (wpAny_attempt (wpAny_holding ?_))
  rw [show callGetattribute (.ref x) (.str name t) (.builtin "list.__getattribute__") expr = boundAndCalled (.builtin "list.__getattribute__") (.ref x) (.str name t) from by cases expr <;> rfl]
  unfold boundAndCalled
  rw [PySem.F.slot_list_getattribute.bind]
  refine wpAny_bind (wpAny_pure ?_)
  dsimp only
  refine wpAny_mono (lm_call (nm := "__getattribute__") (Q := fun r s' => r = .ref hp.objs.size ∧ s' = ⟨hp.push (methodObj (.ref f) (.ref x)), g, d, t + 1, os⟩) (by decide +kernel) PySem.F.entry_list_ga (.inr (by decide +kernel)) (by decide +kernel) (PySem.F.args_list_getattribute_2 _ _) X hx ?_) (fun r s' hr => ?_) fun _ _ z => z
  · refine wpAny_bind (wpAny_pure (wpAny_bind (wpAny_pure (wpAny_bind (L0.at (wpAny_bind (L3.at ?_)))))))
    dsimp only
    show wpAny _ _ (holding [Value.ref f] (call (.builtin "function.__get__") [.ref f, .ref x, .ref 195]) >>= ret) _ _ _
    have hT : (⟨hp, g, d, t + 1, os⟩ : Shared).TypeIs (.ref f) "function" := ⟨of, X _ _ hof, hofc⟩
    refine wpAny_bind (wpAny_holding (wpAny_call_entry PySem.F.ks_slot_function_get hT PySem.F.ks_entry_function_get ?_ (PySem.F.ks_getArgs_function _ _ _)))
    unfold Builtin.«function.__get__»
    repeat (first | (with_reducible refine wpAny_newObj_type ?_ (by size_fits)) | (with_reducible refine ⟨_, rfl, ?_⟩) | wp_step | (unfold newFields) | dsimp only)
    all_goals exact ⟨rfl, rfl⟩
  · obtain ⟨rfl, rfl⟩ := hr
    exact wpAny_pure (h _ _ (Heap.get?_push_size _ rfl) fun a o e => Heap.get?_push_of_some _ e)
theorem find_push (w : World) (c it : Nat) (i : Int) : findObj (KK w.params) 195 (some (isD w.params c i it)) "push" = some (.bind (.builtin "function.__get__") (.ref 139)) := by kernel_rfl!
end
section
variable {w : World} {A : Around} {E : Value → Shared → Prop} {s : Shared} {x dx : Addr} {items : Array Value} {n c it : Nat} {i : Int}
/-- BASE.push(*NAME) on the list subclass -/
theorem push_star {env : Env} {o e : Expr} {p1 p2 p3 : Pos} {Q : Value → Shared → Prop}
    (h : wpAny (MM w) A (eval o env) (fun ov s₁ => ov = .ref x ∧ (KK w.params).In s₁.heap ∧ s₁.heap.get? x = some (accO dx items n) ∧ s₁.heap.get? dx = some (isD w.params c i it) ∧
      ∀ h2 q, (∀ a o, s₁.heap.get? a = some o → h2.get? a = some o) → wpAny (MM w) A (eval e env) (fun v s₃ => (∀ a o, h2.get? a = some o → s₃.heap.get? a = some o) ∧ ∃ T vals, v = .ref T ∧ s₃.heap.IsTuple T vals ∧ vals.size ≤ sizeLine ∧
        ∀ h4, (∀ a o, s₃.heap.get? a = some o → h4.get? a = some o) → codeAny (MM w) A (.call (.ref 139) ⟨.ref x :: vals.toList, []⟩) (fun r s' => match r with | .ok (.ret v) => Q v s' | .ok _ => False | .error e => E e s') { s₃ with heap := h4 }) E { s₁ with heap := h2, toks := q }) E s)
    (hev : eval (.Call (.Attribute o "push" p1) [.Starred e p2] [] p3) env = (do
      let ov ← eval o env
      standAt p1.atName
      methodCall o "push" p1 p3 env ov 1 (backTo p3 (starEach [.Starred e p2] env)) [])) (hst : starEach [.Starred e p2] env = [(true, eval e env)]) :
    wpAny (MM w) A (eval (.Call (.Attribute o "push" p1) [.Starred e p2] [] p3) env) Q E s := by
  rw [hev]
  refine wpAny_bind (wpAny_mono h (fun ov s₁ h₁ => ?_) fun _ _ z => z)
  obtain ⟨rfl, X, hx, hd, hq⟩ := h₁
  refine wpAny_bind (wpAny_standAt ?_)
  have hform : methodCallForm 1 (backTo p3 (starEach [.Starred e p2] env)) [] = false := by rw [hst]; rfl
  unfold methodCall
  rw [hform]
  refine wpAny_bind (wpAny_holding ?_)
  show wpAny _ _ (getAttr (.ref x) "push" true >>= fun f => pure (f, [])) _ _ _
  refine wpAny_bind (getAttr_bound X hx hd (find_push w c it i) ⟨_, by k_is, rfl⟩ (fun q h' hq' k => wpAny_pure ?_))
  refine wpAny_bind (wpAny_pure ?_)
  rw [hst]
  refine ks_call (P := fun hp => MethP (KK w.params) q 139 (.ref x) hp) rfl (keeps_M (by k_is)) (ks_lone (wpAny_mono (hq h' _ k) (fun v s₃ h₃ => ?_) fun _ _ z => z))
  obtain ⟨k3, T, vals, rfl, ht, hz, hc⟩ := h₃
  refine star_tuple ht hz (fun h4 k4 => ⟨⟨k4 _ _ (k3 _ _ hq'), (X.keeps k).keeps fun a o e => k4 _ _ (k3 _ _ e)⟩, ?_⟩)
  refine wpAny_call (method_call (k4 _ _ (k3 _ _ hq')) ?_)
  exact hc h4 k4
end
end Mine
end
section
open PySem PySem.W PyProof.Rows PySem.Calls
set_option Elab.async false
set_option maxRecDepth 100000
namespace Mine
section
variable {w : World} {g : Heap} {s : Shared} {A : Around} {R : Result → Shared → Prop} {mg mb : Str → Option Value} {p dp l x dx : Addr} {Wd : Int} {signs : Str} {k : Nat → Nat} {lv : List (Str × Tok)} {ln n c it : Nat} {i : Int} {items : Array Value} {psi : List (Str × Str)} {q : Str × Str}
set_option maxHeartbeats 1000000 in
theorem newline_spec (X : (KK w.params).In g) (T : TR mg mb g) {bm : Addr} {ob : Obj} (BM : BMod g mainGlobals mg bm ob) (kg : g.StaysIn s.heap)
    (hp : s.heap.get? p = some (instObj 111 dp)) (hdp : s.heap.get? dp = some (pgD w.params Wd signs l x k)) (hl : s.heap.get? l = some (PySem.W.listOf (strValues lv).toArray ln)) (hx : s.heap.get? x = some (accO dx items n)) (hd : s.heap.get? dx = some (isD w.params c i it))
    (gp : g.get? p = none) (gdp : g.get? dp = none) (gl : g.get? l = none) (gx : g.get? x = none) (gd : g.get? dx = none) (hA : A.depth < 800) (hh : A.handled = none) (hu : A.units < 8000)
    (hP : Pairs s.heap items (psi ++ [q])) (hS : Small (psi ++ [q])) (hq : q ≠ ((" " : Str), ("" : Str))) (ok1 : PyData.strOk q.1 = true) (ok2 : PyData.strOk q.2 = true) (hTab : TabOk s.heap) (g1 : g.get? 157 = none) (g2 : g.get? 164 = none) (hlen : 0 ≤ accLen i (psi ++ [q]))
    (hws : 0 < accLen i (psi ++ [q]) → (decide (i = 0) && Txt.isspace (accStr (psi ++ [q]))) = false) (hlv : lv.length ≤ 1000) (hi : i ≤ 100000)
    (h : ∀ (s' : Shared) (lv' : List (Str × Tok)) (ln' n' c' it' : Nat), Kept [l, x, dx, 157, 164] s.heap s'.heap → s'.heap.get? l = some (PySem.W.listOf (strValues lv').toArray ln') → lv'.map (·.1) = lv.map (·.1) ++ (if 0 < accLen i (psi ++ [q]) then [accStr (psi ++ [q])] else []) →
      s'.heap.get? x = some (accO dx #[] n') → s'.heap.get? dx = some (isD w.params c' 0 it') → TabOk s'.heap → s'.os = s.os → (AllBare s.gens → AllBare s'.gens) → R (.ok (.ret .none)) s') : codeAny (MM w) A (.call (.ref 73) ⟨[.ref p], []⟩) R s := by
  obtain ⟨o1, o2, h1, d1, h2, d2⟩ := tab_objs hTab
  obtain ⟨its, T0, ft, pt, rfl, hPi, hT0⟩ := hP.snoc_inv
  refine' enter (news := [(p, instObj 111 dp), (dp, pgD w.params Wd signs l x k), (l, PySem.W.listOf (strValues lv).toArray ln), (x, accO dx (its.push (.ref T0)) n), (dx, isD w.params c i it), (157, o1), (164, o2)]) (binds := [("self", .ref p)]) X T kg ?n ?ho ?hcd ?room ?bind ?loc ?_ ?c1 ?c2 ?c3 ?c4
  case ho => k_is
  case hcd => k_is
  case room => first | exact Nat.lt_of_lt_of_le hA (by decide) | exact Nat.lt_of_lt_of_le (by (first | lia | omega) : _ < 990) (by decide)
  case bind => exact BindsTo.of_eq rfl
  case loc => exact locs rfl
  case n => exact ent7 ⟨hp, gp⟩ ⟨hdp, gdp⟩ ⟨hl, gl⟩ ⟨hx, gx⟩ ⟨hd, gd⟩ ⟨h1, g1⟩ ⟨h2, g2⟩
  case c1 => decide
  case c2 => rfl
  case c3 => rfl
  case c4 => rfl
  intro b L h₁ F N B
  have X' := B.k
  have T' := B.t
  have NE := page_pne hp hdp hl hx hd hTab
  have kA : Kept [] s.heap h₁ := keptAll B F N (ac hp (ac hdp (ac hl (ac hx (ac hd (ac h1 (ac h2 an)))))))
  have hWt := page_tup hp hdp hl hx hd h1 d1 h2 d2
  have hT0b := B.tuple hT0 hWt
  have hPb := B.pairs hPi hWt
  have BMb : BMod b mainGlobals mg bm ob := BM.keeps B.g
  iterate 6 walk1
  have hx1 := (N (x, accO dx (its.push (.ref T0)) n) (by k_mem))
  have hd1 := (N (dx, isD w.params c i it) (by k_mem))
  refine method_acc (X'.keeps F.keep) hx1.1 hd1.1 (by k_is) (by k_is) (by decide) rfl ?_
  iterate 1 walk1
  refine wpAny_call (pop_spec X' T' F.keep hx1.1 hd1.1 hx1.2.2 hd1.2.2 (by first | exact dd1 hA (by decide) | (simp only [depth_deeper]; (first | lia | omega))) (Nat.lt_of_le_of_lt (by have := hS.1; have e := hPi.ex; obtain ⟨_, _, _, e, _⟩ := e; rw [List.length_append, List.length_singleton] at this; (first | lia | omega) : its.size ≤ 1000) (by decide)) (fun h3 tk3 k3 hx3 => ?_))
  have F3 := calledF F N k3 (inW1 (p1 := accO dx (its.push (.ref T0)) n) (by k_mem))
  have N3 : News b L h3 [(x, accO dx its (n + 1)), (p, instObj 111 dp), (dp, pgD w.params Wd signs l x k), (l, PySem.W.listOf (strValues lv).toArray ln), (dx, isD w.params c i it), (157, o1), (164, o2)] := nu (accO dx (its.push (.ref T0)) n) N (by k_mem) hx3 (nk1 N k3 (by k_mem) NE.p_x (nk1 N k3 (by k_mem) NE.dp_x (nk1 N k3 (by k_mem) NE.l_x (nk1 N k3 (by k_mem) NE.x_dx.symm (nk1 N k3 (by k_mem) NE.x_1.symm (nk1 N k3 (by k_mem) NE.x_2.symm (nwn)))))))
  have kB : Kept [x] s.heap h3 := kA.trans2 k3
  clear F N k3
  dsimp only
  iterate 13 walk1
  rename_i Dt h4 F4 N4 l4
  refine tup2_ne (tuple_keeps F4.keep hT0b) ⟨_, (N4 _ (List.Mem.head _)).1, rfl, _, rfl⟩ ok1 ok2 (by decide +kernel) (by decide +kernel) (by rw [cLine_is]; show A.units + 3 + 64 < 9900; (first | lia | omega)) ?_
  have hb1 : (!(q.1 == (" " : Str) && q.2 == ("" : Str))) = true := by
    cases e : (q.1 == (" " : Str) && q.2 == ("" : Str)) with
    | false => rfl
    | true =>
      rw [Bool.and_eq_true] at e
      exact absurd (Prod.ext (eq_of_beq e.1) (eq_of_beq e.2)) hq
  rw [hb1]
  walk1
  refine ite_pos rfl ?_
  iterate 3 walk1
  have hx4 := N4 (x, accO dx its (n + 1)) (by k_mem)
  have hd4 := N4 (dx, isD w.params c i it) (by k_mem)
  refine push_star (x := x) (dx := dx) (items := its) (n := n + 1) (c := c) (it := it) (i := i) ?_ rfl rfl
  iterate 3 walk1
  refine ⟨rfl, X'.keeps F4.keep, hx4.1, hd4.1, fun h5 t5 k5 => ?_⟩
  obtain ⟨F5, N5⟩ := grownN F4 N4 k5
  clear F4 N4
  walk1
  refine ⟨fun _ _ e => e, T0, _, rfl, tuple_keeps F5.keep hT0b, by simp; decide, fun h6 k6 => ?_⟩
  obtain ⟨F6, N6⟩ := grownN F5 N5 k6
  clear F5 N5
  have hx6 := N6 (x, accO dx its (n + 1)) (by k_mem)
  have hd6 := N6 (dx, isD w.params c i it) (by k_mem)
  refine push_spec (f := .str q.1 ft) (p := .str q.2 pt) X' T' F6.keep hx6.1 hd6.1 hx6.2.2 hd6.2.2 (by first | exact dd1 hA (by decide) | (simp only [depth_deeper]; (first | lia | omega))) (by have := hS.1; have e := hPi.ex; obtain ⟨_, _, _, e, _⟩ := e; rw [List.length_append, List.length_singleton] at this; (first | lia | omega)) (fun h7 t7 T7 k7 f7 hT7 hx7 => ?_)
  have F7 := calledF F6 N6 k7 (inW1 (p1 := accO dx its (n + 1)) (by k_mem))
  have N7 : News b L h7 [(x, accO dx (its.push (.ref T7)) (n + 1 + 1)), (p, instObj 111 dp), (dp, pgD w.params Wd signs l x k), (l, PySem.W.listOf (strValues lv).toArray ln), (dx, isD w.params c i it), (157, o1), (164, o2)] := nu (accO dx its (n + 1)) N6 (by k_mem) hx7 (nk1 N6 k7 (by k_mem) NE.p_x (nk1 N6 k7 (by k_mem) NE.dp_x (nk1 N6 k7 (by k_mem) NE.l_x (nk1 N6 k7 (by k_mem) NE.x_dx.symm (nk1 N6 k7 (by k_mem) NE.x_1.symm (nk1 N6 k7 (by k_mem) NE.x_2.symm (nwn)))))))
  have P7 : Pairs h7 (its.push (.ref T7)) (psi ++ [q]) := by
    obtain ⟨Ts, f', p', e1, e2⟩ := hPb.ex
    exact Pairs.snoc ⟨Ts, f', p', e1, fun k p e => ⟨(e2 k p e).1, tuple_keeps F7.keep (e2 k p e).2⟩⟩ hT7
  clear F6 N6 k7 hx6 hd6
  dsimp only
  iterate 12 walk1
  have X7 : (KK w.params).In h7 := X'.keeps F7.keep
  have Xs : (KK w.params).In s.heap := X.keeps kg
  have t7 : TabOk h7 := tab_of Xs X7 hTab (fun o e => by rw [h1] at e; cases e; exact (N7 (157, o1) (by k_mem)).1) (fun o e => by rw [h2] at e; cases e; exact (N7 (164, o2) (by k_mem)).1)
  have hx7 := N7 (x, accO dx (its.push (.ref T7)) (n + 1 + 1)) (by k_mem)
  have hd7 := N7 (dx, isD w.params c i it) (by k_mem)
  refine len_acc2 F7 X' hx7.1 hd7.1 (len_spec X' T' BMb F7.keep hx7.1 hd7.1 hx7.2.2 hd7.2.2 (by first | exact dd2 hA (by decide) | (simp only [depth_in1, depth_deeper]; (first | lia | omega))) hh P7 hS t7 (N7 (157, o1) (by k_mem)).2.2 (fun s8 t8 k8 tab8 os8 gs8 => ?_))
  refine ⟨⟨hlen, accLen_lt2 hS hi⟩, ?_⟩
  obtain ⟨o1', o2', e1', d1', e2', d2'⟩ := tab_objs tab8
  have F8 := calledF F7 N7 k8 (inW1 (p1 := o1) (by k_mem))
  have N8 : News b L s8.heap [(157, o1'), (p, instObj 111 dp), (dp, pgD w.params Wd signs l x k), (l, PySem.W.listOf (strValues lv).toArray ln), (x, accO dx (its.push (.ref T7)) (n + 1 + 1)), (dx, isD w.params c i it), (164, o2)] := nu (o1) N7 (by k_mem) e1' (nk1 N7 k8 (by k_mem) NE.p_1 (nk1 N7 k8 (by k_mem) NE.dp_1 (nk1 N7 k8 (by k_mem) NE.l_1 (nk1 N7 k8 (by k_mem) NE.x_1 (nk1 N7 k8 (by k_mem) NE.dx_1 (nk1 N7 k8 (by k_mem) (by decide) (nwn)))))))
  have hT7lt := (P7.keptT k8 t7 (ac (.inl (.inl rfl)) an))
  clear F7 N7 hx7 hd7
  iterate 3 walk1
  try simp only [gt_iff_lt]
  by_cases hpos : 0 < accLen i (psi ++ [q])
  · refine ite_pos (decide_eq_true hpos) ?_
    iterate 9 walk1
    have X8 : (KK w.params).In s8.heap := X'.keeps F8.keep
    have hx8 := N8 (x, accO dx (its.push (.ref T7)) (n + 1 + 1)) (by k_mem)
    have hd8 := N8 (dx, isD w.params c i it) (by k_mem)
    refine method_acc X8 hx8.1 hd8.1 (by k_is) (by k_is) (by decide) rfl ?_
    iterate 1 walk1
    refine wpAny_call (onlyws_spec X' T' BMb F8.keep hx8.1 hd8.1 hx8.2.2 hd8.2.2 (by first | exact dd1 hA (by decide) | (simp only [depth_deeper]; (first | lia | omega))) hh (by show A.units + 3 < 9000; (first | lia | omega)) hT7lt hS tab8 (N8 (157, o1') (by k_mem)).2.2 (N8 (164, o2) (by k_mem)).2.2 hpos (fun s9 k9 tab9 os9 gs9 => ?_))
    rw [hws hpos]
    obtain ⟨o1'', o2'', e1'', d1'', e2'', d2''⟩ := tab_objs tab9
    have F9 := calledF F8 N8 k9 (inW2 (p1 := o1') (p2 := o2) (by k_mem) (by k_mem))
    have N9 : News b L s9.heap [(157, o1''), (164, o2''), (p, instObj 111 dp), (dp, pgD w.params Wd signs l x k), (l, PySem.W.listOf (strValues lv).toArray ln), (x, accO dx (its.push (.ref T7)) (n + 1 + 1)), (dx, isD w.params c i it)] := nu (o1') N8 (by k_mem) e1'' (nu (o2) N8 (by k_mem) e2'' (nk2 N8 k9 (by k_mem) NE.p_1 NE.p_2 (nk2 N8 k9 (by k_mem) NE.dp_1 NE.dp_2 (nk2 N8 k9 (by k_mem) NE.l_1 NE.l_2 (nk2 N8 k9 (by k_mem) NE.x_1 NE.x_2 (nk2 N8 k9 (by k_mem) NE.dx_1 NE.dx_2 (nwn)))))))
    have P9 := hT7lt.keptT k9 tab8 (ac (.inl (.inl rfl)) (ac (.inl (.inr rfl)) an))
    clear F8 N8 hx8 hd8
    dsimp only
    iterate 20 walk1
    have X9 : (KK w.params).In s9.heap := X'.keeps F9.keep
    have hx9 := N9 (x, accO dx (its.push (.ref T7)) (n + 1 + 1)) (by k_mem)
    have hd9 := N9 (dx, isD w.params c i it) (by k_mem)
    refine kso_call (f := 169) (K := KK w.params) (by rw [cLine_is]; show A.units + 3 + 1 + 1 < 9900; (first | lia | omega)) X9 (acc_inst hx9.1 hd9.1) (by k_is) (by k_is) (wpAny_call ?_)
    refine str_spec X' T' BMb F9.keep hx9.1 hd9.1 hx9.2.2 hd9.2.2 (by first | exact dd2 hA (by decide) | (simp only [depth_in1, depth_deeper]; (first | lia | omega))) hh P9 hS tab9 (N9 (164, o2'') (by k_mem)).2.2 (fun s10 t10 k10 tab10 os10 gs10 => ?_)
    obtain ⟨o13, o23, e13, d13, e23, d23⟩ := tab_objs tab10
    have F10 := calledF F9 N9 k10 (inW1 (p1 := o2'') (by k_mem))
    have N10 : News b L s10.heap [(164, o23), (l, PySem.W.listOf (strValues lv).toArray ln), (p, instObj 111 dp), (dp, pgD w.params Wd signs l x k), (x, accO dx (its.push (.ref T7)) (n + 1 + 1)), (dx, isD w.params c i it), (157, o1'')] := nu (o2'') N9 (by k_mem) e23 (nk1 N9 k10 (by k_mem) NE.l_2 (nk1 N9 k10 (by k_mem) NE.p_2 (nk1 N9 k10 (by k_mem) NE.dp_2 (nk1 N9 k10 (by k_mem) NE.x_2 (nk1 N9 k10 (by k_mem) NE.dx_2 (nk1 N9 k10 (by k_mem) (by decide) (nwn)))))))
    clear F9 N9 hx9 hd9
    dsimp only [PySem.W.StrBack]
    walk1
    refine append_K (its := (strValues lv).toArray) (n := ln) F10 N10 (.tail (by first | exact NE.l_2 | exact NE.l_2.symm) (.head (ac (by first | exact NE.p_l | exact NE.p_l.symm) (ac (by first | exact NE.dp_l | exact NE.dp_l.symm) (ac (by first | exact NE.l_x | exact NE.l_x.symm) (ac (by first | exact NE.l_dx | exact NE.l_dx.symm) (ac (by first | exact NE.l_1 | exact NE.l_1.symm) (an)))))))) (fun h11 F11 N11 => ?_) (by rw [List.size_toArray]; simp only [strValues, List.length_map]; exact Nat.le_trans hlv (by decide))
    have tabT : TabOk h11 := tab_of (X'.keeps F10.keep) (X'.keeps F11.keep) tab10 (fun o e => by rw [(N10 (157, o1'') (by k_mem)).1] at e; rw [← e]; exact (N11 (157, o1'') (by k_mem)).1) (fun o e => by rw [(N10 (164, o23) (by k_mem)).1] at e; rw [← e]; exact (N11 (164, o23) (by k_mem)).1)
    have FT := F11
    have NT := N11
    have hlT := NT (l, PySem.W.listOf ((strValues lv).toArray.push (.str (accStr (psi ++ [q])) t10)) (ln + 1)) (by k_mem)
    clear F10 N10 F11 N11
    iterate 8 walk1
    have hxT := NT (x, accO dx (its.push (.ref T7)) (n + 1 + 1)) (by k_mem)
    have hdT := NT (dx, isD w.params c i it) (by k_mem)
    have hpT := NT (p, instObj 111 dp) (by k_mem)
    have hdpT := NT (dp, pgD w.params Wd signs l x k) (by k_mem)
    have XT : (KK w.params).In _ := X'.keeps FT.keep
    refine method_acc XT hxT.1 hdT.1 (by k_is) (by k_is) (by decide) rfl ?_
    walk1
    refine wpAny_call (reset0_spec X' T' FT.keep hxT.1 hdT.1 hxT.2.2 hdT.2.2 (by first | exact dd1 hA (by decide) | (simp only [depth_deeper]; (first | lia | omega))) (by have := hS.1; have e := hPi.ex; obtain ⟨_, _, _, e, _⟩ := e; rw [List.length_append, List.length_singleton] at this; rw [Array.size_push]; (first | lia | omega)) (fun hz tz nz cz iz kz hxz hdz => ?_))
    dsimp only
    refine wpAny_execs_nil ?_
    have kP := kept_page5 B FT hp hpT.1 hdp hdpT.1
    have kF : Kept [l, x, dx, 157, 164] s.heap hz := fun a o e q => kz a o (kP a o e q) (nin2 (ne_of_nin5 q).2.1 (ne_of_nin5 q).2.2.1)
    have tabZ : TabOk hz := tab_kept tabT kz (nin2 NE.x_1.symm NE.dx_1.symm) (nin2 NE.x_2.symm NE.dx_2.symm) (xne_code (X'.keeps FT.keep) hxT.1 hdT.1).1 (xne_code (X'.keeps FT.keep) hxT.1 hdT.1).2
    refine h { heap := hz, gens := s10.gens, drawn := s10.drawn, toks := tz, os := s10.os } (lv ++ [(accStr (psi ++ [q]), t10)]) (ln + 1) nz cz iz kF ?_ ?_ hxz hdz tabZ (os10.trans (os9.trans os8)) (fun G => gs10 (gs9 (gs8 G)))
    · refine (kz _ _ hlT.1 (nin2 NE.l_x NE.l_dx)).trans ?_
      simp [strValues]
    · rw [if_pos hpos]; simp
  · refine ite_neg (by simpa using hpos) ?_
    have FT := F8
    have NT := N8
    have tabT := tab8
    clear F8 N8
    iterate 7 walk1
    have hxT := NT (x, accO dx (its.push (.ref T7)) (n + 1 + 1)) (by k_mem)
    have hdT := NT (dx, isD w.params c i it) (by k_mem)
    have hpT := NT (p, instObj 111 dp) (by k_mem)
    have hdpT := NT (dp, pgD w.params Wd signs l x k) (by k_mem)
    have XT : (KK w.params).In _ := X'.keeps FT.keep
    refine method_acc XT hxT.1 hdT.1 (by k_is) (by k_is) (by decide) rfl ?_
    walk1
    refine wpAny_call (reset0_spec X' T' FT.keep hxT.1 hdT.1 hxT.2.2 hdT.2.2 (by first | exact dd1 hA (by decide) | (simp only [depth_deeper]; (first | lia | omega))) (by have := hS.1; have e := hPi.ex; obtain ⟨_, _, _, e, _⟩ := e; rw [List.length_append, List.length_singleton] at this; rw [Array.size_push]; (first | lia | omega)) (fun hz tz nz cz iz kz hxz hdz => ?_))
    dsimp only
    refine wpAny_execs_nil ?_
    have kP := kept_page5 B FT hp hpT.1 hdp hdpT.1
    have kF : Kept [l, x, dx, 157, 164] s.heap hz := fun a o e q => kz a o (kP a o e q) (nin2 (ne_of_nin5 q).2.1 (ne_of_nin5 q).2.2.1)
    have tabZ : TabOk hz := tab_kept tabT kz (nin2 NE.x_1.symm NE.dx_1.symm) (nin2 NE.x_2.symm NE.dx_2.symm) (xne_code (X'.keeps FT.keep) hxT.1 hdT.1).1 (xne_code (X'.keeps FT.keep) hxT.1 hdT.1).2
    refine h { heap := hz, gens := s8.gens, drawn := s8.drawn, toks := tz, os := s8.os } lv ln nz cz iz kF (kz _ _ (NT (l, PySem.W.listOf (strValues lv).toArray ln) (by k_mem)).1 (nin2 NE.l_x NE.l_dx)) ?_ hxz hdz tabZ os8 gs8
    rw [if_neg hpos]; simp
end
end Mine
end
section
open PySem PySem.W PyProof.Rows PySem.Calls
set_option maxRecDepth 100000
namespace Mine
theorem of_list {x : Str} {l : List Nat} (h : x.cps.toList = l) : x = ⟨l.toArray⟩ := by
  cases x with
  | mk c => subst h; rfl
theorem str_ext {x y : Str} (h : x.cps.toList = y.cps.toList) : x = y := by rw [of_list h]
theorem len_list (x : Str) : x.length = x.cps.toList.length := by simp [Str.length]
theorem slice_to (x : Str) (n : Nat) (h : n ≤ x.length) : (Txt.slice x none (some (n : Int))).cps.toList = x.cps.toList.take n := by
  have e := StrLaws.sliceText_to (x := x) (j := (n : Int)) ⟨by (first | lia | omega), by rw [len_list] at h; (first | lia | omega)⟩
  rw [show Txt.slice x none (some (n : Int)) = StrLaws.sliceText x none (some (n : Int)) from rfl, e]
  simp
theorem slice_from (x : Str) (n : Nat) (h : n ≤ x.length) : (Txt.slice x (some (n : Int)) none).cps.toList = x.cps.toList.drop n := by
  have e := StrLaws.sliceText_from (x := x) (i := (n : Int)) ⟨by (first | lia | omega), by rw [len_list] at h; (first | lia | omega)⟩
  rw [show Txt.slice x (some (n : Int)) none = StrLaws.sliceText x (some (n : Int)) none from rfl, e]
  simp only [Int.toNat_natCast]
  exact List.take_of_length_le (by simp)
theorem slice_mid (x : Str) (a b : Nat) (h : a ≤ b) (hb : b ≤ x.length) : (Txt.slice x (some (a : Int)) (some (b : Int))).cps.toList = (x.cps.toList.drop a).take (b - a) := by
  have e := StrLaws.sliceText_nat x h hb
  rw [show Txt.slice x (some (a : Int)) (some (b : Int)) = StrLaws.sliceText x (some (a : Int)) (some (b : Int)) from rfl, e]
end Mine
end
section
open PySem PySem.W PyProof.Rows PySem.Calls PySem.Builtin PySem.Builtin.Str PySem.StrLaws
set_option maxRecDepth 100000
namespace Mine
noncomputable def joinC (c : Nat) : List (List Nat) → List Nat
  | [] => []
  | [x] => x
  | x :: y :: r => x ++ c :: joinC c (y :: r)
theorem join_toL (c : Nat) (l : List Str) : (Str.join ⟨#[c]⟩ l).cps.toList = joinC c (l.map (·.cps.toList)) := by
  induction l with
  | nil => rfl
  | cons x r ih =>
    cases r with
    | nil => rfl
    | cons y r =>
      show ((x.cps ++ #[c] ++ (Str.join ⟨#[c]⟩ (y :: r)).cps)).toList = x.cps.toList ++ c :: joinC c (y.cps.toList :: r.map (·.cps.toList))
      rw [Array.toList_append, Array.toList_append, ih]
      simp
theorem joinC_inj (c : Nat) : ∀ (ps qs : List (List Nat)), ps ≠ [] → qs ≠ [] → (∀ p ∈ ps, c ∉ p) → (∀ q ∈ qs, c ∉ q) → joinC c ps = joinC c qs → ps = qs := by
  have key : ∀ (x y : List Nat) (u v : List Nat), c ∉ x → c ∉ y → x ++ c :: u = y ++ c :: v → x = y ∧ u = v := by
    intro x
    induction x with
    | nil =>
      intro y u v _ hy e
      cases y with
      | nil => exact ⟨rfl, (List.cons.inj e).2⟩
      | cons a b => exact absurd (List.mem_cons_self ..) ((List.cons.inj e).1 ▸ hy)
    | cons a x ih =>
      intro y u v hx hy e
      cases y with
      | nil => exact absurd (List.mem_cons_self ..) ((List.cons.inj e).1 ▸ hx)
      | cons b y =>
        obtain ⟨e1, e2⟩ := List.cons.inj e
        obtain ⟨h1, h2⟩ := ih y u v (fun z => hx (List.mem_cons_of_mem _ z)) (fun z => hy (List.mem_cons_of_mem _ z)) e2
        exact ⟨by rw [e1, h1], h2⟩
  intro ps
  induction ps with
  | nil => intro qs h; exact absurd rfl h
  | cons x r ih =>
    intro qs _ hq hp hqf e
    cases qs with
    | nil => exact absurd rfl hq
    | cons y t =>
      have hx := hp x (List.mem_cons_self ..)
      have hy := hqf y (List.mem_cons_self ..)
      cases r with
      | nil =>
        cases t with
        | nil => rw [show x = y from e]
        | cons z t =>
          have e : x = y ++ c :: joinC c (z :: t) := e
          exact absurd (by rw [e]; simp) hx
      | cons x2 r =>
        cases t with
        | nil =>
          have e : x ++ c :: joinC c (x2 :: r) = y := e
          exact absurd (by rw [← e]; simp) hy
        | cons z t =>
          have e : x ++ c :: joinC c (x2 :: r) = y ++ c :: joinC c (z :: t) := e
          obtain ⟨h1, h2⟩ := key x y _ _ hx hy e
          have := ih (z :: t) (by simp) (by simp) (fun p h => hp p (List.mem_cons_of_mem _ h)) (fun p h => hqf p (List.mem_cons_of_mem _ h)) h2
          rw [h1, this]
theorem split_ne (x y : Str) : Txt.split x y ≠ [] := by
  unfold Txt.split
  split
  · simp
  · split
    · simp
    · rw [partsBetween_eq]
      obtain ⟨p, r, e⟩ := partsFrom_ne x y.length 0 (occurrences x y 0 x.length (x.length + 1))
      rw [e]; simp
/-- split at a sign, known by its parts -/
theorem split_eq (x : Str) (c : Nat) (parts : List (List Nat)) (hne : parts ≠ []) (hf : ∀ p ∈ parts, c ∉ p) (hx : x.cps.toList = joinC c parts) : (Txt.split x ⟨#[c]⟩).map (·.cps.toList) = parts := by
  refine joinC_inj c _ _ ?_ hne ?_ hf ?_
  · intro z; exact split_ne x ⟨#[c]⟩ (List.map_eq_nil_iff.mp z)
  · intro p hp
    obtain ⟨q, hq, rfl⟩ := List.mem_map.mp hp
    exact split_free x c q hq
  · rw [← join_toL, join_split, hx]
theorem partsFrom_len (x : Str) (w : Nat) : ∀ (cuts : List Nat) (a : Nat), (partsFrom x w a cuts).length = cuts.length + 1
  | [], _ => rfl
  | c :: r, a => by
    show (partsFrom x w (c + w) r).length + 1 = _
    rw [partsFrom_len x w r]; rfl
theorem count_join (c : Nat) : ∀ ps : List (List Nat), ps ≠ [] → (∀ p ∈ ps, c ∉ p) → (joinC c ps).count c + 1 = ps.length := by
  intro ps
  induction ps with
  | nil => intro h; exact absurd rfl h
  | cons x r ih =>
    intro _ hp
    have hx := hp x (List.mem_cons_self ..)
    cases r with
    | nil =>
      show x.count c + 1 = 1
      rw [List.count_eq_zero_of_not_mem hx]
    | cons y r =>
      have := ih (by simp) (fun p h => hp p (List.mem_cons_of_mem _ h))
      show (x ++ c :: joinC c (y :: r)).count c + 1 = _
      rw [List.count_append, List.count_eq_zero_of_not_mem hx, List.count_cons_self]
      simp only [List.length_cons] at this ⊢
      (first | lia | omega)
/-- count of a sign -/
theorem count_eq (x : Str) (c : Nat) : Txt.count x ⟨#[c]⟩ = ((x.cps.toList.count c : Nat) : Int) := by
  obtain ⟨f, hG, hn⟩ := occ_tight x ⟨#[c]⟩ (Nat.le_refl 1)
  obtain ⟨f', hT⟩ := occ_chain x ⟨#[c]⟩ (x.length + 1)
  have hj := join_partsFrom x ⟨#[c]⟩ _ 0 f' hT
  rw [sub_whole] at hj
  have hfree := parts_free x c _ 0 f hG hn
  have hl := partsFrom_len x (⟨#[c]⟩ : Str).length (occurrences x ⟨#[c]⟩ 0 x.length (x.length + 1)) 0
  have hc := count_join c ((partsFrom x (⟨#[c]⟩ : Str).length 0 (occurrences x ⟨#[c]⟩ 0 x.length (x.length + 1))).map (·.cps.toList)) (by intro z; rw [List.map_eq_nil_iff] at z; rw [z] at hl; cases hl) (fun p hp => by
    obtain ⟨q, hq, rfl⟩ := List.mem_map.mp hp
    exact hfree q hq)
  rw [← join_toL, hj, List.length_map, hl] at hc
  unfold Txt.count
  (first | lia | omega)
/-- a pair of signs taken out -/
theorem replace_pair (x : Str) (a b : List Nat) (ha : 13 ∉ a) (hb : 13 ∉ b) (hx : x.cps.toList = a ++ (13 :: 10 :: b)) : (Txt.replace x ⟨#[13, 10]⟩ Str.empty).cps.toList = a ++ b := by
  have hlen : x.length = a.length + 2 + b.length := by rw [len_list, hx]; simp; (first | lia | omega)
  have hat : ∀ k, At x ⟨#[13, 10]⟩ x.length k ↔ k = a.length := by
    intro k
    unfold At
    rw [subAt_eq, hx]
    show k + 2 ≤ x.length ∧ _ ↔ _
    constructor
    · rintro ⟨h1, h2⟩
      rw [beq_iff_eq] at h2
      have h3 := congrArg (fun l : List Nat => l[0]?) h2
      simp only [show (⟨#[13, 10]⟩ : Str).length = 2 from rfl] at h3
      rw [List.getElem?_take_of_lt (by decide), List.getElem?_drop, Nat.add_zero] at h3
      have h3 : (a ++ (13 :: 10 :: b))[k]? = some 13 := h3
      by_cases z : k < a.length
      · rw [List.getElem?_append_left z] at h3
        exact absurd (List.mem_of_getElem? h3) ha
      · by_cases z2 : k = a.length
        · exact z2
        · obtain ⟨j, rfl⟩ : ∃ j, k = a.length + (j + 1) := ⟨k - a.length - 1, by (first | lia | omega)⟩
          rw [List.getElem?_append_right (by (first | lia | omega)), show a.length + (j + 1) - a.length = j + 1 by (first | lia | omega)] at h3
          cases j with
          | zero => cases h3
          | succ j => exact absurd (List.mem_of_getElem? (show b[j]? = some 13 from h3)) hb
    · rintro rfl
      refine ⟨by (first | lia | omega), ?_⟩
      rw [beq_iff_eq, List.drop_left]
      rfl
  obtain ⟨f, hG, hn⟩ := occ_tight x ⟨#[13, 10]⟩ (by decide)
  have hocc : occurrences x ⟨#[13, 10]⟩ 0 x.length (x.length + 1) = [a.length] := by
    generalize occurrences x ⟨#[13, 10]⟩ 0 x.length (x.length + 1) = cuts at hG
    cases cuts with
    | nil =>
      have e : f = 0 := hG
      exact absurd ((hat a.length).mpr rfl) (hn _ (by (first | lia | omega)))
    | cons c r =>
      obtain ⟨h1, h2, h3, h4⟩ := hG
      have hc := (hat c).mp h2
      cases r with
      | nil => rw [hc]
      | cons d r =>
        obtain ⟨g1, g2, _⟩ := h4
        have hd := (hat d).mp g2
        have : (⟨#[13, 10]⟩ : Str).length = 2 := rfl
        (first | lia | omega)
  unfold Txt.replace
  rw [hocc]
  rw [if_neg (by simp; intro z; exact absurd z (by decide)), glued_eq_join, partsBetween_eq]
  show (strSub x 0 a.length ++ Str.empty ++ strSub x (a.length + 2) x.length).cps.toList = _
  rw [show (strSub x 0 a.length ++ Str.empty ++ strSub x (a.length + 2) x.length).cps = (strSub x 0 a.length).cps ++ Str.empty.cps ++ (strSub x (a.length + 2) x.length).cps from rfl, Array.toList_append, Array.toList_append, strSub_toList, strSub_toList, hx, hlen]
  have e1 : (List.drop 0 (a ++ 13 :: 10 :: b)).take (a.length - 0) = a := by simp
  have e2 : (List.drop (a.length + 2) (a ++ 13 :: 10 :: b)).take (a.length + 2 + b.length - (a.length + 2)) = b := by
    rw [show a ++ 13 :: 10 :: b = (a ++ [13, 10]) ++ b by simp, show a.length + 2 = (a ++ [13, 10]).length by simp, List.drop_left]
    exact List.take_of_length_le (by simp)
  rw [e1, e2]
  simp [Str.empty]
theorem replace_no (x : Str) (hx : 13 ∉ x.cps.toList) : Txt.replace x ⟨#[13, 10]⟩ Str.empty = x := by
  obtain ⟨f, hG, hn⟩ := occ_tight x ⟨#[13, 10]⟩ (by decide)
  have hat : ∀ k, ¬ At x ⟨#[13, 10]⟩ x.length k := by
    intro k h
    unfold At at h
    rw [subAt_eq, beq_iff_eq] at h
    have h3 := congrArg (fun l : List Nat => l[0]?) h.2
    simp only [show (⟨#[13, 10]⟩ : Str).length = 2 from rfl] at h3
    rw [List.getElem?_take_of_lt (by decide), List.getElem?_drop, Nat.add_zero] at h3
    have h3 : x.cps.toList[k]? = some 13 := h3
    exact hx (List.mem_of_getElem? h3)
  unfold Txt.replace
  rw [if_pos]
  generalize occurrences x ⟨#[13, 10]⟩ 0 x.length (x.length + 1) = cuts at hG
  cases cuts with
  | nil => rfl
  | cons c r => exact absurd hG.2.1 (hat c)
/-- a slice from a place, also from behind the end -/
theorem slice_from_any (x : Str) (n : Nat) : (Txt.slice x (some (n : Int)) none).cps.toList = x.cps.toList.drop n := by
  by_cases h : n ≤ x.length
  · exact slice_from x n h
  · have e : strSliceIndices (some (n : Int)) none 1 x.length = strSliceIndices (some ((x.length : Nat) : Int)) none 1 x.length := by
      unfold strSliceIndices
      have h1 : ¬ ((n : Int) < 0) := by (first | lia | omega)
      have h2 : ¬ (((x.length : Nat) : Int) < 0) := by (first | lia | omega)
      simp only [h1, h2, if_false, show (1 : Int) > 0 by decide, if_true]
      rw [show max (0 : Int) (min (n : Int) (x.length : Int)) = max (0 : Int) (min (x.length : Int) (x.length : Int)) by (first | lia | omega)]
    have e2 : Txt.slice x (some (n : Int)) none = Txt.slice x (some ((x.length : Nat) : Int)) none := by
      unfold Txt.slice
      rw [e]
    rw [e2, slice_from x x.length (Nat.le_refl _), List.drop_eq_nil_of_le (by rw [len_list]; exact Nat.le_refl _), List.drop_eq_nil_of_le (by rw [← len_list]; (first | lia | omega))]
end Mine
end
section
open PySem PySem.W PyProof.Rows PySem.Calls Mine
local macro_rules | `(tactic| walk_at "eval Name") => `(tactic| (k_here; k_dflt (refine' ld ?k1 ?k2 ?_; (case k1 => k_asm); (case k2 => assumption); k_whole)))
section
open PySem PySem.W PyProof.Rows PySem.Calls
set_option Elab.async false
set_option maxRecDepth 100000
namespace Mine
/-- where a row may be cut: at a blank's start, or behind a part that ends with the sign -/
noncomputable def cutHere (ch : Nat) (ps : List (Str × Str)) (i : Nat) : Bool :=
  (Txt.isspace ⟨#[ch]⟩ && (ps.getD i ("", "")).1.cps[0]? == some ch) || (ps.getD (i - 1) ("", "")).2.cps.back? == some ch
/-- the last such place, none of them the row's start -/
noncomputable def innerCut (ch : Nat) (ps : List (Str × Str)) : Nat → Option Nat
  | 0 => none
  | i + 1 => if cutHere ch ps (i + 1) then some (i + 1) else innerCut ch ps i
noncomputable def outerCut (ps : List (Str × Str)) : List Nat → Option Nat
  | [] => none
  | c :: r => match innerCut c ps (ps.length - 1) with
    | some i => some i
    | none => outerCut ps r
noncomputable def ifBodyOf : Stmt → List Stmt
  | .If _ b _ _ => b
  | _ => []
noncomputable def chunkIf : List Stmt := match fBody (meth 5 8) with
  | _ :: st :: _ => ifBodyOf st
  | _ => []
noncomputable def forElseOf : Stmt → List Stmt
  | .For _ _ _ e _ => e
  | _ => []
noncomputable def forBodyOf : Stmt → List Stmt
  | .For _ _ b _ _ => b
  | _ => []
noncomputable def chunkElse : List Stmt := match chunkIf with
  | st :: _ => forElseOf st
  | _ => []
noncomputable def innerFor : Stmt := match chunkIf with
  | st :: _ => (match forBodyOf st with | a :: _ => a | _ => st)
  | _ => .Pass { line := 0, col := 0, endLine := 0, endCol := 0 }
noncomputable abbrev chunkEnv (L : Addr) : Env := envOf (Str.ofString "_ValueFormatter._append_chunk") (fScope (meth 5 8)) L 108 (.ref 107)
section
variable {w : World} {g : Heap} {s : Shared} {A : Around} {R : Result → Shared → Prop} {mg mb : Str → Option Value} {p dp l x dx : Addr} {Wd : Int} {signs : Str} {k : Nat → Nat} {lv : List (Str × Tok)} {ln n c it : Nat} {i : Int} {items : Array Value} {ps : List (Str × Str)}
set_option maxHeartbeats 1000000 in
/-- _append_chunk up to its choice -/
theorem append_pre {f q : Str} {ft qt : Tok} (X : (KK w.params).In g) (T : TR mg mb g) {bm : Addr} {ob : Obj} (BM : BMod g mainGlobals mg bm ob) (kg : g.StaysIn s.heap)
    (hp : s.heap.get? p = some (instObj 111 dp)) (hdp : s.heap.get? dp = some (pgD w.params Wd signs l x k)) (hl : s.heap.get? l = some (PySem.W.listOf (strValues lv).toArray ln)) (hx : s.heap.get? x = some (accO dx items n)) (hd : s.heap.get? dx = some (isD w.params c i it))
    (gp : g.get? p = none) (gdp : g.get? dp = none) (gl : g.get? l = none) (gx : g.get? x = none) (gd : g.get? dx = none) (hA : A.depth < 700) (hh : A.handled = none) (hu : A.units < 7000)
    (hP : Pairs s.heap items ps) (hS : Small (ps ++ [(f, q)])) (hTab : TabOk s.heap) (g1 : g.get? 157 = none) (g2 : g.get? 164 = none) (hlen : 0 ≤ accLen i (ps ++ [(f, q)])) (hi : i ≤ 100000)
    (hfit : accLen i (ps ++ [(f, q)]) ≤ Wd → ∀ (s' : Shared) (items' : Array Value) (n' : Nat), Kept [x, 157] s.heap s'.heap → s'.heap.get? x = some (accO dx items' n') → Pairs s'.heap items' (ps ++ [(f, q)]) → TabOk s'.heap → s'.os = s.os → (AllBare s.gens → AllBare s'.gens) → R (.ok (.ret .none)) s')
    (hover : Wd < accLen i (ps ++ [(f, q)]) → ∀ (b : Heap) (L : Addr) (s9 : Shared) (T7 : Addr) (oT : Obj) (n' : Nat) (o1 o2 : Obj), BaseAt w g mg mb s.heap [p, dp, l, x, dx, 157, 164] L b → Fr b L s9.heap (fun y => [(Str.ofString "self", Value.ref p), (Str.ofString "fws", Value.str f ft), (Str.ofString "string", Value.str q qt)].reverse.lookup y) →
      News b L s9.heap [(157, o1), (p, instObj 111 dp), (dp, pgD w.params Wd signs l x k), (l, PySem.W.listOf (strValues lv).toArray ln), (x, accO dx (items.push (.ref T7)) n'), (dx, isD w.params c i it), (164, o2), (T7, oT)] → Pairs b items ps → oT.cls = .type "tuple" → (∃ nn, oT.data = .seq #[.str f ft, .str q qt] nn) → TabOk s9.heap → s9.os = s.os → (AllBare s.gens → AllBare s9.gens) →
      wpAny (MM w) (A.deeper (chunkEnv L)) (execs chunkIf (chunkEnv L)) (fun fl s' => R (.ok (.ret (match fl with | .ret v => v | _ => .none))) s') (fun _ _ => False) s9) :
    codeAny (MM w) A (.call (.ref 108) ⟨[.ref p, .str f ft, .str q qt], []⟩) R s := by
  obtain ⟨o1, o2, h1, d1, h2, d2⟩ := tab_objs hTab
  refine' enter (news := [(p, instObj 111 dp), (dp, pgD w.params Wd signs l x k), (l, PySem.W.listOf (strValues lv).toArray ln), (x, accO dx items n), (dx, isD w.params c i it), (157, o1), (164, o2)]) (binds := [("self", .ref p), ("fws", .str f ft), ("string", .str q qt)]) X T kg ?n ?ho ?hcd ?room ?bind ?loc ?_ ?c1 ?c2 ?c3 ?c4
  case ho => k_is
  case hcd => k_is
  case room => first | exact Nat.lt_of_lt_of_le hA (by decide) | exact Nat.lt_of_lt_of_le (by omega : _ < 990) (by decide)
  case bind => exact BindsTo.of_eq rfl
  case loc => exact locs rfl
  case n => exact ent7 ⟨hp, gp⟩ ⟨hdp, gdp⟩ ⟨hl, gl⟩ ⟨hx, gx⟩ ⟨hd, gd⟩ ⟨h1, g1⟩ ⟨h2, g2⟩
  case c1 => decide
  case c2 => rfl
  case c3 => rfl
  case c4 => rfl
  intro b L h₁ F N B
  have X' := B.k
  have T' := B.t
  have NE := page_pne hp hdp hl hx hd hTab
  have hWt := page_tup hp hdp hl hx hd h1 d1 h2 d2
  have hPb := B.pairs hP hWt
  have BMb : BMod b mainGlobals mg bm ob := BM.keeps B.g
  have Xs : (KK w.params).In s.heap := X.keeps kg
  have hsz : items.size ≤ 1000 := by
    have h3 := hS.1
    obtain ⟨_, _, _, e, _⟩ := hP.ex
    rw [List.length_append, List.length_singleton] at h3
    omega
  iterate 6 walk1
  have hx1 := N (x, accO dx items n) (by k_mem)
  have hd1 := N (dx, isD w.params c i it) (by k_mem)
  have X1 : (KK w.params).In _ := X'.keeps F.keep
  refine method_acc X1 hx1.1 hd1.1 (by k_is) (by k_is) (by decide) rfl ?_
  iterate 6 walk1
  refine ⟨X1, wpAny_call (push_spec X' T' F.keep hx1.1 hd1.1 hx1.2.2 hd1.2.2 (by first | exact dd1 hA (by decide) | (simp only [depth_deeper]; omega)) hsz (fun h7 t7 T7 k7 f7 hT7 hx7 => ?_))⟩
  have F7 := calledF F N k7 (inW1 (p1 := accO dx items n) (by k_mem))
  have N7 : News b L h7 [(x, accO dx (items.push (.ref T7)) (n + 1)), (p, instObj 111 dp), (dp, pgD w.params Wd signs l x k), (l, PySem.W.listOf (strValues lv).toArray ln), (dx, isD w.params c i it), (157, o1), (164, o2)] := nu (accO dx items n) N (by k_mem) hx7 (nk1 N k7 (by k_mem) NE.p_x (nk1 N k7 (by k_mem) NE.dp_x (nk1 N k7 (by k_mem) NE.l_x (nk1 N k7 (by k_mem) NE.x_dx.symm (nk1 N k7 (by k_mem) NE.x_1.symm (nk1 N k7 (by k_mem) NE.x_2.symm (nwn)))))))
  have P7 : Pairs h7 (items.push (.ref T7)) (ps ++ [(f, q)]) := by
    obtain ⟨Ts, f', p', e1, e2⟩ := hPb.ex
    exact Pairs.snoc ⟨Ts, f', p', e1, fun k p e => ⟨(e2 k p e).1, tuple_keeps F7.keep (e2 k p e).2⟩⟩ hT7
  obtain ⟨oT, eT, cT, dT⟩ := hT7
  have T7e : (157 : Addr) ≠ T7 := fun z => by
    have := (N (157, o1) (by k_mem)).1
    rw [show ((157 : Addr), o1).1 = T7 from z, f7] at this; cases this
  have N7 : News b L h7 [(T7, oT), (x, accO dx (items.push (.ref T7)) (n + 1)), (p, instObj 111 dp), (dp, pgD w.params Wd signs l x k), (l, PySem.W.listOf (strValues lv).toArray ln), (dx, isD w.params c i it), (157, o1), (164, o2)] := newsPlus F f7 N7 eT
  clear F N k7 hx1 hd1 X1
  dsimp only
  iterate 11 walk1
  have X7 : (KK w.params).In h7 := X'.keeps F7.keep
  have t7 : TabOk h7 := tab_of Xs X7 hTab (fun o e => by rw [h1] at e; cases e; exact (N7 (157, o1) (by k_mem)).1) (fun o e => by rw [h2] at e; cases e; exact (N7 (164, o2) (by k_mem)).1)
  have hx7 := N7 (x, accO dx (items.push (.ref T7)) (n + 1)) (by k_mem)
  have hd7 := N7 (dx, isD w.params c i it) (by k_mem)
  refine len_acc2 F7 X' hx7.1 hd7.1 (len_spec X' T' BMb F7.keep hx7.1 hd7.1 hx7.2.2 hd7.2.2 (by first | exact dd2 hA (by decide) | (simp only [depth_in1, depth_deeper]; omega)) hh P7 hS t7 (N7 (157, o1) (by k_mem)).2.2 (fun s8 t8 k8 tab8 os8 gs8 => ?_))
  refine ⟨⟨hlen, accLen_lt2 hS hi⟩, ?_⟩
  obtain ⟨o1', o2', e1', d1', e2', d2'⟩ := tab_objs tab8
  have F8 := calledF F7 N7 k8 (inW1 (p1 := o1) (by k_mem))
  have N8 : News b L s8.heap [(157, o1'), (p, instObj 111 dp), (dp, pgD w.params Wd signs l x k), (l, PySem.W.listOf (strValues lv).toArray ln), (x, accO dx (items.push (.ref T7)) (n + 1)), (dx, isD w.params c i it), (164, o2), (T7, oT)] := nu (o1) N7 (by k_mem) e1' (nk1 N7 k8 (by k_mem) NE.p_1 (nk1 N7 k8 (by k_mem) NE.dp_1 (nk1 N7 k8 (by k_mem) NE.l_1 (nk1 N7 k8 (by k_mem) NE.x_1 (nk1 N7 k8 (by k_mem) NE.dx_1 (nk1 N7 k8 (by k_mem) (by decide) (nk1 N7 k8 (by k_mem) (by first | assumption | exact Ne.symm (by assumption)) (nwn))))))))
  have P8 := (P7.keptT k8 t7 (ac (.inl (.inl rfl)) an))
  clear F7 N7 hx7 hd7
  iterate 5 walk1
  have kS : Kept [x, 157] s.heap s8.heap := kept_page2 B F8 hp (N8 (p, instObj 111 dp) (by k_mem)).1 hdp (N8 (dp, pgD w.params Wd signs l x k) (by k_mem)).1 hl (N8 (l, PySem.W.listOf (strValues lv).toArray ln) (by k_mem)).1 hd (N8 (dx, isD w.params c i it) (by k_mem)).1 h2 (N8 (164, o2) (by k_mem)).1
  by_cases hov : Wd < accLen i (ps ++ [(f, q)])
  · refine ite_pos (by simpa using hov) ?_
    refine wpAny_mono (hover hov b L { s8 with toks := s8.toks + 1 + 1 } T7 oT (n + 1) o1' o2 B F8 N8 hPb cT dT tab8 os8 gs8) (fun fl s' hr => ?_) fun _ _ z => z
    cases fl with
    | next => exact wpAny_execs_nil hr
    | ret v => exact hr
    | brk => exact hr
    | cont => exact hr
  · refine ite_neg (by simpa using hov) ?_
    refine wpAny_execs_nil (wpAny_execs_nil ?_)
    exact hfit (by omega) _ (items.push (.ref T7)) (n + 1) kS (N8 (x, accO dx (items.push (.ref T7)) (n + 1)) (by k_mem)).1 P8 tab8 os8 gs8
end
end Mine
end
section
open PySem PySem.W PyProof.Rows PySem.Calls
set_option Elab.async false
set_option maxRecDepth 100000
namespace Mine
theorem last_item (x : Str) (c : Nat) (h : x.length ≠ 0) : (Txt.item x (-1) == (⟨#[c]⟩ : Str)) = (x.cps.back? == some c) := by
  have hs : 0 < x.cps.size := Nat.pos_of_ne_zero h
  have e : Txt.charAt x (-1) = x.cps.back? := by
    unfold Txt.charAt
    have h2 : seqIndex? (-1) x.length = some (x.cps.size - 1) := by
      unfold seqIndex?
      have h3 : (if (-1 : Int) < 0 then -1 + ((x.length : Nat) : Int) else -1) = ((x.cps.size - 1 : Nat) : Int) := by
        rw [if_pos (by decide)]
        show -1 + ((x.cps.size : Nat) : Int) = _
        omega
      dsimp only
      rw [h3, if_pos (by simp [Str.length]; omega)]
      simp
    rw [h2]
    simp [Array.back?]
  unfold Txt.item
  rw [e]
  have hb : ∃ d, x.cps.back? = some d := ⟨x.cps[x.cps.size - 1], by simp [Array.back?, hs]⟩
  obtain ⟨d, hd⟩ := hb
  rw [hd]
  by_cases z : d = c
  · subst z; simp
  · have z1 : ((⟨#[d]⟩ : Str) == ⟨#[c]⟩) = false := by
      rw [beq_eq_false_iff_ne]
      intro q
      have := congrArg (fun s : Str => s.cps[0]?) q
      simp at this
      exact z this
    have z2 : ((some d : Option Nat) == some c) = false := by simp [z]
    rw [z2]; exact z1
theorem first_item (x : Str) (c : Nat) (h : x.length ≠ 0) : (Txt.item x 0 == (⟨#[c]⟩ : Str)) = (x.cps[0]? == some c) := by
  have hs : 0 < x.cps.size := Nat.pos_of_ne_zero h
  have e : Txt.charAt x 0 = x.cps[0]? := by
    unfold Txt.charAt
    have h2 : seqIndex? 0 x.length = some 0 := by
      have h3 : 0 < x.length := hs
      unfold seqIndex?
      simp [h3]
    rw [h2]; rfl
  unfold Txt.item
  rw [e, Array.getElem?_eq_getElem hs]
  generalize x.cps[0] = d
  by_cases z : d = c
  · subst z; simp
  · have z1 : ((⟨#[d]⟩ : Str) == ⟨#[c]⟩) = false := by
      rw [beq_eq_false_iff_ne]
      intro q
      have := congrArg (fun s : Str => s.cps[0]?) q
      simp at this
      exact z this
    have z2 : ((some d : Option Nat) == some c) = false := by simp [z]
    rw [z2]; exact z1
noncomputable abbrev itO (mm : Nat) : Obj := { cls := .type "range_iterator", dict := none, data := .fields #[rawInt (mm : Int), rawInt (mm : Int), rawInt (-1)], slots := #[] }
structure SrchAt (w : World) (b : Heap) (L : Addr) (s : Shared) (p dp l x dx : Addr) (Wd : Int) (signs : Str) (k : Nat → Nat) (lv : List (Str × Tok)) (ln : Nat) (items : Array Value) (n c it : Nat) (i : Int) (o1 o2 oT oI : Obj) (T7 I1 : Addr) (s' : Shared) (m' : Str → Option Value) : Prop where
  fr : Fr b L s'.heap m'
  nw : News b L s'.heap [(157, o1), (p, instObj 111 dp), (dp, pgD w.params Wd signs l x k), (l, PySem.W.listOf (strValues lv).toArray ln), (x, accO dx items n), (dx, isD w.params c i it), (164, o2), (T7, oT), (I1, oI)]
  gs : s'.gens = s.gens
  os : s'.os = s.os
theorem size_down (a : Nat) : Builtin.Range.rangeSize (a : Int) 0 (-1) = a := by
  unfold Builtin.Range.rangeSize
  rw [if_neg (by decide)]
  by_cases h : (a : Int) > 0
  · rw [if_pos h, show (-(-1) : Int) = 1 by decide, Int.ediv_one]; omega
  · rw [if_neg h]; omega
theorem small_down (a : Nat) (ha : a ≤ 1000) : Builtin.Range.small (a : Int) 0 (-1) = true := by
  unfold Builtin.Range.small
  rw [size_down]
  unfold Builtin.Range.rangeFitsLong
  simp
  omega
section
variable {w : World} {g b : Heap} {L : Addr} {s : Shared} {A : Around} {E : Value → Shared → Prop} {Q : Flow → Shared → Prop} {mg mb : Str → Option Value} {p dp l x dx : Addr} {Wd : Int} {signs : Str} {k : Nat → Nat} {lv : List (Str × Tok)} {ln n c it : Nat} {i : Int} {items : Array Value} {ps : List (Str × Str)} {m : Str → Option Value} {o1 o2 oT oI : Obj} {T7 I1 : Addr}
set_option maxHeartbeats 1000000 in
theorem inner {cp : Nat} {ct : Tok} (X' : (KK w.params).In b) (T' : TR mg mb b) (F : Fr b L s.heap m) (hm : m (Str.ofString "self") = some (.ref p)) (hc : m (Str.ofString "ch") = some (.str ⟨#[cp]⟩ ct))
    (N : News b L s.heap [(157, o1), (p, instObj 111 dp), (dp, pgD w.params Wd signs l x k), (l, PySem.W.listOf (strValues lv).toArray ln), (x, accO dx items n), (dx, isD w.params c i it), (164, o2), (T7, oT), (I1, oI)])
    (hPF : ∀ h', (∀ a o, b.get? a = some o → h'.get? a = some o) → h'.get? T7 = some oT → Pairs h' items ps) (hS : Small ps) (hne : ps ≠ []) (hh : A.handled = none) (hA : A.depth < 800)
    (hcut : ∀ j, innerCut cp ps (ps.length - 1) = some j → ∀ (s' : Shared) (m' : Str → Option Value) (t' : Tok), SrchAt w b L s p dp l x dx Wd signs k lv ln items n c it i o1 o2 oT oI T7 I1 s' m' → m' (Str.ofString "self") = some (.ref p) → m' (Str.ofString "i") = some (.int j t') → Q .next s')
    (hnone : innerCut cp ps (ps.length - 1) = none → ∀ (s' : Shared) (m' : Str → Option Value), SrchAt w b L s p dp l x dx Wd signs k lv ln items n c it i o1 o2 oT oI T7 I1 s' m' → m' (Str.ofString "self") = some (.ref p) → Q .cont s') :
    wpAny (MM w) (A.deeper (chunkEnv L)) (exec innerFor (chunkEnv L)) Q E s := by
  refine wpAny_For ?_ (fun _ => rfl)
  iterate 9 walk1
  have hx1 := N (x, accO dx items n) (by k_mem)
  have hd1 := N (dx, isD w.params c i it) (by k_mem)
  have X1 : (KK w.params).In s.heap := X'.keeps F.keep
  refine method_acc X1 hx1.1 hd1.1 (by k_is) (by k_is) (by decide) rfl ?_
  walk1
  refine wpAny_call (part_count_spec X' T' F.keep hx1.1 hd1.1 hx1.2.2 hd1.2.2 (by first | exact dd1 hA (by decide) | (simp only [depth_deeper]; omega)) (fun h2 tk2 t2 k2 => ?_))
  obtain ⟨F2, N2⟩ := calledN F N k2 (by simp) [] [(157, o1), (p, instObj 111 dp), (dp, pgD w.params Wd signs l x k), (l, PySem.W.listOf (strValues lv).toArray ln), (x, accO dx items n), (dx, isD w.params c i it), (164, o2), (T7, oT), (I1, oI)] (by simp) (by simp)
  clear F N k2 hx1 hd1 X1
  dsimp only
  iterate 10 walk1
  rename_i h3 tk3 t3 u3 v3 hr3 F3 N3 k3
  have hP := hPF h3 F3.keep (N3 (T7, oT) (by k_mem)).1
  have hn1 : ((items.size : Int) - 1) = ((items.size - 1 : Nat) : Int) := by
    obtain ⟨_, _, _, e, _⟩ := hP.ex
    have : 0 < ps.length := List.length_pos_iff.mpr hne
    omega
  have hsz : items.size = ps.length := by
    obtain ⟨_, _, _, e, _⟩ := hP.ex
    exact e
  have hs1 := hS.1
  rw [hn1] at hr3
  refine wpAny_pyIter_range hr3 (small_down _ (by omega)) ?_
  rw [size_down]
  obtain ⟨I2, hI2⟩ : ∃ I2, I2 = h3.objs.size := ⟨_, rfl⟩
  have k4 : ∀ a o, h3.get? a = some o → (h3.push { cls := .type "range_iterator", data := .fields #[rawInt ((items.size - 1 : Nat) : Int), rawInt ((items.size - 1 : Nat) : Int), rawInt (-1)] }).get? a = some o := fun a o e => Heap.get?_push_of_some _ e
  have nI2 : h3.get? I2 = none := by
    cases e : h3.get? I2 with
    | none => rfl
    | some o => exact absurd (Heap.lt_size e) (by rw [hI2]; exact Nat.lt_irrefl _)
  obtain ⟨F4, N4⟩ := grown (l := I2) (lo := itO (items.size - 1)) F3 N3 k4 (by rw [hI2]; exact Heap.get?_push_size _ rfl) nI2
  have hIn : ∀ q ∈ [(157, o1), (p, instObj 111 dp), (dp, pgD w.params Wd signs l x k), (l, PySem.W.listOf (strValues lv).toArray ln), (x, accO dx items n), (dx, isD w.params c i it), (164, o2), (T7, oT), (I1, oI)], q.1 ≠ I2 := fun q hq => by rw [hI2]; exact Nat.ne_of_lt (Heap.lt_size (N3 q hq).1)
  dsimp only
  rw [← hI2]
  refine loopF (fun mm s' => Ex1 fun m' => A8 (Fr b L s'.heap m') (News b L s'.heap ((I2, itO mm) :: [(157, o1), (p, instObj 111 dp), (dp, pgD w.params Wd signs l x k), (l, PySem.W.listOf (strValues lv).toArray ln), (x, accO dx items n), (dx, isD w.params c i it), (164, o2), (T7, oT), (I1, oI)])) (s'.gens = s.gens) (s'.os = s.os) (m' (Str.ofString "self") = some (.ref p)) (m' (Str.ofString "ch") = some (.str ⟨#[cp]⟩ ct)) (mm ≤ ps.length - 1) (innerCut cp ps (ps.length - 1) = innerCut cp ps mm)) (fun mm s' hJ JN hJN => ?_) (items.size - 1) ⟨m, F4, N4, rfl, rfl, hm, hc, by omega, by rw [hsz]⟩
  obtain ⟨m', F', N', gs', os', hm', hc', hle, hcutE⟩ := hJ
  have hit' : IsRangeIter s'.heap I2 (mm : Int) (mm : Int) (-1) := (N' (I2, itO mm) (by k_mem)).1
  cases mm with
  | zero =>
    refine wpAny_pyNext_range_end hh hit' (by omega) (fun h5 hx5 => ?_)
    obtain ⟨F5, N5⟩ := called (W := [I2]) (news' := [(157, o1), (p, instObj 111 dp), (dp, pgD w.params Wd signs l x k), (l, PySem.W.listOf (strValues lv).toArray ln), (x, accO dx items n), (dx, isD w.params c i it), (164, o2), (T7, oT), (I1, oI)]) F' (fun a o e q => hx5 a o (by simpa using q) e) (fun a q => by
      obtain rfl : a = I2 := by simpa using q
      exact (N' (a, itO 0) (by k_mem)).2) (fun q hq => ⟨hx5 _ _ (hIn q hq) (N' q (List.mem_cons_of_mem _ hq)).1, (N' q (List.mem_cons_of_mem _ hq)).2⟩)
    dsimp only
    refine wpAny_execs_cons (wpAny_Continue ?_)
    exact hnone (by rw [hcutE]; rfl) _ m' ⟨F5, N5, gs', os'⟩ hm'
  | succ mm =>
    refine wpAny_pyNext_range_item hit' (by omega) (fun h5 hit5 hx5 => ?_)
    have hx5 := hx5.extBut
    have e1 : ((mm + 1 : Nat) : Int) + -1 = (mm : Int) := by omega
    have e2 : ((mm + 1 : Nat) : Int) - 1 = (mm : Int) := by omega
    rw [e1, e2] at hit5
    obtain ⟨F5, N5⟩ := called (W := [I2]) (news' := (I2, itO mm) :: [(157, o1), (p, instObj 111 dp), (dp, pgD w.params Wd signs l x k), (l, PySem.W.listOf (strValues lv).toArray ln), (x, accO dx items n), (dx, isD w.params c i it), (164, o2), (T7, oT), (I1, oI)]) F' (fun a o e q => hx5 a o (by simpa using q) e) (fun a q => by
      obtain rfl : a = I2 := by simpa using q
      exact (N' (a, itO (mm + 1)) (by k_mem)).2) (fun q hq => by
      rcases List.mem_cons.mp hq with rfl | hq
      · exact ⟨hit5, (N' (I2, itO (mm + 1)) (by k_mem)).2⟩
      · exact ⟨hx5 _ _ (hIn q hq) (N' q (List.mem_cons_of_mem _ hq)).1, (N' q (List.mem_cons_of_mem _ hq)).2⟩)
    clear F' N' hit' hx5 F4 N4 F3 N3
    dsimp only
    refine wpAny_assign_Name ?_
    walk1
    rename_i h6 F6 N6
    have hm6 : (fun y => if y = Str.ofString "i" then some (Value.int ((mm + 1 : Nat) : Int) s'.toks) else m' y) (Str.ofString "self") = some (.ref p) := hm'
    have hc6 : (fun y => if y = Str.ofString "i" then some (Value.int ((mm + 1 : Nat) : Int) s'.toks) else m' y) (Str.ofString "ch") = some (.str ⟨#[cp]⟩ ct) := hc'
    have P6 := hPF h6 F6.keep (N6 (T7, oT) (by k_mem)).1
    have hi1 : mm + 1 < ps.length := by have := List.length_pos_iff.mpr hne; omega
    obtain ⟨Ts, ft, pt, hsz', hTs⟩ := P6.ex
    have e0 : ps[mm]? = some (ps.getD mm ("", "")) := by rw [List.getD_eq_getElem?_getD, List.getElem?_eq_getElem (by omega)]; rfl
    have e1' : ps[mm + 1]? = some (ps.getD (mm + 1) ("", "")) := by rw [List.getD_eq_getElem?_getD, List.getElem?_eq_getElem (by omega)]; rfl
    obtain ⟨ha0, hb0⟩ := hTs _ _ e0
    obtain ⟨ha1, hb1⟩ := hTs _ _ e1'
    have hx6 := N6 (x, accO dx items n) (by k_mem)
    have hd6 := N6 (dx, isD w.params c i it) (by k_mem)
    have X6 : (KK w.params).In h6 := X'.keeps F6.keep
    iterate 20 walk1
    · refine sub_acc X6 hx6.1 hd6.1 (getItem_acc_int X6 hx6.1 hd6.1 ha1 (by omega) ?_)
      iterate 9 walk1
      rename_i h7 F7 N7
      have P7 := hPF h7 F7.keep (N7 (T7, oT) (by k_mem)).1
      obtain ⟨Ts7, ft7, pt7, hsz7, hTs7⟩ := P7.ex
      obtain ⟨ha7, hb7⟩ := hTs7 _ _ e0
      have hx7 := N7 (x, accO dx items n) (by k_mem)
      have hd7 := N7 (dx, isD w.params c i it) (by k_mem)
      have X7 : (KK w.params).In h7 := X'.keeps F7.keep
      have hf0 : (ps.getD (mm + 1) ("", "")).1.length ≤ 1000 := by
        have hi' : mm + 1 < ps.length := by omega
        have := hS.2 (ps.getD (mm + 1) ("", "")) (by rw [List.getD_eq_getElem?_getD, List.getElem?_eq_getElem hi']; exact List.getElem_mem hi')
        exact this.1
      refine PySem.P.truthy_str (by omega) ?_
      by_cases hy : (ps.getD (mm + 1) ("", "")).1.length = 0
      · have hfst : (Txt.isspace ⟨#[cp]⟩ && (ps.getD (mm + 1) ("", "")).1.cps[0]? == some cp) = false := by
          have : (ps.getD (mm + 1) ("", "")).1.cps = #[] := Array.eq_empty_of_size_eq_zero hy
          rw [this]; simp
        rw [show (((ps.getD (mm + 1) ("", "")).1.length : Int) != 0) = false by rw [hy]; rfl]
        refine ite_neg (by decide) ?_
        iterate 16 walk1
        have ez : (((mm + 1 : Nat) : Int) - 1) = ((mm : Nat) : Int) := by omega
        rw [ez]
        refine sub_acc X7 hx7.1 hd7.1 (getItem_acc_int X7 hx7.1 hd7.1 ha7 (by omega) ?_)
        iterate 9 walk1
        have hs0 : (ps.getD mm ("", "")).2.length ≤ 1000 := by
          have hi' : mm < ps.length := by omega
          have := hS.2 (ps.getD mm ("", "")) (by rw [List.getD_eq_getElem?_getD, List.getElem?_eq_getElem hi']; exact List.getElem_mem hi')
          exact this.2
        refine PySem.P.truthy_str (by omega) ?_
        by_cases hz : (ps.getD mm ("", "")).2.length = 0
        · have hcM : innerCut cp ps (ps.length - 1) = innerCut cp ps mm := by
            rw [hcutE]
            have hbk : ((ps.getD mm ("", "")).2.cps.back? == some cp) = false := by
              have : (ps.getD mm ("", "")).2.cps = #[] := Array.eq_empty_of_size_eq_zero hz
              rw [this]; rfl
            show (if cutHere cp ps (mm + 1) then some (mm + 1) else innerCut cp ps mm) = _
            rw [if_neg]
            unfold cutHere
            rw [hfst, Nat.add_sub_cancel, hbk]
            simp
          rw [show (((ps.getD mm ("", "")).2.length : Int) != 0) = false by rw [hz]; rfl]
          refine ite_neg (by decide) ?_
          repeat (first | (refine hJN _ ⟨mm, Nat.lt_succ_self _, _, by assumption, by assumption, ?_, ?_, ?_, ?_, ?_, ?_⟩; exact gs'; exact os'; exact hm'; exact hc'; omega; exact hcM) | walk1)
        · rw [show (((ps.getD mm ("", "")).2.length : Int) != 0) = true by simpa using hz]
          refine ite_pos rfl ?_
          iterate 17 walk1
          · rename_i Fz Nz _ hlast
            rw [last_item _ _ hz] at hlast
            dsimp only
            refine hcut (mm + 1) ?_ _ _ _ ⟨Fz, fun q hq => Nz q (List.mem_cons_of_mem _ hq), gs', os'⟩ hm' rfl
            rw [hcutE]
            show (if cutHere cp ps (mm + 1) then some (mm + 1) else innerCut cp ps mm) = _
            rw [if_pos]
            unfold cutHere
            rw [Nat.add_sub_cancel, hlast, Bool.or_true]
          · rename_i hlast
            have hcM : innerCut cp ps (ps.length - 1) = innerCut cp ps mm := by
              rw [hcutE]
              rw [last_item _ _ hz] at hlast
              show (if cutHere cp ps (mm + 1) then some (mm + 1) else innerCut cp ps mm) = _
              rw [if_neg]
              unfold cutHere
              rw [hfst, Nat.add_sub_cancel, hlast]
              simp
            refine ite_neg (by decide) ?_
            repeat (first | (refine hJN _ ⟨mm, Nat.lt_succ_self _, _, by assumption, by assumption, ?_, ?_, ?_, ?_, ?_, ?_⟩; exact gs'; exact os'; exact hm'; exact hc'; omega; exact hcM) | walk1)
      · rw [show (((ps.getD (mm + 1) ("", "")).1.length : Int) != 0) = true by simpa using hy]
        refine ite_pos rfl ?_
        iterate 15 walk1
        · rename_i hfirst
          rw [first_item _ _ hy] at hfirst
          have hsp : Txt.isspace ⟨#[cp]⟩ = true := by assumption
          dsimp only
          refine hcut (mm + 1) ?_ _ _ _ ⟨F7, fun q hq => N7 q (List.mem_cons_of_mem _ hq), gs', os'⟩ hm' rfl
          rw [hcutE]
          show (if cutHere cp ps (mm + 1) then some (mm + 1) else innerCut cp ps mm) = _
          rw [if_pos]
          unfold cutHere
          rw [hsp, hfirst]
          simp
        · rename_i hfirst
          rw [first_item _ _ hy] at hfirst
          have hfst : (Txt.isspace ⟨#[cp]⟩ && (ps.getD (mm + 1) ("", "")).1.cps[0]? == some cp) = false := by rw [hfirst, Bool.and_false]
          refine ite_neg (by decide) ?_
          iterate 15 walk1
          have ez : (((mm + 1 : Nat) : Int) - 1) = ((mm : Nat) : Int) := by omega
          rw [ez]
          refine sub_acc X7 hx7.1 hd7.1 (getItem_acc_int X7 hx7.1 hd7.1 ha7 (by omega) ?_)
          iterate 9 walk1
          have hs0 : (ps.getD mm ("", "")).2.length ≤ 1000 := by
            have hi' : mm < ps.length := by omega
            have := hS.2 (ps.getD mm ("", "")) (by rw [List.getD_eq_getElem?_getD, List.getElem?_eq_getElem hi']; exact List.getElem_mem hi')
            exact this.2
          refine PySem.P.truthy_str (by omega) ?_
          by_cases hz : (ps.getD mm ("", "")).2.length = 0
          · have hcM : innerCut cp ps (ps.length - 1) = innerCut cp ps mm := by
              rw [hcutE]
              have hbk : ((ps.getD mm ("", "")).2.cps.back? == some cp) = false := by
                have : (ps.getD mm ("", "")).2.cps = #[] := Array.eq_empty_of_size_eq_zero hz
                rw [this]; rfl
              show (if cutHere cp ps (mm + 1) then some (mm + 1) else innerCut cp ps mm) = _
              rw [if_neg]
              unfold cutHere
              rw [hfst, Nat.add_sub_cancel, hbk]
              simp
            rw [show (((ps.getD mm ("", "")).2.length : Int) != 0) = false by rw [hz]; rfl]
            refine ite_neg (by decide) ?_
            repeat (first | (refine hJN _ ⟨mm, Nat.lt_succ_self _, _, by assumption, by assumption, ?_, ?_, ?_, ?_, ?_, ?_⟩; exact gs'; exact os'; exact hm'; exact hc'; omega; exact hcM) | walk1)
          · rw [show (((ps.getD mm ("", "")).2.length : Int) != 0) = true by simpa using hz]
            refine ite_pos rfl ?_
            iterate 17 walk1
            · rename_i Fz Nz _ hlast
              rw [last_item _ _ hz] at hlast
              dsimp only
              refine hcut (mm + 1) ?_ _ _ _ ⟨Fz, fun q hq => Nz q (List.mem_cons_of_mem _ hq), gs', os'⟩ hm' rfl
              rw [hcutE]
              show (if cutHere cp ps (mm + 1) then some (mm + 1) else innerCut cp ps mm) = _
              rw [if_pos]
              unfold cutHere
              rw [Nat.add_sub_cancel, hlast, Bool.or_true]
            · rename_i hlast
              have hcM : innerCut cp ps (ps.length - 1) = innerCut cp ps mm := by
                rw [hcutE]
                rw [last_item _ _ hz] at hlast
                show (if cutHere cp ps (mm + 1) then some (mm + 1) else innerCut cp ps mm) = _
                rw [if_neg]
                unfold cutHere
                rw [hfst, Nat.add_sub_cancel, hlast]
                simp
              refine ite_neg (by decide) ?_
              repeat (first | (refine hJN _ ⟨mm, Nat.lt_succ_self _, _, by assumption, by assumption, ?_, ?_, ?_, ?_, ?_, ?_⟩; exact gs'; exact os'; exact hm'; exact hc'; omega; exact hcM) | walk1)
    · have hfst : (Txt.isspace ⟨#[cp]⟩ && (ps.getD (mm + 1) ("", "")).1.cps[0]? == some cp) = false := by
        have hsp : Txt.isspace ⟨#[cp]⟩ = false := by assumption
        rw [hsp, Bool.false_and]
      iterate 13 walk1
      have ez : (((mm + 1 : Nat) : Int) - 1) = ((mm : Nat) : Int) := by omega
      rw [ez]
      refine sub_acc X6 hx6.1 hd6.1 (getItem_acc_int X6 hx6.1 hd6.1 ha0 (by omega) ?_)
      iterate 9 walk1
      have hs0 : (ps.getD mm ("", "")).2.length ≤ 1000 := by
        have hi' : mm < ps.length := by omega
        have := hS.2 (ps.getD mm ("", "")) (by rw [List.getD_eq_getElem?_getD, List.getElem?_eq_getElem hi']; exact List.getElem_mem hi')
        exact this.2
      refine PySem.P.truthy_str (by omega) ?_
      by_cases hz : (ps.getD mm ("", "")).2.length = 0
      · have hcM : innerCut cp ps (ps.length - 1) = innerCut cp ps mm := by
          rw [hcutE]
          have hbk : ((ps.getD mm ("", "")).2.cps.back? == some cp) = false := by
            have : (ps.getD mm ("", "")).2.cps = #[] := Array.eq_empty_of_size_eq_zero hz
            rw [this]; rfl
          show (if cutHere cp ps (mm + 1) then some (mm + 1) else innerCut cp ps mm) = _
          rw [if_neg]
          unfold cutHere
          rw [hfst, Nat.add_sub_cancel, hbk]
          simp
        rw [show (((ps.getD mm ("", "")).2.length : Int) != 0) = false by rw [hz]; rfl]
        refine ite_neg (by decide) ?_
        repeat (first | (refine hJN _ ⟨mm, Nat.lt_succ_self _, _, by assumption, by assumption, ?_, ?_, ?_, ?_, ?_, ?_⟩; exact gs'; exact os'; exact hm'; exact hc'; omega; exact hcM) | walk1)
      · rw [show (((ps.getD mm ("", "")).2.length : Int) != 0) = true by simpa using hz]
        refine ite_pos rfl ?_
        repeat walk1
        · rename_i Fz Nz _ hlast
          rw [last_item _ _ hz] at hlast
          dsimp only
          refine hcut (mm + 1) ?_ _ _ _ ⟨Fz, fun q hq => Nz q (List.mem_cons_of_mem _ hq), gs', os'⟩ hm' rfl
          rw [hcutE]
          show (if cutHere cp ps (mm + 1) then some (mm + 1) else innerCut cp ps mm) = _
          rw [if_pos]
          unfold cutHere
          rw [Nat.add_sub_cancel, hlast, Bool.or_true]
        · rename_i hlast
          have hcM : innerCut cp ps (ps.length - 1) = innerCut cp ps mm := by
            rw [hcutE]
            rw [last_item _ _ hz] at hlast
            show (if cutHere cp ps (mm + 1) then some (mm + 1) else innerCut cp ps mm) = _
            rw [if_neg]
            unfold cutHere
            rw [hfst, Nat.add_sub_cancel, hlast]
            simp
          refine ite_neg (by decide) ?_
          repeat (first | (refine hJN _ ⟨mm, Nat.lt_succ_self _, _, by assumption, by assumption, ?_, ?_, ?_, ?_, ?_, ?_⟩; exact gs'; exact os'; exact hm'; exact hc'; omega; exact hcM) | walk1)
end
end Mine
end
section
open PySem PySem.W PyProof.Rows PySem.Calls
set_option Elab.async false
set_option maxRecDepth 100000
namespace Mine
/-- how a body ends that has changed the page -/
structure EndAt (w : World) (b : Heap) (L p dp l x dx : Addr) (Wd : Int) (signs : Str) (k : Nat → Nat) (lines : List Str) (i : Int) (ps : List (Str × Str)) (s s' : Shared) : Prop where
  ex : Ex9 fun (m : Str → Option Value) (lv : List (Str × Tok)) (ln : Nat) (items : Array Value) (n c it : Nat) (o1 o2 : Obj) => A4 (Fr b L s'.heap m) (News b L s'.heap [(157, o1), (p, instObj 111 dp), (dp, pgD w.params Wd signs l x k), (l, PySem.W.listOf (strValues lv).toArray ln), (x, accO dx items n), (dx, isD w.params c i it), (164, o2)]) (lv.map (·.1) = lines) (Pairs s'.heap items ps)
  tab : TabOk s'.heap
  os : s'.os = s.os
  gs : AllBare s.gens → AllBare s'.gens
theorem accLen_ge (i : Int) (ps : List (Str × Str)) : i ≤ accLen i ps := by
  have key : ∀ l : List (Str × Str), 0 ≤ (l.map fun p => ((p.1.length : Int) + p.2.length)).sum := by
    intro l
    induction l with
    | nil => simp
    | cons p r ih => rw [List.map_cons, List.sum_cons]; (first | lia | omega)
  have := key ps
  unfold accLen
  (first | lia | omega)
theorem Pairs.kept_base {h h' : Heap} {items : Array Value} {ps : List (Str × Str)} (P : Pairs h items ps) (k : ∀ a o, h.get? a = some o → h'.get? a = some o) : Pairs h' items ps := by
  obtain ⟨Ts, ft, pt, hs, hp⟩ := P.ex
  exact ⟨Ts, ft, pt, hs, fun j p e => ⟨(hp j p e).1, tuple_keeps k (hp j p e).2⟩⟩
section
variable {w : World} {b : Heap} {L : Addr} {s : Shared} {A : Around} {Q : Flow → Shared → Prop} {mg mb : Str → Option Value} {p dp l x dx : Addr} {Wd : Int} {signs : Str} {k : Nat → Nat} {lv : List (Str × Tok)} {ln n c it : Nat} {i : Int} {items : Array Value} {ps : List (Str × Str)} {m : Str → Option Value} {o1 o2 oT oI : Obj} {T7 I1 : Addr}
theorem tup_apart {h : Heap} {vs : Array Value} {nn : Nat} (hp : h.get? p = some (instObj 111 dp)) (hdp : h.get? dp = some (pgD w.params Wd signs l x k)) (hl : h.get? l = some (PySem.W.listOf (strValues lv).toArray ln)) (hx : h.get? x = some (accO dx items n)) (hd : h.get? dx = some (isD w.params c i it)) (hTab : TabOk h)
    (hT : h.get? T7 = some oT) (cT : oT.cls = .type "tuple") (dT : oT.data = .seq vs nn) : T7 ≠ p ∧ T7 ≠ dp ∧ T7 ≠ l ∧ T7 ≠ x ∧ T7 ≠ dx ∧ T7 ≠ 157 ∧ T7 ≠ 164 := by
  have tt := tab_ne hTab hT (fun _ e => by rw [dT] at e; cases e)
  refine ⟨?_, ?_, ?_, ?_, ?_, tt⟩ <;> intro z <;> subst z
  · rw [hT] at hp; cases hp; cases dT
  · rw [hT] at hdp; cases hdp; cases dT
  · rw [hT] at hl; cases hl; simp at cT
  · rw [hT] at hx; cases hx; cases cT
  · rw [hT] at hd; cases hd; cases dT
noncomputable def chunkPush : List Stmt := match chunkElse with
  | _ :: _ :: r => r
  | _ => []
set_option maxHeartbeats 1000000 in
theorem push_tail {f q : Str} {ft qt : Tok} {s0 : Shared} (X' : (KK w.params).In b) (T' : TR mg mb b) (F : Fr b L s.heap m) (hm : m (Str.ofString "self") = some (.ref p)) (hmf : m (Str.ofString "fws") = some (.str f ft)) (hmq : m (Str.ofString "part") = some (.str q qt))
    (N : News b L s.heap [(157, o1), (p, instObj 111 dp), (dp, pgD w.params Wd signs l x k), (l, PySem.W.listOf (strValues lv).toArray ln), (x, accO dx items n), (dx, isD w.params c i it), (164, o2)])
    (hPb : Pairs b items ps) (hTab : TabOk s.heap) (hS : Small (ps ++ [(f, q)])) (hA : A.depth < 700) (hu : A.units < 7500) (hos : s.os = s0.os) (hgs : AllBare s0.gens → AllBare s.gens)
    (hQ : ∀ s', EndAt w b L p dp l x dx Wd signs k (lv.map (·.1)) i (ps ++ [(f, q)]) s0 s' → Q (.ret .none) s') :
    wpAny (MM w) (A.deeper (chunkEnv L)) (execs chunkPush (chunkEnv L)) Q (fun _ _ => False) s := by
  have hsz : items.size < 1000 := by
    have h3 := hS.1
    obtain ⟨_, _, _, e, _⟩ := hPb.ex
    rw [List.length_append, List.length_singleton] at h3
    (first | lia | omega)
  have NE := page_pne (N (p, instObj 111 dp) (by k_mem)).1 (N (dp, pgD w.params Wd signs l x k) (by k_mem)).1 (N (l, PySem.W.listOf (strValues lv).toArray ln) (by k_mem)).1 (N (x, accO dx items n) (by k_mem)).1 (N (dx, isD w.params c i it) (by k_mem)).1 hTab
  iterate 6 walk1
  have hx1 := N (x, accO dx items n) (by k_mem)
  have hd1 := N (dx, isD w.params c i it) (by k_mem)
  have X1 : (KK w.params).In s.heap := X'.keeps F.keep
  refine method_acc X1 hx1.1 hd1.1 (by k_is) (by k_is) (by decide) rfl ?_
  iterate 6 walk1
  refine ⟨X1, wpAny_call (push_spec X' T' F.keep hx1.1 hd1.1 hx1.2.2 hd1.2.2 (by first | exact dd1 hA (by decide) | (simp only [depth_deeper]; (first | lia | omega))) (by (first | lia | omega)) (fun h7 t7 T7 k7 f7 hT7 hx7 => ?_))⟩
  have F7 := calledF F N k7 (inW1 (p1 := accO dx items n) (by k_mem))
  have N7 : News b L h7 [(x, accO dx (items.push (.ref T7)) (n + 1)), (157, o1), (p, instObj 111 dp), (dp, pgD w.params Wd signs l x k), (l, PySem.W.listOf (strValues lv).toArray ln), (dx, isD w.params c i it), (164, o2)] := nu (accO dx items n) N (by k_mem) hx7 (nk1 N k7 (by k_mem) NE.x_1.symm (nk1 N k7 (by k_mem) NE.p_x (nk1 N k7 (by k_mem) NE.dp_x (nk1 N k7 (by k_mem) NE.l_x (nk1 N k7 (by k_mem) NE.x_dx.symm (nk1 N k7 (by k_mem) NE.x_2.symm (nwn)))))))
  have hC := xne_code X1 hx1.1 hd1.1
  have hP7 : Pairs h7 (items.push (.ref T7)) (ps ++ [(f, q)]) := by
    obtain ⟨Ts, f', p', e1, e2⟩ := hPb.ex
    exact Pairs.snoc ⟨Ts, f', p', e1, fun k p e => ⟨(e2 k p e).1, tuple_keeps F7.keep (e2 k p e).2⟩⟩ hT7
  have tab7 : TabOk h7 := tab_kept hTab k7 (nin1 NE.x_1.symm) (nin1 NE.x_2.symm) (nin1 fun z => hC.1 (z ▸ List.Mem.head _)) (nin1 fun z => hC.2 (z ▸ List.Mem.head _))
  clear F N
  dsimp only
  walk1
  walk1
  refine hQ _ ⟨⟨m, lv, ln, items.push (.ref T7), n + 1, c, it, o1, o2, F7, ?_, rfl, hP7⟩, tab7, hos, hgs⟩
  repeat (first | exact nwn | refine nws N7 (by k_mem) ?_)
set_option maxHeartbeats 1000000 in
theorem else_part {f q : Str} {ft qt : Tok} {nn : Nat} (X' : (KK w.params).In b) (T' : TR mg mb b) {bm : Addr} {ob : Obj} (BM : BMod b mainGlobals mg bm ob) (F : Fr b L s.heap m) (hm : m (Str.ofString "self") = some (.ref p))
    (N : News b L s.heap [(157, o1), (p, instObj 111 dp), (dp, pgD w.params Wd signs l x k), (l, PySem.W.listOf (strValues lv).toArray ln), (x, accO dx (items.push (.ref T7)) n), (dx, isD w.params c i it), (164, o2), (T7, oT)])
    (hPb : Pairs b items ps) (cT : oT.cls = .type "tuple") (dT : oT.data = .seq #[.str f ft, .str q qt] nn) (hTab : TabOk s.heap)
    (hS : Small (ps ++ [(f, q)])) (hh : A.handled = none) (hA : A.depth < 700) (hu : A.units < 7500) (hlv : lv.length ≤ 1000) (hi : i ≤ 100000) (hi0 : 0 ≤ i)
    (hnl : 0 < i → ∃ psi q', ps = psi ++ [q'] ∧ q' ≠ ((" " : Str), ("" : Str)) ∧ PyData.strOk q'.1 = true ∧ PyData.strOk q'.2 = true)
    (hQ : ∀ s', (if 0 < i then EndAt w b L p dp l x dx Wd signs k (lv.map (·.1) ++ [accStr ps]) 0 [(if f.length = 0 then " " else f, q)] s s' else EndAt w b L p dp l x dx Wd signs k (lv.map (·.1)) i (ps ++ [(f, q)]) s s') → Q (.ret .none) s') :
    wpAny (MM w) (A.deeper (chunkEnv L)) (execs chunkElse (chunkEnv L)) Q (fun _ _ => False) s := by
  have hsz : items.size < 1000 := by
    have h3 := hS.1
    obtain ⟨_, _, _, e, _⟩ := hPb.ex
    rw [List.length_append, List.length_singleton] at h3
    (first | lia | omega)
  have NE := page_pne (N (p, instObj 111 dp) (by k_mem)).1 (N (dp, pgD w.params Wd signs l x k) (by k_mem)).1 (N (l, PySem.W.listOf (strValues lv).toArray ln) (by k_mem)).1 (N (x, accO dx (items.push (.ref T7)) n) (by k_mem)).1 (N (dx, isD w.params c i it) (by k_mem)).1 hTab
  iterate 6 walk1
  have X1 : (KK w.params).In s.heap := X'.keeps F.keep
  have hx1 := N (x, accO dx (items.push (.ref T7)) n) (by k_mem)
  have hd1 := N (dx, isD w.params c i it) (by k_mem)
  refine method_acc X1 hx1.1 hd1.1 (by k_is) (by k_is) (by decide) rfl ?_
  iterate 1 walk1
  refine wpAny_call (pop_spec X' T' F.keep hx1.1 hd1.1 hx1.2.2 hd1.2.2 (by first | exact dd1 hA (by decide) | (simp only [depth_deeper]; (first | lia | omega))) (Nat.lt_of_le_of_lt (Nat.le_of_lt hsz) (by decide)) (fun h3 tk3 k3 hx3 => ?_))
  have NT := tup_apart (N (p, instObj 111 dp) (by k_mem)).1 (N (dp, pgD w.params Wd signs l x k) (by k_mem)).1 (N (l, PySem.W.listOf (strValues lv).toArray ln) (by k_mem)).1 (N (x, accO dx (items.push (.ref T7)) n) (by k_mem)).1 (N (dx, isD w.params c i it) (by k_mem)).1 hTab (N (T7, oT) (by k_mem)).1 cT dT
  have NTx : T7 ≠ x := NT.2.2.2.1
  have F3 := calledF F N k3 (inW1 (p1 := accO dx (items.push (.ref T7)) n) (by k_mem))
  have N3 : News b L h3 [(x, accO dx items (n + 1)), (p, instObj 111 dp), (dp, pgD w.params Wd signs l x k), (l, PySem.W.listOf (strValues lv).toArray ln), (dx, isD w.params c i it), (157, o1), (164, o2), (T7, oT)] := nu (accO dx (items.push (.ref T7)) n) N (by k_mem) hx3 (nk1 N k3 (by k_mem) NE.p_x (nk1 N k3 (by k_mem) NE.dp_x (nk1 N k3 (by k_mem) NE.l_x (nk1 N k3 (by k_mem) NE.x_dx.symm (nk1 N k3 (by k_mem) NE.x_1.symm (nk1 N k3 (by k_mem) NE.x_2.symm (nk1 N k3 (by k_mem) (by first | assumption | exact Ne.symm (by assumption)) (nwn))))))))
  have tT : h3.IsTuple T7 #[.str f ft, .str q qt] := ⟨oT, (N3 (T7, oT) (by k_mem)).1, cT, nn, dT⟩
  have hC := xne_code X1 hx1.1 hd1.1
  have tab3 : TabOk h3 := tab_kept hTab k3 (nin1 NE.x_1.symm) (nin1 NE.x_2.symm) (nin1 fun z => hC.1 (z ▸ List.Mem.head _)) (nin1 fun z => hC.2 (z ▸ List.Mem.head _))
  have tabT : ∀ h5, (KK w.params).In h5 → h5.get? 157 = some o1 → h5.get? 164 = some o2 → TabOk h5 := fun h5 X5 e1 e2 => tab_of (X'.keeps F3.keep) X5 tab3 (fun o e => by rw [(N3 (157, o1) (by k_mem)).1] at e; cases e; exact e1) (fun o e => by rw [(N3 (164, o2) (by k_mem)).1] at e; cases e; exact e2)
  clear F N k3 hx1 hd1 X1
  dsimp only
  refine unpackN_ F3 N3 tT hh rfl rfl (fun h4 F4 N4 => ?_)
  have tT4 : h4.IsTuple T7 #[.str f ft, .str q qt] := ⟨oT, (N4 (T7, oT) (by k_mem)).1, cT, nn, dT⟩
  clear F3 N3 tT
  iterate 15 walk1
  rename_i h5 F5 N5
  have hx5 := N5 (x, accO dx items (n + 1)) (by k_mem)
  have hd5 := N5 (dx, isD w.params c i it) (by k_mem)
  refine getAttr_acc (X'.keeps F5.keep) hx5.1 hd5.1 (find_init w c it i) rfl ?_
  iterate 3 walk1
  by_cases hpos : 0 < i
  · refine ite_pos (decide_eq_true hpos) ?_
    iterate 7 walk1
    obtain ⟨psi, q', rfl, hq1, hq2, hq3⟩ := hnl hpos
    have hS2 : Small (psi ++ [q']) := ⟨by have := hS.1; rw [List.length_append] at this; (first | lia | omega), fun p hp => hS.2 p (List.mem_append_left _ hp)⟩
    have hlen : 0 < accLen i (psi ++ [q']) := Int.lt_of_lt_of_le hpos (accLen_ge _ _)
    have hp5 := N5 (p, instObj 111 dp) (by k_mem)
    have hdp5 := N5 (dp, pgD w.params Wd signs l x k) (by k_mem)
    have hl5 := N5 (l, PySem.W.listOf (strValues lv).toArray ln) (by k_mem)
    have X5 : (KK w.params).In h5 := X'.keeps F5.keep
    have tab5 : TabOk h5 := tabT _ X5 (N5 (157, o1) (by k_mem)).1 (N5 (164, o2) (by k_mem)).1
    refine wpAny_call (newline_spec X' T' BM F5.keep hp5.1 hdp5.1 hl5.1 hx5.1 hd5.1 hp5.2.2 hdp5.2.2 hl5.2.2 hx5.2.2 hd5.2.2 (by first | exact dd1 hA (by decide) | (simp only [depth_deeper]; (first | lia | omega))) hh (by first | exact du1 hu (by decide) | (simp only [units_deeper]; (first | lia | omega))) (hPb.kept_base F5.keep) hS2 hq1 hq2 hq3 tab5 (N5 (157, o1) (by k_mem)).2.2 (N5 (164, o2) (by k_mem)).2.2 (Int.le_of_lt hlen) (fun _ => by rw [decide_eq_false (by (first | lia | omega))]; rfl) hlv hi (fun s6 lv6 ln6 n6 c6 it6 k6 hl6 hlv6 hx6 hd6 tab6 os6 gs6 => ?_))
    obtain ⟨o1', o2', e1', d1', e2', d2'⟩ := tab_objs tab6
    have F6 := calledF F5 N5 k6 (inW5 (p1 := PySem.W.listOf (strValues lv).toArray ln) (p2 := accO dx items (n + 1)) (p3 := isD w.params c i it) (p4 := o1) (p5 := o2) (by k_mem) (by k_mem) (by k_mem) (by k_mem) (by k_mem))
    have N6 : News b L s6.heap [(157, o1'), (l, PySem.W.listOf (strValues lv6).toArray ln6), (x, accO dx #[] n6), (dx, isD w.params c6 0 it6), (164, o2'), (p, instObj 111 dp), (dp, pgD w.params Wd signs l x k)] := nu (o1) N5 (by k_mem) e1' (nu (PySem.W.listOf (strValues lv).toArray ln) N5 (by k_mem) hl6 (nu (accO dx items (n + 1)) N5 (by k_mem) hx6 (nu (isD w.params c i it) N5 (by k_mem) hd6 (nu (o2) N5 (by k_mem) e2' (nk5 N5 k6 (by k_mem) NE.p_l NE.p_x NE.p_dx NE.p_1 NE.p_2 (nk5 N5 k6 (by k_mem) NE.dp_l NE.dp_x NE.dp_dx NE.dp_1 NE.dp_2 (nwn)))))))
    have X6 : (KK w.params).In s6.heap := X'.keeps F6.keep
    clear F5 N5
    dsimp only
    iterate 5 walk1
    have hf9 : f.length ≤ 1000 := (hS.2 (f, q) (by k_mem)).1
    refine PySem.P.truthy_str (by (first | lia | omega)) ?_
    by_cases hf0 : f.length = 0
    · rw [show ((f.length : Int) != 0) = false by rw [hf0]; rfl]
      iterate 8 walk1
      rename_i h8 F8 N8
      have N9 : News b L h8 [(157, o1'), (p, instObj 111 dp), (dp, pgD w.params Wd signs l x k), (l, PySem.W.listOf (strValues lv6).toArray ln6), (x, accO dx #[] n6), (dx, isD w.params c6 0 it6), (164, o2')] := by repeat (first | exact nwn | refine nws N8 (by k_mem) ?_)
      have P0 : Pairs b #[] [] := ⟨fun _ => 0, fun _ => 0, fun _ => 0, rfl, fun k p e => by simp at e⟩
      have X8 : (KK w.params).In h8 := X'.keeps F8.keep
      have tab8 : TabOk h8 := tab_of X6 X8 tab6 (fun o e => by rw [e1'] at e; cases e; exact (N8 (157, o1') (by k_mem)).1) (fun o e => by rw [e2'] at e; cases e; exact (N8 (164, o2') (by k_mem)).1)
      refine push_tail (f := " ") (q := q) (s0 := s) X' T' F8 hm rfl rfl N9 P0 tab8 ⟨by simp, fun p hp => ?_⟩ (by (first | lia | omega)) (by (first | lia | omega)) os6 gs6 (fun s' hE => hQ s' ?_)
      · obtain rfl : p = ((" " : Str), q) := by simpa using hp
        exact ⟨show (" " : Str).length ≤ 1000 by decide, (hS.2 (f, q) (by k_mem)).2⟩
      · rw [if_pos hpos, if_pos hf0]
        rw [hlv6, if_pos hlen] at hE
        exact hE
    · rw [show ((f.length : Int) != 0) = true by simpa using hf0]
      iterate 4 walk1
      have N9 : News b L s6.heap [(157, o1'), (p, instObj 111 dp), (dp, pgD w.params Wd signs l x k), (l, PySem.W.listOf (strValues lv6).toArray ln6), (x, accO dx #[] n6), (dx, isD w.params c6 0 it6), (164, o2')] := by repeat (first | exact nwn | refine nws N6 (by k_mem) ?_)
      have P0 : Pairs b #[] [] := ⟨fun _ => 0, fun _ => 0, fun _ => 0, rfl, fun k p e => by simp at e⟩
      refine push_tail (f := f) (q := q) (s0 := s) X' T' F6 hm rfl rfl N9 P0 tab6 ⟨by simp, fun p hp => ?_⟩ (by (first | lia | omega)) (by (first | lia | omega)) os6 gs6 (fun s' hE => hQ s' ?_)
      · obtain rfl : p = (f, q) := by simpa using hp
        exact hS.2 (f, q) (by simp)
      · rw [if_pos hpos, if_neg hf0]
        rw [hlv6, if_pos hlen] at hE
        exact hE
  · refine ite_neg (by simpa using hpos) ?_
    refine wpAny_execs_nil ?_
    dsimp only
    have X5 : (KK w.params).In h5 := X'.keeps F5.keep
    have tab5 : TabOk h5 := tabT _ X5 (N5 (157, o1) (by k_mem)).1 (N5 (164, o2) (by k_mem)).1
    have N9 : News b L h5 [(157, o1), (p, instObj 111 dp), (dp, pgD w.params Wd signs l x k), (l, PySem.W.listOf (strValues lv).toArray ln), (x, accO dx items (n + 1)), (dx, isD w.params c i it), (164, o2)] := by repeat (first | exact nwn | refine nws N5 (by k_mem) ?_)
    refine push_tail (f := f) (q := q) (s0 := s) X' T' F5 hm rfl rfl N9 hPb tab5 hS (by (first | lia | omega)) (by (first | lia | omega)) rfl (fun G => G) (fun s' hE => hQ s' ?_)
    rw [if_neg hpos]
    exact hE
end
end Mine
end
section
open PySem PySem.W PyProof.Rows PySem.Calls
set_option Elab.async false
set_option maxRecDepth 100000
namespace Mine
noncomputable def chunkTail : List Stmt := match chunkIf with
  | _ :: r => r
  | _ => []
theorem Pairs.take {h : Heap} {items : Array Value} {ps : List (Str × Str)} (P : Pairs h items ps) (j : Nat) : Pairs h (items.toList.take j).toArray (ps.take j) := by
  obtain ⟨Ts, ft, pt, hs, hp⟩ := P.ex
  refine ⟨Ts, ft, pt, by simp; (first | lia | omega), fun k p e => ?_⟩
  have hk : k < j := by
    obtain ⟨hh, _⟩ := List.getElem?_eq_some_iff.mp e
    rw [List.length_take] at hh; (first | lia | omega)
  rw [List.getElem?_take, if_pos hk] at e
  obtain ⟨a, t⟩ := hp k p e
  refine ⟨?_, t⟩
  rw [List.getElem?_toArray, List.getElem?_take, if_pos hk, Array.getElem?_toList]
  exact a
theorem Pairs.drop {h : Heap} {items : Array Value} {ps : List (Str × Str)} (P : Pairs h items ps) (j : Nat) : Pairs h (items.toList.drop j).toArray (ps.drop j) := by
  obtain ⟨Ts, ft, pt, hs, hp⟩ := P.ex
  refine ⟨fun k => Ts (j + k), fun k => ft (j + k), fun k => pt (j + k), by simp; (first | lia | omega), fun k p e => ?_⟩
  rw [List.getElem?_drop] at e
  obtain ⟨a, t⟩ := hp (j + k) p e
  refine ⟨?_, t⟩
  rw [List.getElem?_toArray, List.getElem?_drop, Array.getElem?_toList]
  exact a
theorem Small.take {ps : List (Str × Str)} (h : Small ps) (j : Nat) : Small (ps.take j) :=
  ⟨by rw [List.length_take]; have := h.1; (first | lia | omega), fun p hp => h.2 p (List.mem_of_mem_take hp)⟩
section
variable {w : World} {b : Heap} {L : Addr} {s : Shared} {A : Around} {Q : Flow → Shared → Prop} {mg mb : Str → Option Value} {p dp l x dx : Addr} {Wd : Int} {signs : Str} {k : Nat → Nat} {lv : List (Str × Tok)} {ln n c it : Nat} {i : Int} {items : Array Value} {ps : List (Str × Str)} {m : Str → Option Value} {o1 o2 oT oI : Obj} {T7 I1 : Addr}
set_option maxHeartbeats 1000000 in
theorem cut_part {j : Nat} {tj : Tok} (X' : (KK w.params).In b) (T' : TR mg mb b) {bm : Addr} {ob : Obj} (BM : BMod b mainGlobals mg bm ob) (F : Fr b L s.heap m) (hm : m (Str.ofString "self") = some (.ref p)) (hmi : m (Str.ofString "i") = some (.int j tj))
    (N : News b L s.heap [(157, o1), (p, instObj 111 dp), (dp, pgD w.params Wd signs l x k), (l, PySem.W.listOf (strValues lv).toArray ln), (x, accO dx items n), (dx, isD w.params c i it), (164, o2), (T7, oT)])
    (hPF : ∀ h', (∀ a o, b.get? a = some o → h'.get? a = some o) → h'.get? T7 = some oT → Pairs h' items ps) (hTab : TabOk s.heap) {vs : Array Value} {nn : Nat} (cT : oT.cls = .type "tuple") (dT : oT.data = .seq vs nn)
    (hS : Small ps) (hj : j ≤ ps.length) (hh : A.handled = none) (hA : A.depth < 700) (hu : A.units < 7500) (hlv : lv.length ≤ 1000)
    (hQ : ∀ s', EndAt w b L p dp l x dx Wd signs k (lv.map (·.1) ++ [accStr (ps.take j)]) 0 (ps.drop j) s s' → Q .next s') :
    wpAny (MM w) (A.deeper (chunkEnv L)) (execs chunkTail (chunkEnv L)) Q (fun _ _ => False) s := by
  have hP0 := hPF _ F.keep (N (T7, oT) (by k_mem)).1
  have hsz : items.size = ps.length := by
    obtain ⟨_, _, _, e, _⟩ := hP0.ex
    exact e
  have hs1 := hS.1
  have NE := page_pne (N (p, instObj 111 dp) (by k_mem)).1 (N (dp, pgD w.params Wd signs l x k) (by k_mem)).1 (N (l, PySem.W.listOf (strValues lv).toArray ln) (by k_mem)).1 (N (x, accO dx items n) (by k_mem)).1 (N (dx, isD w.params c i it) (by k_mem)).1 hTab
  have NT := tup_apart (N (p, instObj 111 dp) (by k_mem)).1 (N (dp, pgD w.params Wd signs l x k) (by k_mem)).1 (N (l, PySem.W.listOf (strValues lv).toArray ln) (by k_mem)).1 (N (x, accO dx items n) (by k_mem)).1 (N (dx, isD w.params c i it) (by k_mem)).1 hTab (N (T7, oT) (by k_mem)).1 cT dT
  have NTl : T7 ≠ l := NT.2.2.1
  have NTx : T7 ≠ x := NT.2.2.2.1
  have NTd : T7 ≠ dx := NT.2.2.2.2.1
  have NT2 : T7 ≠ 164 := NT.2.2.2.2.2.2
  iterate 6 walk1
  have hx1 := N (x, accO dx items n) (by k_mem)
  have hd1 := N (dx, isD w.params c i it) (by k_mem)
  have X1 : (KK w.params).In s.heap := X'.keeps F.keep
  refine method_acc X1 hx1.1 hd1.1 (by k_is) (by k_is) (by decide) rfl ?_
  iterate 4 walk1
  refine ⟨X1, wpAny_call (pop_from_spec X' T' F.keep hx1.1 hd1.1 hx1.2.2 hd1.2.2 (by first | exact dd1 hA (by decide) | (simp only [depth_deeper]; (first | lia | omega))) (by (first | lia | omega)) (by (first | lia | omega)) (fun h3 tk3 l2 n3 k3 f3 hl3 hx3 => ?_))⟩
  obtain ⟨lo2, el2, cl2, ln2, dl2⟩ := hl3
  have hC := xne_code X1 hx1.1 hd1.1
  have tab3 : TabOk h3 := tab_kept hTab k3 (nin1 NE.x_1.symm) (nin1 NE.x_2.symm) (nin1 fun z => hC.1 (z ▸ List.Mem.head _)) (nin1 fun z => hC.2 (z ▸ List.Mem.head _))
  have l2n : ∀ q ∈ [(157, o1), (p, instObj 111 dp), (dp, pgD w.params Wd signs l x k), (l, PySem.W.listOf (strValues lv).toArray ln), (x, accO dx items n), (dx, isD w.params c i it), (164, o2), (T7, oT)], q.1 ≠ l2 := fun q hq z => by
    have := (N q hq).1
    rw [z, f3] at this; cases this
  have n157 : (157 : Addr) ≠ l2 := l2n (157, o1) (by k_mem)
  have n164 : (164 : Addr) ≠ l2 := l2n (164, o2) (by k_mem)
  have nx2 : x ≠ l2 := l2n (x, accO dx items n) (by k_mem)
  have nd2 : dx ≠ l2 := l2n (dx, isD w.params c i it) (by k_mem)
  have nl2 : l ≠ l2 := l2n (l, PySem.W.listOf (strValues lv).toArray ln) (by k_mem)
  have F3 := calledF F N k3 (inW1 (p1 := accO dx items n) (by k_mem))
  have N3 : News b L h3 [(x, accO dx (items.toList.take j).toArray n3), (p, instObj 111 dp), (dp, pgD w.params Wd signs l x k), (l, PySem.W.listOf (strValues lv).toArray ln), (dx, isD w.params c i it), (157, o1), (164, o2), (T7, oT)] := nu (accO dx items n) N (by k_mem) hx3 (nk1 N k3 (by k_mem) NE.p_x (nk1 N k3 (by k_mem) NE.dp_x (nk1 N k3 (by k_mem) NE.l_x (nk1 N k3 (by k_mem) NE.x_dx.symm (nk1 N k3 (by k_mem) NE.x_1.symm (nk1 N k3 (by k_mem) NE.x_2.symm (nk1 N k3 (by k_mem) (by first | assumption | exact Ne.symm (by assumption)) (nwn))))))))
  have N3 := newsPlus F f3 N3 el2
  have tabT : ∀ h5, (KK w.params).In h5 → h5.get? 157 = some o1 → h5.get? 164 = some o2 → TabOk h5 := fun h5 X5 e1 e2 => tab_of (X'.keeps F3.keep) X5 tab3 (fun o e => by rw [(N3 (157, o1) (by k_mem)).1] at e; cases e; exact e1) (fun o e => by rw [(N3 (164, o2) (by k_mem)).1] at e; cases e; exact e2)
  clear F N k3 hx1 hd1 X1
  dsimp only
  iterate 19 walk1
  rename_i h4 F4 N4
  have X9 : (KK w.params).In h4 := X'.keeps F4.keep
  have hx9 := N4 (x, accO dx (items.toList.take j).toArray n3) (by simp)
  have hd9 := N4 (dx, isD w.params c i it) (by simp)
  have tab9 := tabT h4 X9 (N4 (157, o1) (by k_mem)).1 (N4 (164, o2) (by k_mem)).1
  have P9 := (hPF h4 F4.keep (N4 (T7, oT) (by k_mem)).1).take j
  refine kso_call (f := 169) (K := KK w.params) (by rw [cLine_is]; show A.units + 3 + 1 + 1 < 9900; (first | lia | omega)) X9 (acc_inst hx9.1 hd9.1) (by k_is) (by k_is) (wpAny_call ?_)
  refine str_spec X' T' BM F4.keep hx9.1 hd9.1 hx9.2.2 hd9.2.2 (by first | exact dd2 hA (by decide) | (simp only [depth_in1, depth_deeper]; (first | lia | omega))) hh P9 (hS.take j) tab9 (N4 (164, o2) (by k_mem)).2.2 (fun s10 t10 k10 tab10 os10 gs10 => ?_)
  obtain ⟨o13, o23, e13, d13, e23, d23⟩ := tab_objs tab10
  have F10 := calledF F4 N4 k10 (inW1 (p1 := o2) (by k_mem))
  have N10 : News b L s10.heap [(164, o23), (l, PySem.W.listOf (strValues lv).toArray ln), (p, instObj 111 dp), (dp, pgD w.params Wd signs l x k), (x, accO dx (items.toList.take j).toArray n3), (dx, isD w.params c i it), (157, o1), (T7, oT), (l2, lo2)] := nu (o2) N4 (by k_mem) e23 (nk1 N4 k10 (by k_mem) NE.l_2 (nk1 N4 k10 (by k_mem) NE.p_2 (nk1 N4 k10 (by k_mem) NE.dp_2 (nk1 N4 k10 (by k_mem) NE.x_2 (nk1 N4 k10 (by k_mem) NE.dx_2 (nk1 N4 k10 (by k_mem) (by decide) (nk1 N4 k10 (by k_mem) (by first | assumption | exact Ne.symm (by assumption)) (nk1 N4 k10 (by k_mem) (by first | assumption | exact Ne.symm (by assumption)) (nwn)))))))))
  clear F4 N4 hx9 hd9
  dsimp only [PySem.W.StrBack]
  walk1
  refine append_K (its := (strValues lv).toArray) (n := ln) F10 N10 (.tail (by first | exact NE.l_2 | exact NE.l_2.symm) (.head (ac (by first | exact NE.p_l | exact NE.p_l.symm) (ac (by first | exact NE.dp_l | exact NE.dp_l.symm) (ac (by first | exact NE.l_x | exact NE.l_x.symm) (ac (by first | exact NE.l_dx | exact NE.l_dx.symm) (ac (by first | exact NE.l_1 | exact NE.l_1.symm) (ac (by first | exact NTl | exact NTl.symm) (ac (by first | exact nl2 | exact nl2.symm) (an)))))))))) (fun h11 F11 N11 => ?_) (by rw [List.size_toArray]; simp only [strValues, List.length_map]; exact Nat.le_trans hlv (by decide))
  have tabT2 : TabOk h11 := tab_of (X'.keeps F10.keep) (X'.keeps F11.keep) tab10 (fun o e => by rw [(N10 (157, o1) (by k_mem)).1] at e; rw [← e]; exact (N11 (157, o1) (by k_mem)).1) (fun o e => by rw [(N10 (164, o23) (by k_mem)).1] at e; rw [← e]; exact (N11 (164, o23) (by k_mem)).1)
  clear F10 N10
  iterate 6 walk1
  have hxT := N11 (x, accO dx (items.toList.take j).toArray n3) (by simp)
  have hdT := N11 (dx, isD w.params c i it) (by simp)
  have hlT := N11 (l, PySem.W.listOf ((strValues lv).toArray.push (.str (accStr (ps.take j)) t10)) (ln + 1)) (by simp)
  have hl2T := N11 (l2, lo2) (by simp)
  have XT : (KK w.params).In h11 := X'.keeps F11.keep
  refine method_acc XT hxT.1 hdT.1 (by k_is) (by k_is) (by decide) rfl ?_
  iterate 4 walk1
  refine ⟨XT, wpAny_call (reset1_spec X' T' F11.keep hxT.1 hdT.1 hxT.2.2 hdT.2.2 (by first | exact dd1 hA (by decide) | (simp only [depth_deeper]; (first | lia | omega))) ⟨lo2, hl2T.1, cl2, ln2, dl2⟩ hl2T.2.2 (by simp; (first | lia | omega)) (by simp; (first | lia | omega)) (fun hz tz nz cz iz kz hxz hdz => ?_))⟩
  have hC2 := xne_code XT hxT.1 hdT.1
  have tabZ : TabOk hz := tab_kept tabT2 kz (nin2 NE.x_1.symm NE.dx_1.symm) (nin2 NE.x_2.symm NE.dx_2.symm) hC2.1 hC2.2
  have FZ := calledF F11 N11 kz (inW2 (p1 := accO dx (items.toList.take j).toArray n3) (p2 := isD w.params c i it) (by k_mem) (by k_mem))
  have NZ : News b L hz [(x, accO dx (items.toList.drop j).toArray nz), (dx, isD w.params cz 0 iz), (157, o1), (p, instObj 111 dp), (dp, pgD w.params Wd signs l x k), (l, PySem.W.listOf ((strValues lv).toArray.push (.str (accStr (ps.take j)) t10)) (ln + 1)), (164, o23), (T7, oT)] := nu (accO dx (items.toList.take j).toArray n3) N11 (by k_mem) hxz (nu (isD w.params c i it) N11 (by k_mem) hdz (nk2 N11 kz (by k_mem) NE.x_1.symm NE.dx_1.symm (nk2 N11 kz (by k_mem) NE.p_x NE.p_dx (nk2 N11 kz (by k_mem) NE.dp_x NE.dp_dx (nk2 N11 kz (by k_mem) NE.l_x NE.l_dx (nk2 N11 kz (by k_mem) NE.x_2.symm NE.dx_2.symm (nk2 N11 kz (by k_mem) (by first | assumption | exact Ne.symm (by assumption)) (by first | assumption | exact Ne.symm (by assumption)) (nwn))))))))
  dsimp only
  refine wpAny_execs_nil ?_
  have PZ := (hPF hz FZ.keep (NZ (T7, oT) (by k_mem)).1).drop j
  have es : ((strValues lv).toArray.push (.str (accStr (ps.take j)) t10)) = (strValues (lv ++ [(accStr (ps.take j), t10)])).toArray := by simp [strValues]
  rw [es] at NZ
  have N9 : News b L hz [(157, o1), (p, instObj 111 dp), (dp, pgD w.params Wd signs l x k), (l, PySem.W.listOf (strValues (lv ++ [(accStr (ps.take j), t10)])).toArray (ln + 1)), (x, accO dx (items.toList.drop j).toArray nz), (dx, isD w.params cz 0 iz), (164, o23)] := by repeat (first | exact nwn | refine nws NZ (by k_mem) ?_)
  exact hQ _ ⟨⟨_, lv ++ [(accStr (ps.take j), t10)], ln + 1, _, nz, cz, iz, o1, o23, FZ, N9, by simp, PZ⟩, tabZ, os10, gs10⟩
end
end Mine
end
section
open PySem PySem.W PyProof.Rows PySem.Calls
set_option Elab.async false
set_option maxRecDepth 100000
namespace Mine
noncomputable def outerFor : Stmt := match chunkIf with
  | st :: _ => st
  | _ => .Pass { line := 0, col := 0, endLine := 0, endCol := 0 }
section
variable {w : World} {g b : Heap} {L : Addr} {s : Shared} {A : Around} {E : Value → Shared → Prop} {Q : Flow → Shared → Prop} {mg mb : Str → Option Value} {p dp l x dx : Addr} {Wd : Int} {signs : Str} {k : Nat → Nat} {lv : List (Str × Tok)} {ln n c it : Nat} {i : Int} {items : Array Value} {ps : List (Str × Str)} {m : Str → Option Value} {o1 o2 oT : Obj} {T7 : Addr}
set_option maxHeartbeats 1000000 in
theorem outer (X' : (KK w.params).In b) (T' : TR mg mb b) (F : Fr b L s.heap m) (hm : m (Str.ofString "self") = some (.ref p))
    (N : News b L s.heap [(157, o1), (p, instObj 111 dp), (dp, pgD w.params Wd signs l x k), (l, PySem.W.listOf (strValues lv).toArray ln), (x, accO dx items n), (dx, isD w.params c i it), (164, o2), (T7, oT)])
    (hPF : ∀ h', (∀ a o, b.get? a = some o → h'.get? a = some o) → h'.get? T7 = some oT → Pairs h' items ps) (hS : Small ps) (hne : ps ≠ []) (hh : A.handled = none) (hA : A.depth < 700)
    (hasc : signs.cps.all (· < 128) = true)
    (hcut : ∀ j, outerCut ps signs.cps.toList = some j → ∀ (s' : Shared) (m' : Str → Option Value) (t' : Tok), Fr b L s'.heap m' → News b L s'.heap [(157, o1), (p, instObj 111 dp), (dp, pgD w.params Wd signs l x k), (l, PySem.W.listOf (strValues lv).toArray ln), (x, accO dx items n), (dx, isD w.params c i it), (164, o2), (T7, oT)] → s'.gens = s.gens → s'.os = s.os → m' (Str.ofString "self") = some (.ref p) → m' (Str.ofString "i") = some (.int j t') → Q .next s')
    (helse : outerCut ps signs.cps.toList = none → ∀ (s' : Shared) (m' : Str → Option Value), Fr b L s'.heap m' → News b L s'.heap [(157, o1), (p, instObj 111 dp), (dp, pgD w.params Wd signs l x k), (l, PySem.W.listOf (strValues lv).toArray ln), (x, accO dx items n), (dx, isD w.params c i it), (164, o2), (T7, oT)] → s'.gens = s.gens → s'.os = s.os → m' (Str.ofString "self") = some (.ref p) →
      wpAny (MM w) (A.deeper (chunkEnv L)) (execs chunkElse (chunkEnv L)) Q (fun _ _ => False) s') :
    wpAny (MM w) (A.deeper (chunkEnv L)) (exec outerFor (chunkEnv L)) Q E s := by
  refine wpAny_For ?_ (fun _ => rfl)
  iterate 3 walk1
  refine wpAny_pyIter_ascii hasc ?_
  obtain ⟨I1, hI1⟩ : ∃ I1, I1 = s.heap.objs.size := ⟨_, rfl⟩
  have k4 : ∀ a o, s.heap.get? a = some o → (s.heap.push { cls := .type "str_ascii_iterator", data := .fields #[.str signs (k 7), .int 0 0] }).get? a = some o := fun a o e => Heap.get?_push_of_some _ e
  have nI1 : s.heap.get? I1 = none := by rw [hI1]; exact get_size_none _
  obtain ⟨F4, N4⟩ := grown (l := I1) (lo := { cls := .type "str_ascii_iterator", data := .fields #[.str signs (k 7), .int 0 0] }) F N k4 (by rw [hI1]; exact Heap.get?_push_size _ rfl) nI1
  have hIn : ∀ q ∈ [(157, o1), (p, instObj 111 dp), (dp, pgD w.params Wd signs l x k), (l, PySem.W.listOf (strValues lv).toArray ln), (x, accO dx items n), (dx, isD w.params c i it), (164, o2), (T7, oT)], q.1 ≠ I1 := fun q hq => by rw [hI1]; exact Nat.ne_of_lt (Heap.lt_size (N q hq).1)
  dsimp only
  rw [← hI1]
  refine loopF (fun mm s' => Ex3 fun m' oI q => A9 (q + mm = signs.cps.size) (Fr b L s'.heap m') (News b L s'.heap [(157, o1), (p, instObj 111 dp), (dp, pgD w.params Wd signs l x k), (l, PySem.W.listOf (strValues lv).toArray ln), (x, accO dx items n), (dx, isD w.params c i it), (164, o2), (T7, oT), (I1, oI)]) (oI.cls = .type "str_ascii_iterator") (oI.data = .fields #[.str signs (k 7), .int (q : Int) 0]) (s'.gens = s.gens) (s'.os = s.os) (m' (Str.ofString "self") = some (.ref p)) (outerCut ps signs.cps.toList = outerCut ps (signs.cps.toList.drop q))) (fun mm s' hJ JN hJN => ?_) signs.cps.size ⟨m, { cls := .type "str_ascii_iterator", data := .fields #[.str signs (k 7), .int 0 0] }, 0, by omega, F4, fun q hq => N4 q (by simp only [List.mem_cons, List.mem_nil_iff, or_false] at hq ⊢; rcases hq with h | h | h | h | h | h | h | h | h <;> simp [h]), rfl, rfl, rfl, rfl, hm, rfl⟩
  obtain ⟨m', oI, q, hq, F', N', cI, dI, gs', os', hm', hcutE⟩ := hJ
  have hit' : s'.heap.IsStrIter I1 "str_ascii_iterator" signs (k 7) q := ⟨oI, (N' (I1, oI) (by k_mem)).1, cI, dI⟩
  cases mm with
  | zero =>
    have hend : signs.cps[q]? = none := Array.getElem?_eq_none (by omega)
    refine wpAny_pyNext_ascii_end hh hit' hend (fun h5 hx5 => ?_)
    obtain ⟨F5, N5⟩ := called (W := [I1]) (news' := [(157, o1), (p, instObj 111 dp), (dp, pgD w.params Wd signs l x k), (l, PySem.W.listOf (strValues lv).toArray ln), (x, accO dx items n), (dx, isD w.params c i it), (164, o2), (T7, oT)]) F' (fun a o e q => hx5 a o (by simpa using q) e) (fun a q => by
      obtain rfl : a = I1 := by simpa using q
      exact (N' (a, oI) (by k_mem)).2) (fun q hq => ⟨hx5 _ _ (hIn q hq) (N' q (List.mem_append_left [(I1, oI)] hq)).1, (N' q (List.mem_append_left [(I1, oI)] hq)).2⟩)
    dsimp only
    have hnone : outerCut ps signs.cps.toList = none := by
      rw [hcutE, List.drop_eq_nil_of_le (by simp; omega)]; rfl
    refine wpAny_mono (helse hnone _ m' F5 N5 gs' os' hm') (fun f s₃ h => h) (fun _ _ h => h.elim)
  | succ mm =>
    have hlt : q < signs.cps.size := by omega
    obtain ⟨cp, hcp⟩ : ∃ cp, signs.cps[q]? = some cp := ⟨signs.cps[q], Array.getElem?_eq_getElem hlt⟩
    refine wpAny_pyNext_ascii_item hit' hcp (fun h5 hit5 hx5 => ?_)
    obtain ⟨oI5, gI5, cI5, dI5⟩ := hit5
    have hx5 := hx5.extBut
    obtain ⟨F5, N5⟩ := called (W := [I1]) (news' := [(157, o1), (p, instObj 111 dp), (dp, pgD w.params Wd signs l x k), (l, PySem.W.listOf (strValues lv).toArray ln), (x, accO dx items n), (dx, isD w.params c i it), (164, o2), (T7, oT), (I1, oI5)]) F' (fun a o e q => hx5 a o (by simpa using q) e) (fun a q => by
      obtain rfl : a = I1 := by simpa using q
      exact (N' (a, oI) (by k_mem)).2) (fun q hq => by
      rcases List.mem_append.mp (show q ∈ [(157, o1), (p, instObj 111 dp), (dp, pgD w.params Wd signs l x k), (l, PySem.W.listOf (strValues lv).toArray ln), (x, accO dx items n), (dx, isD w.params c i it), (164, o2), (T7, oT)] ++ [(I1, oI5)] from hq) with hq | hq
      · exact ⟨hx5 _ _ (hIn q hq) (N' q (List.mem_append_left [(I1, oI)] hq)).1, (N' q (List.mem_append_left [(I1, oI)] hq)).2⟩
      · obtain rfl : q = (I1, oI5) := by simpa using hq
        exact ⟨gI5, (N' (I1, oI) (by k_mem)).2⟩)
    clear F' N' hit' hx5 F4 N4 F N
    have hdrop : signs.cps.toList.drop q = cp :: signs.cps.toList.drop (q + 1) := by
      rw [List.drop_eq_getElem_cons (by simpa using hlt)]
      rw [Array.getElem?_eq_getElem hlt] at hcp
      simp only [Array.getElem_toList]
      rw [Option.some.inj hcp]
    have hstep : outerCut ps signs.cps.toList = match innerCut cp ps (ps.length - 1) with | some i => some i | none => outerCut ps (signs.cps.toList.drop (q + 1)) := by
      rw [hcutE, hdrop]; rfl
    dsimp only
    refine wpAny_assign_Name ?_
    walk1
    rename_i h6 F6 N6
    have hm6 : (fun y => if y = Str.ofString "ch" then some (Value.str ⟨#[cp]⟩ s'.toks) else m' y) (Str.ofString "self") = some (.ref p) := hm'
    refine wpAny_execs_cons (inner (cp := cp) (ct := s'.toks) X' T' F6 hm' rfl N6 hPF hS hne hh (by first | exact Nat.lt_of_lt_of_le hu (by decide) | omega) ?_ ?_)
    · intro j hj s7 m7 t7 hs7 hm7 hi7
      dsimp only
      iterate 2 walk1
      refine hcut j (by rw [hstep, hj]) s7 m7 t7 hs7.fr (fun q hq => hs7.nw q (List.mem_append_left [(I1, oI5)] hq)) (hs7.gs.trans gs') (hs7.os.trans os') hm7 hi7
    · intro hj s7 m7 hs7 hm7
      dsimp only
      refine hJN _ ⟨mm, Nat.lt_succ_self _, m7, oI5, q + 1, by omega, hs7.fr, hs7.nw, cI5, ?_, hs7.gs.trans gs', hs7.os.trans os', hm7, by rw [hstep, hj]⟩
      rw [dI5]
end
end Mine
end
section
open PySem PySem.W PyProof.Rows PySem.Calls
set_option Elab.async false
set_option maxRecDepth 100000
namespace Mine
/-- what a page holds: the rows that are done, the head's room, the parts of the open row -/
structure St where
  lines : List Str
  i : Int
  ps : List (Str × Str)
noncomputable def stepSt (Wd : Int) (signs : Str) (st : St) (f q : Str) : St :=
  if accLen st.i (st.ps ++ [(f, q)]) ≤ Wd then ⟨st.lines, st.i, st.ps ++ [(f, q)]⟩
  else match outerCut (st.ps ++ [(f, q)]) signs.cps.toList with
    | some j => ⟨st.lines ++ [accStr ((st.ps ++ [(f, q)]).take j)], 0, (st.ps ++ [(f, q)]).drop j⟩
    | none => if 0 < st.i then ⟨st.lines ++ [accStr st.ps], 0, [(if f.length = 0 then " " else f, q)]⟩ else ⟨st.lines, st.i, st.ps ++ [(f, q)]⟩
structure PageAt (w : World) (h : Heap) (p dp l x dx : Addr) (Wd : Int) (signs : Str) (k : Nat → Nat) (st : St) : Prop where
  hp : h.get? p = some (instObj 111 dp)
  hdp : h.get? dp = some (pgD w.params Wd signs l x k)
  ex : Ex6 fun (lv : List (Str × Tok)) (ln : Nat) (items : Array Value) (n c it : Nat) => A5 (lv.map (·.1) = st.lines) (h.get? l = some (PySem.W.listOf (strValues lv).toArray ln)) (h.get? x = some (accO dx items n)) (h.get? dx = some (isD w.params c st.i it)) (Pairs h items st.ps)
  tab : TabOk h
theorem innerCut_le {ch : Nat} {ps : List (Str × Str)} : ∀ {n j : Nat}, innerCut ch ps n = some j → j ≤ n := by
  intro n
  induction n with
  | zero => intro j h; cases h
  | succ n ih =>
    intro j h
    unfold innerCut at h
    split at h
    · cases h; exact Nat.le_refl _
    · exact Nat.le_succ_of_le (ih h)
theorem outerCut_le {ps : List (Str × Str)} : ∀ {l : List Nat} {j : Nat}, outerCut ps l = some j → j ≤ ps.length - 1 := by
  intro l
  induction l with
  | nil => intro j h; cases h
  | cons c r ih =>
    intro j h
    unfold outerCut at h
    split at h
    · rename_i hc
      cases h
      exact innerCut_le hc
    · exact ih h
section
variable {w : World} {g : Heap} {s : Shared} {A : Around} {R : Result → Shared → Prop} {mg mb : Str → Option Value} {p dp l x dx : Addr} {Wd : Int} {signs : Str} {k : Nat → Nat} {st : St}
theorem EndAt.page {b : Heap} {L : Addr} {lines : List Str} {i : Int} {ps : List (Str × Str)} {s s' : Shared} (h : EndAt w b L p dp l x dx Wd signs k lines i ps s s') : PageAt w s'.heap p dp l x dx Wd signs k ⟨lines, i, ps⟩ := by
  obtain ⟨m, lv, ln, items, n, c, it, o1, o2, F, N, e, P⟩ := h.ex
  exact ⟨(N (p, instObj 111 dp) (by k_mem)).1, (N (dp, pgD w.params Wd signs l x k) (by k_mem)).1, ⟨lv, ln, items, n, c, it, e, (N (l, PySem.W.listOf (strValues lv).toArray ln) (by k_mem)).1, (N (x, accO dx items n) (by k_mem)).1, (N (dx, isD w.params c i it) (by k_mem)).1, P⟩, h.tab⟩
theorem EndAt.kept {b h0 : Heap} {L : Addr} {lines : List Str} {i : Int} {ps : List (Str × Str)} {s s' : Shared} (h : EndAt w b L p dp l x dx Wd signs k lines i ps s s') (B : BaseAt w g mg mb h0 [p, dp, l, x, dx, 157, 164] L b) (hp : h0.get? p = some (instObj 111 dp)) (hdp : h0.get? dp = some (pgD w.params Wd signs l x k)) : Kept [l, x, dx, 157, 164] h0 s'.heap := fun a o e q => by
  obtain ⟨m, lv, ln, items, n, c, it, o1, o2, F, N, e', P⟩ := h.ex
  have q' : a ≠ l ∧ a ≠ x ∧ a ≠ dx ∧ a ≠ 157 ∧ a ≠ 164 := by simpa using q
  by_cases z1 : a = p
  · rw [z1, hp] at e; cases e; rw [z1]; exact (N (p, instObj 111 dp) (by k_mem)).1
  · by_cases z2 : a = dp
    · rw [z2, hdp] at e; cases e; rw [z2]; exact (N (dp, pgD w.params Wd signs l x k) (by k_mem)).1
    · exact B.kept F a o e (by simp [z1, z2, q'])
set_option maxHeartbeats 1000000 in
theorem append_spec {f q : Str} {ft qt : Tok} (X : (KK w.params).In g) (T : TR mg mb g) {bm : Addr} {ob : Obj} (BM : BMod g mainGlobals mg bm ob) (kg : g.StaysIn s.heap)
    (PG : PageAt w s.heap p dp l x dx Wd signs k st)
    (gp : g.get? p = none) (gdp : g.get? dp = none) (gl : g.get? l = none) (gx : g.get? x = none) (gd : g.get? dx = none) (g1 : g.get? 157 = none) (g2 : g.get? 164 = none) (hA : A.depth < 690) (hh : A.handled = none) (hu : A.units < 7000)
    (hS : Small (st.ps ++ [(f, q)])) (hi0 : 0 ≤ st.i) (hi : st.i ≤ 100000) (hlv : st.lines.length ≤ 1000) (hasc : signs.cps.all (· < 128) = true)
    (hnl : 0 < st.i → Wd < accLen st.i (st.ps ++ [(f, q)]) → outerCut (st.ps ++ [(f, q)]) signs.cps.toList = none → ∃ psi q', st.ps = psi ++ [q'] ∧ q' ≠ ((" " : Str), ("" : Str)) ∧ PyData.strOk q'.1 = true ∧ PyData.strOk q'.2 = true)
    (h : ∀ s', Kept [l, x, dx, 157, 164] s.heap s'.heap → PageAt w s'.heap p dp l x dx Wd signs k (stepSt Wd signs st f q) → s'.os = s.os → (AllBare s.gens → AllBare s'.gens) → R (.ok (.ret .none)) s') :
    codeAny (MM w) A (.call (.ref 108) ⟨[.ref p, .str f ft, .str q qt], []⟩) R s := by
  obtain ⟨lv, ln, items, n, c, it, elv, hl, hx, hd, hP⟩ := PG.ex
  have hlv' : lv.length ≤ 1000 := by rw [← elv, List.length_map] at hlv; exact hlv
  refine append_pre X T BM kg PG.hp PG.hdp hl hx hd gp gdp gl gx gd (by first | exact Nat.lt_of_lt_of_le hA (by decide) | (first | lia | omega)) hh hu hP hS PG.tab g1 g2 (Int.le_trans hi0 (accLen_ge _ _)) hi (fun hfit s' items' n' k' hx' hP' tab' os' gs' => ?_) (fun hov b L s9 T7 oT n' o1 o2 B F N hPb cT dT tab9 os9 gs9 => ?_)
  · have NE := page_ne PG.hp PG.hdp hl hx hd PG.tab
    refine h s' (fun a o e q => k' a o e (by simp at q ⊢; exact ⟨q.2.1, q.2.2.2.1⟩)) ?_ os' gs'
    unfold stepSt
    rw [if_pos hfit]
    exact ⟨k' _ _ PG.hp (by simp [NE]), k' _ _ PG.hdp (by simp [NE]), ⟨lv, ln, items', n', c, it, elv, k' _ _ hl (by simp [NE]), hx', k' _ _ hd (by simp [NE]), hP'⟩, tab'⟩
  · obtain ⟨nn, dT⟩ := dT
    have hPF : ∀ h', (∀ a o, b.get? a = some o → h'.get? a = some o) → h'.get? T7 = some oT → Pairs h' (items.push (.ref T7)) (st.ps ++ [(f, q)]) := fun h' k' e => Pairs.snoc (hPb.kept_base k') ⟨oT, e, cT, nn, dT⟩
    have BMb : BMod b mainGlobals mg bm ob := BM.keeps B.g
    have NE := page_ne PG.hp PG.hdp hl hx hd PG.tab
    have tabT : ∀ h', (∀ a o, b.get? a = some o → h'.get? a = some o) → h'.get? 157 = some o1 → h'.get? 164 = some o2 → TabOk h' := fun h' k' e1 e2 => tab_of (B.k.keeps F.keep) (B.k.keeps k') tab9 (fun o e => by rw [(N (157, o1) (by k_mem)).1] at e; cases e; exact e1) (fun o e => by rw [(N (164, o2) (by k_mem)).1] at e; cases e; exact e2)
    show wpAny _ _ (execs (outerFor :: chunkTail) _) _ _ _
    refine wpAny_execs_cons (outer B.k B.t F rfl N hPF hS (by simp) hh (by first | exact Nat.lt_of_lt_of_le hu (by decide) | (first | lia | omega)) hasc ?_ ?_)
    · intro j hj s7 m7 t7 F7 N7 gs7 os7 hm7 hi7
      have hjl := outerCut_le hj
      refine cut_part B.k B.t BMb F7 hm7 hi7 N7 hPF (tabT _ F7.keep (N7 (157, o1) (by k_mem)).1 (N7 (164, o2) (by k_mem)).1) cT dT hS (by first | exact Nat.lt_of_lt_of_le hA (by decide) | (first | lia | omega)) hh (by first | exact Nat.lt_of_lt_of_le hu (by decide) | (first | lia | omega)) (by (first | lia | omega)) hlv' (fun s8 hE => ?_)
      refine h s8 (hE.kept B PG.hp PG.hdp) ?_ (hE.os.trans (os7.trans os9)) (fun G => hE.gs (by rw [gs7]; exact gs9 G))
      have := hE.page
      unfold stepSt
      rw [if_neg (by (first | lia | omega)), hj]
      rw [elv] at this
      exact this
    · intro hj s7 m7 F7 N7 gs7 os7 hm7
      refine else_part B.k B.t BMb F7 hm7 N7 hPb cT dT (tabT _ F7.keep (N7 (157, o1) (by k_mem)).1 (N7 (164, o2) (by k_mem)).1) hS hh (by first | exact Nat.lt_of_lt_of_le hu (by decide) | (first | lia | omega)) (by (first | lia | omega)) hlv' hi hi0 (fun hp => hnl hp hov hj) (fun s8 hE => ?_)
      dsimp only
      have key : EndAt w b L p dp l x dx Wd signs k (stepSt Wd signs st f q).lines (stepSt Wd signs st f q).i (stepSt Wd signs st f q).ps s7 s8 := by
        unfold stepSt
        rw [if_neg (by (first | lia | omega)), hj]
        dsimp only
        rw [elv] at hE
        split at hE
        · rename_i z; rw [if_pos z]; exact hE
        · rename_i z; rw [if_neg z]; exact hE
      exact h s8 (key.kept B PG.hp PG.hdp) key.page (key.os.trans (os7.trans os9)) (fun G => key.gs (by rw [gs7]; exact gs9 G))
end
end Mine
end
section
open PySem PySem.W PyProof.Rows PySem.Calls
set_option Elab.async false
set_option maxRecDepth 100000
namespace Mine
theorem strsAre_values (lv : List (Str × Tok)) : StrsAre (strValues lv).toArray.toList (lv.map (·.1)) := by
  induction lv with
  | nil => exact .nil
  | cons p r ih => exact .cons p.1 p.2 ih
section
variable {w : World} {g : Heap} {s : Shared} {A : Around} {R : Result → Shared → Prop} {mg mb : Str → Option Value} {p dp l x dx : Addr} {Wd : Int} {signs : Str} {k : Nat → Nat} {st : St} {psi : List (Str × Str)} {q : Str × Str}
set_option maxHeartbeats 1000000 in
theorem vstr_spec {sep : Str} {tsep : Tok} (X : (KK w.params).In g) (T : TR mg mb g) {bm : Addr} {ob : Obj} (BM : BMod g mainGlobals mg bm ob) (kg : g.StaysIn s.heap)
    (PG : PageAt w s.heap p dp l x dx Wd signs k st) (gp : g.get? p = none) (gdp : g.get? dp = none) (gl : g.get? l = none) (gx : g.get? x = none) (gd : g.get? dx = none) (g1 : g.get? 157 = none) (g2 : g.get? 164 = none) (hA : A.depth < 690) (hh : A.handled = none) (hu : A.units < 7000)
    (hps : st.ps = psi ++ [q]) (hS : Small st.ps) (hq : q ≠ ((" " : Str), ("" : Str))) (ok1 : PyData.strOk q.1 = true) (ok2 : PyData.strOk q.2 = true) (hi0 : 0 ≤ st.i) (hi : st.i ≤ 100000) (hlv : st.lines.length ≤ 900) (hpos : 0 < accLen st.i st.ps)
    (hws : (decide (st.i = 0) && Txt.isspace (accStr st.ps)) = false)
    (hsep : sep.length ≤ 16) (hw : ((st.lines ++ [accStr st.ps]).map (·.length)).sum + (st.lines ++ [accStr st.ps]).length ≤ 1048576)
    (h : ∀ s' t, Kept [l, x, dx, 157, 164] s.heap s'.heap → TabOk s'.heap → s'.os = s.os → (AllBare s.gens → AllBare s'.gens) → R (.ok (.ret (.str (Txt.join sep (st.lines ++ [accStr st.ps])) t))) s') :
    codeAny (MM w) A (.call (.ref 59) ⟨[.ref p, .str sep tsep], []⟩) R s := by
  obtain ⟨lv, ln, items, n, c, it, elv, hl, hx, hd, hP⟩ := PG.ex
  have hp := PG.hp
  have hdp := PG.hdp
  have hTab := PG.tab
  obtain ⟨o1, o2, h1, d1, h2, d2⟩ := tab_objs hTab
  refine' enter (news := [(p, instObj 111 dp), (dp, pgD w.params Wd signs l x k), (l, PySem.W.listOf (strValues lv).toArray ln), (x, accO dx items n), (dx, isD w.params c st.i it), (157, o1), (164, o2)]) (binds := [("self", .ref p), ("linesep", .str sep tsep)]) X T kg ?n ?ho ?hcd ?room ?bind ?loc ?_ ?c1 ?c2 ?c3 ?c4
  case ho => k_is
  case hcd => k_is
  case room => first | exact Nat.lt_of_lt_of_le hA (by decide) | exact Nat.lt_of_lt_of_le (by omega : _ < 990) (by decide)
  case bind => exact BindsTo.of_eq rfl
  case loc => exact locs rfl
  case n => exact ent7 ⟨hp, gp⟩ ⟨hdp, gdp⟩ ⟨hl, gl⟩ ⟨hx, gx⟩ ⟨hd, gd⟩ ⟨h1, g1⟩ ⟨h2, g2⟩
  case c1 => decide
  case c2 => rfl
  case c3 => rfl
  case c4 => rfl
  intro b L h₁ F N B
  have X' := B.k
  have T' := B.t
  have NE := page_pne hp hdp hl hx hd hTab
  have kA : Kept [] s.heap h₁ := keptAll B F N (ac hp (ac hdp (ac hl (ac hx (ac hd (ac h1 (ac h2 an)))))))
  have hP1 : Pairs h₁ items st.ps := hP.keptT kA hTab (fun a q => by cases q)
  have tab1 : TabOk h₁ := tab_kept hTab kA (by simp) (by simp)
  have BMb : BMod b mainGlobals mg bm ob := BM.keeps B.g
  have X1 : (KK w.params).In h₁ := X'.keeps F.keep
  have hp1 := N (p, instObj 111 dp) (by k_mem)
  have hdp1 := N (dp, pgD w.params Wd signs l x k) (by k_mem)
  have hl1 := N (l, PySem.W.listOf (strValues lv).toArray ln) (by k_mem)
  have hx1 := N (x, accO dx items n) (by k_mem)
  have hd1 := N (dx, isD w.params c st.i it) (by k_mem)
  have e1 := N (157, o1) (by k_mem)
  have e2 := N (164, o2) (by k_mem)
  iterate 6 walk1
  refine wpAny_call (newline_spec X' T' BMb F.keep hp1.1 hdp1.1 hl1.1 hx1.1 hd1.1 hp1.2.2 hdp1.2.2 hl1.2.2 hx1.2.2 hd1.2.2 (by first | exact dd1 hA (by decide) | (simp only [depth_deeper]; omega)) hh (by first | exact du1 hu (by decide) | (simp only [units_deeper]; omega)) (hps ▸ hP1) (hps ▸ hS) hq ok1 ok2 tab1 e1.2.2 e2.2.2 (hps ▸ Int.le_of_lt hpos) (fun _ => hps ▸ hws) (by rw [← elv, List.length_map] at hlv; omega) hi (fun s6 lv6 ln6 n6 c6 it6 k6 hl6 hlv6 hx6 hd6 tab6 os6 gs6 => ?_))
  obtain ⟨o1', o2', e1', d1', e2', d2'⟩ := tab_objs tab6
  have F6 := calledF F N k6 (inW5 (p1 := PySem.W.listOf (strValues lv).toArray ln) (p2 := accO dx items n) (p3 := isD w.params c st.i it) (p4 := o1) (p5 := o2) (by k_mem) (by k_mem) (by k_mem) (by k_mem) (by k_mem))
  have N6 : News b L s6.heap [(l, PySem.W.listOf (strValues lv6).toArray ln6), (157, o1'), (x, accO dx #[] n6), (dx, isD w.params c6 0 it6), (164, o2'), (p, instObj 111 dp), (dp, pgD w.params Wd signs l x k)] := nu (PySem.W.listOf (strValues lv).toArray ln) N (by k_mem) hl6 (nu (o1) N (by k_mem) e1' (nu (accO dx items n) N (by k_mem) hx6 (nu (isD w.params c st.i it) N (by k_mem) hd6 (nu (o2) N (by k_mem) e2' (nk5 N k6 (by k_mem) NE.p_l NE.p_x NE.p_dx NE.p_1 NE.p_2 (nk5 N k6 (by k_mem) NE.dp_l NE.dp_x NE.dp_dx NE.dp_1 NE.dp_2 (nwn)))))))
  have X6 : (KK w.params).In s6.heap := X'.keeps F6.keep
  clear F N X1
  dsimp only
  iterate 11 walk1
  have ey : lv6.map (·.1) = st.lines ++ [accStr st.ps] := by rw [hlv6, elv, hps, if_pos (hps ▸ hpos)]
  have hS6 : StrsAre (strValues lv6).toArray.toList (st.lines ++ [accStr st.ps]) := by rw [← ey]; exact strsAre_values lv6
  refine join_listW (ys := st.lines ++ [accStr st.ps]) ⟨_, (N6 (l, PySem.W.listOf (strValues lv6).toArray ln6) (by k_mem)).1, rfl, _, rfl⟩ hS6 hsep hw (fun t' k' => ?_)
  have NZ := N6
  exact h _ t' (kept_page5 B F6 hp (N6 (p, instObj 111 dp) (by k_mem)).1 hdp (N6 (dp, pgD w.params Wd signs l x k) (by k_mem)).1) tab6 os6 gs6
end
end Mine
end
section
open PySem PySem.W PyProof.Rows PySem.Calls
set_option Elab.async false
set_option maxRecDepth 100000
namespace Mine
theorem pg_of {h : Heap} {P : Params} {dp l x : Addr} {W : Int} {signs : Str} {a0 a1 a2 a3 a4 a5 a6 a7 a8 a9 : Nat} (e : h.get? dp = some (dictOf [
  ⟨PyData.keyHash P (Str.ofString "_maxlen"), .str (Str.ofString "_maxlen") a0, .int W a1⟩,
  ⟨PyData.keyHash P (Str.ofString "_continuation_ws"), .str (Str.ofString "_continuation_ws") a2, .str (Str.ofString "\t") a3⟩,
  ⟨PyData.keyHash P (Str.ofString "_continuation_ws_len"), .str (Str.ofString "_continuation_ws_len") a4, .int 1 a5⟩,
  ⟨PyData.keyHash P (Str.ofString "_splitchars"), .str (Str.ofString "_splitchars") a6, .str signs a7⟩,
  ⟨PyData.keyHash P (Str.ofString "_lines"), .str (Str.ofString "_lines") a8, .ref l⟩,
  ⟨PyData.keyHash P (Str.ofString "_current_line"), .str (Str.ofString "_current_line") a9, .ref x⟩] 6)) : ∃ k, h.get? dp = some (pgD P W signs l x k) :=
  ⟨fun n => match n with | 0 => a0 | 1 => a1 | 2 => a2 | 3 => a3 | 4 => a4 | 5 => a5 | 6 => a6 | 7 => a7 | 8 => a8 | _ => a9, e⟩
section
variable {w : World} {g : Heap} {s : Shared} {A : Around} {R : Result → Shared → Prop} {mg mb : Str → Option Value} {p dp : Addr}
set_option maxHeartbeats 1000000 in
theorem vinit_spec {i Wd : Int} {ti tw tc ts : Tok} {signs : Str} (X : (KK w.params).In g) (T : TR mg mb g) (kg : g.StaysIn s.heap)
    (hp : s.heap.get? p = some (instObj 111 dp)) (hd : s.heap.get? dp = some (dictOf [] 0)) (gp : g.get? p = none) (gd : g.get? dp = none) (hA : A.depth < 690)
    (hTab : TabOk s.heap)
    (h : ∀ (s' : Shared) (l x dx : Addr) (k : Nat → Nat), Kept [dp] s.heap s'.heap → PageAt w s'.heap p dp l x dx Wd signs k ⟨[], i, []⟩ → s.heap.get? l = none → s.heap.get? x = none → s.heap.get? dx = none → s'.os = s.os → s'.gens = s.gens → R (.ok (.ret .none)) s') : codeAny (MM w) A (.call (.ref 52) ⟨[.ref p, .int i ti, .int Wd tw, .str "\t" tc, .str signs ts], []⟩) R s := by
  refine' enter (news := [(p, instObj 111 dp), (dp, dictOf [] 0)]) (binds := [("self", .ref p), ("headerlen", .int i ti), ("maxlen", .int Wd tw), ("continuation_ws", .str "\t" tc), ("splitchars", .str signs ts)]) X T kg ?n ?ho ?hcd ?room ?bind ?loc ?_ ?c1 ?c2 ?c3 ?c4
  case ho => k_is
  case hcd => k_is
  case room => first | exact Nat.lt_of_lt_of_le hA (by decide) | exact Nat.lt_of_lt_of_le (by omega : _ < 990) (by decide)
  case bind => exact BindsTo.of_eq rfl
  case loc => exact locs rfl
  case n =>
    intro p hp
    simp only [List.mem_cons, List.mem_nil_iff, or_false] at hp
    rcases hp with rfl | rfl
    · exact ⟨hp, gp⟩
    · exact ⟨hd, gd⟩
  case c1 => decide
  case c2 => rfl
  case c3 => rfl
  case c4 => rfl
  intro b L h₁ F N B
  have X' := B.k
  have T' := B.t
  have npd : p ≠ dp := fun z => by rw [z, hd] at hp; have := congrArg (fun o : Option Obj => o.map (·.cls)) hp; simp at this
  iterate 44 walk1
  rename_i l _ ll h4 F4 N4
  have X4 : (KK w.params).In h4 := X'.keeps F4.keep
  obtain ⟨dx, hdx⟩ : ∃ dx, dx = h4.objs.size := ⟨_, rfl⟩
  obtain ⟨x, hx⟩ : ∃ x, x = h4.objs.size + 1 := ⟨_, rfl⟩
  have e1 : ((h4.push emptyDict).push (accO h4.objs.size #[] 0)).get? dx = some (dictOf [] 0) := by rw [hdx]; heap_get
  have e2 : ((h4.push emptyDict).push (accO h4.objs.size #[] 0)).get? x = some (accO dx #[] 0) := by rw [hx, hdx]; heap_get
  have k5 : ∀ b o, h4.get? b = some o → ((h4.push emptyDict).push (accO h4.objs.size #[] 0)).get? b = some o := fun b o e => Heap.get?_push_of_some _ (Heap.get?_push_of_some _ e)
  have n1 : h4.get? dx = none := by rw [hdx]; exact get_size_none _
  have n2 : h4.get? x = none := by
    cases e : h4.get? x with
    | none => rfl
    | some o => exact absurd (Heap.lt_size e) (by rw [hx]; exact Nat.not_lt.mpr (Nat.le_succ _))
  have nxd : dx ≠ x := by rw [hx, hdx]; exact Nat.ne_of_lt (Nat.lt_succ_self _)
  obtain ⟨F5, N5⟩ := grownN F4 N4 k5
  have N5 := newsPlus F4 n1 N5 e1
  have N5 := newsPlus F4 n2 N5 e2
  refine wpAny_call (make_acc X4 ?_)
  rw [← hx]
  refine init_spec X' T' F5.keep e2 e1 (N5 (x, accO dx #[] 0) (by k_mem)).2.2 (N5 (dx, dictOf [] 0) (by k_mem)).2.2 (by show A.depth + 1 + 1 < 890; omega) (fun h6 tk6 c6 k6 hd6 => ?_)
  refine ⟨rfl, ?_⟩
  have ne : ∀ (a : Addr) (o : Obj), h4.get? a = some o → a ≠ dx ∧ a ≠ x := fun a o e => ⟨fun z => (by rw [z, n1] at e; cases e), fun z => (by rw [z, n2] at e; cases e)⟩
  have nl := ne _ _ (N4 (l, W.listOf #[] 0) (by k_mem)).1
  have np := ne _ _ (N4 (p, instObj 111 dp) (by k_mem)).1
  have ndp := ne _ _ (N4 (dp, _) (List.mem_cons_of_mem _ (List.mem_cons_of_mem _ (List.mem_cons_self ..)))).1
  have N6 : News b L h6 ((x, accO dx #[] 0) :: (dx, isD w.params c6 i ti) :: (l, W.listOf #[] 0) :: (p, instObj 111 dp) :: (dp, _) :: []) := fun q hq => by
    simp only [List.mem_cons, List.mem_nil_iff, or_false] at hq
    rcases hq with rfl | rfl | rfl | rfl | rfl
    · exact ⟨k6 _ _ e2 (by simp [nxd.symm]), (N5 (x, accO dx #[] 0) (by k_mem)).2⟩
    · exact ⟨hd6, (N5 (dx, dictOf [] 0) (by k_mem)).2⟩
    · exact ⟨k6 _ _ (N5 (l, W.listOf #[] 0) (by k_mem)).1 (by simp [nl.1]), (N5 (l, W.listOf #[] 0) (by k_mem)).2⟩
    · exact ⟨k6 _ _ (N5 (p, instObj 111 dp) (by k_mem)).1 (by simp [np.1]), (N5 (p, instObj 111 dp) (by k_mem)).2⟩
    · exact ⟨k6 _ _ (N5 (dp, _) (List.mem_cons_of_mem _ (List.mem_cons_of_mem _ (List.mem_cons_of_mem _ (List.mem_cons_of_mem _ (List.mem_cons_self ..)))))).1 (by simp [ndp.1]), (N5 (dp, _) (List.mem_cons_of_mem _ (List.mem_cons_of_mem _ (List.mem_cons_of_mem _ (List.mem_cons_of_mem _ (List.mem_cons_self ..)))))).2⟩
  have F6 : Fr b L h6 _ := (called F5 k6 (news' := []) (fun a q => by
    obtain rfl : a = dx := by simpa using q
    exact (N5 (a, dictOf [] 0) (by k_mem)).2) (fun q hq => by cases hq)).1
  have npd' : dp ≠ p := npd.symm
  have nlp : l ≠ p := Nat.ne_of_gt ll.1
  have nld : l ≠ dp := Nat.ne_of_gt ll.2
  clear F4 N4 F5 N5
  dsimp only
  have nq1 : x ≠ dp := ndp.2.symm
  have nq2 : dx ≠ dp := ndp.1.symm
  iterate 4 walk1
  rename_i hZ FZ NZ
  obtain ⟨k, hk⟩ := pg_of (NZ (dp, _) (List.mem_cons_of_mem _ (List.mem_cons_of_mem _ (List.mem_cons_of_mem _ (List.mem_cons_of_mem _ (List.mem_cons_self ..)))))).1
  have kZ : Kept [dp] s.heap hZ := fun a o e q => by
    have q' : a ≠ dp := by simpa using q
    by_cases z : a = p
    · rw [z, hp] at e; cases e; rw [z]; exact (NZ (p, instObj 111 dp) (by k_mem)).1
    · exact B.kept FZ a o e (by simp only [List.map_cons, List.map_nil, List.mem_cons, List.mem_nil_iff, or_false, not_or]; exact ⟨z, q'⟩)
  have X1 : (KK w.params).In s.heap := X.keeps kg
  have n157 : 157 ≠ dp := (tab_ne hTab hd (fun _ e => by cases e)).1.symm
  have n164 : 164 ≠ dp := (tab_ne hTab hd (fun _ e => by cases e)).2.symm
  have tabZ : TabOk hZ := tab_of X1 (X'.keeps FZ.keep) hTab (fun o e => kZ _ _ e (by simpa using n157)) (fun o e => kZ _ _ e (by simpa using n164))
  have nZ : ∀ a, a ≠ p → a ≠ dp → b.get? a = none → s.heap.get? a = none := fun a z1 z2 e => B.new (by simp [z1, z2]) e
  exact h _ l x dx k kZ ⟨(NZ (p, instObj 111 dp) (by k_mem)).1, hk, ⟨[], 0, #[], 0, c6, ti, rfl, (NZ (l, W.listOf #[] 0) (by k_mem)).1, (NZ (x, accO dx #[] 0) (by k_mem)).1, (NZ (dx, isD w.params c6 i ti) (by k_mem)).1, ⟨fun _ => 0, fun _ => 0, fun _ => 0, rfl, fun k p e => by simp at e⟩⟩, tabZ⟩
    (nZ _ nlp nld (NZ (l, W.listOf #[] 0) (by k_mem)).2.2) (nZ _ np.2.symm nq1 (NZ (x, accO dx #[] 0) (by k_mem)).2.2) (nZ _ np.1.symm nq2 (NZ (dx, isD w.params c6 i ti) (by k_mem)).2.2) rfl rfl
end
end Mine
end
section
open PySem PySem.W PyProof.Rows PySem.Calls
set_option Elab.async false
set_option maxRecDepth 100000
namespace Mine
theorem tups_of {b h : Heap} {L : Addr} {m : Str → Option Value} {items : Array Value} {ps : List (Str × Str)} (P : Pairs h items ps) (F : Fr b L h m) :
    ∃ tups : List (Addr × Obj), News b L h tups ∧ (∀ q ∈ tups, q.2.cls = .type "tuple") ∧ ∀ h' : Heap, (∀ a o, b.get? a = some o → h'.get? a = some o) → (∀ q ∈ tups, h'.get? q.1 = some q.2) → Pairs h' items ps := by
  obtain ⟨Ts, ft, pt, hs, hp⟩ := P.ex
  have key : ∀ n, n ≤ ps.length → ∃ tups : List (Addr × Obj), News b L h tups ∧ (∀ q ∈ tups, q.2.cls = .type "tuple") ∧ ∀ h' : Heap, (∀ a o, b.get? a = some o → h'.get? a = some o) → (∀ q ∈ tups, h'.get? q.1 = some q.2) → ∀ k p, k < n → ps[k]? = some p → h'.IsTuple (Ts k) #[.str p.1 (ft k), .str p.2 (pt k)] := by
    intro n
    induction n with
    | zero => intro _; exact ⟨[], fun q h => (by cases h), fun q h => (by cases h), fun _ _ _ k p hk => absurd hk (Nat.not_lt_zero _)⟩
    | succ n ih =>
      intro hn
      obtain ⟨tups, N, hcl, ht⟩ := ih (Nat.le_of_succ_le hn)
      have hlt : n < ps.length := hn
      obtain ⟨o, ho, hc, nn, hd⟩ := (hp n _ (List.getElem?_eq_getElem hlt)).2
      have last : ∀ (h' : Heap) k p, k < n + 1 → ps[k]? = some p → (k < n → h'.IsTuple (Ts k) #[.str p.1 (ft k), .str p.2 (pt k)]) → h'.get? (Ts n) = some o → h'.IsTuple (Ts k) #[.str p.1 (ft k), .str p.2 (pt k)] := by
        intro h' k p hk hkp hl hh
        by_cases z : k < n
        · exact hl z
        · have : k = n := by omega
          subst this
          rw [List.getElem?_eq_getElem hlt] at hkp
          cases hkp
          exact ⟨o, hh, hc, nn, hd⟩
      cases e : b.get? (Ts n) with
      | some o' =>
        have := F.keep _ _ e
        rw [ho] at this
        obtain rfl : o = o' := Option.some.inj this
        exact ⟨tups, N, hcl, fun h' k1 k2 k p hk hkp => last h' k p hk hkp (fun z => ht h' k1 k2 k p z hkp) (k1 _ _ e)⟩
      | none =>
        refine ⟨(Ts n, o) :: tups, fun q hq => ?_, fun q hq => (by
          rcases List.mem_cons.mp hq with rfl | hq
          · exact hc
          · exact hcl q hq), fun h' k1 k2 k p hk hkp => last h' k p hk hkp (fun z => ht h' k1 (fun q hq => k2 q (List.mem_cons_of_mem _ hq)) k p z hkp) (k2 (Ts n, o) (List.mem_cons_self ..))⟩
        rcases List.mem_cons.mp hq with rfl | hq
        · refine ⟨ho, fun z => ?_, e⟩
          obtain ⟨oL, es, ep, hL, r⟩ := F.ns
          have z : Ts n = L := z
          rw [z, hL] at ho
          obtain rfl : oL = o := Option.some.inj ho
          rw [r.1] at hd; cases hd
        · exact N q hq
  obtain ⟨tups, N, hcl, ht⟩ := key ps.length (Nat.le_refl _)
  exact ⟨tups, N, hcl, fun h' k1 k2 => ⟨Ts, ft, pt, hs, fun k p e => ⟨(hp k p e).1, ht h' k1 k2 k p (by obtain ⟨hh, _⟩ := List.getElem?_eq_some_iff.mp e; exact hh) e⟩⟩⟩
section
variable {w : World} {b h h' : Heap} {L : Addr} {m : Str → Option Value} {p dp l x dx : Addr} {Wd : Int} {signs : Str} {k : Nat → Nat} {st : St} {ex : List (Addr × Obj)}
theorem page_after {ol ox od o1 o2 : Obj} (X' : (KK w.params).In b) (F : Fr b L h m) (N : News b L h ((l, ol) :: (x, ox) :: (dx, od) :: (157, o1) :: (164, o2) :: (p, instObj 111 dp) :: (dp, pgD w.params Wd signs l x k) :: ex)) (kk : Kept [l, x, dx, 157, 164] h h') (PG : PageAt w h' p dp l x dx Wd signs k st)
    (hex : ∀ q ∈ ex, q.1 ∉ [l, x, dx, 157, 164]) : Ex9 fun (lv : List (Str × Tok)) (ln : Nat) (items : Array Value) (n c it : Nat) (o1' o2' : Obj) (tups : List (Addr × Obj)) => A6 (Fr b L h' m) (News b L h' ((l, PySem.W.listOf (strValues lv).toArray ln) :: (x, accO dx items n) :: (dx, isD w.params c st.i it) :: (157, o1') :: (164, o2') :: (p, instObj 111 dp) :: (dp, pgD w.params Wd signs l x k) :: (ex ++ tups))) (lv.map (·.1) = st.lines) (∀ q ∈ tups, q.2.cls = .type "tuple") (∀ h2 : Heap, (∀ a o, b.get? a = some o → h2.get? a = some o) → (∀ q ∈ tups, h2.get? q.1 = some q.2) → Pairs h2 items st.ps) (∀ h2 : Heap, (KK w.params).In h2 → h2.get? 157 = some o1' → h2.get? 164 = some o2' → TabOk h2) := by
  obtain ⟨lv, ln, items, n, c, it, elv, hl, hx, hd, hP⟩ := PG.ex
  obtain ⟨o1', o2', e1, d1, e2, d2⟩ := tab_objs PG.tab
  have NE := page_pne PG.hp PG.hdp hl hx hd PG.tab
  have F2 := calledF F N kk (inW5 (p1 := ol) (p2 := ox) (p3 := od) (p4 := o1) (p5 := o2) (by k_mem) (by k_mem) (by k_mem) (by k_mem) (by k_mem))
  have Nx : News b L h' ex := fun q hq => ⟨kk _ _ (N q (.tail _ (.tail _ (.tail _ (.tail _ (.tail _ (.tail _ (.tail _ hq)))))))).1 (hex q hq), (N q (.tail _ (.tail _ (.tail _ (.tail _ (.tail _ (.tail _ (.tail _ hq)))))))).2⟩
  have N2 : News b L h' ((l, PySem.W.listOf (strValues lv).toArray ln) :: (x, accO dx items n) :: (dx, isD w.params c st.i it) :: (157, o1') :: (164, o2') :: (p, instObj 111 dp) :: (dp, pgD w.params Wd signs l x k) :: ex) := nu ol N (by k_mem) hl (nu ox N (by k_mem) hx (nu od N (by k_mem) hd (nu o1 N (by k_mem) e1 (nu o2 N (by k_mem) e2 (nk5 N kk (by k_mem) NE.p_l NE.p_x NE.p_dx NE.p_1 NE.p_2 (nk5 N kk (by k_mem) NE.dp_l NE.dp_x NE.dp_dx NE.dp_1 NE.dp_2 Nx))))))
  obtain ⟨tups, Nt, hcl, ht⟩ := tups_of hP F2
  have Xh : (KK w.params).In h' := X'.keeps F2.keep
  refine ⟨lv, ln, items, n, c, it, o1', o2', tups, F2, fun q hq => ?_, elv, hcl, ht, fun h2 X2 a1 a2 => tab_of Xh X2 PG.tab (fun o e => by rw [e1] at e; cases e; exact a1) (fun o e => by rw [e2] at e; cases e; exact a2)⟩
  rcases List.mem_append.mp (show q ∈ ((l, PySem.W.listOf (strValues lv).toArray ln) :: (x, accO dx items n) :: (dx, isD w.params c st.i it) :: (157, o1') :: (164, o2') :: (p, instObj 111 dp) :: (dp, pgD w.params Wd signs l x k) :: ex) ++ tups from hq) with hq | hq
  · exact N2 q hq
  · exact Nt q hq
theorem page_now {lv : List (Str × Tok)} {ln : Nat} {items : Array Value} {n c it : Nat} {o1 o2 : Obj} (X : (KK w.params).In h) (N : News b L h ((l, PySem.W.listOf (strValues lv).toArray ln) :: (x, accO dx items n) :: (dx, isD w.params c st.i it) :: (157, o1) :: (164, o2) :: (p, instObj 111 dp) :: (dp, pgD w.params Wd signs l x k) :: ex)) (elv : lv.map (·.1) = st.lines)
    (hP : Pairs h items st.ps) (ht : ∀ h2 : Heap, (KK w.params).In h2 → h2.get? 157 = some o1 → h2.get? 164 = some o2 → TabOk h2) : PageAt w h p dp l x dx Wd signs k st :=
  ⟨(N (p, instObj 111 dp) (by k_mem)).1, (N (dp, pgD w.params Wd signs l x k) (by k_mem)).1, ⟨lv, ln, items, n, c, it, elv, (N (l, PySem.W.listOf (strValues lv).toArray ln) (by k_mem)).1, (N (x, accO dx items n) (by k_mem)).1, (N (dx, isD w.params c st.i it) (by k_mem)).1, hP⟩, ht h X (N (157, o1) (by k_mem)).1 (N (164, o2) (by k_mem)).1⟩
end
/-- the parts of the words, as they come to the page -/
noncomputable def tailChunks (blank : Str) (ws : List Str) : List (Str × Str) := ws.flatMap fun v => [(blank, Txt.slice v none (some 1)), ("", Txt.slice v (some 1) none)]
noncomputable def chunks (blank w0 : Str) (ws : List Str) : List (Str × Str) := (Txt.slice w0 none (some 1), Txt.slice w0 (some 1) none) :: tailChunks blank ws
structure okStep (Wd : Int) (signs : Str) (st : St) (c : Str × Str) : Prop where
  small : Small (st.ps ++ [c])
  i0 : 0 ≤ st.i
  i1 : st.i ≤ 100000
  lines : st.lines.length ≤ 900
  nl : 0 < st.i → Wd < accLen st.i (st.ps ++ [c]) → outerCut (st.ps ++ [c]) signs.cps.toList = none → ∃ psi q', st.ps = psi ++ [q'] ∧ q' ≠ ((" " : Str), ("" : Str)) ∧ PyData.strOk q'.1 = true ∧ PyData.strOk q'.2 = true
noncomputable def runSt (Wd : Int) (signs : Str) (st : St) : List (Str × Str) → St
  | [] => st
  | c :: r => runSt Wd signs (stepSt Wd signs st c.1 c.2) r
noncomputable def okRun (Wd : Int) (signs : Str) (st : St) : List (Str × Str) → Prop
  | [] => True
  | c :: r => okStep Wd signs st c ∧ okRun Wd signs (stepSt Wd signs st c.1 c.2) r
structure okEnd (st : St) : Prop where
  last : ∃ psi q, st.ps = psi ++ [q] ∧ q ≠ ((" " : Str), ("" : Str)) ∧ PyData.strOk q.1 = true ∧ PyData.strOk q.2 = true
  small : Small st.ps
  i0 : 0 ≤ st.i
  i1 : st.i ≤ 100000
  lines : st.lines.length ≤ 900
  pos : 0 < accLen st.i st.ps
  ws : (decide (st.i = 0) && Txt.isspace (accStr st.ps)) = false
  fit : ((st.lines ++ [accStr st.ps]).map (·.length)).sum + (st.lines ++ [accStr st.ps]).length ≤ 1048576
end Mine
end
section
open PySem PySem.W PyProof.Rows PySem.Calls
set_option Elab.async false
set_option maxRecDepth 100000
namespace Mine
noncomputable def foldFor : Stmt := nthS (fBody (top 18)) 2
noncomputable def forTgtOf : Stmt → Expr
  | .For t _ _ _ _ => t
  | _ => .Constant .none 0 default
noncomputable abbrev foldEnv (L : Addr) : Env := envOf (Str.ofString "_law_folded") (fScope (top 18)) L 262 (.ref 261)
section
variable {w : World} {b : Heap} {L : Addr} {s : Shared} {A : Around} {R : Result → Shared → Prop} {mg mb : Str → Option Value} {p dp l x dx l2 I1 lw : Addr} {olw : Obj} {Wd : Int} {signs blank sep : Str} {tb te : Tok} {k : Nat → Nat} {st : St} {m : Str → Option Value} {wv : List (Str × Tok)}
set_option maxHeartbeats 1000000 in
theorem fold_loop {lv : List (Str × Tok)} {ln : Nat} {items : Array Value} {n c it : Nat} {o1 o2 oI : Obj} {tups : List (Addr × Obj)} (X' : (KK w.params).In b) (T' : TR mg mb b) {bm : Addr} {ob : Obj} (BM : BMod b mainGlobals mg bm ob) (F : Fr b L s.heap m)
    (N : News b L s.heap ((l, PySem.W.listOf (strValues lv).toArray ln) :: (x, accO dx items n) :: (dx, isD w.params c st.i it) :: (157, o1) :: (164, o2) :: (p, instObj 111 dp) :: (dp, pgD w.params Wd signs l x k) :: (l2, W.listOf (strValues wv).toArray 0) :: (lw, olw) :: (I1, oI) :: tups)) (elv : lv.map (·.1) = st.lines)
    (cI : oI.cls = .type "list_iterator") (dI : oI.data = .fields #[.ref l2, .int ((0 : Nat) : Int) 0])
    (hPF : ∀ h2 : Heap, (∀ a o, b.get? a = some o → h2.get? a = some o) → (∀ q ∈ tups, h2.get? q.1 = some q.2) → Pairs h2 items st.ps) (htab : ∀ h2 : Heap, (KK w.params).In h2 → h2.get? 157 = some o1 → h2.get? 164 = some o2 → TabOk h2)
    (hm1 : m (Str.ofString "page") = some (.ref p)) (hm2 : m (Str.ofString "blank") = some (.str blank tb)) (hm3 : m (Str.ofString "end") = some (.str sep te))
    (n21 : l2 ≠ l) (n22 : l2 ≠ x) (n23 : l2 ≠ dx) (n24 : l2 ≠ 157) (n25 : l2 ≠ 164) (nI1 : I1 ≠ l) (nI2 : I1 ≠ x) (nI3 : I1 ≠ dx) (nI4 : I1 ≠ 157) (nI5 : I1 ≠ 164) (nI6 : I1 ≠ p) (nI7 : I1 ≠ dp) (nI8 : I1 ≠ l2) (nw1 : lw ≠ l) (nw2 : lw ≠ x) (nw3 : lw ≠ dx) (nw4 : lw ≠ 157) (nw5 : lw ≠ 164) (nw6 : lw ≠ I1) (nt : ∀ q ∈ tups, q.2.cls = .type "tuple")
    (hA : A.depth < 600) (hh : A.handled = none) (hu : A.units < 6000) (hwv : ∀ q ∈ wv, q.1.length ≤ 900) (hasc : signs.cps.all (· < 128) = true)
    (hrun : okRun Wd signs st (tailChunks blank (wv.map fun z : Str × Tok => z.1)))
    (hQ : ∀ (s' : Shared) (m' : Str → Option Value) (ol ox od o1' o2' : Obj), Fr b L s'.heap m' → News b L s'.heap [(l, ol), (x, ox), (dx, od), (157, o1'), (164, o2'), (p, instObj 111 dp), (dp, pgD w.params Wd signs l x k), (lw, olw)] → PageAt w s'.heap p dp l x dx Wd signs k (runSt Wd signs st (tailChunks blank (wv.map fun z : Str × Tok => z.1))) →
      m' (Str.ofString "page") = some (.ref p) → m' (Str.ofString "end") = some (.str sep te) → s'.os = s.os → (AllBare s.gens → AllBare s'.gens) → R (.ok .next) s') :
    codeAny (MM w) (A.deeper (foldEnv L)) (.forLoop (forTgtOf foldFor) (.ref I1) (forBodyOf foldFor) (forElseOf foldFor) (foldEnv L)) R s := by
  refine loopF (fun mm s' => Ex13 fun (m' : Str → Option Value) (q : Nat) (st' : St) (lv : List (Str × Tok)) (ln : Nat) (items : Array Value) (n c it : Nat) (o1 o2 oI : Obj) (tups : List (Addr × Obj)) => A16 (q + mm = wv.length) (Fr b L s'.heap m') (News b L s'.heap ((l, PySem.W.listOf (strValues lv).toArray ln) :: (x, accO dx items n) :: (dx, isD w.params c st'.i it) :: (157, o1) :: (164, o2) :: (p, instObj 111 dp) :: (dp, pgD w.params Wd signs l x k) :: (l2, W.listOf (strValues wv).toArray 0) :: (lw, olw) :: (I1, oI) :: tups)) (lv.map (·.1) = st'.lines) (oI.cls = .type "list_iterator") (oI.data = .fields #[.ref l2, .int (q : Int) 0]) (∀ h2 : Heap, (∀ a o, b.get? a = some o → h2.get? a = some o) → (∀ q ∈ tups, h2.get? q.1 = some q.2) → Pairs h2 items st'.ps) (∀ h2 : Heap, (KK w.params).In h2 → h2.get? 157 = some o1 → h2.get? 164 = some o2 → TabOk h2) (m' (Str.ofString "page") = some (.ref p)) (m' (Str.ofString "blank") = some (.str blank tb)) (m' (Str.ofString "end") = some (.str sep te)) (∀ q ∈ tups, q.2.cls = .type "tuple") (s'.os = s.os) (AllBare s.gens → AllBare s'.gens) (okRun Wd signs st' (tailChunks blank ((wv.map fun z : Str × Tok => z.1).drop q))) (runSt Wd signs st' (tailChunks blank ((wv.map fun z : Str × Tok => z.1).drop q)) = runSt Wd signs st (tailChunks blank (wv.map fun z : Str × Tok => z.1)))) (fun mm s' hJ JN hJN => ?_) wv.length
    ⟨m, 0, st, lv, ln, items, n, c, it, o1, o2, oI, tups, by omega, F, N, elv, cI, dI, hPF, htab, hm1, hm2, hm3, nt, rfl, id, hrun, rfl⟩
  clear N F hPF htab elv cI dI hm1 hm2 hm3 nt
  obtain ⟨m', q, st', lv, ln, items, n, c, it, o1, o2, oI, tups, hq, F, N, elv, cI, dI, hPF, htab, hm1, hm2, hm3, nt, os', gs', hrun', hfin⟩ := hJ
  have hl2 : s'.heap.IsList l2 (strValues wv).toArray := ⟨_, (N (l2, W.listOf (strValues wv).toArray 0) (by k_mem)).1, rfl, _, rfl⟩
  have hit : s'.heap.IsListIter I1 l2 q := ⟨oI, (N (I1, oI) (by k_mem)).1, cI, dI⟩
  have nt : ∀ q ∈ tups, q.1 ≠ I1 := fun q hq z => by
    have e1 := (N q (.tail _ (.tail _ (.tail _ (.tail _ (.tail _ (.tail _ (.tail _ (.tail _ (.tail _ (.tail _ hq))))))))))).1
    have e2 := (N (I1, oI) (by k_mem)).1
    rw [z, e2] at e1
    have := nt q hq
    rw [← Option.some.inj e1, cI] at this
    simp at this
  cases mm with
  | zero =>
    refine wpAny_pyNext_list_end hh hit hl2 (by simp [strValues]; omega) (fun h5 hx5 => ?_)
    have k5 : Kept [I1] s'.heap h5 := fun a o e z => hx5 a o (by simpa using z) e
    have F5 := calledF F N k5 (inW1 (p1 := oI) (by k_mem))
    have N5 : News b L h5 ((l, PySem.W.listOf (strValues lv).toArray ln) :: (x, accO dx items n) :: (dx, isD w.params c st'.i it) :: (157, o1) :: (164, o2) :: (p, instObj 111 dp) :: (dp, pgD w.params Wd signs l x k) :: (lw, olw) :: tups) := by
      iterate 8 refine nk1 N k5 (by k_mem) (by first | assumption | exact Ne.symm (by assumption)) ?_
      exact nkt N k5 (fun q hq => .tail _ (.tail _ (.tail _ (.tail _ (.tail _ (.tail _ (.tail _ (.tail _ (.tail _ (.tail _ hq)))))))))) nt
    dsimp only
    refine wpAny_execs_nil ?_
    have e0 : (wv.map fun z : Str × Tok => z.1).drop q = [] := List.drop_eq_nil_of_le (by simp; omega)
    rw [e0] at hfin
    have hfin : st' = runSt Wd signs st (tailChunks blank (wv.map fun z : Str × Tok => z.1)) := hfin
    refine hQ _ m' (PySem.W.listOf (strValues lv).toArray ln) (accO dx items n) (isD w.params c st'.i it) o1 o2 F5 (by repeat (first | exact nwn | refine nws N5 (by k_mem) ?_)) ?_ hm1 hm3 os' gs'
    rw [← hfin]
    exact page_now (X'.keeps F5.keep) N5 elv (hPF _ F5.keep (fun z hz => (N5 z (.tail _ (.tail _ (.tail _ (.tail _ (.tail _ (.tail _ (.tail _ (.tail _ hz))))))))).1)) htab
  | succ mm =>
    have hlt : q < wv.length := by omega
    obtain ⟨vt, hvt⟩ : ∃ vt, wv[q]? = some vt := ⟨wv[q], List.getElem?_eq_getElem hlt⟩
    obtain ⟨v, tv⟩ := vt
    have hv : v.length ≤ 900 := hwv _ (List.mem_of_getElem? hvt)
    have hvs : v.length ≤ sizeLine := Nat.le_trans hv (by decide)
    refine wpAny_pyNext_list_item (x := .str v tv) hit hl2 (by simp [strValues, hvt]) (fun h5 hit5 hx5 => ?_)
    obtain ⟨oI5, gI5, cI5, dI5⟩ := hit5
    have k5 : Kept [I1] s'.heap h5 := fun a o e z => hx5.extBut a o (by simpa using z) e
    have F5 := calledF F N k5 (inW1 (p1 := oI) (by k_mem))
    have N5 : News b L h5 ((l, PySem.W.listOf (strValues lv).toArray ln) :: (x, accO dx items n) :: (dx, isD w.params c st'.i it) :: (157, o1) :: (164, o2) :: (p, instObj 111 dp) :: (dp, pgD w.params Wd signs l x k) :: (l2, W.listOf (strValues wv).toArray 0) :: (lw, olw) :: (I1, oI5) :: tups) := by
      iterate 9 refine nk1 N k5 (by k_mem) (by first | assumption | exact Ne.symm (by assumption)) ?_
      exact nu oI N (by k_mem) gI5 (nkt N k5 (fun q hq => .tail _ (.tail _ (.tail _ (.tail _ (.tail _ (.tail _ (.tail _ (.tail _ (.tail _ (.tail _ hq)))))))))) nt)
    clear F N hit hl2 hx5 k5
    have hdrop : (wv.map fun z : Str × Tok => z.1).drop q = v :: (wv.map fun z : Str × Tok => z.1).drop (q + 1) := by
      rw [List.drop_eq_getElem_cons (by simpa using hlt)]
      rw [List.getElem?_eq_getElem hlt] at hvt
      simp only [List.getElem_map]
      rw [Option.some.inj hvt]
    rw [hdrop] at hrun' hfin
    obtain ⟨hr1, hr2, hr3⟩ : okStep Wd signs st' (blank, Txt.slice v none (some 1)) ∧ okStep Wd signs (stepSt Wd signs st' blank (Txt.slice v none (some 1))) ("", Txt.slice v (some 1) none) ∧ okRun Wd signs (stepSt Wd signs (stepSt Wd signs st' blank (Txt.slice v none (some 1))) "" (Txt.slice v (some 1) none)) (tailChunks blank ((wv.map fun z : Str × Tok => z.1).drop (q + 1))) := hrun'
    dsimp only
    refine wpAny_assign_Name ?_
    walk1
    rename_i h6 F6 N6
    have hm61 : (fun y => if y = Str.ofString "word" then some (Value.str v tv) else m' y) (Str.ofString "page") = some (.ref p) := hm1
    have hm62 : (fun y => if y = Str.ofString "word" then some (Value.str v tv) else m' y) (Str.ofString "blank") = some (.str blank tb) := hm2
    have hm63 : (fun y => if y = Str.ofString "word" then some (Value.str v tv) else m' y) (Str.ofString "word") = some (.str v tv) := rfl
    iterate 19 walk1
    rename_i h7 t7 c7 F7 N7 hl7
    have X7 : (KK w.params).In h7 := X'.keeps F7.keep
    have n157 := (N7 (157, o1) (by k_mem)).2.2
    have n164 := (N7 (164, o2) (by k_mem)).2.2
    have PG7 : PageAt w h7 p dp l x dx Wd signs k st' := page_now X7 N7 elv (hPF _ F7.keep (fun z hz => (N7 z (.tail _ (.tail _ (.tail _ (.tail _ (.tail _ (.tail _ (.tail _ (.tail _ (.tail _ (.tail _ hz))))))))))).1)) htab
    refine wpAny_call (append_spec X' T' BM F7.keep PG7 (N7 (p, instObj 111 dp) (by k_mem)).2.2 (N7 (dp, pgD w.params Wd signs l x k) (by k_mem)).2.2 (N7 (l, PySem.W.listOf (strValues lv).toArray ln) (by k_mem)).2.2 (N7 (x, accO dx items n) (by k_mem)).2.2 (N7 (dx, isD w.params c st'.i it) (by k_mem)).2.2 n157 n164 (by first | exact dd1 hA (by decide) | (simp only [depth_deeper]; omega)) hh (by first | exact du1 hu (by decide) | (simp only [units_deeper]; omega)) hr1.small hr1.i0 hr1.i1 (Nat.le_trans hr1.lines (by decide)) hasc hr1.nl (fun s8 k8 PG8 os8 gs8 => ?_))
    have N7 : News b L h7 ((l, PySem.W.listOf (strValues lv).toArray ln) :: (x, accO dx items n) :: (dx, isD w.params c st'.i it) :: (157, o1) :: (164, o2) :: (p, instObj 111 dp) :: (dp, pgD w.params Wd signs l x k) :: [(l2, W.listOf (strValues wv).toArray 0), (lw, olw), (I1, oI5)]) := by repeat (first | exact nwn | refine nws N7 (by k_mem) ?_)
    obtain ⟨lv8, ln8, items8, n8, c8, it8, o18, o28, tups8, F8, N8, elv8, nt8, hPF8, tab8⟩ := page_after X' F7 N7 k8 PG8 (ac (nin5 n21 n22 n23 n24 n25) (ac (nin5 nw1 nw2 nw3 nw4 nw5) (ac (nin5 nI1 nI2 nI3 nI4 nI5) an)))
    have N8 : News b L s8.heap ((l, PySem.W.listOf (strValues lv8).toArray ln8) :: (x, accO dx items8 n8) :: (dx, isD w.params c8 (stepSt Wd signs st' blank (Txt.slice v none (some 1))).i it8) :: (157, o18) :: (164, o28) :: (p, instObj 111 dp) :: (dp, pgD w.params Wd signs l x k) :: (l2, W.listOf (strValues wv).toArray 0) :: (lw, olw) :: (I1, oI5) :: tups8) := N8
    clear F7 N7 hPF htab elv
    dsimp only
    iterate 19 walk1
    rename_i h9 t9 c9 F9 N9 hl9
    have X9 : (KK w.params).In h9 := X'.keeps F9.keep
    have PG9 := page_now X9 N9 elv8 (hPF8 _ F9.keep (fun z hz => (N9 z (.tail _ (.tail _ (.tail _ (.tail _ (.tail _ (.tail _ (.tail _ (.tail _ (.tail _ (.tail _ hz))))))))))).1)) tab8
    refine wpAny_call (append_spec X' T' BM F9.keep PG9 (N9 (p, instObj 111 dp) (by k_mem)).2.2 (N9 (dp, pgD w.params Wd signs l x k) (by k_mem)).2.2 (N9 (l, PySem.W.listOf (strValues lv8).toArray ln8) (by k_mem)).2.2 (N9 (x, accO dx items8 n8) (by k_mem)).2.2 (N9 (dx, isD w.params c8 (stepSt Wd signs st' blank (Txt.slice v none (some 1))).i it8) (by k_mem)).2.2 n157 n164 (by first | exact dd1 hA (by decide) | (simp only [depth_deeper]; omega)) hh (by first | exact du1 hu (by decide) | (simp only [units_deeper]; omega)) hr2.small hr2.i0 hr2.i1 (Nat.le_trans hr2.lines (by decide)) hasc hr2.nl (fun s10 k10 PG10 os10 gs10 => ?_))
    have N9 : News b L h9 ((l, PySem.W.listOf (strValues lv8).toArray ln8) :: (x, accO dx items8 n8) :: (dx, isD w.params c8 (stepSt Wd signs st' blank (Txt.slice v none (some 1))).i it8) :: (157, o18) :: (164, o28) :: (p, instObj 111 dp) :: (dp, pgD w.params Wd signs l x k) :: [(l2, W.listOf (strValues wv).toArray 0), (lw, olw), (I1, oI5)]) := by repeat (first | exact nwn | refine nws N9 (by k_mem) ?_)
    obtain ⟨lvA, lnA, itemsA, nA, cA, itA, o1A, o2A, tupsA, FA, NA, elvA, ntA, hPFA, tabA⟩ := page_after X' F9 N9 k10 PG10 (ac (nin5 n21 n22 n23 n24 n25) (ac (nin5 nw1 nw2 nw3 nw4 nw5) (ac (nin5 nI1 nI2 nI3 nI4 nI5) an)))
    have NA : News b L s10.heap ((l, PySem.W.listOf (strValues lvA).toArray lnA) :: (x, accO dx itemsA nA) :: (dx, isD w.params cA (stepSt Wd signs (stepSt Wd signs st' blank (Txt.slice v none (some 1))) "" (Txt.slice v (some 1) none)).i itA) :: (157, o1A) :: (164, o2A) :: (p, instObj 111 dp) :: (dp, pgD w.params Wd signs l x k) :: (l2, W.listOf (strValues wv).toArray 0) :: (lw, olw) :: (I1, oI5) :: tupsA) := NA
    dsimp only
    refine wpAny_execs_nil ?_
    dsimp only
    exact hJN _ ⟨mm, Nat.lt_succ_self _, _, q + 1, _, lvA, lnA, itemsA, nA, cA, itA, o1A, o2A, oI5, tupsA, by omega, FA, NA, elvA, cI5, dI5, hPFA, tabA, hm61, hm62, hm3, ntA, os10.trans (os8.trans os'), fun G => gs10 (gs8 (gs' G)), hr3, hfin⟩
end
end Mine
end
section
open PySem PySem.W PyProof.Rows PySem.Calls
set_option Elab.async false
set_option maxRecDepth 100000
namespace Mine
section
variable {w : World} {g : Heap} {s : Shared} {A : Around} {R : Result → Shared → Prop} {mg mb : Str → Option Value} {lw : Addr}
set_option maxHeartbeats 1000000 in
theorem folded_spec {i Wd : Int} {ti tw tb te ts : Tok} {signs blank sep w0 : Str} {t0 : Tok} {wv : List (Str × Tok)} {wn : Nat} (X : (KK w.params).In g) (T : TR mg mb g) {bm : Addr} {ob : Obj} (BM : BMod g mainGlobals mg bm ob) (kg : g.StaysIn s.heap)
    (hlw : s.heap.get? lw = some (W.listOf (strValues ((w0, t0) :: wv)).toArray wn)) (glw : g.get? lw = none) (g1 : g.get? 157 = none) (g2 : g.get? 164 = none) (hA : A.depth < 600) (hh : A.handled = none) (hu : A.units < 6000)
    (hTab : TabOk s.heap) (hw0 : w0.length ≤ 900) (hwv : ∀ q ∈ wv, q.1.length ≤ 900) (hwl : wv.length ≤ 900) (hasc : signs.cps.all (· < 128) = true) (hsep : sep.length ≤ 16)
    (hrun : okRun Wd signs ⟨[], i, []⟩ (chunks blank w0 (wv.map (·.1)))) (hend : okEnd (runSt Wd signs ⟨[], i, []⟩ (chunks blank w0 (wv.map (·.1)))))
    (h : ∀ (s' : Shared) (t : Tok), Kept [157, 164] s.heap s'.heap → TabOk s'.heap → s'.os = s.os → (AllBare s.gens → AllBare s'.gens) → R (.ok (.ret (.str (Txt.join sep ((runSt Wd signs ⟨[], i, []⟩ (chunks blank w0 (wv.map (·.1)))).lines ++ [accStr (runSt Wd signs ⟨[], i, []⟩ (chunks blank w0 (wv.map (·.1)))).ps])) t))) s') : codeAny (MM w) A (.call (.ref 262) ⟨[.ref lw, .str blank tb, .str signs ts, .int i ti, .int Wd tw, .str sep te], []⟩) R s := by
  obtain ⟨o1, o2, h1, d1, h2, d2⟩ := tab_objs hTab
  refine' enter (news := [(lw, W.listOf (strValues ((w0, t0) :: wv)).toArray wn), (157, o1), (164, o2)]) (binds := [("words", .ref lw), ("blank", .str blank tb), ("signs", .str signs ts), ("room", .int i ti), ("width", .int Wd tw), ("end", .str sep te)]) X T kg ?n ?ho ?hcd ?room ?bind ?loc ?_ ?c1 ?c2 ?c3 ?c4
  case ho => k_is
  case hcd => k_is
  case room => first | exact Nat.lt_of_lt_of_le hA (by decide) | exact Nat.lt_of_lt_of_le (by omega : _ < 990) (by decide)
  case bind => exact BindsTo.of_eq rfl
  case loc => exact locs rfl
  case n => exact ent3 ⟨hlw, glw⟩ ⟨h1, g1⟩ ⟨h2, g2⟩
  case c1 => decide
  case c2 => rfl
  case c3 => rfl
  case c4 => rfl
  intro b L h₁ F N B
  have X' := B.k
  have T' := B.t
  have hw0s : w0.length ≤ sizeLine := Nat.le_trans hw0 (by decide)
  iterate 15 walk1
  refine call_cls (K := KK w.params) F X' N (by k_is) (by k_is) (by k_is) (fun p dp h3 F3 N3 lt1 lt2 => ?_)
  have tab3 : TabOk h3 := tab_of (X.keeps kg) (X'.keeps F3.keep) hTab (fun o e => by rw [h1] at e; cases e; exact (N3 (157, o1) (by k_mem)).1) (fun o e => by rw [h2] at e; cases e; exact (N3 (164, o2) (by k_mem)).1)
  have hp3 := N3 (p, instObj 111 dp) (by k_mem)
  have e157 := (N3 (157, o1) (by k_mem)).1
  have e164 := (N3 (164, o2) (by k_mem)).1
  have k3 := F3.keep
  have hdp3 := N3 (dp, dictOf [] 0) (by k_mem)
  refine vinit_spec X' T' F3.keep hp3.1 hdp3.1 hp3.2.2 hdp3.2.2 (by show A.depth + 1 + 1 < 690; omega) tab3 (fun s4 l x dx k k4 PG4 nl nx nd os4 gs4 => ?_)
  refine ⟨rfl, ?_⟩
  obtain ⟨lv, ln, items, n, c, it, elv, hl, hx, hd, hP⟩ := PG4.ex
  obtain rfl : lv = [] := List.map_eq_nil_iff.mp elv
  have NE := page_pne PG4.hp PG4.hdp hl hx hd PG4.tab
  have ne3 : ∀ (a : Addr) (o : Obj), h3.get? a = some o → a ≠ l ∧ a ≠ x ∧ a ≠ dx := fun a o e => ⟨fun z => (by rw [z, nl] at e; cases e), fun z => (by rw [z, nx] at e; cases e), fun z => (by rw [z, nd] at e; cases e)⟩
  have nlw := ne3 _ _ (N3 (lw, W.listOf (strValues ((w0, t0) :: wv)).toArray wn) (by k_mem)).1
  have nlwp : lw ≠ p ∧ lw ≠ dp ∧ lw ≠ 157 ∧ lw ≠ 164 := by
    have a1 := (N3 (lw, W.listOf (strValues ((w0, t0) :: wv)).toArray wn) (by k_mem)).1
    have tt := tab_ne tab3 a1 (fun _ e => by cases e)
    refine ⟨fun z => ?_, fun z => ?_, tt.1, tt.2⟩
    · rw [z, hp3.1] at a1; cases a1
    · rw [z, hdp3.1] at a1; have := congrArg (fun o : Option Obj => o.map (·.cls)) a1; simp at this
  have nlwd : lw ≠ dp := nlwp.2.1
  have F4 := calledF F3 N3 k4 (inW1 (p1 := dictOf [] 0) (by k_mem))
  have N4 : News b L s4.heap [(dp, pgD w.params Wd signs l x k), (p, instObj 111 dp), (lw, W.listOf (strValues ((w0, t0) :: wv)).toArray wn), (157, o1), (164, o2)] := nu (dictOf [] 0) N3 (by k_mem) PG4.hdp (nk1 N3 k4 (by k_mem) NE.p_dp (nk1 N3 k4 (by k_mem) (by first | assumption | exact Ne.symm (by assumption)) (nk1 N3 k4 (by k_mem) NE.dp_1.symm (nk1 N3 k4 (by k_mem) NE.dp_2.symm (nwn)))))
  have N4 := newsPlus F3 nd (newsPlus F3 nx (newsPlus F3 nl N4 hl) hx) hd
  clear F3 N3 F N
  dsimp only
  iterate 13 walk1
  rename_i h5 F5 N5
  refine item_listR (items := (strValues ((w0, t0) :: wv)).toArray) (x := .str w0 t0) ⟨_, (N5 (lw, W.listOf (strValues ((w0, t0) :: wv)).toArray wn) (by k_mem)).1, rfl, _, rfl⟩ (by decide) (by decide) rfl ?_
  iterate 12 walk1
  rename_i h6 tk6 c6 F6 N6 hl6
  refine item_listR (items := (strValues ((w0, t0) :: wv)).toArray) (x := .str w0 t0) ⟨_, (N6 (lw, W.listOf (strValues ((w0, t0) :: wv)).toArray wn) (by k_mem)).1, rfl, _, rfl⟩ (by decide) (by decide) rfl ?_
  iterate 9 walk1
  rename_i h7 tk7 c7 F7 N7 hl7
  have X7 : (KK w.params).In h7 := X'.keeps F7.keep
  have BMb : BMod b mainGlobals mg bm ob := BM.keeps B.g
  have hP0 : ∀ h, Pairs h items [] := fun h => by
    obtain ⟨_, _, _, e, _⟩ := hP.ex
    exact ⟨fun _ => 0, fun _ => 0, fun _ => 0, e, fun k p e => by simp at e⟩
  have X4 : (KK w.params).In s4.heap := X'.keeps (fun a o e => by
    by_cases z : a = dp
    · rw [z, hdp3.2.2] at e; cases e
    · exact k4 _ _ (k3 _ _ e) (by simpa using z))
  have N7 : News b L h7 [(l, PySem.W.listOf (strValues []).toArray ln), (x, accO dx items n), (dx, isD w.params c i it), (157, o1), (164, o2), (p, instObj 111 dp), (dp, pgD w.params Wd signs l x k), (lw, W.listOf (strValues ((w0, t0) :: wv)).toArray wn)] := by repeat (first | exact nwn | refine nws N7 (by k_mem) ?_)
  have PG7 : PageAt w h7 p dp l x dx Wd signs k ⟨[], i, []⟩ := page_now X7 N7 rfl (hP0 _) (fun h2 X2 a1 a2 => tab_of X4 X2 PG4.tab (fun o e => by rw [k4 _ _ e157 (nin1 NE.dp_1.symm)] at e; cases e; exact a1) (fun o e => by rw [k4 _ _ e164 (nin1 NE.dp_2.symm)] at e; cases e; exact a2))
  obtain ⟨hrun1, hrun2⟩ := hrun
  refine wpAny_call (append_spec X' T' BMb F7.keep PG7 (N7 (p, instObj 111 dp) (by k_mem)).2.2 (N7 (dp, pgD w.params Wd signs l x k) (by k_mem)).2.2 (N7 (l, PySem.W.listOf (strValues []).toArray ln) (by k_mem)).2.2 (N7 (x, accO dx items n) (by k_mem)).2.2 (N7 (dx, isD w.params c i it) (by k_mem)).2.2 (N7 (157, o1) (by k_mem)).2.2 (N7 (164, o2) (by k_mem)).2.2 (by first | exact dd1 hA (by decide) | (simp only [depth_deeper]; omega)) hh (by first | exact du1 hu (by decide) | (simp only [units_deeper]; omega)) hrun1.small hrun1.i0 hrun1.i1 (Nat.le_trans hrun1.lines (by decide)) hasc hrun1.nl (fun s8 k8 PG8 os8 gs8 => ?_))
  obtain ⟨lv8, ln8, items8, n8, c8, it8, o18, o28, tups8, F8, N8, elv8, nt8, hPF8, tab8⟩ := page_after X' F7 N7 k8 PG8 (ac (nin5 nlw.1 nlw.2.1 nlw.2.2 nlwp.2.2.1 nlwp.2.2.2) an)
  dsimp only
  walk1
  refine wpAny_For ?_ (fun _ => rfl)
  refine wpAny_Subscript_list_slice ?_
  iterate 4 walk1
  refine ⟨lw, (strValues ((w0, t0) :: wv)).toArray, some ((1 : Nat) : Int), none, rfl, ⟨_, (N8 (lw, W.listOf (strValues ((w0, t0) :: wv)).toArray wn) (by k_mem)).1, rfl, _, rfl⟩, by simp [strValues]; exact Nat.le_trans (Nat.succ_le_succ hwl) (by decide), IsPart.int 1 _, .none, ?_⟩
  rw [slicePick_from _ 1 (by simp [strValues])]
  rw [show (List.drop 1 (strValues ((w0, t0) :: wv)).toArray.toList).toArray = (strValues wv).toArray from rfl]
  obtain ⟨l2, hl2⟩ : ∃ l2, l2 = s8.heap.objs.size + 1 := ⟨_, rfl⟩
  rw [← hl2]
  have e9 : ((s8.heap.push { cls := .type "slice", data := .fields #[.int ((1 : Nat) : Int) s8.toks, .none, .none] }).push { cls := .type "list", data := .seq (strValues wv).toArray }).get? l2 = some (W.listOf (strValues wv).toArray 0) := by rw [hl2]; heap_get
  have n9 : s8.heap.get? l2 = none := by
    cases e : s8.heap.get? l2 with
    | none => rfl
    | some o => exact absurd (Heap.lt_size e) (by rw [hl2]; exact Nat.not_lt.mpr (Nat.le_succ _))
  have k9 : ∀ a o, s8.heap.get? a = some o → ((s8.heap.push { cls := .type "slice", data := .fields #[.int ((1 : Nat) : Int) s8.toks, .none, .none] }).push { cls := .type "list", data := .seq (strValues wv).toArray }).get? a = some o := fun a o e => Heap.get?_push_of_some _ (Heap.get?_push_of_some _ e)
  refine wpAny_pyIter_list (items := (strValues wv).toArray) ⟨_, e9, rfl, _, rfl⟩ ?_
  dsimp only
  revert e9 k9
  show (((s8.heap.push { cls := .type "slice", data := .fields #[.int ((1 : Nat) : Int) s8.toks, .none, .none] }).push { cls := .type "list", data := .seq (strValues wv).toArray }).get? l2 = some (W.listOf (strValues wv).toArray 0)) → (∀ a o, s8.heap.get? a = some o → ((s8.heap.push { cls := .type "slice", data := .fields #[.int ((1 : Nat) : Int) s8.toks, .none, .none] }).push { cls := .type "list", data := .seq (strValues wv).toArray }).get? a = some o) → _
  generalize ((s8.heap.push { cls := .type "slice", data := .fields #[.int ((1 : Nat) : Int) s8.toks, .none, .none] }).push { cls := .type "list", data := .seq (strValues wv).toArray }) = h9
  intro e9 k9
  obtain ⟨F9, N9⟩ := grownN F8 N8 k9
  have N9 := newsPlus F8 n9 N9 e9
  obtain ⟨I1, hI1⟩ : ∃ I1, I1 = h9.objs.size := ⟨_, rfl⟩
  rw [← hI1]
  have nI : h9.get? I1 = none := by rw [hI1]; exact get_size_none _
  have k10 : ∀ a o, h9.get? a = some o → (h9.push { cls := .type "list_iterator", data := .fields #[.ref l2, .int 0 0] }).get? a = some o := fun a o e => Heap.get?_push_of_some _ e
  obtain ⟨F10, N10⟩ := grown (l := I1) (lo := { cls := .type "list_iterator", data := .fields #[.ref l2, .int 0 0] }) F9 N9 k10 (by rw [hI1]; exact Heap.get?_push_size _ rfl) nI
  have nI9 : ∀ (a : Addr) (o : Obj), h9.get? a = some o → I1 ≠ a := fun a o e z => (by rw [← z, nI] at e; cases e)
  have n29 : ∀ (a : Addr) (o : Obj), s8.heap.get? a = some o → l2 ≠ a := fun a o e z => (by rw [← z, n9] at e; cases e)
  have n2 : l2 ≠ l ∧ l2 ≠ x ∧ l2 ≠ dx ∧ l2 ≠ 157 ∧ l2 ≠ 164 := ⟨n29 _ _ (N8 (l, PySem.W.listOf (strValues lv8).toArray ln8) (by k_mem)).1, n29 _ _ (N8 (x, accO dx items8 n8) (by k_mem)).1, n29 _ _ (N8 (dx, isD w.params c8 (stepSt Wd signs ⟨[], i, []⟩ (Txt.slice w0 none (some 1)) (Txt.slice w0 (some 1) none)).i it8) (by k_mem)).1, n29 _ _ (N8 (157, o18) (by k_mem)).1, n29 _ _ (N8 (164, o28) (by k_mem)).1⟩
  have nI2 : I1 ≠ l ∧ I1 ≠ x ∧ I1 ≠ dx ∧ I1 ≠ 157 ∧ I1 ≠ 164 ∧ I1 ≠ p ∧ I1 ≠ dp ∧ I1 ≠ l2 := ⟨nI9 _ _ (N9 (l, PySem.W.listOf (strValues lv8).toArray ln8) (by k_mem)).1, nI9 _ _ (N9 (x, accO dx items8 n8) (by k_mem)).1, nI9 _ _ (N9 (dx, isD w.params c8 (stepSt Wd signs ⟨[], i, []⟩ (Txt.slice w0 none (some 1)) (Txt.slice w0 (some 1) none)).i it8) (by k_mem)).1, nI9 _ _ (N9 (157, o18) (by k_mem)).1, nI9 _ _ (N9 (164, o28) (by k_mem)).1, nI9 _ _ (N9 (p, instObj 111 dp) (by k_mem)).1, nI9 _ _ (N9 (dp, pgD w.params Wd signs l x k) (by k_mem)).1, nI9 _ _ e9⟩
  have N12 : News b L (h9.push { cls := .type "list_iterator", data := .fields #[.ref l2, .int 0 0] }) ((l, PySem.W.listOf (strValues lv8).toArray ln8) :: (x, accO dx items8 n8) :: (dx, isD w.params c8 (stepSt Wd signs ⟨[], i, []⟩ (Txt.slice w0 none (some 1)) (Txt.slice w0 (some 1) none)).i it8) :: (157, o18) :: (164, o28) :: (p, instObj 111 dp) :: (dp, pgD w.params Wd signs l x k) :: (l2, W.listOf (strValues wv).toArray 0) :: (lw, W.listOf (strValues ((w0, t0) :: wv)).toArray wn) :: (I1, { cls := .type "list_iterator", data := .fields #[.ref l2, .int 0 0] }) :: tups8) := by
    iterate 10 refine nws N10 (by k_mem) ?_
    exact fun q hq => N10 q (.tail _ (.tail _ (.tail _ (.tail _ (.tail _ (.tail _ (.tail _ (.tail _ (.tail _ (.tail _ hq))))))))))
  refine fold_loop (signs := signs) (tups := tups8) (st := stepSt Wd signs ⟨[], i, []⟩ (Txt.slice w0 none (some 1)) (Txt.slice w0 (some 1) none)) (wv := wv) (blank := blank) (sep := sep) (tb := tb) (te := te) X' T' BMb F10 N12 elv8 rfl rfl hPF8 tab8 rfl rfl rfl n2.1 n2.2.1 n2.2.2.1 n2.2.2.2.1 n2.2.2.2.2 nI2.1 nI2.2.1 nI2.2.2.1 nI2.2.2.2.1 nI2.2.2.2.2.1 nI2.2.2.2.2.2.1 nI2.2.2.2.2.2.2.1 nI2.2.2.2.2.2.2.2 nlw.1 nlw.2.1 nlw.2.2 nlwp.2.2.1 nlwp.2.2.2 (nI9 _ _ (N9 (lw, W.listOf (strValues ((w0, t0) :: wv)).toArray wn) (by k_mem)).1).symm nt8 hA hh hu hwv hasc hrun2 (fun s11 m11 ol ox od o1' o2' F11 N11 PG11 hm1 hm3 os11 gs11 => ?_)
  clear F8 N8 F9 N9 F10 N10 N12 F7 N7
  dsimp only
  iterate 10 walk1
  obtain ⟨psi, qe, eps, hq1, hq2, hq3⟩ := hend.last
  have hA11 := N11
  refine wpAny_call (vstr_spec X' T' BMb F11.keep PG11 (N11 (p, instObj 111 dp) (by k_mem)).2.2 (N11 (dp, pgD w.params Wd signs l x k) (by k_mem)).2.2 (N11 (l, ol) (by k_mem)).2.2 (N11 (x, ox) (by k_mem)).2.2 (N11 (dx, od) (by k_mem)).2.2 (N11 (157, o1') (by k_mem)).2.2 (N11 (164, o2') (by k_mem)).2.2 (by first | exact dd1 hA (by decide) | (simp only [depth_deeper]; omega)) hh (by first | exact du1 hu (by decide) | (simp only [units_deeper]; omega)) eps hend.small hq1 hq2 hq3 hend.i0 hend.i1 hend.lines hend.pos hend.ws hsep hend.fit (fun s12 t12 k12 tab12 os12 gs12 => ?_))
  refine h s12 t12 (fun a o e q => ?_) tab12 (os12.trans (os11.trans (os8.trans os4))) (fun G => gs12 (gs11 (gs8 (by rw [gs4]; exact G))))
  have q' : a ≠ 157 ∧ a ≠ 164 := by simpa using q
  by_cases z : a = lw
  · rw [z, hlw] at e; cases e; rw [z]
    exact k12 _ _ (N11 (lw, _) (by k_mem)).1 (nin5 nlw.1 nlw.2.1 nlw.2.2 nlwp.2.2.1 nlwp.2.2.2)
  · have eb : b.get? a = some o := B.old _ _ e (by simp only [List.map_cons, List.map_nil, List.mem_cons, List.mem_nil_iff, or_false, not_or]; exact ⟨z, q'.1, q'.2⟩)
    have nb : ∀ (c : Addr), b.get? c = none → a ≠ c := fun c ec z => by rw [z, ec] at eb; cases eb
    refine k12 _ _ (F11.keep _ _ eb) ?_
    simp only [List.mem_cons, List.mem_nil_iff, or_false, not_or]
    exact ⟨nb _ (N11 (l, ol) (by k_mem)).2.2, nb _ (N11 (x, ox) (by k_mem)).2.2, nb _ (N11 (dx, od) (by k_mem)).2.2, q'.1, q'.2⟩
end
end Mine
end
section
open PySem PySem.W PyProof.Rows PySem.Calls
set_option Elab.async false
set_option maxRecDepth 100000
namespace Mine
noncomputable def toldTo (f c : List Int) (hour : Int) (e : Str) : Nat → Str
  | 0 => Txt.mul "." (f.getD 0 0 + hour) ++ ";"
  | j + 1 => (if c.getD (j + 1) 0 ≤ hour ∧ hour < c.getD j 0 then toldTo f c hour e j ++ e else toldTo f c hour e j) ++ Txt.mul "." (f.getD (j + 1) 0 + min (max (hour - c.getD (j + 1) 0) 0) (f.getD (j + 1) 0 + 1)) ++ ";"
theorem max_val {a b : Int} {t u : Tok} : (if b > a then Value.int b u else Value.int a t) = Value.int (max a b) (if b > a then u else t) := by
  split
  · rw [show max a b = b by omega]
  · rw [show max a b = a by omega]
theorem min_val {a b : Int} {t u : Tok} : (if b < a then Value.int b u else Value.int a t) = Value.int (min a b) (if b < a then u else t) := by
  split
  · rw [show min a b = b by omega]
  · rw [show min a b = a by omega]
theorem app_len (a b : Str) : (a ++ b).length = a.length + b.length := by
  show (a.cps ++ b.cps).size = _
  simp [Str.length]
theorem mul_list (n : Int) : (Txt.mul "." n).cps.toList = List.replicate n.toNat 46 := by
  unfold Txt.mul
  by_cases h : n < 1
  · rw [if_pos h, show n.toNat = 0 by omega]; rfl
  · rw [if_neg h]
    have e1 : (Str.ofString ".").cps = #[46] := by decide
    by_cases h1 : (n == 1 || (Str.ofString ".").length == 0) = true
    · rw [if_pos h1]
      have : n = 1 := by
        have e2 : (Str.ofString ".").length = 1 := by decide
        rw [e2] at h1
        simpa using h1
      rw [this, e1]; rfl
    · rw [if_neg h1, e1]
      have key : ∀ (k : Nat) (acc : Array Nat), ((List.replicate k (#[46] : Array Nat)).foldl (· ++ ·) acc).toList = acc.toList ++ List.replicate k 46 := by
        intro k
        induction k with
        | zero => intro acc; simp
        | succ k ih =>
          intro acc
          rw [List.replicate_succ, List.foldl_cons, ih]
          simp [List.replicate_succ]
      rw [key]; rfl
theorem mul_len0 (n : Int) : (Txt.mul "." n).length = n.toNat := by
  have := congrArg List.length (mul_list n)
  simpa [Str.length] using this
theorem toldTo_len {f c : List Int} {hour : Int} {e : Str} (hb : ∀ k < 5, 0 ≤ f.getD k 0 ∧ f.getD k 0 ≤ 100) (hbh : 0 ≤ hour ∧ hour ≤ 100) (hbe : e.length ≤ 10) : ∀ j, j < 5 → (toldTo f c hour e j).length ≤ 300 * (j + 1) := by
  intro j
  have e1 : (Str.ofString ";").length = 1 := by decide
  induction j with
  | zero =>
    intro _
    have := hb 0 (by omega)
    unfold toldTo
    rw [app_len, mul_len0, e1]; omega
  | succ j ih =>
    intro hj
    have h1 := ih (by omega)
    have h2 := hb (j + 1) hj
    unfold toldTo
    rw [app_len, app_len, mul_len0, e1]
    have h3 : (if c.getD (j + 1) 0 ≤ hour ∧ hour < c.getD j 0 then toldTo f c hour e j ++ e else toldTo f c hour e j).length ≤ 300 * (j + 1) + 10 := by
      split
      · rw [app_len]; omega
      · omega
    omega
theorem mul_len (n : Int) : (Txt.mul "." n).length = n.toNat := by
  have := congrArg List.length (mul_list n)
  simpa [Str.length] using this
noncomputable abbrev rIt (x left : Int) : Obj := { cls := .type "range_iterator", dict := none, data := .fields #[rawInt x, rawInt left, rawInt 1], slots := #[] }
section
variable {w : World} {g : Heap} {s : Shared} {A : Around} {R : Result → Shared → Prop} {mg mb : Str → Option Value}
noncomputable def toldFor : Stmt := nthS (fBody (top 19)) 1
noncomputable def forBodyOf' : Stmt → List Stmt
  | .For _ _ b _ _ => b
  | _ => []
noncomputable def toldTail : List Stmt := (forBodyOf' toldFor).drop 1
noncomputable abbrev toldEnv (L : Addr) : Env := envOf (Str.ofString "_law_told") (fScope (top 19)) L 269 (.ref 268)
set_option maxHeartbeats 1000000 in
theorem told_tail {b : Heap} {L fa ca I2 : Addr} {oI : Obj} {fv cv : List Value} {f c : List Int} {fn cn j : Nat} {hour : Int} {th te tj ta : Tok} {e acc : Str} {m : Str → Option Value} {Q : Flow → Shared → Prop} {E : Value → Shared → Prop} (X' : (KK w.params).In b) (T' : TR mg mb b) (F : Fr b L s.heap m)
    (N : News b L s.heap [(I2, oI), (fa, W.listOf fv.toArray fn), (ca, W.listOf cv.toArray cn)]) (hIf : IntsAre fv f) (hIc : IntsAre cv c) (hlf : f.length = 5) (hlc : c.length = 5) (hA : A.depth < 690) (hh : A.handled = none)
    (hb : 0 ≤ f.getD (j + 1) 0 ∧ f.getD (j + 1) 0 ≤ 100) (hbh : 0 ≤ hour ∧ hour ≤ 100) (hj : j < 4) (hacc : acc.length ≤ 2000)
    (hm1 : m (Str.ofString "first") = some (.ref fa)) (hm2 : m (Str.ofString "comes") = some (.ref ca)) (hm3 : m (Str.ofString "hour") = some (.int hour th)) (hm4 : m (Str.ofString "end") = some (.str e te)) (hm5 : m (Str.ofString "text") = some (.str acc ta)) (hm6 : m (Str.ofString "k") = some (.int ((1 + j : Nat) : Int) tj))
    (hQ : ∀ h' tk m' t', Fr b L h' m' → News b L h' [(I2, oI), (fa, W.listOf fv.toArray fn), (ca, W.listOf cv.toArray cn)] → m' (Str.ofString "first") = some (.ref fa) → m' (Str.ofString "comes") = some (.ref ca) → m' (Str.ofString "hour") = some (.int hour th) → m' (Str.ofString "end") = some (.str e te) →
      m' (Str.ofString "text") = some (.str (acc ++ Txt.mul "." (f.getD (j + 1) 0 + min (max (hour - c.getD (j + 1) 0) 0) (f.getD (j + 1) 0 + 1)) ++ ";") t') → Q .next { s with heap := h', toks := tk }) :
    wpAny (MM w) (A.deeper (toldEnv L)) (execs toldTail (toldEnv L)) Q E s := by
  have ej : (((1 + j : Nat) : Int)).toNat = j + 1 := by omega
  iterate 20 walk1
  refine max_two_ints hh (fun h2 tk2 k2 => ?_)
  obtain ⟨F2, N2⟩ := grownN F N k2
  rw [max_val]
  iterate 9 walk1
  refine min_two_ints hh (fun h3 tk3 k3 => ?_)
  obtain ⟨F3, N3⟩ := grownN F2 N2 k3
  rw [min_val]
  rw [ej]
  clear F N F2 N2
  have hmn : 0 ≤ min (max (hour - c.getD (j + 1) 0) 0) (f.getD (j + 1) 0 + 1) ∧ min (max (hour - c.getD (j + 1) 0) 0) (f.getD (j + 1) 0 + 1) ≤ 101 := by omega
  generalize hgr : min (max (hour - c.getD (j + 1) 0) 0) (f.getD (j + 1) 0 + 1) = gr at hmn hQ ⊢
  have hb' : 0 ≤ f.getD (((1 + j : Nat) : Int)).toNat 0 ∧ f.getD (((1 + j : Nat) : Int)).toNat 0 ≤ 100 := by rw [ej]; exact hb
  iterate 22 walk1
  rename_i h9 F9 N9
  rw [← ej] at hQ
  exact hQ h9 _ _ _ F9 N9 hm1 hm2 hm3 hm4 rfl
set_option maxHeartbeats 1000000 in
theorem told_spec {fa ca : Addr} {fv cv : List Value} {f c : List Int} {fn cn : Nat} {hour : Int} {th te : Tok} {e : Str} (X : (KK w.params).In g) (T : TR mg mb g) (kg : g.StaysIn s.heap) (hA : A.depth < 690) (hh : A.handled = none)
    (hf : s.heap.get? fa = some (W.listOf fv.toArray fn)) (hc : s.heap.get? ca = some (W.listOf cv.toArray cn)) (gf : g.get? fa = none) (gc : g.get? ca = none) (hfc : fa ≠ ca) (hIf : IntsAre fv f) (hIc : IntsAre cv c) (hlf : f.length = 5) (hlc : c.length = 5)
    (hb : ∀ k < 5, 0 ≤ f.getD k 0 ∧ f.getD k 0 ≤ 100) (hbh : 0 ≤ hour ∧ hour ≤ 100) (hbe : e.length ≤ 10)
    (h : ∀ h' tk t, Kept [] s.heap h' → R (.ok (.ret (.str (toldTo f c hour e 4) t))) { s with heap := h', toks := tk }) : codeAny (MM w) A (.call (.ref 269) ⟨[.ref fa, .ref ca, .int hour th, .str e te], []⟩) R s := by
  refine' enter (news := [(fa, W.listOf fv.toArray fn), (ca, W.listOf cv.toArray cn)]) (binds := [("first", .ref fa), ("comes", .ref ca), ("hour", .int hour th), ("end", .str e te)]) X T kg ?n ?ho ?hcd ?room ?bind ?loc ?_ ?c1 ?c2 ?c3 ?c4
  case ho => k_is
  case hcd => k_is
  case room => first | exact Nat.lt_of_lt_of_le hA (by decide) | exact Nat.lt_of_lt_of_le (by omega : _ < 990) (by decide)
  case bind => exact BindsTo.of_eq rfl
  case loc => exact locs rfl
  case n =>
    intro p hp
    simp only [List.mem_cons, List.mem_nil_iff, or_false] at hp
    rcases hp with rfl | rfl
    · exact ⟨hf, gf⟩
    · exact ⟨hc, gc⟩
  case c1 => decide
  case c2 => rfl
  case c3 => rfl
  case c4 => rfl
  intro b L h₁ F N B
  have X' := B.k
  have T' := B.t
  have kf : ∀ {h' : Heap} {m' : Str → Option Value}, Fr b L h' m' → News b L h' [(fa, W.listOf fv.toArray fn), (ca, W.listOf cv.toArray cn)] → Kept [] s.heap h' := fun F N => keptAll B F N (by simpa using ⟨hf, hc⟩)
  have b0 : 0 ≤ f.getD (Int.toNat 0) 0 ∧ f.getD (Int.toNat 0) 0 ≤ 100 := hb 0 (by decide)
  iterate 17 walk1
  rename_i F2 N2
  refine wpAny_For ?_ (fun _ => rfl)
  iterate 15 walk1
  rename_i h3 tk3 t3 u3 v3 hr3 F3 N3 k3
  have hlen5 : ((f.length : Nat) : Int) = 5 := by rw [hlf]; rfl
  rw [hlen5] at hr3
  refine wpAny_pyIter_range hr3 (by decide) ?_
  rw [show Builtin.Range.rangeSize 1 5 1 = ((4 : Nat) : Int) by decide]
  obtain ⟨I2, hI2⟩ : ∃ I2, I2 = h3.objs.size := ⟨_, rfl⟩
  have nI2 : h3.get? I2 = none := by rw [hI2]; exact get_size_none _
  obtain ⟨F4, N4⟩ := grown (l := I2) (lo := rIt 1 ((4 : Nat) : Int)) F3 N3 (fun a o e => Heap.get?_push_of_some _ e) (by rw [hI2]; exact Heap.get?_push_size _ rfl) nI2
  have hIn : ∀ q ∈ [(fa, W.listOf fv.toArray fn), (ca, W.listOf cv.toArray cn)], q.1 ≠ I2 := fun q hq => by rw [hI2]; exact Nat.ne_of_lt (Heap.lt_size (N3 q hq).1)
  dsimp only
  rw [← hI2]
  refine loopF (fun mm s' => Ex3 fun (m' : Str → Option Value) (j : Nat) (ta : Tok) => A11 (j + mm = 4) (Fr b L s'.heap m') (News b L s'.heap ((I2, rIt ((1 + j : Nat) : Int) (mm : Int)) :: [(fa, W.listOf fv.toArray fn), (ca, W.listOf cv.toArray cn)])) (s'.gens = s.gens) (s'.drawn = s.drawn) (s'.os = s.os) (m' (Str.ofString "first") = some (.ref fa)) (m' (Str.ofString "comes") = some (.ref ca)) (m' (Str.ofString "hour") = some (.int hour th)) (m' (Str.ofString "end") = some (.str e te)) (m' (Str.ofString "text") = some (.str (toldTo f c hour e j) ta))) (fun mm s' hJ JN hJN => ?_) 4 ⟨_, 0, _, rfl, F4, N4, rfl, rfl, rfl, rfl, rfl, rfl, rfl, rfl⟩
  obtain ⟨m', j, ta, hj, F', N', gs', ds', os', hm1, hm2, hm3, hm4, hm5⟩ := hJ
  clear F4 N4 F3 N3
  have hit' : IsRangeIter s'.heap I2 ((1 + j : Nat) : Int) (mm : Int) 1 := (N' (I2, rIt ((1 + j : Nat) : Int) (mm : Int)) (by k_mem)).1
  cases mm with
  | zero =>
    refine wpAny_pyNext_range_end hh hit' (by omega) (fun h5 hx5 => ?_)
    obtain ⟨F5, N5⟩ := called (W := [I2]) (news' := [(fa, W.listOf fv.toArray fn), (ca, W.listOf cv.toArray cn)]) F' (fun a o e q => hx5 a o (by simpa using q) e) (fun a q => by
      obtain rfl : a = I2 := by simpa using q
      exact (N' (a, rIt ((1 + j : Nat) : Int) ((0 : Nat) : Int)) (by k_mem)).2) (fun q hq => ⟨hx5 _ _ (hIn q hq) (N' q (List.mem_cons_of_mem _ hq)).1, (N' q (List.mem_cons_of_mem _ hq)).2⟩)
    dsimp only
    refine wpAny_execs_nil ?_
    obtain rfl : j = 4 := by omega
    iterate 3 walk1
    rw [gs', ds', os']
    exact h _ _ _ (kf F5 N5)
  | succ mm =>
    refine wpAny_pyNext_range_item hit' (by omega) (fun h5 hit5 hx5 => ?_)
    have hx5 := hx5.extBut
    have e1 : ((1 + j : Nat) : Int) + 1 = ((1 + (j + 1) : Nat) : Int) := by omega
    have e2 : ((mm + 1 : Nat) : Int) - 1 = (mm : Int) := by omega
    rw [e1, e2] at hit5
    obtain ⟨F5, N5⟩ := called (W := [I2]) (news' := (I2, rIt ((1 + (j + 1) : Nat) : Int) (mm : Int)) :: [(fa, W.listOf fv.toArray fn), (ca, W.listOf cv.toArray cn)]) F' (fun a o e q => hx5 a o (by simpa using q) e) (fun a q => by
      obtain rfl : a = I2 := by simpa using q
      exact (N' (a, rIt ((1 + j : Nat) : Int) ((mm + 1 : Nat) : Int)) (by k_mem)).2) (fun q hq => by
      rcases List.mem_cons.mp hq with rfl | hq
      · exact ⟨hit5, (N' (I2, rIt ((1 + j : Nat) : Int) ((mm + 1 : Nat) : Int)) (by k_mem)).2⟩
      · exact ⟨hx5 _ _ (hIn q hq) (N' q (List.mem_cons_of_mem _ hq)).1, (N' q (List.mem_cons_of_mem _ hq)).2⟩)
    clear F' N' hit' hx5
    dsimp only
    refine wpAny_assign_Name ?_
    walk1
    rename_i h6 F6 N6
    have hm61 : (fun y => if y = Str.ofString "k" then some (Value.int ((1 + j : Nat) : Int) s'.toks) else m' y) (Str.ofString "first") = some (.ref fa) := hm1
    have hm62 : (fun y => if y = Str.ofString "k" then some (Value.int ((1 + j : Nat) : Int) s'.toks) else m' y) (Str.ofString "comes") = some (.ref ca) := hm2
    have hm63 : (fun y => if y = Str.ofString "k" then some (Value.int ((1 + j : Nat) : Int) s'.toks) else m' y) (Str.ofString "hour") = some (.int hour th) := hm3
    have hm64 : (fun y => if y = Str.ofString "k" then some (Value.int ((1 + j : Nat) : Int) s'.toks) else m' y) (Str.ofString "end") = some (.str e te) := hm4
    have hm65 : (fun y => if y = Str.ofString "k" then some (Value.int ((1 + j : Nat) : Int) s'.toks) else m' y) (Str.ofString "text") = some (.str (toldTo f c hour e j) ta) := hm5
    have hjl : j < 4 := by omega
    have hlen := toldTo_len (c := c) (e := e) hb hbh hbe j (by omega)
    have ej : (((1 + j : Nat) : Int)).toNat = j + 1 := by omega
    have ej2 : (((1 + j : Nat) : Int) - 1).toNat = j := by omega
    have fin : ∀ (acc : Str), acc = (if c.getD (j + 1) 0 ≤ hour ∧ hour < c.getD j 0 then toldTo f c hour e j ++ e else toldTo f c hour e j) → acc ++ Txt.mul "." (f.getD (j + 1) 0 + min (max (hour - c.getD (j + 1) 0) 0) (f.getD (j + 1) 0 + 1)) ++ ";" = toldTo f c hour e (j + 1) := fun acc ha => by rw [ha]; rfl
    iterate 11 walk1
    by_cases hA1 : c.getD (((1 + j : Nat) : Int)).toNat 0 ≤ hour
    · refine ite_pos (decide_eq_true hA1) ?_
      iterate 10 walk1
      by_cases hA2 : hour < c.getD (((1 + j : Nat) : Int) - 1).toNat 0
      · refine ite_pos (decide_eq_true hA2) ?_
        iterate 9 walk1
        rename_i h7 F7 N7
        dsimp only
        rw [ej] at hA1
        rw [ej2] at hA2
        refine told_tail X' T' F7 N7 hIf hIc hlf hlc hA hh (hb (j + 1) (by omega)) hbh hjl (by rw [app_len]; omega) hm1 hm2 hm3 hm4 rfl rfl (fun h8 tk8 m8 t8 F8 N8 a1 a2 a3 a4 a5 => ?_)
        rw [fin _ (by rw [if_pos ⟨hA1, hA2⟩])] at a5
        exact hJN _ ⟨mm, Nat.lt_succ_self _, m8, j + 1, t8, by omega, F8, N8, gs', ds', os', a1, a2, a3, a4, a5⟩
      · refine ite_neg (by rw [decide_eq_false hA2]; decide) ?_
        refine wpAny_execs_nil ?_
        dsimp only
        rw [ej] at hA1
        rw [ej2] at hA2
        refine told_tail X' T' F6 N6 hIf hIc hlf hlc hA hh (hb (j + 1) (by omega)) hbh hjl (by omega) hm1 hm2 hm3 hm4 hm5 rfl (fun h8 tk8 m8 t8 F8 N8 a1 a2 a3 a4 a5 => ?_)
        rw [fin _ (by rw [if_neg (fun z => hA2 z.2)])] at a5
        exact hJN _ ⟨mm, Nat.lt_succ_self _, m8, j + 1, t8, by omega, F8, N8, gs', ds', os', a1, a2, a3, a4, a5⟩
    · refine ite_neg (by rw [decide_eq_false hA1]; decide) ?_
      refine ite_neg (by decide) ?_
      refine wpAny_execs_nil ?_
      dsimp only
      rw [ej] at hA1
      refine told_tail X' T' F6 N6 hIf hIc hlf hlc hA hh (hb (j + 1) (by omega)) hbh hjl (by omega) hm1 hm2 hm3 hm4 hm5 rfl (fun h8 tk8 m8 t8 F8 N8 a1 a2 a3 a4 a5 => ?_)
      rw [fin _ (by rw [if_neg (fun z => hA1 z.1)])] at a5
      exact hJN _ ⟨mm, Nat.lt_succ_self _, m8, j + 1, t8, by omega, F8, N8, gs', ds', os', a1, a2, a3, a4, a5⟩
end
end Mine
end
section
open PySem PySem.W PyProof.Rows PySem.Calls
set_option Elab.async false
set_option maxRecDepth 100000
namespace Mine
/-- what parse257 reads behind the first quotation mark -/
noncomputable def pz : List Nat → List Nat
  | [] => []
  | 34 :: 34 :: r => 34 :: pz r
  | 34 :: _ => []
  | c :: r => c :: pz r
theorem pz_cons {c : Nat} (h : c ≠ 34) (r : List Nat) : pz (c :: r) = c :: pz r := by
  rw [pz]
  · intro _ z; exact absurd z h
  · exact h
theorem pz_two (r : List Nat) : pz (34 :: 34 :: r) = 34 :: pz r := by
  rw [pz]
theorem pz_lone {r : List Nat} (h : r[0]? ≠ some 34) : pz (34 :: r) = [] := by
  rw [pz]
  intro r' z
  rw [z] at h
  exact h rfl
theorem snoc_list (acc : Str) (c : Nat) : (acc ++ ⟨#[c]⟩ : Str).cps.toList = acc.cps.toList ++ [c] := by
  show (acc.cps ++ #[c]).toList = _
  simp
theorem snoc_len (acc : Str) (c : Nat) : (acc ++ ⟨#[c]⟩ : Str).length = acc.length + 1 := by
  show (acc.cps ++ #[c]).size = _
  simp [Str.length]
theorem item_at (x : Str) (l : List Nat) (j c : Nat) (hx : x.cps.toList = l) (hj : l[j]? = some c) : Txt.item x (j : Int) = ⟨#[c]⟩ := by
  have hlt : j < l.length := by
    obtain ⟨h, _⟩ := List.getElem?_eq_some_iff.mp hj
    exact h
  have hs : x.length = l.length := by rw [← hx]; simp [Str.length]
  have e : Txt.charAt x (j : Int) = some c := by
    unfold Txt.charAt
    have h2 : seqIndex? (j : Int) x.length = some j := by
      rw [StrLaws.seqIndex_nonneg (by (first | lia | omega)) (by rw [hs]; (first | lia | omega))]; simp
    rw [h2]
    show x.cps[j]? = some c
    rw [← Array.getElem?_toList, hx, hj]
  unfold Txt.item
  rw [e]
  rfl
section
variable {w : World} {g : Heap} {s : Shared} {A : Around} {R : Result → Shared → Prop} {mg mb : Str → Option Value}
set_option maxHeartbeats 1000000 in
theorem parse_none {d : Str} {td : Tok} (X : (KK w.params).In g) (T : TR mg mb g) (kg : g.StaysIn s.heap) (hA : A.depth < 690) (hds : d.length ≤ 1000) (hd : (Txt.slice d none (some 3) == ("257" : Str)) = true) (hd2 : (Txt.slice d (some 3) (some 5) == (" \"" : Str)) = false)
    (h : ∀ h' tk t, Kept [] s.heap h' → R (.ok (.ret (.str "" t))) { s with heap := h', toks := tk }) : codeAny (MM w) A (.call (.ref 231) ⟨[.str d td], []⟩) R s := by
  refine' enter (news := []) (binds := [("resp", .str d td)]) X T kg ?n ?ho ?hcd ?room ?bind ?loc ?_ ?c1 ?c2 ?c3 ?c4
  case ho => k_is
  case hcd => k_is
  case room => first | exact Nat.lt_of_lt_of_le hA (by decide) | exact Nat.lt_of_lt_of_le (by (first | lia | omega) : _ < 990) (by decide)
  case bind => exact BindsTo.of_eq rfl
  case loc => exact locs rfl
  case n =>
    intro p hp
    cases hp
  case c1 => decide
  case c2 => rfl
  case c3 => rfl
  case c4 => rfl
  intro b L h₁ F N B
  have X' := B.k
  have T' := B.t
  have hds' : d.length ≤ sizeLine := Nat.le_trans hds (by decide)
  iterate 14 walk1
  refine ite_neg (by rw [bne, hd]; decide) ?_
  iterate 17 walk1
  refine ite_pos (by rw [bne, hd2]; rfl) ?_
  iterate 4 walk1
  rename_i h2 t2 k2 F2 N2 hl2
  exact h _ _ _ (fun a o e _ => F2.keep _ _ (B.old a o e (by simp)))
set_option maxHeartbeats 1000000 in
theorem parse_val {d : Str} {td : Tok} {t : List Nat} (X : (KK w.params).In g) (T : TR mg mb g) (kg : g.StaysIn s.heap) (hA : A.depth < 690) (hds : d.length ≤ 1000) (hd : d.cps.toList = [50, 53, 55, 32, 34] ++ t)
    (h : ∀ h' tk v tv, v.cps.toList = pz t → Kept [] s.heap h' → R (.ok (.ret (.str v tv))) { s with heap := h', toks := tk }) : codeAny (MM w) A (.call (.ref 231) ⟨[.str d td], []⟩) R s := by
  have hd1 : (Txt.slice d none (some 3) == ("257" : Str)) = true := by
    rw [beq_iff_eq]
    refine str_ext ?_
    have hl : d.length = 5 + t.length := by rw [len_list, hd]; simp; (first | lia | omega)
    rw [show (some (3 : Int)) = some ((3 : Nat) : Int) from rfl, slice_to d 3 (by (first | lia | omega)), hd]
    rfl
  have hd2 : (Txt.slice d (some 3) (some 5) == (" \"" : Str)) = true := by
    rw [beq_iff_eq]
    refine str_ext ?_
    have hl : d.length = 5 + t.length := by rw [len_list, hd]; simp; (first | lia | omega)
    rw [show (some (3 : Int)) = some ((3 : Nat) : Int) from rfl, show (some (5 : Int)) = some ((5 : Nat) : Int) from rfl, slice_mid d 3 5 (by decide) (by (first | lia | omega)), hd]
    rfl
  refine' enter (news := []) (binds := [("resp", .str d td)]) X T kg ?n ?ho ?hcd ?room ?bind ?loc ?_ ?c1 ?c2 ?c3 ?c4
  case ho => k_is
  case hcd => k_is
  case room => first | exact Nat.lt_of_lt_of_le hA (by decide) | exact Nat.lt_of_lt_of_le (by (first | lia | omega) : _ < 990) (by decide)
  case bind => exact BindsTo.of_eq rfl
  case loc => exact locs rfl
  case n =>
    intro p hp
    cases hp
  case c1 => decide
  case c2 => rfl
  case c3 => rfl
  case c4 => rfl
  intro b L h₁ F N B
  have X' := B.k
  have T' := B.t
  have hds' : d.length ≤ sizeLine := Nat.le_trans hds (by decide)
  iterate 14 walk1
  refine ite_neg (by rw [bne, hd1]; decide) ?_
  iterate 17 walk1
  refine ite_neg (by rw [bne, hd2]; decide) ?_
  iterate 22 walk1
  rename_i h2 F2 N2
  refine wpAny_While ?_
  have hlen : d.length = 5 + t.length := by
    have := congrArg List.length hd
    simp at this
    show d.cps.size = _
    (first | lia | omega)
  have hz : ∀ acc : Str, acc.length ≤ t.length → acc.length ≤ 1000 := fun acc ha => by (first | lia | omega)
  refine loopW (fun mm s' => Ex6 fun (m' : Str → Option Value) (j : Nat) (acc : Str) (ta ti tn : Tok) => A12 (j ≤ t.length) (mm = t.length - j) (Fr b L s'.heap m') (m' (Str.ofString "resp") = some (.str d td)) (m' (Str.ofString "i") = some (.int ((5 + j : Nat) : Int) ti)) (m' (Str.ofString "n") = some (.int ((5 + t.length : Nat) : Int) tn)) (m' (Str.ofString "dirname") = some (.str acc ta)) (acc.length ≤ j) (acc.cps.toList ++ pz (t.drop j) = pz t) (s'.os = s.os) (s'.gens = s.gens) (s'.drawn = s.drawn)) (fun mm s' hJ JN hJN => ?_) t.length ⟨_, 0, "", _, _, _, Nat.zero_le _, rfl, F2, rfl, rfl, by rw [← hlen]; rfl, rfl, by decide, rfl, rfl, rfl, rfl⟩
  obtain ⟨m', j, acc, ta, ti, tn, hj, hmm, F', hm1, hm2, hm3, hm4, hacc, hpz, ho1, ho2, ho3⟩ := hJ
  have N' : News b L s'.heap [] := fun q hq => by cases hq
  clear F2 N2
  have hfin : ∀ (h' : Heap) (tk : Nat) (v : Str) (tv : Tok) {m2 : Str → Option Value}, Fr b L h' m2 → v.cps.toList = pz t → s'.os = s.os → s'.gens = s.gens → s'.drawn = s.drawn → R (.ok (.ret (.str v tv))) { heap := h', gens := s'.gens, drawn := s'.drawn, toks := tk, os := s'.os } := fun h' tk v tv m2 F e o1 o2 o3 => by
    rw [o1, o2, o3]
    exact h h' tk v tv e (fun a o e _ => F.keep _ _ (B.old a o e (by simp)))
  iterate 5 walk1
  by_cases hlt : j < t.length
  · refine ite_pos (decide_eq_true (by (first | lia | omega))) ?_
    obtain ⟨c, hc⟩ : ∃ c, t[j]? = some c := ⟨t[j], List.getElem?_eq_getElem hlt⟩
    have hit : Txt.item d ((5 + j : Nat) : Int) = ⟨#[c]⟩ := item_at d _ (5 + j) c hd (by rw [List.getElem?_append_right (by simp)]; simpa using hc)
    iterate 6 walk1
    rw [hit]
    have hdrop : t.drop j = c :: t.drop (j + 1) := by
      rw [List.drop_eq_getElem_cons hlt]
      rw [List.getElem?_eq_getElem hlt] at hc
      rw [Option.some.inj hc]
    iterate 15 walk1
    rename_i h7 F7 N7
    have hm71 := hm1
    have hst : ∀ (m2 : Str → Option Value), True := fun _ => trivial
    by_cases hq : c = 34
    · subst hq
      refine ite_pos (by decide) ?_
      iterate 9 walk1
      rw [hdrop] at hpz
      by_cases hlast : 5 + t.length ≤ 5 + j + 1
      · refine ite_pos (decide_eq_true (by (first | lia | omega))) (ite_pos rfl ?_)
        iterate 5 walk1
        rw [List.drop_eq_nil_of_le (by (first | lia | omega))] at hpz
        exact hfin _ _ acc ta F7 (by simpa [pz] using hpz) ho1 ho2 ho3
      · refine ite_neg (by rw [decide_eq_false (by (first | lia | omega))]; decide) ?_
        obtain ⟨c2, hc2⟩ : ∃ c2, t[j + 1]? = some c2 := ⟨t[j + 1], List.getElem?_eq_getElem (by (first | lia | omega))⟩
        have hit2 : Txt.item d (((5 + j : Nat) : Int) + 1) = ⟨#[c2]⟩ := by
          rw [show ((5 + j : Nat) : Int) + 1 = ((5 + j + 1 : Nat) : Int) by (first | lia | omega)]
          exact item_at d _ (5 + j + 1) c2 hd (by rw [List.getElem?_append_right (show 5 ≤ 5 + j + 1 by (first | lia | omega)), show 5 + j + 1 - [50, 53, 55, 32, 34].length = j + 1 from (by show 5 + j + 1 - 5 = j + 1; (first | lia | omega))]; exact hc2)
        iterate 7 walk1
        rw [hit2]
        iterate 2 walk1
        have hd2' : t.drop (j + 1) = c2 :: t.drop (j + 2) := by
          have hlt2 : j + 1 < t.length := by (first | lia | omega)
          rw [List.drop_eq_getElem_cons hlt2]
          rw [List.getElem?_eq_getElem hlt2] at hc2
          rw [Option.some.inj hc2]
        rw [hd2'] at hpz
        by_cases hq2 : c2 = 34
        · subst hq2
          refine ite_neg (by decide) ?_
          iterate 21 walk1
          rename_i h8 F8 N8
          dsimp only
          rw [pz_two] at hpz
          exact hJN _ ⟨t.length - (j + 2), by (first | lia | omega), _, j + 2, acc ++ ⟨#[34]⟩, _, _, tn, by (first | lia | omega), rfl, F8, hm1, congrArg (fun z => some (Value.int z _)) (by (first | lia | omega) : ((5 + j : Nat) : Int) + 1 + 1 = ((5 + (j + 2) : Nat) : Int)), hm3, rfl, by rw [snoc_len]; (first | lia | omega), by rw [snoc_list, List.append_assoc]; exact hpz, ho1, ho2, ho3⟩
        · refine ite_pos ?_ (ite_pos rfl ?_)
          · rw [bne, beq_eq_false_iff_ne.mpr]
            · rfl
            · intro z
              have := congrArg (fun s : Str => s.cps.toList) z
              have e34 : (Str.ofString "\"").cps.toList = [34] := by decide
              dsimp only at this
              rw [e34] at this
              exact hq2 (by simpa using this)
          iterate 6 walk1
          exact hfin _ _ acc ta F7 (by rw [pz_lone (by simpa using hq2)] at hpz; simpa using hpz) ho1 ho2 ho3
    · refine ite_neg ?_ ?_
      · rw [beq_eq_false_iff_ne.mpr]
        · decide
        · intro z
          have := congrArg (fun s : Str => s.cps.toList) z
          have e34 : (Str.ofString "\"").cps.toList = [34] := by decide
          dsimp only at this
          rw [e34] at this
          exact hq (by simpa using this)
      iterate 10 walk1
      rename_i h8 F8 N8
      dsimp only
      rw [hdrop, pz_cons hq] at hpz
      exact hJN _ ⟨t.length - (j + 1), by (first | lia | omega), _, j + 1, acc ++ ⟨#[c]⟩, _, _, tn, by (first | lia | omega), rfl, F8, hm1, congrArg (fun z => some (Value.int z _)) (by (first | lia | omega) : ((5 + j : Nat) : Int) + 1 = ((5 + (j + 1) : Nat) : Int)), hm3, rfl, by rw [snoc_len]; (first | lia | omega), by rw [snoc_list, List.append_assoc]; exact hpz, ho1, ho2, ho3⟩
  · refine ite_neg (by rw [decide_eq_false (by (first | lia | omega))]; decide) ?_
    iterate 4 walk1
    rw [List.drop_eq_nil_of_le (by (first | lia | omega))] at hpz
    exact hfin _ _ acc ta F' (by simpa [pz] using hpz) ho1 ho2 ho3
end
end Mine
end
section
open PySem PySem.W PyProof.Rows PySem.Calls
set_option Elab.async false
set_option maxRecDepth 100000
namespace Mine
/-- what a reply takes of the text -/
noncomputable def takes (l : List Nat) : Nat := (pz l).length + (pz l).count 34 + 1
/-- the replies, read one behind the other -/
noncomputable def readF : Nat → List Nat → List Nat × Nat
  | 0, _ => ([], 0)
  | n + 1, l => if l = [] then ([], 0) else (pz l ++ (readF n (l.drop (takes l))).1, (readF n (l.drop (takes l))).2 + 1)
theorem pz_len : ∀ (n : Nat) (l : List Nat), l.length ≤ n → (pz l).length ≤ l.length := by
  intro n
  induction n with
  | zero => intro l h; rw [List.length_eq_zero_iff.mp (Nat.le_zero.mp h)]; simp [pz]
  | succ n ih =>
    intro l h
    cases l with
    | nil => simp [pz]
    | cons c r =>
      by_cases hc : c = 34
      · subst hc
        cases r with
        | nil => rw [pz_lone (by simp)]; simp
        | cons d r =>
          by_cases hd : d = 34
          · subst hd
            rw [pz_two]
            have := ih r (by simp at h; (first | lia | omega))
            simp; (first | lia | omega)
          · rw [pz_lone (by simpa using hd)]; simp
      · rw [pz_cons hc]
        have := ih r (by simp at h; (first | lia | omega))
        simp; (first | lia | omega)
section
variable {w : World} {g : Heap} {s : Shared} {A : Around} {R : Result → Shared → Prop} {mg mb : Str → Option Value}
set_option maxHeartbeats 1000000 in
theorem read_spec {d : Str} {td : Tok} {t : List Nat} (X : (KK w.params).In g) (T : TR mg mb g) (kg : g.StaysIn s.heap) (hA : A.depth < 680) (hds : d.length ≤ 300) (hd : d.cps.toList = t)
    (h : ∀ (h' : Heap) (tk : Nat) (T1 : Addr) (v : Str) (tv tn : Tok), v.cps.toList = (readF 300 t).1 → Kept [] s.heap h' → s.heap.get? T1 = none → h'.IsTuple T1 #[.str v tv, .int ((readF 300 t).2 : Nat) tn] → R (.ok (.ret (.ref T1))) { s with heap := h', toks := tk }) : codeAny (MM w) A (.call (.ref 288) ⟨[.str d td], []⟩) R s := by
  refine' enter (news := []) (binds := [("text", .str d td)]) X T kg ?n ?ho ?hcd ?room ?bind ?loc ?_ ?c1 ?c2 ?c3 ?c4
  case ho => k_is
  case hcd => k_is
  case room => first | exact Nat.lt_of_lt_of_le hA (by decide) | exact Nat.lt_of_lt_of_le (by (first | lia | omega) : _ < 990) (by decide)
  case bind => exact BindsTo.of_eq rfl
  case loc => exact locs rfl
  case n =>
    intro p hp
    cases hp
  case c1 => decide
  case c2 => rfl
  case c3 => rfl
  case c4 => rfl
  intro b L h₁ F N B
  have X' := B.k
  have T' := B.t
  iterate 9 walk1
  rename_i h2 F2 N2
  refine wpAny_While ?_
  have hln : t.length ≤ 300 := by rw [← hd, ← len_list]; exact hds
  refine loopW (fun mm s' => Ex8 fun (m' : Str → Option Value) (n k : Nat) (x acc : Str) (tx ta tk : Tok) => A12 (mm = x.length) (x.length ≤ n) (acc.length + x.length ≤ 300) (Fr b L s'.heap m') (m' (Str.ofString "text") = some (.str x tx)) (m' (Str.ofString "read") = some (.str acc ta)) (m' (Str.ofString "replies") = some (.int (k : Nat) tk)) (acc.cps.toList ++ (readF n x.cps.toList).1 = (readF 300 t).1) (k + (readF n x.cps.toList).2 = (readF 300 t).2) (s'.os = s.os) (s'.gens = s.gens) (s'.drawn = s.drawn)) (fun mm s' hJ JN hJN => ?_) d.length ⟨_, 300, 0, d, "", _, _, _, rfl, hds, by rw [show (Str.ofString "").length = 0 by decide]; (first | lia | omega), F2, rfl, rfl, rfl, by rw [hd]; rfl, by rw [hd]; simp, rfl, rfl, rfl⟩
  obtain ⟨m', n, k, x, acc, tx, ta, tk0, hmm, hn, hl3, F', hm1, hm2, hm3, hr1, hr2, ho1, ho2, ho3⟩ := hJ
  have N' : News b L s'.heap [] := fun q hq => by cases hq
  clear F2 N2
  have hx3 : x.length ≤ 300 := by (first | lia | omega)
  iterate 5 walk1
  by_cases hx0 : x.length = 0
  · have hx : x = "" := str_ext (by
      have : x.cps.toList = [] := List.eq_nil_of_length_eq_zero (by rw [← len_list]; exact hx0)
      rw [this]; rfl)
    subst hx
    refine ite_neg (by decide) ?_
    iterate 11 walk1
    rename_i T1 h9 F9 N9 _
    have e0 : readF n (Str.ofString "").cps.toList = ([], 0) := by
      have : (Str.ofString "").cps.toList = [] := by decide
      rw [this]
      cases n <;> rfl
    rw [e0] at hr1 hr2
    rw [ho1, ho2, ho3]
    refine h h9 _ T1 acc ta tk0 (by simpa using hr1) (fun a o e _ => F9.keep _ _ (B.old a o e (by simp))) (B.new (by simp) (N9 _ (List.mem_cons_self ..)).2.2) ⟨_, (N9 _ (List.mem_cons_self ..)).1, rfl, 0, ?_⟩
    rw [show k = (readF 300 t).2 by simpa using hr2]
  · have hxl : x.cps.toList ≠ [] := fun z => hx0 (by rw [len_list, z]; rfl)
    refine ite_pos ?_ ?_
    · rw [bne_iff_ne]
      intro z
      rw [z] at hx0
      exact hx0 (by decide)
    iterate 13 walk1
    have e257 : (Str.ofString "257 \"").length = 5 := by decide
    refine wpAny_call (parse_val (t := x.cps.toList) X' T' F'.keep (by first | exact dd1 hA (by decide) | (simp only [depth_deeper]; (first | lia | omega))) (by rw [show (Str.ofString "257 \"" ++ x).length = (Str.ofString "257 \"").length + x.length from by show ((Str.ofString "257 \"").cps ++ x.cps).size = _; simp [Str.length]]; (first | lia | omega)) (by
      show ((Str.ofString "257 \"").cps ++ x.cps).toList = _
      rw [Array.toList_append, show (Str.ofString "257 \"").cps.toList = [50, 53, 55, 32, 34] by decide]) (fun h4 tk4 v tv hv k4 => ?_))
    obtain ⟨F4, N4⟩ := called F' k4 (fun a q => by cases q) (news' := []) (fun q hq => by cases hq)
    have hvl : v.length ≤ x.length := by
      rw [len_list, len_list, hv]
      exact pz_len _ _ (Nat.le_refl _)
    clear F' N'
    dsimp only
    iterate 48 walk1
    rename_i h9 F9 N9
    dsimp only
    have eq34 : Str.ofString "\"" = ⟨#[34]⟩ := by decide
    have e : ((v.length : Int) + Txt.count v (Str.ofString "\"") + 1) = ((takes x.cps.toList : Nat) : Int) := by
      rw [eq34, count_eq, len_list, hv]
      unfold takes
      (first | lia | omega)
    have ex2 : (Txt.slice x (some ((v.length : Int) + Txt.count v (Str.ofString "\"") + 1)) none).cps.toList = x.cps.toList.drop (takes x.cps.toList) := by rw [e, slice_from_any]
    have el2 : (Txt.slice x (some ((v.length : Int) + Txt.count v (Str.ofString "\"") + 1)) none).length = x.length - takes x.cps.toList := by rw [len_list, ex2, List.length_drop, ← len_list]
    have ht1 : 1 ≤ takes x.cps.toList := by unfold takes; (first | lia | omega)
    obtain ⟨n', rfl⟩ : ∃ n', n = n' + 1 := ⟨n - 1, by (first | lia | omega)⟩
    have erd : readF (n' + 1) x.cps.toList = (pz x.cps.toList ++ (readF n' (x.cps.toList.drop (takes x.cps.toList))).1, (readF n' (x.cps.toList.drop (takes x.cps.toList))).2 + 1) := by
      show (if x.cps.toList = [] then _ else _) = _
      rw [if_neg hxl]
    rw [erd] at hr1 hr2
    have eacc : (acc ++ v).cps.toList = acc.cps.toList ++ v.cps.toList := by
      show (acc.cps ++ v.cps).toList = _
      simp
    have hac : (acc ++ v).length = acc.length + v.length := by
      rw [len_list, eacc, List.length_append, ← len_list, ← len_list]
    exact hJN _ ⟨_, by rw [hmm, el2]; (first | lia | omega), _, n', k + 1, Txt.slice x (some ((v.length : Int) + Txt.count v (Str.ofString "\"") + 1)) none, acc ++ v, _, _, _, rfl, by rw [el2]; (first | lia | omega), by
      rw [el2, hac]
      have : v.length ≤ takes x.cps.toList := by unfold takes; rw [len_list, hv]; (first | lia | omega)
      (first | lia | omega), F9, rfl, rfl, rfl, by rw [ex2, eacc, hv, List.append_assoc]; exact hr1, by rw [ex2]; (first | lia | omega), ho1, ho2, ho3⟩
end
end Mine
end
end
theorem Mine.anew38 : True := by first | walk1 | trivial
section
open PySem PySem.W PyProof.Rows PySem.Calls
set_option Elab.async false
set_option maxRecDepth 100000
namespace Mine
section
variable {w : World} {g : Heap} {s : Shared} {A : Around} {R : Result → Shared → Prop} {mg mb : Str → Option Value} {news : List (Addr × Obj)}
/-- entering a function that has cells -/
theorem enterC {name qual : Str} {params : Arguments} {body : List Stmt} {scope : Scope} {dV kV doc pm cdv ct oc : Value} {an od : Option Addr} {osl : Array (Option Value)} {f : Addr} {args : Args} {binds : List (Str × Value)}
    (X : (KK w.params).In g) (T : TR mg mb g) (kg : g.StaysIn s.heap)
    (hn : ∀ p ∈ news, s.heap.get? p.1 = some p.2 ∧ g.get? p.1 = none)
    (ho : (KK w.params).lookup f = some ⟨oc, od, .func (fnOf name qual params body scope dV kV doc pm an cdv ct), osl⟩) (hcd : codeIn (KK w.params) cdv qual = true) (hroom : A.depth < recursionLimit)
    (hbind : BindsTo s (fnOf name qual params body scope dV kV doc pm an cdv ct) args binds)
    (hkind : ∀ n, ∀ x ∈ binds, scope.names.lookup x.1 = some .local ∨ (scope.names.lookup x.1 = some .cell ∧ ((cellsFrom n scope.names []).lookup x.1).isSome = true))
    (hnd : ((cellsFrom 0 scope.names []).map (·.1)).Nodup)
    (h : ∀ b L h₁ tk cells, Fr b L h₁ (bindL (envOfC qual scope L f cdv).kindOf binds fun _ => none) → News b L h₁ (cells ++ news) → CellsAre (bindC (envOfC qual scope L f cdv).kindOf binds fun _ => none) (cellsFrom (L + 1) scope.names []) cells → BaseAt w g mg mb s.heap (news.map (·.1)) L b → (∀ p ∈ news, p.1 < L) →
      wpAny (MM w) (A.deeper (envOfC qual scope L f cdv)) (execs body (envOfC qual scope L f cdv))
        (fun fl s' => R (.ok (.ret (match fl with | .ret v => v | _ => .none))) s') (fun _ _ => False)
        { s with heap := h₁, toks := tk })
    (hco : scope.isCoroutine = false := by rfl) (hgen : scope.isGenerator = false := by rfl) (hk : scope.kind = .function := by rfl) :
    codeAny (MM w) A (.call (.ref f) args) R s := by
  have kX : ∀ a o, g.get? a = some o → a ∉ news.map (·.1) := fun a o e q => by
    obtain ⟨p, hp, rfl⟩ := List.mem_map.mp q
    rw [(hn p hp).2] at e; cases e
  have st : g.StaysIn (hideAll s.heap (news.map (·.1))) := fun a o e => hideAll_get _ (kg a o e) (kX a o e)
  have Xb : (KK w.params).In (hideAll s.heap (news.map (·.1))) := X.keeps st
  have Tb : TR mg mb (hideAll s.heap (news.map (·.1))) := T.keeps st
  have B : BaseAt w g mg mb s.heap (news.map (·.1)) s.heap.objs.size (hideAll s.heap (news.map (·.1))) := ⟨Xb, Tb, st, fun a o e q => hideAll_get _ e q, fun a o e => of_hideAll _ e, get_size_none _⟩
  refine codeAny_call_function hroom (kg _ _ (X _ _ ho)) rfl hco hgen rfl (codeRec_of (X.keeps kg) hcd) (hbind _ _ _ _ ?_)
  refine wpAny_newFunctionEnv_cells hk (hkind _) fun env' he s' x => ?_
  subst he
  refine ⟨(T.nolimit.keeps kg).keeps x.toInCall.keep, codeAny_func ?_⟩
  obtain ⟨h₁, tk, rfl, _⟩ := x.done
  have hk₁ := x.toInCall.keep
  obtain ⟨cells, NC, Y⟩ := Cl.news (h₀ := s.heap) (Nat.le_refl _) fun n c hm => ⟨x.cell n c (lookup_of_mem_nodup (cellsFrom_names scope.names 0 (s.heap.objs.size + 1) [] [] rfl ▸ hnd) hm), x.above n c hm⟩
  refine wpAny_mono (h (hideAll s.heap (news.map (·.1))) s.heap.objs.size h₁ tk cells ⟨x.toInCall.ns, fun b o e => hk₁ b o (of_hideAll _ e), Nat.le_of_eq (hideAll_size _ _)⟩ (fun p hp => ?_) Y B (fun p hp => Heap.lt_size (hn p hp).1)) (fun fl s' hl => hl) fun _ _ y => y.elim
  rcases List.mem_append.mp hp with hp | hp
  · refine ⟨(NC p hp).1, (NC p hp).2.1, ?_⟩
    cases q : (hideAll s.heap (news.map (·.1))).get? p.1 with
    | none => rfl
    | some o => have := of_hideAll _ q; rw [(NC p hp).2.2] at this; cases this
  · exact ⟨hk₁ _ _ (hn p hp).1, Nat.ne_of_lt (Heap.lt_size (hn p hp).1), hideAll_none _ (List.mem_map_of_mem hp)⟩
end
end Mine
end
section
open PySem PySem.W PyProof.Rows PySem.Calls
set_option Elab.async false
set_option maxRecDepth 100000
namespace Mine
section
variable {prog : Program} {w : World} {A : Around} {s : Shared} {h₀ : Heap} {L : Addr} {m : Str → Option Value} {env : Env} {elt : Expr} {x : Str} {scope : Scope} {cl : List (Str × Addr)} {S : List (Addr × Obj) → Prop} {P : Nat → Value → Prop} {Fin : List Value → List (Addr × Obj) → Prop} {news : List (Addr × Obj)}
/-- a comprehension, turn by turn, each turn alike -/
theorem comp_gen {β : Type} {Rel : Value → β → Prop} {F : Nat → β} (N : Nat) (hS : S news)
    (turn : ∀ (i : Nat) (v : Value) (I : Addr) (oI : Obj) (C : Addr) (oC : Obj) (D : Addr) (ys : List Value) (m₂ : Str → Option Value) (h : Heap) (tk : Nat) (E' : Value → Shared → Prop), i < N → P i v → LCg.NsObj oC m₂ → m₂ x = some v → Fr h₀ L h m → News h₀ L h ((I, oI) :: (C, oC) :: (D, LCg.lst ys) :: news) →
      wpAny (model prog w) A (eval elt (compEnvC scope cl C env)) (fun y s₂ => ∃ h' tk', s₂ = { s with heap := h', toks := tk' } ∧ Fr h₀ L h' m ∧ News h₀ L h' ((I, oI) :: (C, oC) :: (D, LCg.lst ys) :: news) ∧ Rel y (F i)) E' { s with heap := h, toks := tk })
    (fin : ∀ ys : List Value, ys.length = N → (∀ i y, ys[i]? = some y → Rel y (F i)) → Fin ys news) : LCg.CompRest prog w A h₀ L m env elt x scope cl s S P Fin N 0 [] news := by
  have key : ∀ (n i : Nat) (ys : List Value), i + n = N → ys.length = i → (∀ j y, ys[j]? = some y → Rel y (F j)) → LCg.CompRest prog w A h₀ L m env elt x scope cl s S P Fin n i ys news := by
    intro n
    induction n with
    | zero =>
      intro i ys hi hl hr
      exact LCg.CompRest.zero (fin ys (by (first | lia | omega)) hr)
    | succ n ih =>
      intro i ys hi hl hr
      refine LCg.CompRest.succ (fun v I oI C oC D m₂ h tk E' hv hC hx F' N' off ne => ?_)
      refine wpAny_mono (turn i v I oI C oC D ys m₂ h tk E' (by (first | lia | omega)) hv hC hx F' N') (fun y s₂ hy => ?_) fun _ _ z => z
      obtain ⟨h', tk', rfl, F2, N2, hR⟩ := hy
      refine ⟨h', tk', news, rfl, F2, N2, off, hS, ih (i + 1) (ys ++ [y]) (by (first | lia | omega)) (by simp [hl]) (fun j z hz => ?_)⟩
      by_cases hj : j < ys.length
      · rw [List.getElem?_append_left hj] at hz
        exact hr j z hz
      · rw [List.getElem?_append_right (by (first | lia | omega))] at hz
        by_cases hj2 : j = ys.length
        · subst hj2
          rw [Nat.sub_self] at hz
          obtain rfl : y = z := by simpa using hz
          rw [hl]; exact hR
        · obtain ⟨q, hq⟩ : ∃ q, j - ys.length = q + 1 := ⟨j - ys.length - 1, by (first | lia | omega)⟩
          rw [hq] at hz
          simp at hz
  exact key N 0 [] (by (first | lia | omega)) rfl (fun j y h => by simp at h)
end
end Mine
end
section
open PySem PySem.W PyProof.Rows PySem.Calls
set_option Elab.async false
set_option maxRecDepth 100000
namespace Mine
section
variable {prog : Program} {w : World} {A : Around} {s : Shared} {h₀ : Heap} {L : Addr} {m : Str → Option Value} {env : Env} {ct elt : Expr} {x : Str} {scope : Scope} {cl : List (Str × Addr)} {S : List (Addr × Obj) → Prop} {P : Nat → Value → Prop} {Fin : List Value → List (Addr × Obj) → Prop} {news : List (Addr × Obj)}
/-- a comprehension with a test, turn by turn: how many turns pass -/
theorem comp_test {p : Nat → Bool} (N : Nat) (hS : S news)
    (turn : ∀ (i : Nat) (v : Value) (I : Addr) (oI : Obj) (C : Addr) (oC : Obj) (D : Addr) (ys : List Value) (m₂ : Str → Option Value) (h : Heap) (tk : Nat) (E' : Value → Shared → Prop), i < N → P i v → LCg.NsObj oC m₂ → m₂ x = some v → Fr h₀ L h m → News h₀ L h ((I, oI) :: (C, oC) :: (D, LCg.lst ys) :: news) →
      wpAny (model prog w) A (isTrue ct (compEnvC scope cl C env) (eval ct (compEnvC scope cl C env))) (fun ok s₁ => ok = p i ∧ if ok = true then
        wpAny (model prog w) A (eval elt (compEnvC scope cl C env)) (fun _ s₂ => ∃ h' tk', s₂ = { s with heap := h', toks := tk' } ∧ Fr h₀ L h' m ∧ News h₀ L h' ((I, oI) :: (C, oC) :: (D, LCg.lst ys) :: news)) E' s₁
        else ∃ h' tk', s₁ = { s with heap := h', toks := tk' } ∧ Fr h₀ L h' m ∧ News h₀ L h' ((I, oI) :: (C, oC) :: (D, LCg.lst ys) :: news)) E' { s with heap := h, toks := tk })
    (fin : ∀ ys : List Value, ys.length = ((List.range N).filter p).length → Fin ys news) : LCt.CompRestT prog w A h₀ L m env ct elt x scope cl s S P Fin N 0 [] news := by
  have key : ∀ (n i : Nat) (ys : List Value), i + n = N → ys.length = ((List.range i).filter p).length → LCt.CompRestT prog w A h₀ L m env ct elt x scope cl s S P Fin n i ys news := by
    intro n
    induction n with
    | zero =>
      intro i ys hi hl
      obtain rfl : i = N := by (first | lia | omega)
      exact LCt.CompRestT.zero (fin ys hl)
    | succ n ih =>
      intro i ys hi hl
      refine LCt.CompRestT.succ (fun v I oI C oC D m₂ h tk E' hv hC hx F' N' off ne => ?_)
      refine wpAny_mono (turn i v I oI C oC D ys m₂ h tk E' (by (first | lia | omega)) hv hC hx F' N') (fun ok s₁ hy => ?_) fun _ _ z => z
      obtain ⟨hp, hy⟩ := hy
      cases ok with
      | true =>
        simp only [if_true] at hy ⊢
        refine wpAny_mono hy (fun y s₂ hz => ?_) fun _ _ z => z
        obtain ⟨h', tk', rfl, F2, N2⟩ := hz
        refine ⟨h', tk', news, rfl, F2, N2, off, hS, ih (i + 1) (ys ++ [y]) (by (first | lia | omega)) ?_⟩
        rw [List.range_succ, List.filter_append, List.length_append, List.length_append, hl]
        simp [← hp]
      | false =>
        simp only [Bool.false_eq_true, if_false] at hy ⊢
        obtain ⟨h', tk', rfl, F2, N2⟩ := hy
        refine ⟨h', tk', news, rfl, F2, N2, off, hS, ih (i + 1) ys (by (first | lia | omega)) ?_⟩
        rw [List.range_succ, List.filter_append, List.length_append, hl]
        simp [← hp]
  exact key N 0 [] (by (first | lia | omega)) rfl
end
section
variable {M : Model} {A : Around} {E : Value → Shared → Prop} {s : Shared} {K : Frag} {h₀ : Heap} {L C : Addr} {m mg mb : Str → Option Value} {scope : Scope} {cl : List (Str × Addr)} {env : Env} {x : Str} {pos : Pos} {v : Value} {Q : Value → Shared → Prop}
theorem cmp_global (F : Fr h₀ L s.heap m) (X : K.In h₀) (T : TR mg mb h₀) (e : nsIn K mainGlobals x = some (some v)) (h : Q v s) (hg : env.globals = mainGlobals := by rfl)
    (hk : (compEnvC scope cl C env).scope.kind = .function := by rfl) (hx : (compEnvC scope cl C env).kindOf x = some .globalImplicit := by rfl) (hd : (x == ("__debug__" : Str)) = false := by decide) :
    wpAny M A (eval (.Name x pos) (compEnvC scope cl C env)) Q E s :=
  Name_function_global hk hx (loadGlobal_global (env := compEnvC scope cl C env) (show s.heap.Ns env.globals mg from hg ▸ (T.keeps F.keep).g) (mg_of X T.g e) h) hd
theorem cmp_built (F : Fr h₀ L s.heap m) (X : K.In h₀) (T : TR mg mb h₀) (e : nsIn K mainGlobals x = some none) (hv : bootBuiltins x = some v) (hn : x ≠ "__name__") (h : Q v s) (hg : env.globals = mainGlobals := by rfl) (hb : env.builtins = builtinsNs := by rfl)
    (hk : (compEnvC scope cl C env).scope.kind = .function := by rfl) (hx : (compEnvC scope cl C env).kindOf x = some .globalImplicit := by rfl) (hd : (x == ("__debug__" : Str)) = false := by decide) :
    wpAny M A (eval (.Name x pos) (compEnvC scope cl C env)) Q E s :=
  Name_function_global hk hx (loadGlobal_builtin (env := compEnvC scope cl C env) (show s.heap.Ns env.globals mg from hg ▸ (T.keeps F.keep).g) (mg_none_of X T.g e) (show s.heap.Ns env.builtins mb from hb ▸ (T.keeps F.keep).b) ((T.builtins x hn).trans hv) h) hd
end
theorem nw_nil {b h : Heap} {L : Addr} : News b L h [] := fun _ q => nomatch q
theorem nw_cons {b h : Heap} {L a : Addr} {o : Obj} {r : List (Addr × Obj)} (x : h.get? a = some o ∧ a ≠ L ∧ b.get? a = none) (N : News b L h r) : News b L h ((a, o) :: r) := fun p q => by
  rcases List.mem_cons.mp q with rfl | q
  · exact x
  · exact N p q
theorem nw_sub {b h : Heap} {L a : Addr} {o : Obj} {r big : List (Addr × Obj)} (N : News b L h big) (m : (a, o) ∈ big) (R : News b L h r) : News b L h ((a, o) :: r) := nw_cons (N _ m) R
end Mine
end
section
open PySem PySem.W PyProof.Rows PySem.Calls
set_option Elab.async false
set_option maxRecDepth 100000
namespace Mine
/-- the script's number at a place, added to the law's own -/
noncomputable def numAt (ns : List Int) (place : Nat) : Int := ([2, 5, 3, 8, 4, 1, 7] : List Int).getD place 0 + (if place < ns.length then ns.getD place 0 else 0)
section
variable {w : World} {g : Heap} {s : Shared} {A : Around} {R : Result → Shared → Prop} {mg mb : Str → Option Value}
set_option maxHeartbeats 1000000 in
theorem number_spec {l : Addr} {vs : List Value} {ns : List Int} {place : Nat} {tp : Tok} (X : (KK w.params).In g) (T : TR mg mb g) (kg : g.StaysIn s.heap) (hA : A.depth < 690) (hl : g.IsList l vs.toArray) (hI : IntsAre vs ns) (hn : ns.length ≤ 63) (hp : place < 7)
    (h : ∀ h' tk t, Kept [] s.heap h' → R (.ok (.ret (.int (numAt ns place) t))) { s with heap := h', toks := tk }) : codeAny (MM w) A (.call (.ref 255) ⟨[.ref l, .int place tp], []⟩) R s := by
  refine' enter (news := []) (binds := [("script", .ref l), ("place", .int place tp)]) X T kg ?n ?ho ?hcd ?room ?bind ?loc ?_ ?c1 ?c2 ?c3 ?c4
  case ho => k_is
  case hcd => k_is
  case room => first | exact Nat.lt_of_lt_of_le hA (by decide) | exact Nat.lt_of_lt_of_le (by omega : _ < 990) (by decide)
  case bind => exact BindsTo.of_eq rfl
  case loc => exact locs rfl
  case n =>
    intro p hp
    cases hp
  case c1 => decide
  case c2 => rfl
  case c3 => rfl
  case c4 => rfl
  intro b L h₁ F N B
  have X' := B.k
  have T' := B.t
  have hlb : b.IsList l vs.toArray := by
    obtain ⟨o, e, r⟩ := hl
    exact ⟨o, B.g _ _ e, r⟩
  have kf : ∀ {h' : Heap} {m' : Str → Option Value}, Fr b L h' m' → Kept [] s.heap h' := fun F a o e _ => F.keep _ _ (B.old a o e (by simp))
  have e7 : (place : Int).toNat = place := Int.toNat_natCast _
  iterate 37 walk1
  by_cases hlt : place < ns.length
  · refine ite_pos (decide_eq_true (by omega)) ?_
    iterate 15 walk1
    rename_i h9 F9 N9
    have en : ([2, 5, 3, 8, 4, 1, 7] : List Int).getD (place : Int).toNat 0 + ns.getD (place : Int).toNat 0 = numAt ns place := by
      unfold numAt
      rw [if_pos hlt, e7]
    rw [en]
    exact h _ _ _ (kf F9)
  · refine ite_neg (by rw [decide_eq_false (by omega)]; decide) ?_
    iterate 5 walk1
    rename_i h9 F9 N9 ll
    have en : ([2, 5, 3, 8, 4, 1, 7] : List Int).getD (place : Int).toNat 0 = numAt ns place := by
      unfold numAt
      rw [if_neg hlt, e7, Int.add_zero]
    rw [en]
    exact h _ _ _ (kf F9)
end
end Mine
end
section
open PySem PySem.W PyProof.Rows PySem.Calls
set_option Elab.async false
set_option maxRecDepth 100000
namespace Mine
namespace F
theorem re_ga : PlainAttrs "re.Pattern" := ⟨⟨"object.__getattribute__", by rw [typeLookup_type, builtinLookup_eq_fast]; kernel_rfl, by decide +kernel⟩, by rw [typeLookup_type, builtinLookup_eq_fast]; kernel_rfl⟩
theorem slot_sub : Slot "re.Pattern" "sub" "re.Pattern.sub" :=
  .of (owner := "re.Pattern") (n := "sub") (by rw [typeLookup_type, builtinLookup_eq_fast]; kernel_rfl) (by decide +kernel) (by decide +kernel) (by decide +kernel)
    (by first | exact .inl (by decide +kernel) | exact .inr (by decide +kernel)) (by rw [isSubtype_type]; kernel_rfl)
theorem type_sub : typeOf (.builtin "re.Pattern.sub") = pure (.type "method_descriptor") := by show builtinType _ = _; rw [builtinType_eq_fast]; kernel_rfl
theorem entry_sub : entryFor table "re.Pattern.sub" = some Builtin.«re.Pattern.sub» := entryFor_of_tree (by kernel_rfl)
theorem entry_subloop : entryFor table "re.Pattern.sub.loop" = some Builtin.«re.Pattern.sub.loop» := entryFor_of_tree (by kernel_rfl)
theorem args_sub (a b c : Value) : argsOk "re.Pattern.sub" ⟨[a, b, c], []⟩ := by unfold argsOk; kernel_rfl
theorem plain_sub : plainId "re.Pattern.sub" = true := by decide +kernel
theorem plain_loop : plainId "re.Pattern.sub.loop" = true := by decide +kernel
end F
end Mine
end
section
open PySem PySem.W PyProof.Rows PySem.Calls PySem.Builtin PySem.Builtin.Str PySem.SB
set_option Elab.async false
set_option maxRecDepth 100000
namespace Mine
theorem post_joinT {s : Shared} {sep : Str} {Q : Value → Shared → Prop} : ∀ (l : List (Str × Tok)), ((Txt.join sep (l.map (·.1))).length ≤ sizeLine ∧ ∀ t' k, s.toks ≤ k → Q (.str (Txt.join sep (l.map (·.1))) t') { s with toks := k }) → (joinMade sep l).post Q s
  | [], h => ⟨h.1, h.2 _ _ (Nat.le_succ _)⟩
  | [p], h => h.2 p.2 s.toks (Nat.le_refl _)
  | _ :: _ :: _, h => ⟨h.1, h.2 _ _ (Nat.le_succ _)⟩
/-- join, and the count of tokens does not fall -/
theorem join_listT {prog : Program} {w : World} {A : Around} {E : Value → Shared → Prop} {s : Shared} {x : Str} {t : Tok} {Q : Value → Shared → Prop} {D : Addr} {items : Array Value} {ys : List Str} (hl : s.heap.IsList D items) (hi : StrsAre items.toList ys) (hsep : x.length ≤ 16) (hw : (ys.map (·.length)).sum + ys.length ≤ 1048576)
    (h : ∀ t' k, s.toks ≤ k → Q (.str (Txt.join x ys) t') { s with toks := k }) : wpAny (model prog w) A (call (.builtin "str.join") [.str x t, .ref D]) Q E s := by
  obtain ⟨l, hv, ht⟩ := PyProof.Rows.strsAre_values hi
  have e : items = (strValues l).toArray := by rw [← hv]
  subst e
  subst ht
  have hok := joinOk_of (total_of_weight hw hsep)
  unfold JoinOk at hok
  rw [Bool.not_eq_true'] at hok
  exact call_meets F.slot_str_join (typeIs_str _ _ _) F.entry_str_join (F.args_str_join_2 _ _) (meets_str_join_list x t D l hok) ⟨hl, post_joinT l ⟨joinFit_length hok, h⟩⟩
end Mine
end
section
open PySem PySem.Sre
set_option maxRecDepth 100000
namespace Mine
theorem runFor_done {m : M} (h : m.outcome.isSome = true) : ∀ n, m.runFor n = m := by
  intro n
  cases n with
  | zero => rfl
  | succ n => unfold M.runFor; rw [if_pos h]
theorem runFor_add (a b : Nat) : ∀ m : M, m.runFor (a + b) = (m.runFor a).runFor b := by
  induction a with
  | zero => intro m; rw [Nat.zero_add]; rfl
  | succ a ih =>
    intro m
    rw [Nat.succ_add]
    by_cases h : m.outcome.isSome = true
    · rw [runFor_done h, runFor_done h, runFor_done h]
    · show (if m.outcome.isSome then m else (m.step).runFor (a + b)) = (if m.outcome.isSome then m else (m.step).runFor a).runFor b
      rw [if_neg h, if_neg h, ih]
noncomputable def code1 : Array Nat := #[14, 4, 0, 1, 1, 6, 1, 16, 46, 1]
noncomputable def code2 : Array Nat := #[14, 9, 4, 1, 2, 16, 10, 16, 13, 0, 7, 7, 16, 13, 16, 10, 15, 18, 5, 16, 10, 15, 13, 11, 16, 13, 5, 5, 0, 16, 10, 1, 15, 2, 0, 1]
/-- a start of the first pattern at place s -/
noncomputable def A1 (text : Array Nat) (s : Nat) (first : Bool) (seen : Seen) : M :=
  { code := code1, text, lim := text.size, start := s, lastStart := text.size, wholeText := false, mustAdvance := false, pc := 5, pos := s, handed := s, outermost := first, marks := #[], lastmark := -1, lastindex := -1,
    loops := #[], inner := none, frames := [{ wait := .nextStart, pc := 5, pos := s, outermost := first }], weight := 1, answer := none, seen, outcome := none }
noncomputable def atLine (text : Array Nat) (s : Nat) : Bool := s == 0 || text.getD (s - 1) 0 == 10
theorem a1_at (text : Array Nat) (s : Nat) (first : Bool) (seen : Seen) : ∃ sn, (A1 text s first seen).step = if atLine text s then { A1 text s first sn with pc := 7 } else { A1 text s first sn with answer := some false } := ⟨_, rfl⟩
theorem a1_lit (text : Array Nat) (s : Nat) (first : Bool) (seen : Seen) : ∃ sn, ({ A1 text s first seen with pc := 7 } : M).step = if s ≥ text.size then { A1 text s first sn with pc := 7, answer := some false } else if text.getD s 0 == 46 then { A1 text s first sn with pc := 9, pos := s + 1 } else { A1 text s first sn with pc := 7, answer := some false } := by
  refine ⟨seen.add 16, ?_⟩
  show (if s ≥ text.size then _ else _) = _
  by_cases h : s ≥ text.size
  · rw [if_pos h, if_pos h]; rfl
  · rw [if_neg h, if_neg h]
    cases e : (text.getD s 0 == 46) with
    | true =>
      have e2 : accepts code1 7 (text.getD s 0) (seen.add 16) = .ok (true, seen.add 16) := by
        show Except.ok (text.getD s 0 == 46, seen.add 16) = _
        rw [e]
      show (match accepts code1 7 (text.getD s 0) (seen.add 16) with | .error why => _ | .ok (false, seen) => _ | .ok (true, seen) => _) = _
      rw [e2]; rfl
    | false =>
      have e2 : accepts code1 7 (text.getD s 0) (seen.add 16) = .ok (false, seen.add 16) := by
        show Except.ok (text.getD s 0 == 46, seen.add 16) = _
        rw [e]
      show (match accepts code1 7 (text.getD s 0) (seen.add 16) with | .error why => _ | .ok (false, seen) => _ | .ok (true, seen) => _) = _
      rw [e2]; rfl
theorem a1_succ (text : Array Nat) (s : Nat) (first : Bool) (seen : Seen) : ∃ sn, ({ A1 text s first seen with pc := 9, pos := s + 1 } : M).runFor 3 = { A1 text s first sn with pos := s, handed := s + 1, frames := [], weight := 0, answer := some true, outcome := some .matched } := by
  refine ⟨seen.add 1, ?_⟩
  cases first <;> rfl
theorem a1_no (text : Array Nat) (s : Nat) (first : Bool) (seen : Seen) (pc : Nat) : ({ A1 text s first seen with pc := pc, answer := some false } : M).step = if s < text.size then A1 text (s + 1) false seen else { A1 text s first seen with frames := [], weight := 0, answer := some false } := by
  show (if s < text.size then _ else _) = _
  by_cases h : s < text.size
  · rw [if_pos h, if_pos h]; rfl
  · rw [if_neg h, if_neg h]; rfl
noncomputable def good1 (text : Array Nat) (s : Nat) : Bool := atLine text s && decide (s < text.size) && text.getD s 0 == 46
theorem runFor_one (m : M) (h : m.outcome.isSome = false) : m.runFor 1 = m.step := by
  unfold M.runFor; rw [if_neg (by rw [h]; decide)]; rfl
theorem a1_bad (text : Array Nat) (s : Nat) (first : Bool) (seen : Seen) (h : good1 text s = false) : ∃ k ≤ 2, ∃ sn pc, (A1 text s first seen).runFor k = { A1 text s first sn with pc := pc, answer := some false } := by
  obtain ⟨sn, e⟩ := a1_at text s first seen
  by_cases h1 : atLine text s = true
  · rw [if_pos h1] at e
    obtain ⟨sn2, e2⟩ := a1_lit text s first sn
    refine ⟨2, Nat.le_refl _, sn2, 7, ?_⟩
    rw [runFor_add 1 1, runFor_one (A1 text s first seen) rfl, e, runFor_one _ rfl, e2]
    by_cases h2 : s ≥ text.size
    · rw [if_pos h2]
    · rw [if_neg h2, if_neg]
      intro h3
      unfold good1 at h
      rw [h1, h3, decide_eq_true (by (first | lia | omega))] at h
      cases h
  · rw [if_neg h1] at e
    exact ⟨1, by (first | lia | omega), sn, 5, by rw [runFor_one _ rfl, e]; rfl⟩
theorem a1_good (text : Array Nat) (s : Nat) (first : Bool) (seen : Seen) (h : good1 text s = true) : ∃ k ≤ 5, ∃ f : M, (A1 text s first seen).runFor k = f ∧ f.outcome = some .matched ∧ f.start = s ∧ f.handed = s + 1 := by
  unfold good1 at h
  simp only [Bool.and_eq_true, decide_eq_true_eq] at h
  obtain ⟨⟨h1, h2⟩, h3⟩ := h
  obtain ⟨sn, e⟩ := a1_at text s first seen
  rw [if_pos h1] at e
  obtain ⟨sn2, e2⟩ := a1_lit text s first sn
  rw [if_neg (by (first | lia | omega)), if_pos h3] at e2
  obtain ⟨sn3, e3⟩ := a1_succ text s first sn2
  refine ⟨5, Nat.le_refl _, _, rfl, ?_⟩
  rw [show (5 : Nat) = 1 + (1 + 3) from rfl, runFor_add, runFor_one _ rfl, e, runFor_add, runFor_one _ rfl, e2, e3]
  exact ⟨rfl, rfl, rfl⟩
theorem a1_run (text : Array Nat) : ∀ d s first seen, (∀ j, s ≤ j → j < s + d → good1 text j = false) → s + d ≤ text.size → ∃ k ≤ 3 * d, ∃ sn fr, (A1 text s first seen).runFor k = A1 text (s + d) fr sn := by
  intro d
  induction d with
  | zero => intro s first seen _ _; exact ⟨0, Nat.le_refl _, seen, first, rfl⟩
  | succ d ih =>
    intro s first seen hb hs
    obtain ⟨k, hk, sn, pc, e⟩ := a1_bad text s first seen (hb s (Nat.le_refl _) (by (first | lia | omega)))
    have e2 := a1_no text s first sn pc
    rw [if_pos (by (first | lia | omega))] at e2
    obtain ⟨k2, hk2, sn2, fr, e3⟩ := ih (s + 1) false sn (fun j h1 h2 => hb j (by (first | lia | omega)) (by (first | lia | omega))) (by (first | lia | omega))
    refine ⟨k + (1 + k2), by (first | lia | omega), sn2, fr, ?_⟩
    rw [runFor_add, e, runFor_add, runFor_one _ rfl, e2, e3]
    congr 1
    (first | lia | omega)
theorem search1_hit (text : Array Nat) (p s : Nat) (hp : p ≤ s) (hb : ∀ j, p ≤ j → j < s → good1 text j = false) (h : good1 text s = true) : ∃ k ≤ 3 * text.size + 5, ∃ f : M, (forSearch code1 text 0 p text.size false).runFor k = f ∧ f.outcome = some .matched ∧ f.start = s ∧ f.handed = s + 1 := by
  have hs : s < text.size := by
    unfold good1 at h
    simp only [Bool.and_eq_true, decide_eq_true_eq] at h
    exact h.1.2
  have e0 : ∃ sn, forSearch code1 text 0 p text.size false = A1 text p true sn := by
    refine ⟨({} : Seen).add 14, ?_⟩
    unfold forSearch
    show (if (decide (p > text.size) || decide (text.size - p < 1)) = true then _ else _) = _
    rw [if_neg (by simp; (first | lia | omega))]
    rfl
  obtain ⟨sn, e0⟩ := e0
  obtain ⟨k, hk, sn2, fr, e⟩ := a1_run text (s - p) p true sn (fun j h1 h2 => hb j h1 (by (first | lia | omega))) (by (first | lia | omega))
  rw [show p + (s - p) = s by (first | lia | omega)] at e
  obtain ⟨k2, hk2, f, e2, r⟩ := a1_good text s fr sn2 h
  exact ⟨k + k2, by (first | lia | omega), f, by rw [e0, runFor_add, e, e2], r⟩
theorem search1_miss (text : Array Nat) (p : Nat) (hp : p ≤ text.size) (hb : ∀ j, p ≤ j → good1 text j = false) : ∃ k ≤ 3 * text.size + 5, ∃ f : M, (forSearch code1 text 0 p text.size false).runFor k = f ∧ f.outcome = some .failed := by
  by_cases hq : text.size - p < 1
  · refine ⟨1, by (first | lia | omega), _, rfl, ?_⟩
    have e0 : forSearch code1 text 0 p text.size false = { A1 text p true (({} : Seen).add 14) with lastStart := 0, frames := [], weight := 0, answer := some false } := by
      unfold forSearch
      show (if (decide (p > text.size) || decide (text.size - p < 1)) = true then _ else _) = _
      rw [if_pos (by simp; (first | lia | omega))]
      rfl
    rw [e0]; rfl
  · have e0 : ∃ sn, forSearch code1 text 0 p text.size false = A1 text p true sn := by
      refine ⟨({} : Seen).add 14, ?_⟩
      unfold forSearch
      show (if (decide (p > text.size) || decide (text.size - p < 1)) = true then _ else _) = _
      rw [if_neg (by simp; (first | lia | omega))]
      rfl
    obtain ⟨sn, e0⟩ := e0
    obtain ⟨k, hk, sn2, fr, e⟩ := a1_run text (text.size - p) p true sn (fun j h1 h2 => hb j h1) (by (first | lia | omega))
    rw [show p + (text.size - p) = text.size by (first | lia | omega)] at e
    obtain ⟨k2, hk2, sn3, pc, e3⟩ := a1_bad text text.size fr sn2 (hb _ hp)
    have e2 := a1_no text text.size fr sn3 pc
    rw [if_neg (by (first | lia | omega))] at e2
    refine ⟨k + (k2 + (1 + 1)), by (first | lia | omega), _, rfl, ?_⟩
    have e4 := runFor_one ({ A1 text text.size fr sn3 with pc := pc, answer := some false } : M) rfl
    rw [e0, runFor_add, e, runFor_add, e3, runFor_add, e4, e2]
    rfl
end Mine
end
section
open PySem PySem.Sre
set_option maxRecDepth 100000
namespace Mine
/-- a state of the second pattern, started at place t -/
noncomputable def S2 (text : Array Nat) (t : Nat) (pc pos handed : Nat) (om : Bool) (frs : List PySem.Sre.Frame) (wgt : Nat) (ans : Option Bool) (seen : Seen) : M :=
  { code := code2, text, lim := text.size, start := t, lastStart := text.size, wholeText := false, mustAdvance := false, pc := pc, pos := pos, handed := handed, outermost := om, marks := #[], lastmark := -1, lastindex := -1,
    loops := #[], inner := none, frames := frs, weight := wgt, answer := ans, seen, outcome := none }
noncomputable def f0 (t : Nat) : PySem.Sre.Frame := { wait := .nextStart, pc := 10, pos := t, outermost := true }
noncomputable def k0 : Sre.Kept := { lastmark := -1, lastindex := -1, whole := false, marks := #[] }
noncomputable def fB (t pc : Nat) : PySem.Sre.Frame := { wait := .nextBranch, pc := pc, pos := t, outermost := true, kept := k0 }
noncomputable def fN (t : Nat) : PySem.Sre.Frame := { wait := .lookNot, pc := 26, pos := t + 1, outermost := true, kept := k0 }
section
variable (text : Array Nat) (t h : Nat) (om : Bool) (frs : List PySem.Sre.Frame) (wgt : Nat) (seen : Seen)
theorem s2_lit (pc pos : Nat) (hpc : pc < code2.size) (hop : ops[code2.getD pc 0]? = some .LITERAL) : ∃ sn, (S2 text t pc pos h om frs wgt none seen).step =
    if pos < text.size ∧ text.getD pos 0 = code2.getD (pc + 1) 0 then S2 text t (pc + 2) (pos + 1) h om frs wgt none sn else S2 text t pc pos h om frs wgt (some false) sn := by
  refine ⟨seen.add (code2.getD pc 0), ?_⟩
  have e : (S2 text t pc pos h om frs wgt none seen).step = (S2 text t pc pos h om frs wgt none seen).exec := by
    show (if pc < code2.size then _ else _) = _
    rw [if_pos hpc]
  rw [e]
  unfold M.exec
  have e1 : (S2 text t pc pos h om frs wgt none seen).word 0 = code2.getD pc 0 := rfl
  rw [e1]
  simp only [hop]
  show (if pos ≥ text.size then _ else _) = _
  by_cases hlt : pos < text.size
  · rw [if_neg (by omega)]
    have e2 : accepts code2 pc (text.getD pos 0) (seen.add (code2.getD pc 0)) = .ok (text.getD pos 0 == code2.getD (pc + 1) 0, seen.add (code2.getD pc 0)) := by
      unfold accepts
      simp only [hop]
    show (match accepts code2 pc (text.getD pos 0) (seen.add (code2.getD pc 0)) with | .error why => _ | .ok (false, seen) => _ | .ok (true, seen) => _) = _
    rw [e2]
    by_cases hc : text.getD pos 0 = code2.getD (pc + 1) 0
    · rw [if_pos ⟨hlt, hc⟩, show (text.getD pos 0 == code2.getD (pc + 1) 0) = true from beq_iff_eq.mpr hc]
      dsimp only
      have e3 : itemWidth code2 pc = 2 := by
        unfold itemWidth
        simp only [hop]
      show ({ (S2 text t pc pos h om frs wgt none seen) with seen := _, pc := pc + itemWidth code2 pc, pos := pos + 1 } : M) = _
      rw [e3]; rfl
    · rw [if_neg (fun z => hc z.2), show (text.getD pos 0 == code2.getD (pc + 1) 0) = false from beq_eq_false_iff_ne.mpr hc]
      rfl
  · rw [if_pos (by omega), if_neg (fun z => hlt z.1)]; rfl
theorem s2_branch : ∃ sn, (S2 text t 10 t t true [f0 t] 1 none seen).step = S2 text t 12 t t true [fB t 11, f0 t] 2 none sn := ⟨_, rfl⟩
theorem s2_alt2 (pos pc : Nat) : (S2 text t pc pos h om [fB t 11, f0 t] 2 (some false) seen).step = S2 text t 19 t t true [fB t 18, f0 t] 2 none seen := rfl
theorem s2_alt3 (pos pc : Nat) : (S2 text t pc pos h om [fB t 18, f0 t] 2 (some false) seen).step = S2 text t 24 t t true [fB t 23, f0 t] 2 none seen := rfl
theorem s2_look : ∃ sn, (S2 text t 26 (t + 1) h true [fB t 23, f0 t] 2 none seen).step = S2 text t 29 (t + 1) (t + 1) false [fN t, fB t 23, f0 t] 3 none sn := ⟨_, rfl⟩
theorem s2_notLook (pc pos : Nat) : (S2 text t pc pos h om [fN t, fB t 23, f0 t] 3 (some false) seen).step = S2 text t 32 (t + 1) h true [fB t 23, f0 t] 2 none seen := rfl
theorem s2_jump16 (pos : Nat) : ∃ sn, (S2 text t 16 pos h om frs wgt none seen).step = S2 text t 35 pos h om frs wgt none sn := ⟨_, rfl⟩
theorem s2_jump21 (pos : Nat) : ∃ sn, (S2 text t 21 pos h om frs wgt none seen).step = S2 text t 35 pos h om frs wgt none sn := ⟨_, rfl⟩
theorem s2_jump32 (pos : Nat) : ∃ sn, (S2 text t 32 pos h om frs wgt none seen).step = S2 text t 35 pos h om frs wgt none sn := ⟨_, rfl⟩
theorem s2_done (pos pc : Nat) : ∃ f : M, (S2 text t 35 pos h true [fB t pc, f0 t] 2 none seen).runFor 4 = f ∧ f.outcome = some .matched ∧ f.start = t ∧ f.handed = pos := ⟨_, rfl, rfl, rfl, rfl⟩
end
theorem run_step {m m' : M} {f : M} {k : Nat} (ho : m.outcome.isSome = false) (e : m.step = m') (r : m'.runFor k = f) : m.runFor (1 + k) = f := by
  rw [runFor_add, runFor_one m ho, e, r]
/-- a feed alone -/
theorem s2_feed (text : Array Nat) (t : Nat) (seen : Seen) (ht : t < text.size) (hc : text.getD t 0 = 10) : ∃ k ≤ 20, ∃ f : M, (S2 text t 10 t t true [f0 t] 1 none seen).runFor k = f ∧ f.outcome = some .matched ∧ f.start = t ∧ f.handed = t + 1 := by
  obtain ⟨s1, e1⟩ := s2_branch text t seen
  obtain ⟨s2, e2⟩ := s2_lit text t t true [fB t 11, f0 t] 2 s1 12 t (by decide) rfl
  rw [if_neg (by rw [hc]; intro z; exact absurd z.2 (by decide))] at e2
  have e3 := s2_alt2 text t t true s2 t 12
  obtain ⟨s4, e4⟩ := s2_lit text t t true [fB t 18, f0 t] 2 s2 19 t (by decide) rfl
  rw [if_pos ⟨ht, by rw [hc]; decide⟩] at e4
  obtain ⟨s5, e5⟩ := s2_jump21 text t t true [fB t 18, f0 t] 2 s4 (t + 1)
  obtain ⟨f, r, q⟩ := s2_done text t t s5 (t + 1) 18
  exact ⟨_, by decide, f, run_step rfl e1 (run_step rfl e2 (run_step rfl e3 (run_step rfl e4 (run_step rfl e5 r)))), q⟩
/-- a return and a feed -/
theorem s2_both (text : Array Nat) (t : Nat) (seen : Seen) (ht : t + 1 < text.size) (hc : text.getD t 0 = 13) (hd : text.getD (t + 1) 0 = 10) : ∃ k ≤ 20, ∃ f : M, (S2 text t 10 t t true [f0 t] 1 none seen).runFor k = f ∧ f.outcome = some .matched ∧ f.start = t ∧ f.handed = t + 2 := by
  obtain ⟨s1, e1⟩ := s2_branch text t seen
  obtain ⟨s2, e2⟩ := s2_lit text t t true [fB t 11, f0 t] 2 s1 12 t (by decide) rfl
  rw [if_pos ⟨by omega, by rw [hc]; decide⟩] at e2
  obtain ⟨s3, e3⟩ := s2_lit text t t true [fB t 11, f0 t] 2 s2 14 (t + 1) (by decide) rfl
  rw [if_pos ⟨by omega, by rw [hd]; decide⟩] at e3
  obtain ⟨s5, e5⟩ := s2_jump16 text t t true [fB t 11, f0 t] 2 s3 (t + 1 + 1)
  obtain ⟨f, r, q⟩ := s2_done text t t s5 (t + 1 + 1) 11
  exact ⟨_, by decide, f, run_step rfl e1 (run_step rfl e2 (run_step rfl e3 (run_step rfl e5 r))), q⟩
/-- a return that no feed follows -/
theorem s2_ret (text : Array Nat) (t : Nat) (seen : Seen) (ht : t < text.size) (hc : text.getD t 0 = 13) (hd : text.getD (t + 1) 0 ≠ 10) : ∃ k ≤ 20, ∃ f : M, (S2 text t 10 t t true [f0 t] 1 none seen).runFor k = f ∧ f.outcome = some .matched ∧ f.start = t ∧ f.handed = t + 1 := by
  obtain ⟨s1, e1⟩ := s2_branch text t seen
  obtain ⟨s2, e2⟩ := s2_lit text t t true [fB t 11, f0 t] 2 s1 12 t (by decide) rfl
  rw [if_pos ⟨by omega, by rw [hc]; decide⟩] at e2
  obtain ⟨s3, e3⟩ := s2_lit text t t true [fB t 11, f0 t] 2 s2 14 (t + 1) (by decide) rfl
  rw [if_neg (fun z => hd z.2)] at e3
  have e4 := s2_alt2 text t t true s3 (t + 1) 14
  obtain ⟨s5, e5⟩ := s2_lit text t t true [fB t 18, f0 t] 2 s3 19 t (by decide) rfl
  rw [if_neg (by rw [hc]; intro z; exact absurd z.2 (by decide))] at e5
  have e6 := s2_alt3 text t t true s5 t 19
  obtain ⟨s7, e7⟩ := s2_lit text t t true [fB t 23, f0 t] 2 s5 24 t (by decide) rfl
  rw [if_pos ⟨by omega, by rw [hc]; decide⟩] at e7
  obtain ⟨s8, e8⟩ := s2_look text t t s7
  obtain ⟨s9, e9⟩ := s2_lit text t (t + 1) false [fN t, fB t 23, f0 t] 3 s8 29 (t + 1) (by decide) rfl
  rw [if_neg (fun z => hd z.2)] at e9
  have e10 := s2_notLook text t (t + 1) false s9 29 (t + 1)
  obtain ⟨s11, e11⟩ := s2_jump32 text t (t + 1) true [fB t 23, f0 t] 2 s9 (t + 1)
  obtain ⟨f, r, q⟩ := s2_done text t (t + 1) s11 (t + 1) 23
  exact ⟨_, by decide, f, run_step rfl e1 (run_step rfl e2 (run_step rfl e3 (run_step rfl e4 (run_step rfl e5 (run_step rfl e6 (run_step rfl e7 (run_step rfl e8 (run_step rfl e9 (run_step rfl e10 (run_step rfl e11 r)))))))))), q⟩
noncomputable def isEnd (c : Nat) : Bool := c == 10 || c == 13
theorem inSet2 (c : Nat) (seen : Seen) : ∃ sn, inSet code2 c code2.size 5 true seen = .ok (isEnd c, sn) := by
  have e : inSet code2 c code2.size 5 true seen = if c == 10 then .ok (true, seen.add 16) else if c == 13 then .ok (true, (seen.add 16).add 16) else .ok (false, ((seen.add 16).add 16).add 0) := rfl
  rw [e]
  unfold isEnd
  cases c == 10 with
  | true => exact ⟨_, rfl⟩
  | false => cases c == 13 with
    | true => exact ⟨_, rfl⟩
    | false => exact ⟨_, rfl⟩
theorem admitted_run (m : M) (hm : m.code = code2) : ∀ fuel s seen, s ≤ m.lim → m.lim < fuel + s →
    (∃ t sn, s ≤ t ∧ t < m.lim ∧ isEnd (m.text.getD t 0) = true ∧ (∀ j, s ≤ j → j < t → isEnd (m.text.getD j 0) = false) ∧ M.admitted m fuel s seen = .ok (some t, sn)) ∨
    ((∀ j, s ≤ j → j < m.lim → isEnd (m.text.getD j 0) = false) ∧ ∃ sn, M.admitted m fuel s seen = .ok (none, sn)) := by
  intro fuel
  induction fuel with
  | zero => intro s seen h1 h2; omega
  | succ fuel ih =>
    intro s seen h1 h2
    unfold M.admitted
    by_cases hs : s ≥ m.lim
    · exact .inr ⟨fun j a b => by omega, seen, by rw [if_pos hs]⟩
    · rw [if_neg hs]
      obtain ⟨sn, e⟩ := inSet2 (m.text.getD s 0) seen
      rw [hm, e]
      cases hc : isEnd (m.text.getD s 0) with
      | true => exact .inl ⟨s, sn, Nat.le_refl _, by omega, hc, fun j a b => by omega, rfl⟩
      | false =>
        rcases ih (s + 1) sn (by omega) (by omega) with ⟨t, sn2, a, b, c, d, e2⟩ | ⟨a, sn2, e2⟩
        · refine .inl ⟨t, sn2, by omega, b, c, fun j j1 j2 => ?_, e2⟩
          by_cases z : j = s
          · rw [z]; exact hc
          · exact d j (by omega) j2
        · refine .inr ⟨fun j j1 j2 => ?_, sn2, e2⟩
          by_cases z : j = s
          · rw [z]; exact hc
          · exact a j (by omega) j2
/-- what a found row's end takes -/
noncomputable def endLen (text : Array Nat) (t : Nat) : Nat := if text.getD t 0 == 13 && text.getD (t + 1) 0 == 10 && decide (t + 1 < text.size) then 2 else 1
theorem getD_out (text : Array Nat) (j : Nat) (h : ¬ j < text.size) : text.getD j 0 = 0 := by
  rw [Array.getD_eq_getD_getElem?, Array.getElem?_eq_none (by omega)]; rfl
theorem s2_found (text : Array Nat) (t : Nat) (seen : Seen) (ht : t < text.size) (hc : isEnd (text.getD t 0) = true) : ∃ k ≤ 20, ∃ f : M, (S2 text t 10 t t true [f0 t] 1 none seen).runFor k = f ∧ f.outcome = some .matched ∧ f.start = t ∧ f.handed = t + endLen text t := by
  unfold isEnd at hc
  rw [Bool.or_eq_true, beq_iff_eq, beq_iff_eq] at hc
  rcases hc with hc | hc
  · have e : endLen text t = 1 := by unfold endLen; rw [hc]; rfl
    rw [e]; exact s2_feed text t seen ht hc
  · by_cases hd : text.getD (t + 1) 0 = 10
    · have hlt : t + 1 < text.size := by
        by_cases z : t + 1 < text.size
        · exact z
        · rw [getD_out _ _ z] at hd; cases hd
      have e : endLen text t = 2 := by unfold endLen; rw [hc, hd, decide_eq_true hlt]; rfl
      rw [e]; exact s2_both text t seen hlt hc hd
    · have e : endLen text t = 1 := by
        unfold endLen
        rw [show (text.getD (t + 1) 0 == 10) = false from beq_eq_false_iff_ne.mpr hd, Bool.and_false]; rfl
      rw [e]; exact s2_ret text t seen ht hc hd
noncomputable def P2 (text : Array Nat) (p : Nat) : M :=
  { code := code2, text, lim := text.size, start := p, lastStart := text.size, wholeText := false, mustAdvance := false, pc := 10, pos := p, handed := p, outermost := true, marks := #[], lastmark := -1, lastindex := -1,
    loops := #[], inner := none, frames := [], weight := 0, answer := none, seen := ({} : Seen).add 14, outcome := none }
theorem forSearch2 (text : Array Nat) (p : Nat) (hp : p < text.size) : forSearch code2 text 0 p text.size false = (match M.admitted (P2 text p) (text.size + 1 - p) p (({} : Seen).add 14) with
    | .ok (some s, seen) => { P2 text p with mustAdvance := false, seen }.attemptAt s true
    | .ok (none, seen) => { P2 text p with seen }.say false
    | .error why => (P2 text p).stick why) := by
  unfold forSearch
  show (if (decide (p > text.size) || decide (text.size - p < 1)) = true then _ else _) = _
  rw [if_neg (by simp; omega)]
  rfl
theorem search2 (text : Array Nat) (p : Nat) (hp : p ≤ text.size) :
    (∃ t, p ≤ t ∧ t < text.size ∧ isEnd (text.getD t 0) = true ∧ (∀ j, p ≤ j → j < t → isEnd (text.getD j 0) = false) ∧ ∃ k ≤ 20, ∃ f : M, (forSearch code2 text 0 p text.size false).runFor k = f ∧ f.outcome = some .matched ∧ f.start = t ∧ f.handed = t + endLen text t) ∨
    ((∀ j, p ≤ j → j < text.size → isEnd (text.getD j 0) = false) ∧ ∃ k ≤ 20, ∃ f : M, (forSearch code2 text 0 p text.size false).runFor k = f ∧ f.outcome = some .failed) := by
  by_cases hq : p < text.size
  · have e0 := forSearch2 text p hq
    rcases admitted_run (P2 text p) rfl (text.size + 1 - p) p (({} : Seen).add 14) hp (by show text.size < _; omega) with ⟨t, sn, a, b, c, d, e⟩ | ⟨a, sn, e⟩
    · left
      rw [e] at e0
      have e1 : forSearch code2 text 0 p text.size false = S2 text t 10 t t true [f0 t] 1 none sn := e0
      rw [e1]
      exact ⟨t, a, b, c, d, s2_found text t sn b c⟩
    · right
      rw [e] at e0
      have e1 : forSearch code2 text 0 p text.size false = { P2 text p with seen := sn, answer := some false } := e0
      rw [e1]
      exact ⟨a, 1, by omega, _, rfl, rfl⟩
  · right
    refine ⟨fun j h1 h2 => by omega, 1, by omega, _, rfl, ?_⟩
    have e0 : forSearch code2 text 0 p text.size false = { P2 text p with lastStart := 0, answer := some false } := by
      unfold forSearch
      show (if (decide (p > text.size) || decide (text.size - p < 1)) = true then _ else _) = _
      rw [if_pos (by simp; omega)]
      rfl
    rw [e0]; rfl
end Mine
end
section
open PySem PySem.W PyProof.Rows PySem.Calls PySem.Builtin.Re
set_option Elab.async false
set_option maxRecDepth 100000
namespace Mine
section
variable {M : Model} {A : Around} {E : Value → Shared → Prop} {s : Shared}
theorem drive {Q : Sre.M → Shared → Prop} {f : Sre.M} (hf : f.outcome.isSome = true) (q : Q f s) : ∀ (turns k : Nat) (m : Sre.M), m.runFor k = f → k ≤ 4 * turns → 0 < turns → wpAny M A (reDrive turns m) Q E s := by
  intro turns
  induction turns with
  | zero => intro k m _ _ h; exact absurd h (Nat.lt_irrefl _)
  | succ n ih =>
    intro k m hr hk _
    unfold reDrive
    have key : k ≤ 4 ∨ ∃ j, k = 4 + j := by
      by_cases z : k ≤ 4
      · exact .inl z
      · exact .inr ⟨k - 4, by (first | lia | omega)⟩
    rcases key with z | ⟨j, rfl⟩
    · have e : m.runFor reTurnSteps = f := by
        rw [show reTurnSteps = k + (4 - k) by unfold reTurnSteps; (first | lia | omega), runFor_add, hr, runFor_done hf]
      rw [e]
      dsimp only
      rw [if_pos hf]
      exact wpAny_pure q
    · rw [runFor_add] at hr
      dsimp only
      rw [show reTurnSteps = 4 from rfl]
      by_cases ho : (m.runFor 4).outcome.isSome = true
      · rw [if_pos ho]
        rw [runFor_done ho] at hr
        rw [hr]
        exact wpAny_pure q
      · rw [if_neg ho]
        refine wpAny_bind (wpAny_rule ?_)
        have hn : 0 < n := by
          by_cases z : n = 0
          · subst z
            have : j = 0 := by (first | lia | omega)
            subst this
            have hr : m.runFor 4 = f := hr
            rw [hr] at ho
            exact absurd hf ho
          · (first | lia | omega)
        exact ih j _ hr (by (first | lia | omega)) hn
theorem loop_unit {body : Nat → PUnit → Sem (ForInStep PUnit)} (hb : ∀ i r (s : Shared) (Q : ForInStep PUnit → Shared → Prop), Q (.yield ⟨⟩) s → wpAny M A (body i r) Q E s) : ∀ (l : List Nat) (Q : PUnit → Shared → Prop), Q ⟨⟩ s → wpAny M A (forIn l PUnit.unit body) Q E s := by
  intro l
  induction l with
  | nil => intro Q q; rw [List.forIn_nil]; exact wpAny_pure q
  | cons i l ih =>
    intro Q q
    rw [List.forIn_cons]
    exact wpAny_bind (hb i _ s _ (ih Q q))
theorem runToEnd {Q : Option Sre.M → Shared → Prop} {f m : Sre.M} {k : Nat} (hr : m.runFor k = f) (hk : k ≤ 100000) (q : (f.outcome = some .matched ∧ Q (some f) s) ∨ (f.outcome = some .failed ∧ Q none s)) :
    wpAny M A (reRunToEnd m) Q E s := by
  unfold reRunToEnd
  refine wpAny_bind (drive (f := f) (by rcases q with h | h <;> rw [h.1] <;> rfl) ?_ (2 ^ 64) k m hr (Nat.le_trans hk (by decide)) (by decide))
  refine wpAny_bind (loop_unit (fun i r s Q q => ?_) _ _ ?_)
  · split
    · exact wpAny_bind (wpAny_rule (wpAny_pure q))
    · exact wpAny_pure q
  · rcases q with h | h
    · rw [h.1]
      exact wpAny_pure h.2
    · rw [h.1]
      exact wpAny_pure h.2
/-- the pattern object, as the loop reads it -/
structure PatAt (h : Heap) (pa : Addr) (code : Array Nat) : Prop where
  ex : ∃ o vs ta ot xs n, h.get? pa = some o ∧ o.cls = .type "re.Pattern" ∧ o.dict = none ∧ o.data = .fields vs ∧ vs.getD 6 .none = .int 0 0 ∧ vs.getD 2 .none = .int 0 0 ∧ vs.getD 5 .none = .ref ta ∧ h.get? ta = some ot ∧ ot.data = .seq xs n ∧ (xs.map reRawOf).map (·.toNat) = code
theorem PatAt.keeps {h h' : Heap} {pa : Addr} {code : Array Nat} (P : PatAt h pa code) (k : ∀ a o, h.get? a = some o → (o.data ≠ .seq #[] 0 ∨ True) → h'.get? a = some o) : PatAt h' pa code := by
  obtain ⟨o, vs, ta, ot, xs, n, a, c, d, e, f, g, i, j, l, m⟩ := P.ex
  exact ⟨o, vs, ta, ot, xs, n, k _ _ a (.inr trivial), c, d, e, f, g, i, k _ _ j (.inr trivial), l, m⟩
theorem wholeTarget {pa : Addr} {code : Array Nat} {d : Str} {td : Tok} {Q : ReTarget → Shared → Prop} (P : PatAt s.heap pa code)
    (q : Q { pattern := .ref pa, string := .str d td, code := code, text := d.cps, kind := 0, groups := 0, pos := 0, lim := d.cps.size } s) : wpAny M A (reWholeTarget (.ref pa) (.str d td)) Q E s := by
  obtain ⟨o, vs, ta, ot, xs, n, ho, hc, hdi, hd, h6, h2, h5, ht, hx, hcode⟩ := P.ex
  unfold reWholeTarget
  refine wpAny_bind (wpAny_fieldsOf ho hd ?_)
  refine wpAny_bind (m := reTextOf _) (wpAny_pure ?_)
  dsimp only
  rw [h6]
  rw [if_neg (by decide), if_neg (by decide)]
  refine wpAny_bind (m := reNoCollectionInside _ _) (wpAny_pure ?_)
  rw [h5]
  refine wpAny_bind (m := reRawItems _) ?_
  unfold reRawItems
  refine wpAny_bind (wpAny_seqItems ht hx (wpAny_pure ?_))
  refine wpAny_pure ?_
  rw [h2]
  rw [show (Array.map (fun x : Int => x.toNat) (Array.map reRawOf ((some xs).getD #[]))) = code from hcode]
  exact q
end
noncomputable abbrev loopArgs (pa li : Addr) (d r : Str) (td tr : Tok) (n e : Nat) : Args := ⟨[.ref pa, .str d td, .str r tr, rawInt (0 : Nat), rawInt (0 : Int), rawInt (n : Int), rawInt (e : Nat), rawInt (e : Nat), .bool false, .ref li, .bool false], []⟩
section
variable {prog : Program} {w : World} {A : Around} {R : Result → Shared → Prop} {s : Shared} {pa li : Addr} {code : Array Nat} {d r : Str} {td tr : Tok} {n e : Nat}
theorem push_at {E : Value → Shared → Prop} {lv : List (Str × Tok)} {ln : Nat} {x : Str} {t : Tok} {Q : Unit → Shared → Prop} (hl : s.heap.get? li = some (W.listOf (strValues lv).toArray ln)) (hz : lv.length ≤ 1000)
    (q : ∀ h', h'.get? li = some (W.listOf (strValues (lv ++ [(x, t)])).toArray (ln + 1)) → Kept [li] s.heap h' → Q () { s with heap := h' }) : wpAny (model prog w) A (updateSeq li (·.push (.str x t))) Q E s := by
  have hsz : (strValues lv).toArray.size ≤ 1000 := by simpa [strValues] using hz
  have en : Obj.mapSeq (·.push (.str x t)) (W.listOf (strValues lv).toArray ln) = W.listOf (strValues (lv ++ [(x, t)])).toArray (ln + 1) := by
    unfold Obj.mapSeq
    simp [strValues]
  have up := Heap.get?_update_self (Obj.mapSeq (·.push (.str x t))) hl (by rw [en]; rfl)
  rw [en] at up
  exact wpAny_updateSeq hl rfl (q _ up fun a o e q => (Heap.get?_update_other _ _ (fun z => q (by simp [z]))).trans e) (Nat.le_trans hsz (by decide)) (by rw [Array.size_push]; exact Nat.le_trans (Nat.succ_le_succ hsz) (by decide))
theorem turn_hit {lv : List (Str × Tok)} {ln st e' : Nat} (P : PatAt s.heap pa code) (hl : s.heap.get? li = some (W.listOf (strValues lv).toArray ln)) (hz : lv.length ≤ 500) (hd : d.length ≤ 10000)
    (hs : ∃ k ≤ 100000, ∃ f : Sre.M, (Sre.forSearch code d.cps 0 e d.cps.size false).runFor k = f ∧ f.outcome = some .matched ∧ f.start = st ∧ f.handed = e') (hne : e' ≠ st)
    (q : ∀ h' tk lv', h'.get? li = some (W.listOf (strValues (lv ++ lv')).toArray (ln + lv'.length)) → lv'.map (·.1) = (if e < st then [⟨d.cps.extract e st⟩] else []) ++ [r] → Kept [li] s.heap h' → codeAny (model prog w) A (.builtin "re.Pattern.sub.loop" (loopArgs pa li d r td tr (n + 1) e')) R { s with heap := h', toks := tk }) :
    codeAny (model prog w) A (.builtin "re.Pattern.sub.loop" (loopArgs pa li d r td tr n e)) R s := by
  obtain ⟨k, hk, f, hr, ho, hst, hhd⟩ := hs
  refine codeAny_builtin F.entry_subloop ?_
  unfold Builtin.«re.Pattern.sub.loop»
  dsimp only
  refine wpAny_bind (wholeTarget P ?_)
  dsimp only
  rw [if_pos (by decide)]
  refine wpAny_bind (m := reLiteralCannotBeTurned _) (wpAny_pure ?_)
  rw [if_neg (by simp)]
  unfold reNextFound
  simp only [Int.toNat_natCast]
  refine wpAny_bind (runToEnd hr hk (.inl ⟨ho, ?_⟩))
  dsimp only
  rw [hst, hhd]
  have hmust : (e' == st) = false := beq_eq_false_iff_ne.mpr hne
  have tail : ∀ (h' : Heap) (tk ln' : Nat) (lv' : List (Str × Tok)), h'.get? li = some (W.listOf (strValues (lv ++ lv')).toArray (ln + lv'.length)) → lv'.map (·.1) = (if e < st then [⟨d.cps.extract e st⟩] else []) → Kept [li] s.heap h' →
      wpAny (model prog w) (A.under (.builtin "re.Pattern.sub.loop" (loopArgs pa li d r td tr n e))) (do
        updateSeq li (·.push (.str r tr))
        again (.builtin "re.Pattern.sub.loop" ⟨[.ref pa, .str d td, .str r tr, rawInt (0 : Int), rawInt (0 : Int), rawInt ((n : Int) + 1), rawInt (e' : Nat), rawInt (e' : Nat), .bool (e' == st), .ref li, .bool false], []⟩))
        (fun fin s' => match fin with | .done f => R (.ok f) s' | .again c' => c'.quiet = true ∧ codeAny (model prog w) A c' R s') (fun e s' => R (.error e) s') { s with heap := h', toks := tk } := by
    intro h' tk ln' lv' hl' hv hk'
    have hlen : lv'.length ≤ 1 := by
      have := congrArg List.length hv
      rw [List.length_map] at this
      rw [this]
      split <;> simp
    refine wpAny_bind (push_at hl' (by rw [List.length_append]; (first | lia | omega)) (fun h2 hl2 k2 => ?_))
    refine wpAny_pure ⟨Code.quiet_builtin _ (by decide +kernel), ?_⟩
    rw [hmust]
    refine q h2 tk (lv' ++ [(r, tr)]) ?_ ?_ ?_
    · rw [← List.append_assoc, List.length_append, hl2]; rfl
    · rw [List.map_append, hv]; rfl
    · exact fun a o e q => k2 a o (hk' a o e q) q
  by_cases hlt : e < st
  · rw [if_pos (show e < st from hlt)]
    unfold reSlice
    rw [if_pos (by decide)]
    refine wpAny_bind (wpAny_mkStr ?_ ?_)
    · refine wpAny_bind (push_at hl (by (first | lia | omega)) (fun h2 hl2 k2 => ?_))
      rw [if_pos (by decide)]
      refine wpAny_bind (m := pure _) (wpAny_pure ?_)
      rw [if_pos (by rfl)]
      exact tail h2 _ ln [(_, _)] hl2 (by rw [if_pos hlt]; rfl) k2
    · show (d.cps.extract e st).size ≤ sizeLine
      rw [Array.size_extract]
      exact Nat.le_trans (show _ ≤ 10000 by have : d.cps.size ≤ 10000 := hd; (first | lia | omega)) (by decide)
  · rw [if_neg (show ¬ e < st from hlt)]
    rw [if_pos (by decide)]
    refine wpAny_bind (m := pure _) (wpAny_pure ?_)
    rw [if_pos (by rfl)]
    exact tail s.heap s.toks ln [] (by simpa using hl) (by rw [if_neg hlt]; rfl) (fun a o e _ => e)
theorem strs_values (lv : List (Str × Tok)) : StrsAre (strValues lv).toArray.toList (lv.map (·.1)) := by
  induction lv with
  | nil => exact .nil
  | cons p r ih => exact .cons p.1 p.2 ih
theorem turn_miss {lv : List (Str × Tok)} {ln : Nat} (P : PatAt s.heap pa code) (hl : s.heap.get? li = some (W.listOf (strValues lv).toArray ln)) (hz : lv.length ≤ 500) (hd : d.length ≤ 10000) (hne : lv ≠ [] ∨ e < d.length)
    (hw : ((lv.map (·.1)).map (·.length)).sum ≤ 100000)
    (hs : ∃ k ≤ 100000, ∃ f : Sre.M, (Sre.forSearch code d.cps 0 e d.cps.size false).runFor k = f ∧ f.outcome = some .failed)
    (q : ∀ h' tk t, 0 < tk → Kept [li] s.heap h' → R (.ok (.ret (.str (Txt.join "" (lv.map (·.1) ++ if e < d.length then [⟨d.cps.extract e d.length⟩] else [])) t))) { s with heap := h', toks := tk }) :
    codeAny (model prog w) A (.builtin "re.Pattern.sub.loop" (loopArgs pa li d r td tr n e)) R s := by
  obtain ⟨k, hk, f, hr, ho⟩ := hs
  refine codeAny_builtin F.entry_subloop ?_
  unfold Builtin.«re.Pattern.sub.loop»
  dsimp only
  refine wpAny_bind (wholeTarget P ?_)
  dsimp only
  rw [if_pos (by decide)]
  refine wpAny_bind (m := reLiteralCannotBeTurned _) (wpAny_pure ?_)
  rw [if_neg (by simp)]
  unfold reNextFound
  simp only [Int.toNat_natCast]
  refine wpAny_bind (runToEnd hr hk (.inr ⟨ho, ?_⟩))
  dsimp only
  have tail : ∀ (h' : Heap) (tk : Nat) (lv' : List (Str × Tok)) (ln' : Nat), lv' ≠ [] → lv'.map (·.1) = lv.map (·.1) ++ (if e < d.length then [⟨d.cps.extract e d.length⟩] else []) → h'.get? li = some (W.listOf (strValues lv').toArray ln') → Kept [li] s.heap h' →
      wpAny (model prog w) (A.under (.builtin "re.Pattern.sub.loop" (loopArgs pa li d r td tr n e))) (do
        let joiner ← reSlice d.cps 0 0 0
        let text ← if ((← seqItems? (.ref li)).getD #[]).isEmpty then pure joiner else call (.builtin (if (0 : Nat) == 0 then "str.join" else "bytes.join")) [joiner, .ref li]
        ret text)
        (fun fin s' => match fin with | .done f => R (.ok f) s' | .again c' => c'.quiet = true ∧ codeAny (model prog w) A c' R s') (fun e s' => R (.error e) s') { s with heap := h', toks := tk } := by
    intro h' tk lv' ln' hn hv hl' k'
    unfold reSlice
    rw [if_pos (by decide)]
    refine wpAny_bind (wpAny_mkStr ?_ ?_)
    · refine wpAny_bind (wpAny_seqItems hl' rfl ?_)
      rw [if_neg (by
        intro z
        apply hn
        cases lv' with
        | nil => rfl
        | cons a b => simp [strValues] at z)]
      rw [if_pos (by decide)]
      have ej : (⟨d.cps.extract 0 0⟩ : Str) = "" := by
        have : d.cps.extract 0 0 = #[] := by simp
        rw [this]; rfl
      rw [ej]
      refine wpAny_bind (join_listT (ys := lv.map (·.1) ++ (if e < d.length then [⟨d.cps.extract e d.length⟩] else [])) ⟨_, hl', rfl, _, rfl⟩ (by rw [← hv]; exact strs_values lv') (by decide) ?_ (fun t' k2 hk2 => ?_))
      · rw [List.map_append, List.sum_append, List.length_append, List.length_map]
        have : ((if e < d.length then [(⟨d.cps.extract e d.length⟩ : Str)] else []).map (·.length)).sum ≤ 10000 := by
          split
          · simp only [List.map_cons, List.map_nil, List.sum_cons, List.sum_nil]
            show (d.cps.extract e d.length).size + 0 ≤ 10000
            rw [Array.size_extract]
            have : d.cps.size ≤ 10000 := hd
            (first | lia | omega)
          · simp
        have h2 : (if e < d.length then [(⟨d.cps.extract e d.length⟩ : Str)] else []).length ≤ 1 := by split <;> simp
        (first | lia | omega)
      · exact wpAny_pure (q h' _ t' (Nat.lt_of_lt_of_le (Nat.succ_pos _) hk2) k')
    · show (d.cps.extract 0 0).size ≤ sizeLine
      simp
  by_cases hlt : e < d.cps.size
  · rw [if_pos hlt]
    unfold reSlice
    rw [if_pos (by decide)]
    refine wpAny_bind (wpAny_mkStr ?_ ?_)
    · refine wpAny_bind (push_at hl (by (first | lia | omega)) (fun h2 hl2 k2 => ?_))
      exact tail h2 _ (lv ++ [(_, _)]) _ (by simp) (by rw [if_pos (show e < d.length from hlt), List.map_append]; rfl) hl2 k2
    · show (d.cps.extract e d.cps.size).size ≤ sizeLine
      rw [Array.size_extract]
      exact Nat.le_trans (show _ ≤ 10000 by have : d.cps.size ≤ 10000 := hd; (first | lia | omega)) (by decide)
  · rw [if_neg hlt]
    exact tail s.heap s.toks lv ln (by rcases hne with h | h; exact h; exact absurd h hlt) (by rw [if_neg (show ¬ e < d.length from hlt), List.append_nil]) hl (fun a o e _ => e)
namespace F
theorem str_no_call : typeLookup (.type "str") "__call__" = pure none := by rw [typeLookup_type, builtinLookup_eq_fast]; kernel_rfl
end F
theorem named_sub (a b : Value) : reNamed "re.Pattern.sub" "sub" ["repl", "string", "count"] 2 [a, b] [] = pure [some a, some b, none] := rfl
/-- the call of sub with a text that holds no backslash -/
theorem sub_call {Q : Value → Shared → Prop} {E : Value → Shared → Prop} (P : PatAt s.heap pa code) (hr : r.cps.contains 92 = false)
    (q : codeAny (model prog w) A (.builtin "re.Pattern.sub.loop" (loopArgs pa s.heap.objs.size d r td tr 0 0)) (fun r s' => match r with | .ok (.ret v) => Q v s' | .ok _ => False | .error e => E e s') { s with heap := s.heap.push (W.listOf (strValues []).toArray 0) }) :
    wpAny (model prog w) A (call (.builtin "re.Pattern.sub") [.ref pa, .str r tr, .str d td]) Q E s := by
  have hT : s.TypeIs (.ref pa) "re.Pattern" := by
    obtain ⟨o, vs, ta, ot, xs, n, ho, hc, _⟩ := P.ex
    exact ⟨o, ho, hc⟩
  refine wpAny_call (codeAny_call_builtin F.slot_sub.plain F.entry_sub (F.slot_sub.check _ _ _ _ _ _ _ _ hT (F.args_sub _ _ _) ?_))
  unfold Builtin.«re.Pattern.sub» reSubstitute
  dsimp only
  rw [named_sub]
  refine wpAny_bind (wpAny_pure ?_)
  dsimp only
  refine wpAny_bind (wpAny_pure ?_)
  refine wpAny_bind (wpAny_specialOf (typeIs_str _ _ _) F.str_no_call ?_)
  rw [if_neg (by decide)]
  refine wpAny_bind (m := asStr? _) (wpAny_pure ?_)
  dsimp only
  refine wpAny_bind (wpAny_pure ?_)
  rw [hr]
  rw [if_neg (by decide), if_pos (by decide)]
  refine wpAny_bind (wpAny_pure ?_)
  refine wpAny_bind (wpAny_holding (wholeTarget P ?_))
  dsimp only
  rw [if_neg (by decide)]
  refine wpAny_bind (wpAny_newList ?_ (by simp))
  exact wpAny_pure ⟨Code.quiet_builtin _ (by decide +kernel), q⟩
end
end Mine
end
section
open PySem PySem.W PyProof.Rows PySem.Calls PySem.Builtin.Re
set_option Elab.async false
set_option maxRecDepth 100000
namespace Mine
/-- a row: dots and semicolons, a dot at its head -/
structure IsRow (r : List Nat) : Prop where
  hd : r.head? = some 46
  all : ∀ c ∈ r, c = 46 ∨ c = 59
noncomputable def IsEnd (e : List Nat) : Prop := e = [13] ∨ e = [10] ∨ e = [13, 10]
theorem join0_toList (l : List Str) : (Txt.join "" l).cps.toList = (l.map (·.cps.toList)).flatten := by
  unfold Txt.join
  rw [StrLaws.glued_eq_join]
  induction l with
  | nil => rfl
  | cons x r ih =>
    cases r with
    | nil => show x.cps.toList = _; simp
    | cons y r =>
      show ((x ++ "" ++ Str.join "" (y :: r)).cps).toList = _
      rw [show (x ++ "" ++ Str.join "" (y :: r)).cps = x.cps ++ (Str.ofString "").cps ++ (Str.join "" (y :: r)).cps from rfl, Array.toList_append, Array.toList_append, ih]
      have : ((Str.ofString "").cps).toList = [] := by decide
      simp [this]
theorem getD_list (l : List Nat) (j : Nat) : l.toArray.getD j 0 = l.getD j 0 := by
  rw [Array.getD_eq_getD_getElem?, List.getD_eq_getElem?_getD]; simp
theorem row_getD {r : List Nat} (h : IsRow r) {j : Nat} (hj : j < r.length) : r.getD j 0 = 46 ∨ r.getD j 0 = 59 := by
  rw [List.getD_eq_getElem?_getD, List.getElem?_eq_getElem hj]
  exact h.all _ (List.getElem_mem hj)
theorem row_ne {r : List Nat} (h : IsRow r) : 0 < r.length := by
  cases r with
  | nil => cases h.hd
  | cons a b => simp
theorem row_not_end {r : List Nat} (h : IsRow r) {j : Nat} (hj : j < r.length) : isEnd (r.getD j 0) = false := by
  rcases row_getD h hj with e | e <;> rw [e] <;> rfl
theorem getD_left (a b : List Nat) {j : Nat} (h : j < a.length) : (a ++ b).getD j 0 = a.getD j 0 := by
  rw [List.getD_eq_getElem?_getD, List.getD_eq_getElem?_getD, List.getElem?_append_left h]
theorem getD_right (a b : List Nat) (j : Nat) : (a ++ b).getD (a.length + j) 0 = b.getD j 0 := by
  rw [List.getD_eq_getElem?_getD, List.getD_eq_getElem?_getD, List.getElem?_append_right (Nat.le_add_right _ _)]; simp
theorem row_getD0 {r : List Nat} (h : IsRow r) : r.getD 0 0 = 46 := by
  cases r with
  | nil => cases h.hd
  | cons a b =>
    have : some a = some 46 := h.hd
    rw [Option.some.inj this]; rfl
/-- one row: no end in it -/
theorem search2_one {r : List Nat} (h : IsRow r) : ∃ k ≤ 100000, ∃ f : Sre.M, (Sre.forSearch code2 r.toArray 0 0 r.toArray.size false).runFor k = f ∧ f.outcome = some .failed := by
  rcases search2 r.toArray 0 (by simp) with ⟨t, _, b, c, _⟩ | ⟨_, k, hk, r⟩
  · rw [getD_list, row_not_end h (by simpa using b)] at c; cases c
  · exact ⟨k, by (first | lia | omega), r⟩
theorem search2_two {r1 e r2 : List Nat} (h1 : IsRow r1) (h2 : IsRow r2) (he : IsEnd e) :
    (∃ k ≤ 100000, ∃ f : Sre.M, (Sre.forSearch code2 (r1 ++ (e ++ r2)).toArray 0 0 (r1 ++ (e ++ r2)).toArray.size false).runFor k = f ∧ f.outcome = some .matched ∧ f.start = r1.length ∧ f.handed = r1.length + e.length) ∧
    (∃ k ≤ 100000, ∃ f : Sre.M, (Sre.forSearch code2 (r1 ++ (e ++ r2)).toArray 0 (r1.length + e.length) (r1 ++ (e ++ r2)).toArray.size false).runFor k = f ∧ f.outcome = some .failed) := by
  have p2 := row_ne h2
  have g0 : (r1 ++ (e ++ r2)).getD r1.length 0 = e.getD 0 0 := by
    have := getD_right r1 (e ++ r2) 0
    rw [Nat.add_zero] at this
    rw [this]
    rcases he with rfl | rfl | rfl <;> rfl
  have hend : isEnd ((r1 ++ (e ++ r2)).getD r1.length 0) = true := by rw [g0]; rcases he with rfl | rfl | rfl <;> rfl
  constructor
  · rcases search2 (r1 ++ (e ++ r2)).toArray 0 (by simp) with ⟨t, _, b, c, d, k, hk, f, q1, q2, q3, q4⟩ | ⟨a, _⟩
    · have ht : t = r1.length := by
        rw [getD_list] at c
        by_cases z : t < r1.length
        · rw [getD_left _ _ z, row_not_end h1 z] at c; cases c
        · by_cases z2 : r1.length < t
          · have := d r1.length (Nat.zero_le _) z2
            rw [getD_list, hend] at this; cases this
          · (first | lia | omega)
      subst ht
      refine ⟨k, by (first | lia | omega), f, q1, q2, q3, ?_⟩
      rw [q4]
      congr 1
      unfold endLen
      rw [getD_list, getD_list, g0, getD_right r1 (e ++ r2) 1]
      rcases he with rfl | rfl | rfl
      · have : ([13] ++ r2).getD 1 0 = 46 := by
          exact row_getD0 h2
        rw [this]; rfl
      · rfl
      · rw [decide_eq_true (by simp)]; rfl
    · have := a r1.length (Nat.zero_le _) (by rcases he with rfl | rfl | rfl <;> simp)
      rw [getD_list, hend] at this; cases this
  · rcases search2 (r1 ++ (e ++ r2)).toArray (r1.length + e.length) (by simp) with ⟨t, a, b, c, _⟩ | ⟨_, k, hk, r⟩
    · obtain ⟨j, rfl⟩ : ∃ j, t = r1.length + e.length + j := ⟨t - (r1.length + e.length), by (first | lia | omega)⟩
      rw [getD_list, show r1 ++ (e ++ r2) = (r1 ++ e) ++ r2 by simp, show r1.length + e.length + j = (r1 ++ e).length + j by simp, getD_right, row_not_end h2 (by simp at b; (first | lia | omega))] at c
      cases c
    · exact ⟨k, by (first | lia | omega), r⟩
theorem good1_list (l : List Nat) (s : Nat) : good1 l.toArray s = ((s == 0 || l.getD (s - 1) 0 == 10) && decide (s < l.length) && l.getD s 0 == 46) := by
  unfold good1 atLine
  rw [getD_list, getD_list, List.size_toArray]
/-- one row: its head is the one place -/
theorem search1_one {r : List Nat} (h : IsRow r) :
    (∃ k ≤ 3 * r.length + 5, ∃ f : Sre.M, (Sre.forSearch code1 r.toArray 0 0 r.toArray.size false).runFor k = f ∧ f.outcome = some .matched ∧ f.start = 0 ∧ f.handed = 1) ∧
    (∃ k ≤ 3 * r.length + 5, ∃ f : Sre.M, (Sre.forSearch code1 r.toArray 0 1 r.toArray.size false).runFor k = f ∧ f.outcome = some .failed) := by
  have p := row_ne h
  constructor
  · have := search1_hit r.toArray 0 0 (Nat.le_refl _) (fun j _ hj => absurd hj (Nat.not_lt_zero _)) (by rw [good1_list, row_getD0 h, decide_eq_true p]; rfl)
    simpa using this
  · have := search1_miss r.toArray 1 (by rw [List.size_toArray]; exact p) (fun j hj => by
      rw [good1_list]
      by_cases z : j < r.length
      · rw [show (j == 0) = false from beq_eq_false_iff_ne.mpr (by (first | lia | omega))]
        rcases row_getD h (show j - 1 < r.length by (first | lia | omega)) with e | e <;> rw [e] <;> rfl
      · rw [decide_eq_false z, Bool.and_false, Bool.false_and])
    simpa using this
theorem search1_two {r1 r2 : List Nat} (h1 : IsRow r1) (h2 : IsRow r2) :
    (∃ k ≤ 3 * (r1 ++ ([13, 10] ++ r2)).length + 5, ∃ f : Sre.M, (Sre.forSearch code1 (r1 ++ ([13, 10] ++ r2)).toArray 0 0 (r1 ++ ([13, 10] ++ r2)).toArray.size false).runFor k = f ∧ f.outcome = some .matched ∧ f.start = 0 ∧ f.handed = 1) ∧
    (∃ k ≤ 3 * (r1 ++ ([13, 10] ++ r2)).length + 5, ∃ f : Sre.M, (Sre.forSearch code1 (r1 ++ ([13, 10] ++ r2)).toArray 0 1 (r1 ++ ([13, 10] ++ r2)).toArray.size false).runFor k = f ∧ f.outcome = some .matched ∧ f.start = r1.length + 2 ∧ f.handed = r1.length + 2 + 1) ∧
    (∃ k ≤ 3 * (r1 ++ ([13, 10] ++ r2)).length + 5, ∃ f : Sre.M, (Sre.forSearch code1 (r1 ++ ([13, 10] ++ r2)).toArray 0 (r1.length + 2 + 1) (r1 ++ ([13, 10] ++ r2)).toArray.size false).runFor k = f ∧ f.outcome = some .failed) := by
  have p1 := row_ne h1
  have p2 := row_ne h2
  have hlen : (r1 ++ ([13, 10] ++ r2)).length = r1.length + 2 + r2.length := by simp; (first | lia | omega)
  have gA : ∀ j, j < r1.length → (r1 ++ ([13, 10] ++ r2)).getD j 0 = r1.getD j 0 := fun j hj => getD_left _ _ hj
  have gB : (r1 ++ ([13, 10] ++ r2)).getD r1.length 0 = 13 := by
    have := getD_right r1 ([13, 10] ++ r2) 0
    rw [Nat.add_zero] at this
    rw [this]; rfl
  have gC : (r1 ++ ([13, 10] ++ r2)).getD (r1.length + 1) 0 = 10 := by
    have := getD_right r1 ([13, 10] ++ r2) 1
    rw [this]; rfl
  have gD : ∀ j, (r1 ++ ([13, 10] ++ r2)).getD (r1.length + 2 + j) 0 = r2.getD j 0 := fun j => by
    rw [show r1 ++ ([13, 10] ++ r2) = (r1 ++ [13, 10]) ++ r2 by simp, show r1.length + 2 + j = (r1 ++ [13, 10]).length + j by simp, getD_right]
  have h46 : (r1 ++ ([13, 10] ++ r2)).getD 0 0 = 46 := by rw [gA 0 p1]; exact row_getD0 h1
  have bad : ∀ j, 1 ≤ j → j ≠ r1.length + 2 → good1 (r1 ++ ([13, 10] ++ r2)).toArray j = false := fun j hj hne => by
    rw [good1_list, hlen]
    by_cases z : j < r1.length + 2 + r2.length
    · rw [show (j == 0) = false from beq_eq_false_iff_ne.mpr (by (first | lia | omega))]
      by_cases z1 : j - 1 < r1.length
      · rw [gA _ z1]
        rcases row_getD h1 z1 with e | e <;> rw [e] <;> rfl
      · by_cases z2 : j - 1 = r1.length
        · rw [z2, gB]; rfl
        · obtain ⟨q, hq⟩ : ∃ q, j - 1 = r1.length + 2 + q := ⟨j - 1 - (r1.length + 2), by (first | lia | omega)⟩
          rw [hq, gD]
          rcases row_getD h2 (show q < r2.length by (first | lia | omega)) with e | e <;> rw [e] <;> rfl
    · rw [decide_eq_false z, Bool.and_false, Bool.false_and]
  refine ⟨?_, ?_, ?_⟩
  · have := search1_hit (r1 ++ ([13, 10] ++ r2)).toArray 0 0 (Nat.le_refl _) (fun j _ hj => absurd hj (Nat.not_lt_zero _)) (by rw [good1_list, h46, decide_eq_true (by (first | lia | omega))]; rfl)
    rw [List.size_toArray] at this ⊢
    exact this
  · have := search1_hit (r1 ++ ([13, 10] ++ r2)).toArray 1 (r1.length + 2) (by (first | lia | omega)) (fun j hj hj2 => bad j hj (by (first | lia | omega))) (by
      rw [good1_list, hlen, decide_eq_true (by (first | lia | omega))]
      have := gD 0
      rw [Nat.add_zero] at this
      rw [this, row_getD0 h2, show r1.length + 2 - 1 = r1.length + 1 by (first | lia | omega), gC]
      simp)
    rw [List.size_toArray] at this ⊢
    exact this
  · have := search1_miss (r1 ++ ([13, 10] ++ r2)).toArray (r1.length + 2 + 1) (by rw [List.size_toArray, hlen]; (first | lia | omega)) (fun j hj => bad j (by (first | lia | omega)) (by (first | lia | omega)))
    rw [List.size_toArray] at this ⊢
    exact this
end Mine
end
section
open PySem PySem.W PyProof.Rows PySem.Calls PySem.Builtin.Re
set_option Elab.async false
set_option maxRecDepth 100000
namespace Mine
/-- the pattern as the program's objects hold it -/
theorem pat2 {w : World} {h : Heap} (X : (KK w.params).In h) : PatAt h 241 code2 :=
  ⟨ob241 w.params, _, 240, ob240 w.params, _, _, X 241 (ob241 w.params) (by k_is), rfl, rfl, rfl, rfl, rfl, rfl, X 240 (ob240 w.params) (by k_is), rfl, by decide +kernel⟩
theorem pat1 {w : World} {h : Heap} (X : (KK w.params).In h) : PatAt h 236 code1 :=
  ⟨ob236 w.params, _, 235, ob235 w.params, _, _, X 236 (ob236 w.params) (by k_is), rfl, rfl, rfl, rfl, rfl, rfl, X 235 (ob235 w.params) (by k_is), rfl, by decide +kernel⟩
section
variable {prog : Program} {w : World} {A : Around} {E : Value → Shared → Prop} {s : Shared}
theorem kept_push {h h' : Heap} {o : Obj} (k : Kept [h.objs.size] (h.push o) h') : ∀ a ob, h.get? a = some ob → h'.get? a = some ob := fun a ob e =>
  k a ob (Heap.get?_push_of_some _ e) (by
    have := Heap.lt_size e
    simp only [List.mem_cons, List.mem_nil_iff, or_false]
    exact Nat.ne_of_lt this)
theorem push_self (h : Heap) : (h.push (W.listOf (strValues []).toArray 0)).get? h.objs.size = some (W.listOf (strValues []).toArray 0) := Heap.get?_push_size _ rfl
noncomputable abbrev CR : Str := "\r\n"
theorem cr_list : CR.cps.toList = [13, 10] := by decide
theorem dots_list : (Str.ofString "..").cps.toList = [46, 46] := by decide
theorem sub2_one {r : List Nat} {t1 td : Tok} {Q : Value → Shared → Prop} (X : (KK w.params).In s.heap) (h : IsRow r) (hz : r.length ≤ 5000)
    (q : ∀ v t h' tk, v.cps.toList = r → (∀ a o, s.heap.get? a = some o → h'.get? a = some o) → Q (.str v t) { s with heap := h', toks := tk }) :
    wpAny (MM w) A (call (.builtin "re.Pattern.sub") [.ref 241, .str CR t1, .str ⟨r.toArray⟩ td]) Q E s := by
  refine sub_call (pat2 X) (by decide +kernel) ?_
  refine turn_miss (lv := []) (pat2 (X.keeps fun a o e => Heap.get?_push_of_some _ e)) (push_self _) (by simp) (by show r.toArray.size ≤ 10000; simp; (first | lia | omega)) (.inr (by show 0 < r.toArray.size; simp; exact row_ne h)) (by simp) (search2_one h) (fun h' tk t _ k => ?_)
  refine q _ t h' tk ?_ (kept_push k)
  rw [join0_toList]
  rw [if_pos (by show 0 < r.toArray.size; simp; exact row_ne h)]
  simp [Str.length]
theorem sub2_two {r1 e r2 : List Nat} {t1 td : Tok} {Q : Value → Shared → Prop} (X : (KK w.params).In s.heap) (h1 : IsRow r1) (h2 : IsRow r2) (he : IsEnd e) (hz : (r1 ++ (e ++ r2)).length ≤ 5000)
    (q : ∀ v t h' tk, v.cps.toList = r1 ++ ([13, 10] ++ r2) → (∀ a o, s.heap.get? a = some o → h'.get? a = some o) → Q (.str v t) { s with heap := h', toks := tk }) :
    wpAny (MM w) A (call (.builtin "re.Pattern.sub") [.ref 241, .str CR t1, .str ⟨(r1 ++ (e ++ r2)).toArray⟩ td]) Q E s := by
  obtain ⟨s1, s2⟩ := search2_two h1 h2 he
  have p1 := row_ne h1
  have p2 := row_ne h2
  have hsz : (⟨(r1 ++ (e ++ r2)).toArray⟩ : Str).length = (r1 ++ (e ++ r2)).length := by show ((r1 ++ (e ++ r2)).toArray).size = _; simp
  have he1 : 0 < e.length ∧ e.length ≤ 2 := by rcases he with rfl | rfl | rfl <;> decide
  refine sub_call (pat2 X) (by decide +kernel) ?_
  refine turn_hit (lv := []) (pat2 (X.keeps fun a o e => Heap.get?_push_of_some _ e)) (push_self _) (by simp) (by rw [hsz]; (first | lia | omega)) s1 (by (first | lia | omega)) (fun h' tk lv' hl' hv' k => ?_)
  rw [if_pos p1] at hv'
  have X2 : (KK w.params).In h' := X.keeps (kept_push k)
  have hlen2 : lv'.length = 2 := by
    have := congrArg List.length hv'
    simpa using this
  have eA : (⟨(r1 ++ (e ++ r2)).toArray.extract 0 r1.length⟩ : Str).length ≤ 5000 := by
    show ((r1 ++ (e ++ r2)).toArray.extract 0 r1.length).size ≤ 5000
    rw [Array.size_extract, List.size_toArray]; (first | lia | omega)
  refine turn_miss (lv := [] ++ lv') (pat2 X2) hl' (by simp; (first | lia | omega)) (by rw [hsz]; (first | lia | omega)) (.inr (by rw [hsz]; simp; (first | lia | omega))) ?_ s2 (fun h2' tk2 t _ k2 => ?_)
  · rw [List.nil_append, hv']
    simp only [List.cons_append, List.nil_append, List.map_cons, List.map_nil, List.sum_cons, List.sum_nil]
    have : CR.length = 2 := by decide
    (first | lia | omega)
  · refine q _ t h2' tk2 ?_ (kept_push (fun a o e q => k2 a o (k a o e q) q))
    rw [join0_toList, List.nil_append, hv', if_pos (by rw [hsz]; simp; (first | lia | omega)), hsz]
    simp only [List.cons_append, List.nil_append, List.map_cons, List.map_nil, List.flatten_cons, List.flatten_nil]
    rw [cr_list]
    simp only [List.extract_toArray, List.append_nil]
    rw [show ((r1 ++ (e ++ r2)).extract 0 r1.length) = r1 by simp]
    have e2 : (r1 ++ (e ++ r2)).extract (r1.length + e.length) (r1 ++ (e ++ r2)).length = r2 := by
      rw [List.extract_eq_take_drop, ← List.append_assoc, show r1.length + e.length = (r1 ++ e).length by simp, List.drop_left]
      exact List.take_of_length_le (by simp; (first | lia | omega))
    rw [e2]
    simp
theorem of_toList {x : Str} {l : List Nat} (h : x.cps.toList = l) : x = ⟨l.toArray⟩ := by
  cases x with
  | mk c => subst h; rfl
/-- the second sub, on one row -/
theorem sub1_one {r : List Nat} {t1 td : Tok} {v0 : Str} {Q : Value → Shared → Prop} (X : (KK w.params).In s.heap) (h : IsRow r) (hv : v0.cps.toList = r) (hz : r.length ≤ 5000)
    (q : ∀ v t h' tk, 0 < tk → v.cps.toList = 46 :: r → (∀ a o, s.heap.get? a = some o → h'.get? a = some o) → Q (.str v t) { s with heap := h', toks := tk }) :
    wpAny (MM w) A (call (.builtin "re.Pattern.sub") [.ref 236, (.str (Str.ofString "..") t1), .str v0 td]) Q E s := by
  obtain rfl := of_toList hv
  obtain ⟨⟨k1, hk1, s1⟩, ⟨k2, hk2, s2⟩⟩ := search1_one h
  have p := row_ne h
  have hsz : (⟨r.toArray⟩ : Str).length = r.length := by show r.toArray.size = _; simp
  refine sub_call (pat1 X) (by decide +kernel) ?_
  refine turn_hit (lv := []) (pat1 (X.keeps fun a o e => Heap.get?_push_of_some _ e)) (push_self _) (by simp) (by rw [hsz]; (first | lia | omega)) ⟨k1, by (first | lia | omega), s1⟩ (by (first | lia | omega)) (fun h' tk lv' hl' hv' k => ?_)
  rw [if_neg (by (first | lia | omega))] at hv'
  have X2 : (KK w.params).In h' := X.keeps (kept_push k)
  have hlen2 : lv'.length = 1 := by
    have := congrArg List.length hv'
    simpa using this
  refine turn_miss (lv := [] ++ lv') (pat1 X2) hl' (by simp; (first | lia | omega)) (by rw [hsz]; (first | lia | omega)) (.inl (by intro z; rw [List.nil_append] at z; rw [z] at hlen2; cases hlen2)) ?_ ⟨k2, by (first | lia | omega), s2⟩ (fun h2' tk2 t tp k2 => ?_)
  · rw [List.nil_append, hv']
    have : (Str.ofString "..").length = 2 := by decide
    simp only [List.nil_append, List.map_cons, List.map_nil, List.sum_cons, List.sum_nil]
    (first | lia | omega)
  · refine q _ t h2' tk2 tp ?_ (kept_push (fun a o e q => k2 a o (k a o e q) q))
    rw [join0_toList, List.nil_append, hv', hsz]
    obtain ⟨c, r', rfl⟩ : ∃ c r', r = c :: r' := by
      cases r with
      | nil => cases p
      | cons c r' => exact ⟨c, r', rfl⟩
    have hc : c = 46 := Option.some.inj h.hd
    subst hc
    simp only [List.nil_append, List.map_append, List.map_cons, List.map_nil, List.flatten_append, List.flatten_cons, List.flatten_nil, dots_list, List.append_nil]
    by_cases z : 1 < (46 :: r').length
    · rw [if_pos z]
      simp
    · rw [if_neg z]
      have : r' = [] := by
        cases r' with
        | nil => rfl
        | cons a b => exact absurd (by simp) z
      rw [this]; rfl
theorem sub1_two {r1 r2 : List Nat} {t1 td : Tok} {v0 : Str} {Q : Value → Shared → Prop} (X : (KK w.params).In s.heap) (h1 : IsRow r1) (h2 : IsRow r2) (hv : v0.cps.toList = r1 ++ ([13, 10] ++ r2)) (hz : (r1 ++ ([13, 10] ++ r2)).length ≤ 5000)
    (q : ∀ v t h' tk, 0 < tk → v.cps.toList = (46 :: r1) ++ ([13, 10] ++ (46 :: r2)) → (∀ a o, s.heap.get? a = some o → h'.get? a = some o) → Q (.str v t) { s with heap := h', toks := tk }) :
    wpAny (MM w) A (call (.builtin "re.Pattern.sub") [.ref 236, (.str (Str.ofString "..") t1), .str v0 td]) Q E s := by
  obtain rfl := of_toList hv
  obtain ⟨⟨k1, hk1, s1⟩, ⟨k2, hk2, s2⟩, ⟨k3, hk3, s3⟩⟩ := search1_two h1 h2
  have p1 := row_ne h1
  have p2 := row_ne h2
  have hl0 : (r1 ++ ([13, 10] ++ r2)).length = r1.length + 2 + r2.length := by simp; (first | lia | omega)
  have hsz : (⟨(r1 ++ ([13, 10] ++ r2)).toArray⟩ : Str).length = r1.length + 2 + r2.length := by
    show ((r1 ++ ([13, 10] ++ r2)).toArray).size = _
    rw [List.size_toArray, hl0]
  rw [hl0] at hz hk1 hk2 hk3
  refine sub_call (pat1 X) (by decide +kernel) ?_
  refine turn_hit (lv := []) (pat1 (X.keeps fun a o e => Heap.get?_push_of_some _ e)) (push_self _) (by simp) (by rw [hsz]; (first | lia | omega)) ⟨k1, by (first | lia | omega), s1⟩ (by (first | lia | omega)) (fun h' tk lv' hl' hv' k => ?_)
  rw [if_neg (by (first | lia | omega))] at hv'
  have X2 : (KK w.params).In h' := X.keeps (kept_push k)
  have hlen2 : lv'.length = 1 := by
    have := congrArg List.length hv'
    simpa using this
  refine turn_hit (lv := [] ++ lv') (pat1 X2) hl' (by simp; (first | lia | omega)) (by rw [hsz]; (first | lia | omega)) ⟨k2, by (first | lia | omega), s2⟩ (by (first | lia | omega)) (fun h3 tk3 lv3 hl3 hv3 kk3 => ?_)
  rw [if_pos (by (first | lia | omega))] at hv3
  have X3 : (KK w.params).In h3 := X.keeps (kept_push (fun a o e q => kk3 a o (k a o e q) q))
  have hlen3 : lv3.length = 2 := by
    have := congrArg List.length hv3
    simpa using this
  have eA : (⟨(r1 ++ ([13, 10] ++ r2)).toArray.extract 1 (r1.length + 2)⟩ : Str).length ≤ 5000 := by
    show ((r1 ++ ([13, 10] ++ r2)).toArray.extract 1 (r1.length + 2)).size ≤ 5000
    rw [Array.size_extract, List.size_toArray, hl0]; (first | lia | omega)
  refine turn_miss (lv := ([] ++ lv') ++ lv3) (pat1 X3) (by rw [hl3]) (by simp; (first | lia | omega)) (by rw [hsz]; (first | lia | omega)) (.inl (by intro z; have := congrArg List.length z; rw [List.length_append, hlen3, List.length_nil] at this; (first | lia | omega))) ?_ ⟨k3, by (first | lia | omega), s3⟩ (fun h4 tk4 t tp k4 => ?_)
  · rw [List.nil_append, show (lv' ++ lv3).map (·.1) = _ from List.map_append .., hv', hv3]
    have : (Str.ofString "..").length = 2 := by decide
    simp only [List.nil_append, List.cons_append, List.map_append, List.map_cons, List.map_nil, List.sum_cons, List.sum_nil]
    refine Nat.le_trans (Nat.add_le_add (Nat.le_of_eq this) (Nat.add_le_add eA (Nat.add_le_add (Nat.le_of_eq this) (Nat.le_refl 0)))) (by decide)
  · refine q _ t h4 tk4 tp ?_ (kept_push (fun a o e q => k4 a o (kk3 a o (k a o e q) q) q))
    rw [join0_toList, List.nil_append, show (lv' ++ lv3).map (·.1) = _ from List.map_append .., hv', hv3, hsz]
    obtain ⟨c, r', rfl⟩ : ∃ c r', r1 = c :: r' := by
      cases r1 with
      | nil => cases p1
      | cons c r' => exact ⟨c, r', rfl⟩
    have hc : c = 46 := Option.some.inj h1.hd
    subst hc
    obtain ⟨c, r'', rfl⟩ : ∃ c r', r2 = c :: r' := by
      cases r2 with
      | nil => cases p2
      | cons c r' => exact ⟨c, r', rfl⟩
    have hc : c = 46 := Option.some.inj h2.hd
    subst hc
    have e1 : ((46 :: r') ++ ([13, 10] ++ (46 :: r''))).extract 1 ((46 :: r').length + 2) = r' ++ [13, 10] := by
      rw [List.extract_eq_take_drop]
      show List.take _ (r' ++ ([13, 10] ++ (46 :: r''))) = _
      rw [← List.append_assoc]
      exact List.take_left' (by simp)
    have e2 : ((46 :: r') ++ ([13, 10] ++ (46 :: r''))).extract ((46 :: r').length + 2 + 1) ((46 :: r').length + 2 + (46 :: r'').length) = r'' := by
      rw [List.extract_eq_take_drop]
      rw [show (46 :: r') ++ ([13, 10] ++ (46 :: r'')) = ((46 :: r') ++ [13, 10] ++ [46]) ++ r'' by simp, show (46 :: r').length + 2 + 1 = ((46 :: r') ++ [13, 10] ++ [46]).length by simp, List.drop_left]
      exact List.take_of_length_le (by simp; (first | lia | omega))
    simp only [List.nil_append, List.map_append, List.map_cons, List.map_nil, List.flatten_append, List.flatten_cons, List.flatten_nil, dots_list, List.append_nil, List.extract_toArray, e1]
    by_cases z : (46 :: r').length + 2 + 1 < (46 :: r').length + 2 + (46 :: r'').length
    · rw [if_pos z]
      simp only [List.map_cons, List.map_nil, List.flatten_cons, List.flatten_nil, List.extract_toArray, e2]
      simp
    · rw [if_neg z]
      have : r'' = [] := by
        cases r'' with
        | nil => rfl
        | cons a b => exact absurd (by simp) z
      rw [this]
      simp
end
end Mine
end
section
open PySem PySem.W PyProof.Rows PySem.Calls
set_option Elab.async false
set_option maxRecDepth 100000
namespace Mine
/-- a text of one row, or of two with an end between -/
noncomputable def twoRows (r1 : List Nat) : Option (List Nat × List Nat) → List Nat
  | none => r1
  | some (e, r2) => r1 ++ (e ++ r2)
noncomputable def asCR : Option (List Nat × List Nat) → Option (List Nat × List Nat)
  | none => none
  | some (_, r2) => some ([13, 10], r2)
noncomputable def dotted : Option (List Nat × List Nat) → Option (List Nat × List Nat)
  | none => none
  | some (_, r2) => some ([13, 10], 46 :: r2)
structure RowsOk (r1 : List Nat) (o : Option (List Nat × List Nat)) : Prop where
  h1 : IsRow r1
  h2 : ∀ e r2, o = some (e, r2) → IsEnd e ∧ IsRow r2
  hz : (twoRows r1 o).length ≤ 4000
section
variable {w : World} {A : Around} {E : Value → Shared → Prop} {s : Shared} {r1 : List Nat} {o : Option (List Nat × List Nat)}
theorem sub2_ok {d : Str} {t1 td : Tok} {Q : Value → Shared → Prop} (X : (KK w.params).In s.heap) (h : RowsOk r1 o) (hd : d.cps.toList = twoRows r1 o)
    (q : ∀ v t h' tk, v.cps.toList = twoRows r1 (asCR o) → (∀ a o, s.heap.get? a = some o → h'.get? a = some o) → Q (.str v t) { s with heap := h', toks := tk }) :
    wpAny (MM w) A (call (.builtin "re.Pattern.sub") [.ref 241, .str CR t1, .str d td]) Q E s := by
  obtain rfl := of_toList hd
  have hz := h.hz
  cases o with
  | none => exact sub2_one X h.h1 (show r1.length ≤ 5000 from Nat.le_trans hz (by decide)) q
  | some p =>
    obtain ⟨e, r2⟩ := p
    obtain ⟨he, h2⟩ := h.h2 e r2 rfl
    exact sub2_two X h.h1 h2 he (Nat.le_trans hz (by decide)) q
theorem sub1_ok {d : Str} {t1 td : Tok} {Q : Value → Shared → Prop} (X : (KK w.params).In s.heap) (h : RowsOk r1 o) (hd : d.cps.toList = twoRows r1 (asCR o))
    (q : ∀ v t h' tk, 0 < tk → v.cps.toList = twoRows (46 :: r1) (dotted o) → (∀ a o, s.heap.get? a = some o → h'.get? a = some o) → Q (.str v t) { s with heap := h', toks := tk }) :
    wpAny (MM w) A (call (.builtin "re.Pattern.sub") [.ref 236, (.str (Str.ofString "..") t1), .str d td]) Q E s := by
  have hz := h.hz
  cases o with
  | none => exact sub1_one X h.h1 hd (show r1.length ≤ 5000 from Nat.le_trans hz (by decide)) q
  | some p =>
    obtain ⟨e, r2⟩ := p
    obtain ⟨he, h2⟩ := h.h2 e r2 rfl
    have hz : (r1 ++ (e ++ r2)).length ≤ 4000 := hz
    rw [List.length_append, List.length_append] at hz
    exact sub1_two X h.h1 h2 hd (by simp; (first | lia | omega)) q
end
section
variable {w : World} {g : Heap} {s : Shared} {A : Around} {R : Result → Shared → Prop} {mg mb : Str → Option Value}
set_option maxHeartbeats 1000000 in
theorem quote_spec {d : Str} {td : Tok} {r1 : List Nat} {o : Option (List Nat × List Nat)} (X : (KK w.params).In g) (T : TR mg mb g) (kg : g.StaysIn s.heap) (hA : A.depth < 690) (hr : RowsOk r1 o) (hd : d.cps.toList = twoRows r1 o)
    (h : ∀ v t h' tk, 0 < tk → v.cps.toList = twoRows (46 :: r1) (dotted o) → Kept [] s.heap h' → R (.ok (.ret (.str v t))) { s with heap := h', toks := tk }) : codeAny (MM w) A (.call (.ref 248) ⟨[.str d td], []⟩) R s := by
  refine' enter (news := []) (binds := [("data", .str d td)]) X T kg ?n ?ho ?hcd ?room ?bind ?loc ?_ ?c1 ?c2 ?c3 ?c4
  case ho => k_is
  case hcd => k_is
  case room => first | exact Nat.lt_of_lt_of_le hA (by decide) | exact Nat.lt_of_lt_of_le (by (first | lia | omega) : _ < 990) (by decide)
  case bind => exact BindsTo.of_eq rfl
  case loc => exact locs rfl
  case n =>
    intro p hp
    cases hp
  case c1 => decide
  case c2 => rfl
  case c3 => rfl
  case c4 => rfl
  intro b L h₁ F N B
  have X' := B.k
  have T' := B.t
  have X1 : (KK w.params).In h₁ := X'.keeps F.keep
  have pd : ∀ h : Heap, (KK w.params).In h → ∀ pa, pa = 236 ∨ pa = 241 → ∀ a, Value.ref pa = .ref a → ∃ o, h.get? a = some o ∧ o.dict = none := fun h X pa hpa a e => by
    cases e
    rcases hpa with rfl | rfl
    · exact ⟨_, X 236 (ob236 w.params) (by k_is), rfl⟩
    · exact ⟨_, X 241 (ob241 w.params) (by k_is), rfl⟩
  iterate 4 walk1
  refine getMethod_builtin (T := "re.Pattern") ⟨_, X1 236 (ob236 w.params) (by k_is), rfl⟩ Mine.F.re_ga Mine.F.slot_sub Mine.F.type_sub (pd _ X1 _ (.inl rfl)) ?_
  iterate 6 walk1
  refine getMethod_builtin (T := "re.Pattern") ⟨_, X1 241 (ob241 w.params) (by k_is), rfl⟩ Mine.F.re_ga Mine.F.slot_sub Mine.F.type_sub (pd _ X1 _ (.inr rfl)) ?_
  iterate 6 walk1
  refine sub2_ok X1 hr hd (fun v t h2 tk2 hv2 k2 => ?_)
  obtain ⟨F2, N2⟩ := grownN F N k2
  have X2 : (KK w.params).In h2 := X'.keeps F2.keep
  clear F N
  iterate 1 walk1
  refine sub1_ok X2 hr hv2 (fun v3 t3 h3 tk3 tp3 hv3 k3 => ?_)
  exact h v3 t3 h3 tk3 tp3 hv3 (fun a o e _ => k3 _ _ (F2.keep _ _ (B.old a o e (by simp))))
end
end Mine
end
section
open PySem PySem.W PyProof.Rows PySem.Calls
set_option Elab.async false
set_option maxRecDepth 100000
namespace Mine
theorem code_def2 {w : World} {A A₀ : Around} {s : Shared} {L : Addr} {h₀ base : Heap} {m mg mb : Str → Option Value} {news : List (Addr × Obj)} {env : Env} {outer : List Env} {R : Result → Shared → Prop} {name qual : Str} {params : Arguments} {body : List Stmt} {scope : Scope} {dV kV doc pm cdv ct oc : Value} {an od : Option Addr} {osl : Array (Option Value)} {f : Addr} {args : Args} {binds : List (Str × Value)}
    (B : Below A₀ base outer h₀) (F : Fr h₀ L s.heap m) (X₀ : (KK w.params).In h₀) (N : News h₀ L s.heap news) (T : TR mg mb h₀) (hA : A.frames = some (env :: outer)) (hf : env.frame = some L) (hke : env.scope.kind = .function)
    (ho : (KK w.params).lookup f = some ⟨oc, od, .func (fnOf name qual params body scope dV kV doc pm an cdv ct), osl⟩) (hcd : codeIn (KK w.params) cdv qual = true) (hroom : A.depth < recursionLimit)
    (hbind : BindsTo s (fnOf name qual params body scope dV kV doc pm an cdv ct) args binds) (hloc : ∀ y ∈ binds, scope.names.lookup y.1 = some .local)
    (h : ∀ g L' h₁, Fr h₀ L g m → Fr g L' h₁ (fun y => binds.reverse.lookup y) → News g L' h₁ news → Below A base (env :: outer) g → (KK w.params).In g → TR mg mb g →
      wpAny (MM w) (A.deeper (envOf qual scope L' f cdv)) (execs body (envOf qual scope L' f cdv))
        (fun fl s' => LeaveK h₀ L m g R (match fl with | .ret v => v | _ => .none) s')
        (fun e s' => wpAny (MM w) (A.deeper (envOf qual scope L' f cdv)) (leaving (envOf qual scope L' f cdv) e) (fun _ s'' => R (.error e) s'') (fun e' s'' => R (.error e') s'') s')
        { s with heap := h₁, toks := s.toks + binds.length })
    (hco : scope.isCoroutine = false) (hgen : scope.isGenerator = false) (hk : scope.kind = .function)
    (hcell : ∀ x ∈ scope.names, x.2 ≠ .cell) : codeAny (MM w) A (.call (.ref f) args) R s :=
  callX_plain (cl := []) B F N T.nolimit hA hf hke ((X₀.keeps F.keep) _ _ ho) rfl (codeRec_of (X₀.keeps F.keep) hcd) hroom hbind hloc (fun g L' h₁ FG F' N' B' st _ => h g L' h₁ FG F' N' B' (X₀.keeps st) (T.keeps st)) hcell hco hgen hk
section
variable {w : World} {b : Heap} {L : Addr} {s : Shared} {A : Around} {R : Result → Shared → Prop} {mean : ExcName → Option Value} {mg mb m : Str → Option Value} {env : Env} {news : List (Addr × Obj)}
/-- the outermost frame, as the one below -/
theorem below_one {h : Heap} (A₀ : Around) (hA₀ : A₀.frames = some []) (F : Fr b L h m) (hf : env.frame = some L) (hk : env.scope.kind = .function) : Below (A₀.deeper env) b [env] h := by
  have hnew : b.get? L = none := kts_self F
  refine ⟨Around.frames_deeper hA₀, F.keep, ?_⟩
  exact .cons (by rw [hk]; decide) hf F.ns hnew trivial
set_option maxHeartbeats 1000000 in
theorem refused_spec {d : Str} {td : Tok} (A₀ : Around) (hA₀ : A₀.frames = some []) (F : Fr b L s.heap m) (X : (KK w.params).In b) {p : Program} {loose : List Str} (T : Top p loose mean mg mb b) (TT : TR mg mb b) (N : News b L s.heap news) (hf : env.frame = some L) (hk : env.scope.kind = .function) (hA : A = A₀.deeper env) (hh : A.handled = none) (hroom : A.depth < 690)
    (hds : d.length ≤ sizeLine) (hd : (Txt.slice d none (some 3) == ("257" : Str)) = false)
    (h : ∀ s', Fr b L s'.heap m → News b L s'.heap news → s'.os = s.os → s'.gens = s.gens → R (.ok (.ret (.bool true))) s') : codeAny (MM w) A (.call (.ref 281) ⟨[.str d td], []⟩) R s := by
  subst hA
  have Xs : (KK w.params).In s.heap := X.keeps F.keep
  have nmem : ∀ a o, b.get? a = some o → a ∉ news.map (·.1) := fun a o e q => by
    obtain ⟨p, hp, rfl⟩ := List.mem_map.mp q
    rw [(N p hp).2.2] at e; cases e
  have st : b.StaysIn (hideAll s.heap (news.map (·.1))) := fun a o e => hideAll_get _ (F.keep a o e) (nmem a o e)
  obtain ⟨oL, es, ep, hL, hLd, hLk, hLf⟩ := F.ns
  have nL : L ∉ news.map (·.1) := fun q => by
    obtain ⟨p, hp, e⟩ := List.mem_map.mp q
    exact (N p hp).2.1 e
  have hLg := hideAll_get (news.map (·.1)) hL nL
  have FG : Fr b L (hideAll s.heap (news.map (·.1))) m := ⟨⟨oL, es, ep, hLg, hLd, hLk, hLf⟩, st, F.above⟩
  have B1 := below_one A₀ hA₀ FG hf hk
  refine codeAny_call_def (fd := fnOf (Str.ofString "_law_refused") (Str.ofString "_law_refused") (fArgs (top 21)) (fBody (top 21)) (fScope (top 21)) _ _ _ _ _ _ _) (body := fBody (top 21)) (binds := [("reply", .str d td)]) (Nat.lt_of_lt_of_le (by omega : _ < 990) (by decide)) (Xs 281 (ob281 w.params) (by k_is)) rfl (T.nolimit.keeps F.keep) (codeRec_of Xs (by k_is)) rfl (BindsTo.of_eq rfl) (by decide) (locs rfl) (fun h₁ hns hk₁ => ?_) rfl rfl rfl
  have F1 : Fr (hideAll s.heap (news.map (·.1))) s.heap.objs.size h₁ (fun y => ([("reply", Value.str d td)] : List (Str × Value)).reverse.lookup y) := ⟨hns, fun a o e => hk₁ a o (of_hideAll _ e), Nat.le_of_eq (hideAll_size _ _)⟩
  have N1 : News (hideAll s.heap (news.map (·.1))) s.heap.objs.size h₁ news := fun p hp => ⟨hk₁ _ _ (N p hp).1, Nat.ne_of_lt (Heap.lt_size (N p hp).1), hideAll_none _ (List.mem_map_of_mem hp)⟩
  clear hns hk₁
  obtain ⟨g, hg⟩ : ∃ g, g = hideAll s.heap (news.map (·.1)) := ⟨_, rfl⟩
  obtain ⟨L', hL'⟩ : ∃ L', L' = s.heap.objs.size := ⟨_, rfl⟩
  rw [← hg] at F1 N1 B1 st hLg FG
  rw [← hL'] at F1 N1
  have X1 : (KK w.params).In g := X.keeps st
  have T1 : TR mg mb g := TT.keeps st
  have D1 : KtsDicts ([env].filterMap (·.frame)) g := fun a ha => by
    have : a = L := by simpa [hf] using ha
    subst this
    exact ⟨oL, es, ep, hLg, hLd⟩
  rw [← hL']
  show wpAny (MM w) ((A₀.deeper env).deeper (envOf (Str.ofString "_law_refused") (fScope (top 21)) L' 281 (.ref 280))) (execs (fBody (top 21)) (envOf (Str.ofString "_law_refused") (fScope (top 21)) L' 281 (.ref 280))) _ _ _
  iterate 12 walk1
  refine' wpAny_call (code_def2 (binds := [("resp", .str d td)]) B1 F1 X1 N1 T1 (Around.frames_deeper B1.stack) rfl rfl ?ho ?hcd ?room ?bind ?loc ?_ ?c1 ?c2 ?c3 ?c4)
  case ho => k_is
  case hcd => k_is
  case room => exact Nat.lt_of_lt_of_le (by rw [depth_deeper]; omega : _ < 990) (by decide)
  case bind => exact BindsTo.of_eq rfl
  case loc => exact locs rfl
  case c1 => rfl
  case c2 => rfl
  case c3 => rfl
  case c4 => decide
  intro g2 L2 h2 FG2 F2 N2 B2 X2 T2
  have hh2 : (((A₀.deeper env).deeper (envOf (Str.ofString "_law_refused") (fScope (top 21)) L' 281 (.ref 280))).deeper (envOf (Str.ofString "parse257") (fScope (top 10)) L2 231 (.ref 230))).handled = none := hh
  iterate 14 walk1
  refine ite_pos (by rw [bne, hd]; rfl) ?_
  iterate 13 walk1
  rename_i h3 t3 k3 F3 N3 hl3 h4 e hx
  refine leave_raiseS B2 hx F3 N3 (fun h5 t5 RS RK U5 => ?_)
  refine caught_SO0 (KF := KK w.params) (p := p) (loose := loose) (mean := mean) (mg := mg) (mb := mb) RS FG2 B1 U5 X T D1 KtsTurn.refl (by k_is) (by kernel_rfl!) (fun h6 g6 news6 T6 F6 N6 got6 N6' B6 X6 TP6 D6 => ?_)
  clear F1 F3 FG2 N1 N3 N6
  iterate 4 walk1
  dsimp only
  obtain ⟨sl, hs⟩ := T6.up hLg
  refine h _ ⟨⟨_, es, ep, F6.keep _ _ hs, hLd, hLk, hLf⟩, fun a o ea => F6.keep a o (T6.other a o (st a o ea) (fun q => ?_)), F.above⟩ (fun p hp => ⟨(N6' p hp).1, (N p hp).2⟩) rfl rfl
  have : a = L := by simpa [hf] using q
  rw [this, kts_self F] at ea
  cases ea
end
end Mine
end
section
open PySem PySem.W PyProof.Rows PySem.Calls
set_option Elab.async false
set_option maxRecDepth 100000
namespace Mine
noncomputable def p0 : Program := view PySem.Challenge.pw_xl0017_01 []
noncomputable def lo2 : List Str := looseW qv lo ++ ((recsOf qv).map (·.name) ++ ((litsOf qv).map (·.1) ++ (clssOf qv (looseW qv lo)).map (·.name)))
theorem ns_hide {h : Heap} {l : List Addr} {a : Addr} {m : Str → Option Value} (n : h.Ns a m) (ha : a ∉ l) : (hideAll h l).Ns a m :=
  let ⟨o, es, ep, e, r⟩ := n; ⟨o, es, ep, hideAll_get _ e ha, r⟩
theorem read_hide {h : Heap} {l : List Addr} {mg mb : Str → Option Value} (T : TR mg mb h) (h0 : builtinsNs ∉ l) (h2 : cStatics ∉ l) (h3 : mainGlobals ∉ l) : TR mg mb (hideAll h l) :=
  ⟨ns_hide T.g h3, ns_hide T.b h0, let ⟨mc, a, r⟩ := T.nolimit; ⟨mc, ns_hide a h2, r⟩, T.builtins, T.free⟩
theorem seer_no : importsNone qv = true := by decide +kernel
theorem top_hide {h : Heap} {l : List Addr} {mean : ExcName → Option Value} {mg mb : Str → Option Value} (T : Top qv (looseW qv lo) mean mg mb h) (h0 : builtinsNs ∉ l) (h2 : cStatics ∉ l) (h3 : mainGlobals ∉ l) (h4 : sysModules ∉ l) (hm : ∀ a o, h.get? a = some o → o.cls = .type "module" → a ∉ l) : Top p0 lo2 mean mg mb (hideAll h l) where
  g := ns_hide T.g h3
  b := ns_hide T.b h0
  nolimit := let ⟨mc, a, r⟩ := T.nolimit; ⟨mc, ns_hide a h2, r⟩
  nodigits := let ⟨mc, a, r⟩ := T.nodigits; ⟨mc, ns_hide a h2, r⟩
  fn := fun d hd => nomatch hd
  own := fun d hd => nomatch hd
  const := fun x d hd => nomatch hd
  free := fun x a1 a2 _ _ _ => T.free x a1 (fun z => a2 (List.mem_append_left _ z)) (fun z => a2 (List.mem_append_right _ (List.mem_append_left _ z))) (fun z => a2 (List.mem_append_right _ (List.mem_append_right _ (List.mem_append_left _ z)))) (fun z => a2 (List.mem_append_right _ (List.mem_append_right _ (List.mem_append_right _ z))))
  builtins := T.builtins
  tab := fun d hd => nomatch hd
  bmain := let ⟨bm, ob, e1, e2, e3, e4, r⟩ := T.bmain; ⟨bm, ob, e1, e2, hideAll_get _ e3 (hm _ _ e3 e4), e4, r⟩
  seer := fun _ => by
    obtain ⟨⟨mc, a, r⟩, ⟨ms, c, r2⟩, ⟨mb2, d, r3⟩, ⟨mg2, bm, ob, e1, e2, e3, e4, e5⟩⟩ := T.seer seer_no
    exact ⟨⟨mc, ns_hide a h2, r⟩, ⟨ms, ns_hide c h4, r2⟩, ⟨mb2, ns_hide d h0, r3⟩, ⟨mg2, bm, ob, ns_hide e1 h3, e2, hideAll_get _ e3 (hm _ _ e3 e4), e4, e5⟩⟩
end Mine
end
section
open PySem PySem.W PyProof.Rows PySem.Calls PySem.Builtin PySem.Builtin.Str PySem.StrLaws
set_option maxRecDepth 100000
namespace Mine
theorem join_map (c d : Nat) : ∀ L : List (List Nat), (∀ p ∈ L, c ∉ p) → joinC d L = (joinC c L).map (fun y => if y = c then d else y) := by
  have key : ∀ p : List Nat, c ∉ p → p.map (fun y => if y = c then d else y) = p := fun p hp => by
    induction p with
    | nil => rfl
    | cons a r ih =>
      rw [List.map_cons, ih (fun z => hp (List.mem_cons_of_mem _ z)), if_neg (fun z => hp (by rw [z]; exact List.mem_cons_self ..))]
  intro L
  induction L with
  | nil => intro _; rfl
  | cons x r ih =>
    intro hp
    have hx := key x (hp x (List.mem_cons_self ..))
    cases r with
    | nil => show x = x.map _; rw [hx]
    | cons y r =>
      have := ih (fun p h => hp p (List.mem_cons_of_mem _ h))
      show x ++ d :: joinC d (y :: r) = (x ++ c :: joinC c (y :: r)).map _
      rw [List.map_append, List.map_cons, hx, this]
      simp
/-- one sign put for another -/
theorem replace_one (x : Str) (c d : Nat) : (Txt.replace x ⟨#[c]⟩ ⟨#[d]⟩).cps.toList = x.cps.toList.map (fun y => if y = c then d else y) := by
  obtain ⟨f, hG, hn⟩ := occ_tight x ⟨#[c]⟩ (Nat.le_refl 1)
  obtain ⟨f', hT⟩ := occ_chain x ⟨#[c]⟩ (x.length + 1)
  have hj := join_partsFrom x ⟨#[c]⟩ _ 0 f' hT
  rw [sub_whole] at hj
  have hfree := parts_free x c _ 0 f hG hn
  have hm := join_map c d ((partsFrom x (⟨#[c]⟩ : Str).length 0 (occurrences x ⟨#[c]⟩ 0 x.length (x.length + 1))).map (·.cps.toList)) (fun p hp => by
    obtain ⟨q, hq, rfl⟩ := List.mem_map.mp hp
    exact hfree q hq)
  rw [← join_toL, ← join_toL, hj] at hm
  rw [← hm]
  unfold Txt.replace
  split
  · rename_i h
    have he : occurrences x ⟨#[c]⟩ 0 x.length (x.length + 1) = [] := by
      have : ((⟨#[c]⟩ : Str).length == 0) = false := rfl
      rw [this, Bool.false_and, Bool.or_false] at h
      exact List.isEmpty_iff.mp h
    rw [he] at hj ⊢
    have e1 : ∀ s : Str, Str.join s (partsFrom x (⟨#[c]⟩ : Str).length 0 []) = (partsFrom x (⟨#[c]⟩ : Str).length 0 []).headD Str.empty := fun s => rfl
    rw [e1] at hj ⊢
    rw [hj]
  · rw [StrLaws.glued_eq_join, partsBetween_eq]
theorem pz_q (k : Nat) (r : List Nat) (hr : ∀ c r', r = c :: r' → c ≠ 34) : pz (List.replicate (2 * k + 1) 34 ++ r) = List.replicate k 34 := by
  induction k with
  | zero =>
    show pz (34 :: r) = []
    cases r with
    | nil => rfl
    | cons c r' =>
      have := hr c r' rfl
      rw [pz]
      intro r'' z
      exact this (by injection z)
  | succ k ih =>
    rw [show 2 * (k + 1) + 1 = (2 * k + 1) + 1 + 1 by (first | lia | omega), List.replicate_succ, List.replicate_succ]
    show 34 :: pz (List.replicate (2 * k + 1) 34 ++ r) = _
    rw [ih, List.replicate_succ]
/-- what is read of three words -/
theorem read3 (a b c : Nat) (ha : a ≤ 8) (hb : b ≤ 8) (hc : c ≤ 8) : readF 300 (List.replicate (2 * a + 1) 34 ++ 59 :: (List.replicate (2 * b + 1) 34 ++ 59 :: (List.replicate (2 * c + 1) 34 ++ [59]))) =
    (List.replicate a 34 ++ 59 :: (List.replicate b 34 ++ 59 :: (List.replicate c 34 ++ [59])), 4) := by
  have h59 : ∀ l : List Nat, pz (59 :: l) = 59 :: pz l := fun l => pz_cons (by decide) l
  have n59 : ∀ (l : List Nat) c r', (59 :: l) = c :: r' → c ≠ 34 := fun l c r' e => by
    injection e with e; rw [← e]; decide
  have cnt : ∀ n : Nat, (List.replicate n 34).count 34 = n := fun n => by simp
  have drp : ∀ (n : Nat) (l : List Nat), (List.replicate n 34 ++ l).drop n = l := fun n l => by
    rw [List.drop_append, List.drop_of_length_le (by simp)]; simp
  have t1 : ∀ (k : Nat) (l : List Nat), pz (List.replicate (2 * k + 1) 34 ++ 59 :: l) = List.replicate k 34 := fun k l => pz_q k _ (n59 l)
  have k1 : ∀ (k : Nat) (l : List Nat), takes (List.replicate (2 * k + 1) 34 ++ 59 :: l) = 2 * k + 1 := fun k l => by
    unfold takes; rw [t1, cnt, List.length_replicate]; (first | lia | omega)
  have k2 : ∀ (k : Nat) (l : List Nat), takes (59 :: (List.replicate (2 * k + 1) 34 ++ 59 :: l)) = 2 * k + 2 := fun k l => by
    unfold takes; rw [h59, t1, List.count_cons_of_ne (by decide), cnt, List.length_cons, List.length_replicate]; (first | lia | omega)
  have d2 : ∀ (k : Nat) (l : List Nat), (59 :: (List.replicate (2 * k + 1) 34 ++ 59 :: l)).drop (2 * k + 2) = 59 :: l := fun k l => by
    rw [show 2 * k + 2 = (2 * k + 1) + 1 by (first | lia | omega), List.drop_succ_cons, drp]
  have st : ∀ (n : Nat) (l : List Nat), l ≠ [] → readF (n + 1) l = (pz l ++ (readF n (l.drop (takes l))).1, (readF n (l.drop (takes l))).2 + 1) := fun n l h => by rw [readF, if_neg h]
  rw [show (300 : Nat) = 299 + 1 from rfl, st 299 _ (by simp), k1, drp, t1]
  rw [show (299 : Nat) = 298 + 1 from rfl, st 298 _ (by simp), k2, d2, h59, t1]
  rw [show (298 : Nat) = 297 + 1 from rfl, st 297 _ (by simp), k2, d2, h59, t1]
  rw [show (297 : Nat) = 296 + 1 from rfl, st 296 _ (by simp)]
  rw [show ([59] : List Nat).drop (takes [59]) = [] by decide, show pz [59] = [59] by decide, show readF 296 [] = ([], 0) by rfl]
  simp
end Mine
end
section
open PySem PySem.W PyProof.Rows PySem.Calls Mine
local macro_rules | `(tactic| walk_at "eval Name") => `(tactic| (k_here; k_dflt (refine' nameX_L ?k1 ?k2 ?_ ?k3 ?k4 ?k5; (case k3 => rfl); (case k4 => rfl); (case k5 => decide); (case k1 => k_asm); (case k2 => assumption); k_whole)))
local macro_rules | `(tactic| walk_at "eval Name") => `(tactic| (k_here; (with_reducible show wpAny _ _ (eval (Expr.Name _ _) (compEnvC _ _ _ _)) _ _ _); k_dflt (first
  | refine cmp_global (by k_asm) (by k_asm) (by k_asm) (by k_is) ?_
  | refine cmp_built (by k_asm) (by k_asm) (by k_asm) (by k_is) (by boot_by_name) (by decide) ?_)))
section
open PySem PySem.W PyProof.Rows PySem.Calls
set_option Elab.async false
set_option maxRecDepth 100000
namespace Mine
noncomputable abbrev lawEnv (L0 : Addr) : Env := envOfC (Str.ofString "law") (fScope (top 23)) L0 293 (.ref 292)
noncomputable abbrev AL (L0 : Addr) : Around := callerA.deeper (lawEnv L0)
/-- a word: dots and a semicolon -/
noncomputable def wS (k : Int) : Str := Txt.mul "." k ++ ";"
theorem wS_len (k : Int) : (wS k).length = k.toNat + 1 := by
  unfold wS
  rw [app_len, mul_len]; rfl
theorem wS9 {f : Int} (h : f ≤ 8) : (wS f).length ≤ 9 := by rw [wS_len]; (first | lia | omega)
theorem wS10 {f : Int} (h : f ≤ 4) : (wS (2 * f + 1)).length ≤ 10 := by rw [wS_len]; (first | lia | omega)
theorem le48 {f : Int} (b : 1 ≤ f ∧ f ≤ 4) : 0 ≤ f ∧ f ≤ 8 := ⟨Int.le_trans (by decide) b.1, Int.le_trans b.2 (by decide)⟩
theorem le48s {f l : Int} (b : 1 ≤ f ∧ f ≤ 4) (c : 1 ≤ l ∧ l ≤ 4) : 0 ≤ f + l ∧ f + l ≤ 8 := by (first | lia | omega)
theorem five_of {ys : List Value} (hl : ys.length = 5) : ∃ a b c d e, ys = [a, b, c, d, e] := by
  match ys, hl with
  | [a, b, c, d, e], _ => exact ⟨a, b, c, d, e, rfl⟩
noncomputable abbrev besEnv (L : Addr) : Env := envOfC (Str.ofString "_law_beside") (fScope (top 20)) L 274 (.ref 273)
noncomputable def besB (i : Nat) : List Stmt := (fBody (top 20)).drop i
theorem after_fold {b h9 h' : Heap} {L : Addr} {m : Str → Option Value} {news9 news' : List (Addr × Obj)} (F9 : Fr b L h9 m) (N9 : News b L h9 news9) (t9 : TabOk h9) (k : Kept [157, 164] h9 h') (t' : TabOk h') {a1 a2 : Obj} (h157 : (157, a1) ∈ news9) (h164 : (164, a2) ∈ news9)
    (hs : ∀ q ∈ news', q ∈ news9) (hd : ∀ q ∈ news', ∀ p, q.2.data ≠ .fields p) : ∃ o1 o2, Fr b L h' m ∧ News b L h' (news' ++ [(157, o1), (164, o2)]) := by
  obtain ⟨o1, o2, e1, d1, e2, d2⟩ := tab_objs t'
  have tt : ∀ q ∈ news', q.1 ∉ [157, 164] := fun q hq => by
    have := tab_ne t9 (N9 q (hs q hq)).1 (hd q hq)
    simp [this]
  have F10 := (called F9 k (fun a ha => by
    simp only [List.mem_cons, List.mem_nil_iff, or_false] at ha
    rcases ha with rfl | rfl
    · exact (N9 _ h157).2
    · exact (N9 _ h164).2) (news' := news') (fun q hq => ⟨k _ _ (N9 q (hs q hq)).1 (tt q hq), (N9 q (hs q hq)).2⟩))
  refine ⟨o1, o2, F10.1, fun q hq => ?_⟩
  rcases List.mem_append.mp hq with hq | hq
  · exact F10.2 q hq
  · simp only [List.mem_cons, List.mem_nil_iff, or_false] at hq
    rcases hq with rfl | rfl
    · exact ⟨e1, (N9 _ h157).2⟩
    · exact ⟨e2, (N9 _ h164).2⟩
section
variable {w : World} {b : Heap} {L L0 : Addr} {s : Shared} {Q : Flow → Shared → Prop} {mg mb m : Str → Option Value}
/-- the whole line, or cut before its last piece where there is a head -/
noncomputable def uncutS (U : Str) (room f4 : Int) : Str := if room > 0 then Txt.slice U none (some (-f4)) ++ "\n " ++ Txt.slice U (some (-f4)) none else U
set_option maxHeartbeats 1000000 in
theorem bes_B {D3 fa : Addr} {o1 o2 o3 o157 o164 : Obj} {W0 W1 W2 W3 W4 : Str} {u0 u1 u2 u3 u4 t0 t1 t2 t3 t4 tl tr tw : Tok} {f0 f1 f2 f3 f4 room width : Int} {fn : Nat} (X' : (KK w.params).In b) (T' : TR mg mb b) (F : Fr b L s.heap m)
    (N : News b L s.heap [(D3, LCg.lst [.str W0 u0, .str W1 u1, .str W2 u2, .str W3 u3, .str W4 u4]), (L + 1 + 1 + 1, o1), (L + 1 + 1, o2), (L + 1, o3), (fa, W.listOf #[.int f0 t0, .int f1 t1, .int f2 t2, .int f3 t3, .int f4 t4] fn), (157, o157), (164, o164)])
    (d1 : o1.data = .cell (some (.ref D3))) (d2 : o2.data = .cell (some (.int width tw))) (d3 : o3.data = .cell (some (.int room tr))) (hm1 : m (Str.ofString "first") = some (.ref fa))
    (l0 : W0.length ≤ 9) (l1 : W1.length ≤ 9) (l2 : W2.length ≤ 9) (l3 : W3.length ≤ 9) (l4 : W4.length ≤ 9) (b4 : 1 ≤ f4 ∧ f4 ≤ 4)
    (hQ : ∀ h' tk m' t', Fr b L h' m' → News b L h' [(D3, LCg.lst [.str W0 u0, .str W1 u1, .str W2 u2, .str W3 u3, .str W4 u4]), (L + 1 + 1 + 1, o1), (L + 1 + 1, o2), (L + 1, o3), (fa, W.listOf #[.int f0 t0, .int f1 t1, .int f2 t2, .int f3 t3, .int f4 t4] fn), (157, o157), (164, o164)] → m' (Str.ofString "uncut") = some (.str (uncutS (Txt.join "" [W0, W1, W2, W3, W4]) room f4) t') →
      (uncutS (Txt.join "" [W0, W1, W2, W3, W4]) room f4).length ≤ 200 →
      wpAny (MM w) ((AL L0).deeper (besEnv L)) (execs (besB 3) (besEnv L)) Q (fun _ _ => False) { s with heap := h', toks := tk }) :
    wpAny (MM w) ((AL L0).deeper (besEnv L)) (execs (besB 1) (besEnv L)) Q (fun _ _ => False) s := by
  have lU : (Txt.join "" [W0, W1, W2, W3, W4]).length ≤ 50 := by
    have h := StrLaws.join_length_le "" [W0, W1, W2, W3, W4]
    unfold Txt.join
    rw [StrLaws.glued_eq_join]
    have e : (Str.ofString "").length = 0 := by decide
    rw [e] at h
    simp only [List.map_cons, List.map_nil, List.sum_cons, List.sum_nil, List.length_cons, List.length_nil] at h
    (first | lia | omega)
  iterate 11 walk1
  rename_i h2 F2 N2
  generalize Txt.join (Str.ofString "") [W0, W1, W2, W3, W4] = U at lU hQ F2
  have lUs : U.length ≤ sizeLine := Nat.le_trans lU (by decide)
  iterate 7 walk1
  by_cases hr : room > 0
  · refine ite_pos (decide_eq_true hr) ?_
    have eU : uncutS U room f4 = Txt.slice U none (some (-f4)) ++ "\n " ++ Txt.slice U (some (-f4)) none := by unfold uncutS; rw [if_pos hr]
    rw [eU] at hQ
    iterate 35 walk1
    rename_i ll9 h9 F9 N9
    have lA : (Txt.slice U none (some (-f4))).length ≤ U.length := by assumption
    have lB : (Txt.slice U (some (-f4)) none).length ≤ U.length := by assumption
    have e2 : (Str.ofString "\n ").length = 2 := by decide
    dsimp only
    exact hQ _ _ _ _ F9 N9 rfl (by rw [app_len, app_len]; (first | lia | omega))
  · refine ite_neg (by rw [decide_eq_false hr]; decide) ?_
    have eU : uncutS U room f4 = U := by unfold uncutS; rw [if_neg hr]
    rw [eU] at hQ
    refine wpAny_execs_nil ?_
    dsimp only
    exact hQ _ _ _ _ F2 N2 rfl (by (first | lia | omega))
set_option maxHeartbeats 1000000 in
theorem bes_C {D3 fa : Addr} {o1 o2 o3 : Obj} {W0 W1 W2 W3 W4 U : Str} {u0 u1 u2 u3 u4 tU tr tw : Tok} {ofa o157 o164 : Obj} {room width : Int} (X' : (KK w.params).In b) (T' : TR mg mb b) {bm : Addr} {ob : Obj} (BM : BMod b mainGlobals mg bm ob) (F : Fr b L s.heap m)
    (N : News b L s.heap [(D3, LCg.lst [.str W0 u0, .str W1 u1, .str W2 u2, .str W3 u3, .str W4 u4]), (L + 1 + 1 + 1, o1), (L + 1 + 1, o2), (L + 1, o3), (fa, ofa), (157, o157), (164, o164)])
    (d1 : o1.data = .cell (some (.ref D3))) (d2 : o2.data = .cell (some (.int width tw))) (d3 : o3.data = .cell (some (.int room tr))) (dfa : ∀ p, ofa.data ≠ .fields p) (hmU : m (Str.ofString "uncut") = some (.str U tU)) (hTab : TabOk s.heap)
    (l0 : W0.length ≤ 9) (l1 : W1.length ≤ 9) (l2 : W2.length ≤ 9) (l3 : W3.length ≤ 9) (l4 : W4.length ≤ 9) (lU : U.length ≤ 200)
    (hrun : okRun width "," ⟨[], room, []⟩ (chunks "" W0 ["", W1, W2, W3, W4])) (hend : okEnd (runSt width "," ⟨[], room, []⟩ (chunks "" W0 ["", W1, W2, W3, W4])))
    (hU : Txt.join "\n" ((runSt width "," ⟨[], room, []⟩ (chunks "" W0 ["", W1, W2, W3, W4])).lines ++ [accStr (runSt width "," ⟨[], room, []⟩ (chunks "" W0 ["", W1, W2, W3, W4])).ps]) = U)
    (hQ : ∀ s' o157 o164, Fr b L s'.heap m → News b L s'.heap [(D3, LCg.lst [.str W0 u0, .str W1 u1, .str W2 u2, .str W3 u3, .str W4 u4]), (L + 1 + 1 + 1, o1), (L + 1 + 1, o2), (L + 1, o3), (fa, ofa), (157, o157), (164, o164)] → TabOk s'.heap → s'.os = s.os → (AllBare s.gens → AllBare s'.gens) →
      wpAny (MM w) ((AL L0).deeper (besEnv L)) (execs (besB 4) (besEnv L)) Q (fun _ _ => False) s') :
    wpAny (MM w) ((AL L0).deeper (besEnv L)) (execs (besB 3) (besEnv L)) Q (fun _ _ => False) s := by
  have XF := X'.keeps F.keep
  have n157 := (N (157, o157) (by k_mem)).1
  have n164 := (N (164, o164) (by k_mem)).1
  iterate 44 walk1
  rename_i D9 h9 F9 N9 l9
  have hD9 := (N9 _ (List.mem_cons_self ..))
  have tab9 : TabOk h9 := tab_of XF (X'.keeps F9.keep) hTab (fun o e => by rw [n157] at e; cases e; exact (N9 (157, o157) (by k_mem)).1) (fun o e => by rw [n164] at e; cases e; exact (N9 (164, o164) (by k_mem)).1)
  refine wpAny_call (folded_spec (lw := D9) (w0 := W0) (t0 := u0) (wv := [("", s.toks + 1), (W1, u1), (W2, u2), (W3, u3), (W4, u4)]) (wn := 0) (signs := ",") (blank := "") (sep := "\n") X' T' BM F9.keep hD9.1 hD9.2.2 (N9 (157, o157) (by k_mem)).2.2 (N9 (164, o164) (by k_mem)).2.2 (by simp only [depth_deeper]; decide) rfl (by simp only [units_deeper]; decide) tab9 (by (first | lia | omega)) ?wvl (by show 5 ≤ 900; decide) (by decide +kernel) (by decide) hrun hend (fun s' t' k' tab' os' gs' => ?_))
  case wvl =>
    intro q hq
    simp only [List.mem_cons, List.mem_nil_iff, or_false] at hq
    rcases hq with rfl | rfl | rfl | rfl | rfl
    · exact Nat.zero_le _
    all_goals dsimp only; (first | lia | omega)
  obtain ⟨o1', o2', F10, N10⟩ := after_fold F9 N9 tab9 k' tab' (a1 := o157) (a2 := o164) (by simp) (by simp) (news' := [(D3, LCg.lst [.str W0 u0, .str W1 u1, .str W2 u2, .str W3 u3, .str W4 u4]), (L + 1 + 1 + 1, o1), (L + 1 + 1, o2), (L + 1, o3), (fa, ofa)]) (fun q hq => by
    simp only [List.mem_cons, List.mem_nil_iff, or_false] at hq ⊢
    rcases hq with h | h | h | h | h <;> simp [h]) (fun q hq p => by
    simp only [List.mem_cons, List.mem_nil_iff, or_false] at hq
    rcases hq with rfl | rfl | rfl | rfl | rfl
    · exact fun e => by cases e
    · rw [d1]; exact fun e => by cases e
    · rw [d2]; exact fun e => by cases e
    · rw [d3]; exact fun e => by cases e
    · exact dfa p)
  dsimp only
  rw [show Txt.join (Str.ofString "\n") ((runSt width "," ⟨[], room, []⟩ (chunks "" W0 (List.map (fun x => x.1) [((Str.ofString ""), s.toks + 1), (W1, u1), (W2, u2), (W3, u3), (W4, u4)]))).lines ++ [accStr (runSt width "," ⟨[], room, []⟩ (chunks "" W0 (List.map (fun x => x.1) [((Str.ofString ""), s.toks + 1), (W1, u1), (W2, u2), (W3, u3), (W4, u4)]))).ps]) = U from hU]
  iterate 3 walk1
  refine ite_neg (by simp) ?_
  refine wpAny_execs_nil ?_
  dsimp only
  exact hQ _ _ _ F10 N10 tab' (os'.trans rfl) (fun G => gs' G)
end
end Mine
end
section
open PySem PySem.W PyProof.Rows PySem.Calls
set_option Elab.async false
set_option maxRecDepth 100000
namespace Mine
theorem sum9 : ∀ {ys : List Str}, (∀ y ∈ ys, y.length ≤ 9) → (ys.map (·.length)).sum ≤ 9 * ys.length
  | [], _ => Nat.le_refl _
  | y :: r, h => by
    have h1 := sum9 (ys := r) (fun z hz => h z (.tail _ hz))
    have h2 := h y (.head _)
    simp only [List.map_cons, List.sum_cons, List.length_cons]; (first | lia | omega)
theorem join9 {ys : List Str} (x : Str) (hx : x.length ≤ 2) (h : ∀ y ∈ ys, y.length ≤ 9) : (Txt.join x ys).length ≤ 11 * ys.length := by
  have h1 := StrLaws.join_length_le x ys
  have h2 := sum9 h
  unfold Txt.join
  rw [StrLaws.glued_eq_join]
  have h3 : x.length * ys.length ≤ 2 * ys.length := Nat.mul_le_mul_right _ hx
  have h4 := Nat.mul_comm x.length ys.length
  (first | lia | omega)
section
variable {w : World} {b : Heap} {L L0 : Addr} {s : Shared} {Q : Flow → Shared → Prop} {mg mb m : Str → Option Value}
noncomputable def stayP (W0 W1 W2 W3 W4 : Str) (room width : Int) (i : Nat) : Bool := decide (room + ((Txt.join " " ([W0, W1, W2, W3, W4].take (i + 1))).length : Int) ≤ width)
noncomputable def stayN (W0 W1 W2 W3 W4 : Str) (room width : Int) : Nat := ((List.range 5).filter (stayP W0 W1 W2 W3 W4 room width)).length
set_option maxHeartbeats 1000000 in
theorem bes_D {D3 fa : Addr} {o1 o2 o3 : Obj} {W0 W1 W2 W3 W4 : Str} {u0 u1 u2 u3 u4 tr tw : Tok} {ofa o157 o164 : Obj} {room width : Int} (X' : (KK w.params).In b) (T' : TR mg mb b) (F : Fr b L s.heap m)
    (N : News b L s.heap [(D3, LCg.lst [.str W0 u0, .str W1 u1, .str W2 u2, .str W3 u3, .str W4 u4]), (L + 1 + 1 + 1, o1), (L + 1 + 1, o2), (L + 1, o3), (fa, ofa), (157, o157), (164, o164)])
    (d1 : o1.data = .cell (some (.ref D3))) (d2 : o2.data = .cell (some (.int width tw))) (d3 : o3.data = .cell (some (.int room tr)))
    (l0 : W0.length ≤ 9) (l1 : W1.length ≤ 9) (l2 : W2.length ≤ 9) (l3 : W3.length ≤ 9) (l4 : W4.length ≤ 9) (br : 0 ≤ room ∧ room ≤ 100) (bw : 0 ≤ width ∧ width ≤ 100)
    (hQ : ∀ h' tk m' t', Fr b L h' m' → News b L h' [(D3, LCg.lst [.str W0 u0, .str W1 u1, .str W2 u2, .str W3 u3, .str W4 u4]), (L + 1 + 1 + 1, o1), (L + 1 + 1, o2), (L + 1, o3), (fa, ofa), (157, o157), (164, o164)] → m' (Str.ofString "stay") = some (.int (stayN W0 W1 W2 W3 W4 room width) t') →
      wpAny (MM w) ((AL L0).deeper (besEnv L)) (execs (besB 5) (besEnv L)) Q (fun _ _ => False) { s with heap := h', toks := tk }) :
    wpAny (MM w) ((AL L0).deeper (besEnv L)) (execs (besB 4) (besEnv L)) Q (fun _ _ => False) s := by
  iterate 6 walk1
  refine LCt.ListComp_T (F₀ := F) (by with_unfolding_all rfl) (by decide) (by rfl) (by decide) (by rfl) ?_
  iterate 9 walk1
  rename_i h2 tk2 ra rb rc hr F2 N2 hk2
  refine LCt.CompSrcT.range (n := 5) (by rfl) F2 N2 hr (by decide) (by rfl) (by decide) ?_
  intro g2
  dsimp only
  refine comp_test (p := stayP W0 W1 W2 W3 W4 room width) 5 trivial ?_ ?_
  · intro i v I oI C oC D ys m₂ h tk E' hi hv hC hx F' N'
    obtain ⟨t, rfl⟩ := hv
    obtain ⟨kk, hkk⟩ : ∃ kk : Int, kk = 1 + (i : Int) := ⟨_, rfl⟩
    rw [← hkk] at hx
    have hb : 1 ≤ kk ∧ kk ≤ 5 := by (first | lia | omega)
    have eS : stayP W0 W1 W2 W3 W4 room width i = decide (room + ((Txt.join " " (List.take (i + 1) [W0, W1, W2, W3, W4])).length : Int) ≤ width) := rfl
    rw [eS]
    iterate 22 walk1
    rename_i h9 F9 N9
    have hx9 : m₂ (Str.ofString "k") = some (.int kk t) := hx
    rw [hkk, show (1 : Int) + (i : Int) = ((i + 1 : Nat) : Int) by (first | lia | omega), slicePick_upto'] at N9
    have ml9 : ∀ y ∈ List.take (i + 1) [W0, W1, W2, W3, W4], y.length ≤ 9 := fun y hy => by
      have := List.mem_of_mem_take hy
      simp only [List.mem_cons, List.mem_nil_iff, or_false] at this
      rcases this with rfl | rfl | rfl | rfl | rfl <;> assumption
    have ll9 : (List.take (i + 1) [W0, W1, W2, W3, W4]).length ≤ 5 := by rw [List.length_take]; exact Nat.min_le_right ..
    have lj9 : (Txt.join " " (List.take (i + 1) [W0, W1, W2, W3, W4])).length ≤ 55 := Nat.le_trans (join9 " " (by decide) ml9) (by (first | lia | omega))
    refine join_listW (ys := List.take (i + 1) [W0, W1, W2, W3, W4]) ⟨_, (N9 _ (List.mem_cons_self ..)).1, rfl, _, rfl⟩ (StrsAre.take' (.cons _ _ (.cons _ _ (.cons _ _ (.cons _ _ (.cons _ _ .nil))))) _) (by decide) (by have := sum9 ml9; (first | lia | omega)) (fun t6 k6 => ?_)
    iterate 12 walk1
    all_goals first
      | exact F9
      | exact fun q hq => N9 q (List.mem_cons_of_mem _ hq)
      | exact ⟨_, _, rfl, F9, fun q hq => N9 q (List.mem_cons_of_mem _ hq)⟩
  · intro ys hl
    intro D h tk F3 N3 of3
    have hl2 : ys.length = stayN W0 W1 W2 W3 W4 room width := hl
    have hl3 : ys.length ≤ 5 := by rw [hl]; exact List.length_filter_le _ _
    clear hl l0 l1 l2 l3 l4 br bw
    dsimp only
    walk1
    refine PyProof.Rows.len_list (items := ys.toArray) ⟨_, (N3 _ (List.mem_cons_self ..)).1, rfl, _, rfl⟩ (by simp only [List.size_toArray]; (first | lia | omega)) ?_
    rw [show (ys.toArray.size : Int) = ((stayN W0 W1 W2 W3 W4 room width : Nat) : Int) by rw [← hl2]; rfl]
    walk1
    rename_i h7 F7 N7
    exact hQ _ _ _ _ F7 (fun q hq => N7 q (List.mem_cons_of_mem _ hq)) rfl
end
end Mine
end
section
open PySem PySem.W PyProof.Rows PySem.Calls
set_option Elab.async false
set_option maxRecDepth 100000
namespace Mine
theorem five9 {W0 W1 W2 W3 W4 : Str} (l0 : W0.length ≤ 9) (l1 : W1.length ≤ 9) (l2 : W2.length ≤ 9) (l3 : W3.length ≤ 9) (l4 : W4.length ≤ 9) : ∀ y ∈ [W0, W1, W2, W3, W4], y.length ≤ 9 := fun y this => by
  simp only [List.mem_cons, List.mem_nil_iff, or_false] at this
  rcases this with rfl | rfl | rfl | rfl | rfl <;> assumption
theorem take_bd {W0 W1 W2 W3 W4 : Str} (h : ∀ y ∈ [W0, W1, W2, W3, W4], y.length ≤ 9) (n : Nat) : ((List.take n [W0, W1, W2, W3, W4]).map (·.length)).sum + (List.take n [W0, W1, W2, W3, W4]).length ≤ 1048576 ∧ (Txt.join " " (List.take n [W0, W1, W2, W3, W4])).length ≤ 55 := by
  have mt : ∀ y ∈ List.take n [W0, W1, W2, W3, W4], y.length ≤ 9 := fun y hy => h y (List.mem_of_mem_take hy)
  have lt : (List.take n [W0, W1, W2, W3, W4]).length ≤ 5 := by rw [List.length_take]; exact Nat.min_le_right ..
  have := sum9 mt
  exact ⟨by (first | lia | omega), Nat.le_trans (join9 " " (by decide) mt) (by (first | lia | omega))⟩
theorem drop_bd {W0 W1 W2 W3 W4 : Str} (h : ∀ y ∈ [W0, W1, W2, W3, W4], y.length ≤ 9) (n : Nat) : ((List.drop n [W0, W1, W2, W3, W4]).map (·.length)).sum + (List.drop n [W0, W1, W2, W3, W4]).length ≤ 1048576 ∧ (Txt.join " " (List.drop n [W0, W1, W2, W3, W4])).length ≤ 55 := by
  have mt : ∀ y ∈ List.drop n [W0, W1, W2, W3, W4], y.length ≤ 9 := fun y hy => h y (List.mem_of_mem_drop hy)
  have lt : (List.drop n [W0, W1, W2, W3, W4]).length ≤ 5 := by rw [List.length_drop]; exact Nat.sub_le ..
  have := sum9 mt
  exact ⟨by (first | lia | omega), Nat.le_trans (join9 " " (by decide) mt) (by (first | lia | omega))⟩
section
variable {w : World} {b : Heap} {L L0 : Addr} {s : Shared} {Q : Flow → Shared → Prop} {mg mb m : Str → Option Value}
/-- the words, parted at their blanks behind the first n -/
noncomputable def spacedS (W0 W1 W2 W3 W4 : Str) (n : Nat) : Str := Txt.join " " ([W0, W1, W2, W3, W4].take n) ++ "\n " ++ Txt.join " " ([W0, W1, W2, W3, W4].drop n)
set_option maxHeartbeats 1000000 in
theorem bes_E {D3 fa : Addr} {o1 o2 o3 : Obj} {W0 W1 W2 W3 W4 : Str} {u0 u1 u2 u3 u4 tr tw ts : Tok} {ofa o157 o164 : Obj} {room width : Int} {n : Nat} (X' : (KK w.params).In b) (T' : TR mg mb b) {bm : Addr} {ob : Obj} (BM : BMod b mainGlobals mg bm ob) (F : Fr b L s.heap m)
    (N : News b L s.heap [(D3, LCg.lst [.str W0 u0, .str W1 u1, .str W2 u2, .str W3 u3, .str W4 u4]), (L + 1 + 1 + 1, o1), (L + 1 + 1, o2), (L + 1, o3), (fa, ofa), (157, o157), (164, o164)])
    (d1 : o1.data = .cell (some (.ref D3))) (d2 : o2.data = .cell (some (.int width tw))) (d3 : o3.data = .cell (some (.int room tr))) (hms : m (Str.ofString "stay") = some (.int (n : Int) ts)) (hn : n ≤ 5) (hTab : TabOk s.heap) (dfa : ∀ p, ofa.data ≠ .fields p)
    (l0 : W0.length ≤ 9) (l1 : W1.length ≤ 9) (l2 : W2.length ≤ 9) (l3 : W3.length ≤ 9) (l4 : W4.length ≤ 9)
    (hrun : okRun width " " ⟨[], room, []⟩ (chunks " " W0 [W1, W2, W3, W4])) (hend : okEnd (runSt width " " ⟨[], room, []⟩ (chunks " " W0 [W1, W2, W3, W4])))
    (hU : Txt.join "\n" ((runSt width " " ⟨[], room, []⟩ (chunks " " W0 [W1, W2, W3, W4])).lines ++ [accStr (runSt width " " ⟨[], room, []⟩ (chunks " " W0 [W1, W2, W3, W4])).ps]) = spacedS W0 W1 W2 W3 W4 n)
    (hQ : ∀ s', (∀ a o, b.get? a = some o → s'.heap.get? a = some o) → s'.heap.get? fa = some ofa → TabOk s'.heap → s'.os = s.os → (AllBare s.gens → AllBare s'.gens) → Q (.ret (.bool true)) s') :
    wpAny (MM w) ((AL L0).deeper (besEnv L)) (execs (besB 5) (besEnv L)) Q (fun _ _ => False) s := by
  have XF := X'.keeps F.keep
  have n157 := (N (157, o157) (by k_mem)).1
  have n164 := (N (164, o164) (by k_mem)).1
  have hb : 0 ≤ (n : Int) ∧ (n : Int) ≤ 5 := by (first | lia | omega)
  iterate 18 walk1
  rename_i h9 F9 N9
  rw [slicePick_upto'] at N9
  refine join_listW (ys := List.take n [W0, W1, W2, W3, W4]) ⟨_, (N9 _ (List.mem_cons_self ..)).1, rfl, _, rfl⟩ (StrsAre.take' (.cons _ _ (.cons _ _ (.cons _ _ (.cons _ _ (.cons _ _ .nil))))) _) (by decide) (take_bd (five9 l0 l1 l2 l3 l4) n).1 (fun t6 k6 => ?_)
  have lj1 := (take_bd (five9 l0 l1 l2 l3 l4) n).2
  dsimp only
  iterate 16 walk1
  rename_i h8 F8 N8
  rw [slicePick_from'] at N8
  refine join_listW (ys := List.drop n [W0, W1, W2, W3, W4]) ⟨_, (N8 _ (List.mem_cons_self ..)).1, rfl, _, rfl⟩ (StrsAre.drop' (.cons _ _ (.cons _ _ (.cons _ _ (.cons _ _ (.cons _ _ .nil))))) _) (by decide) (drop_bd (five9 l0 l1 l2 l3 l4) n).1 (fun t7 k7 => ?_)
  have lj2 := (drop_bd (five9 l0 l1 l2 l3 l4) n).2
  dsimp only
  iterate 23 walk1
  rename_i h7 F7 N7
  have tab7 : TabOk h7 := tab_of XF (X'.keeps F7.keep) hTab (fun o e => by rw [n157] at e; cases e; exact (N7 (157, o157) (by k_mem)).1) (fun o e => by rw [n164] at e; cases e; exact (N7 (164, o164) (by k_mem)).1)
  have hD7 := N7 (D3, LCg.lst [.str W0 u0, .str W1 u1, .str W2 u2, .str W3 u3, .str W4 u4]) (by simp)
  refine wpAny_call (folded_spec (lw := D3) (w0 := W0) (t0 := u0) (wv := [(W1, u1), (W2, u2), (W3, u3), (W4, u4)]) (wn := 5) (signs := " ") (blank := " ") (sep := "\n") X' T' BM F7.keep hD7.1 hD7.2.2 (N7 (157, o157) (by k_mem)).2.2 (N7 (164, o164) (by k_mem)).2.2 (by simp only [depth_deeper]; decide) rfl (by simp only [units_deeper]; decide) tab7 (by (first | lia | omega)) ?wvl (by show 4 ≤ 900; decide) (by decide +kernel) (by decide) hrun hend (fun s' t' k' tab' os' gs' => ?_))
  case wvl =>
    intro q hq
    simp only [List.mem_cons, List.mem_nil_iff, or_false] at hq
    rcases hq with rfl | rfl | rfl | rfl
    all_goals dsimp only; (first | lia | omega)
  have fa7 := N7 (fa, ofa) (by simp)
  have ne7 := tab_ne tab7 fa7.1 dfa
  have g157 := (N7 (157, o157) (by k_mem)).2.2
  have g164 := (N7 (164, o164) (by k_mem)).2.2
  have fin := hQ s' (fun a o e => k' _ _ (F7.keep _ _ e) (fun q => by
    simp only [List.mem_cons, List.mem_nil_iff, or_false] at q
    rcases q with rfl | rfl
    · rw [show b.get? 157 = none from g157] at e; cases e
    · rw [show b.get? 164 = none from g164] at e; cases e)) (k' _ _ fa7.1 (by simp [ne7])) tab' os' gs'
  have F10 : Fr b L s'.heap _ := (called (news' := []) F7 k' (fun a ha => by
    simp only [List.mem_cons, List.mem_nil_iff, or_false] at ha
    rcases ha with rfl | rfl
    · exact (N7 (157, o157) (by k_mem)).2
    · exact (N7 (164, o164) (by k_mem)).2) (fun q hq => by cases hq)).1
  clear N7 F7
  dsimp only
  rw [show Txt.join (Str.ofString "\n") ((runSt width " " ⟨[], room, []⟩ (chunks " " W0 (List.map (fun x => x.1) [(W1, u1), (W2, u2), (W3, u3), (W4, u4)]))).lines ++ [accStr (runSt width " " ⟨[], room, []⟩ (chunks " " W0 (List.map (fun x => x.1) [(W1, u1), (W2, u2), (W3, u3), (W4, u4)]))).ps]) = spacedS W0 W1 W2 W3 W4 n from hU]
  unfold spacedS
  iterate 2 walk1
  rw [beq_self_eq_true]
  exact fin
end
end Mine
end
section
open PySem PySem.W PyProof.Rows PySem.Calls
set_option Elab.async false
set_option maxRecDepth 100000
namespace Mine
/-- what the two foldings of _law_beside have to be -/
structure BesLaw (W0 W1 W2 W3 W4 : Str) (f4 room width : Int) : Prop where
  run1 : okRun width "," ⟨[], room, []⟩ (chunks "" W0 ["", W1, W2, W3, W4])
  end1 : okEnd (runSt width "," ⟨[], room, []⟩ (chunks "" W0 ["", W1, W2, W3, W4]))
  txt1 : Txt.join "\n" ((runSt width "," ⟨[], room, []⟩ (chunks "" W0 ["", W1, W2, W3, W4])).lines ++ [accStr (runSt width "," ⟨[], room, []⟩ (chunks "" W0 ["", W1, W2, W3, W4])).ps]) = uncutS (Txt.join "" [W0, W1, W2, W3, W4]) room f4
  run2 : okRun width " " ⟨[], room, []⟩ (chunks " " W0 [W1, W2, W3, W4])
  end2 : okEnd (runSt width " " ⟨[], room, []⟩ (chunks " " W0 [W1, W2, W3, W4]))
  txt2 : Txt.join "\n" ((runSt width " " ⟨[], room, []⟩ (chunks " " W0 [W1, W2, W3, W4])).lines ++ [accStr (runSt width " " ⟨[], room, []⟩ (chunks " " W0 [W1, W2, W3, W4])).ps]) = spacedS W0 W1 W2 W3 W4 (stayN W0 W1 W2 W3 W4 room width)
section
variable {w : World} {g : Heap} {s : Shared} {L0 : Addr} {R : Result → Shared → Prop} {mg mb : Str → Option Value}
set_option maxHeartbeats 1000000 in
theorem beside_spec {fa : Addr} {f0 f1 f2 f3 f4 late room width : Int} {t0 t1 t2 t3 t4 tl tr tw : Tok} {fn : Nat} (X : (KK w.params).In g) (T : TR mg mb g) {bm : Addr} {ob : Obj} (BM : BMod g mainGlobals mg bm ob) (kg : g.StaysIn s.heap) (hTab : TabOk s.heap) (g157 : g.get? 157 = none) (g164 : g.get? 164 = none)
    (hf : s.heap.get? fa = some (W.listOf #[.int f0 t0, .int f1 t1, .int f2 t2, .int f3 t3, .int f4 t4] fn)) (gf : g.get? fa = none)
    (b0 : 1 ≤ f0 ∧ f0 ≤ 4) (b1 : 1 ≤ f1 ∧ f1 ≤ 4) (b2 : 1 ≤ f2 ∧ f2 ≤ 4) (b3 : 1 ≤ f3 ∧ f3 ≤ 4) (b4 : 1 ≤ f4 ∧ f4 ≤ 4) (bl : 1 ≤ late ∧ late ≤ 4) (br : 0 ≤ room ∧ room ≤ 100) (bw : 0 ≤ width ∧ width ≤ 100)
    (BL : BesLaw (wS (f0 + late)) (wS f1) (wS f2) (wS f3) (wS f4) f4 room width)
    (h : ∀ s', Kept [157, 164] s.heap s'.heap → TabOk s'.heap → s'.os = s.os → (AllBare s.gens → AllBare s'.gens) → R (.ok (.ret (.bool true))) s') : codeAny (MM w) (AL L0) (.call (.ref 274) ⟨[.ref fa, .int late tl, .int room tr, .int width tw], []⟩) R s := by
  obtain ⟨o157, o164, e157, de157, e164, de164⟩ := tab_objs hTab
  refine' enterC (news := [(fa, W.listOf #[.int f0 t0, .int f1 t1, .int f2 t2, .int f3 t3, .int f4 t4] fn), (157, o157), (164, o164)]) (binds := [("first", .ref fa), ("late", .int late tl), ("room", .int room tr), ("width", .int width tw)]) X T kg ?n ?ho ?hcd ?room ?bind ?loc ?nd ?_ ?c1 ?c2 ?c3
  case ho => k_is
  case hcd => k_is
  case room => show (callerA.deeper (lawEnv L0)).depth < recursionLimit; rw [depth_deeper]; decide
  case bind => exact BindsTo.of_eq rfl
  case loc =>
    intro n x hx
    simp only [List.mem_cons, List.mem_nil_iff, or_false] at hx
    rcases hx with rfl | rfl | rfl | rfl
    · exact .inl rfl
    · exact .inl rfl
    · exact .inr ⟨rfl, rfl⟩
    · exact .inr ⟨rfl, rfl⟩
  case nd => decide
  case n =>
    intro p hp
    simp only [List.mem_cons, List.mem_nil_iff, or_false] at hp
    rcases hp with rfl | rfl | rfl
    · exact ⟨hf, gf⟩
    · exact ⟨e157, g157⟩
    · exact ⟨e164, g164⟩
  case c1 => rfl
  case c2 => rfl
  case c3 => rfl
  intro b L h₁ tk cells F N C B lt
  have X' := B.k
  have T' := B.t
  obtain ⟨c1, c2, c3, rfl, d1, d2, d3⟩ := C.three
  simp only [List.cons_append, List.nil_append] at N
  have d1 : c1.data = .cell none := d1
  have d2 : c2.data = .cell (some (.int width tw)) := d2
  have d3 : c3.data = .cell (some (.int room tr)) := d3
  have lf : fa < L := lt _ (List.mem_cons_self ..)
  have l157 : 157 < L := lt (157, o157) (by simp)
  have l164 : 164 < L := lt (164, o164) (by simp)
  iterate 2 walk1
  refine LCg.ListComp_U (F₀ := F) (by rfl) (by decide) (by rfl) (by decide) (by rfl) ?_
  iterate 21 walk1
  have e0 : ([f0, f1, f2, f3, f4].getD (Int.toNat 0) 0 + late) = f0 + late := rfl
  rename_i D2 h2 F2 N2 lt2
  rw [e0] at N2
  refine LCg.CompSrc.ledger (by rfl) F2 N2 (List.mem_cons_self ..) (by first | size_fits | exact Nat.le_of_ble_eq_true rfl) ?_
  intro g2
  refine comp_gen (β := Str) (Rel := fun y x => ∃ t, y = .str x t) (F := fun i => wS ([f0 + late, f1, f2, f3, f4].getD i 0)) 5 (.inr ⟨_, List.mem_cons_self .., rfl, _, rfl⟩) ?_ ?_
  · intro i v I oI C oC D ys m₂ h tk E' hi hv hC hx F' N'
    obtain ⟨t, rfl⟩ : ∃ t, v = .int ([f0 + late, f1, f2, f3, f4].getD i 0) t := by
      rcases i with _ | _ | _ | _ | _ | i
      · exact ⟨_, (Option.some.inj hv).symm⟩
      · exact ⟨_, (Option.some.inj hv).symm⟩
      · exact ⟨_, (Option.some.inj hv).symm⟩
      · exact ⟨_, (Option.some.inj hv).symm⟩
      · exact ⟨_, (Option.some.inj hv).symm⟩
      · omega
    have hb : 0 ≤ [f0 + late, f1, f2, f3, f4].getD i 0 ∧ [f0 + late, f1, f2, f3, f4].getD i 0 ≤ 8 := by
      rcases i with _ | _ | _ | _ | _ | i
      · exact le48s b0 bl
      · exact le48 b1
      · exact le48 b2
      · exact le48 b3
      · exact le48 b4
      · omega
    generalize [f0 + late, f1, f2, f3, f4].getD i 0 = kk at hb hv hx ⊢
    clear b0 b1 b2 b3 b4 bl br bw lt lt2 N2 F2
    iterate 7 walk1
    exact ⟨_, _, rfl, F', N', _, rfl⟩
  · intro ys hl hr
    obtain ⟨y0, y1, y2, y3, y4, rfl⟩ := five_of hl
    obtain ⟨u0, rfl⟩ := hr 0 y0 rfl
    obtain ⟨u1, rfl⟩ := hr 1 y1 rfl
    obtain ⟨u2, rfl⟩ := hr 2 y2 rfl
    obtain ⟨u3, rfl⟩ := hr 3 y3 rfl
    obtain ⟨u4, rfl⟩ := hr 4 y4 rfl
    intro D3 h3 tk3 F3 N3 of3
    have l0 : (wS (f0 + late)).length ≤ 9 := wS9 (le48s b0 bl).2
    have l1 : (wS f1).length ≤ 9 := wS9 (le48 b1).2
    have l2 : (wS f2).length ≤ 9 := wS9 (le48 b2).2
    have l3 : (wS f3).length ≤ 9 := wS9 (le48 b3).2
    have l4 : (wS f4).length ≤ 9 := wS9 (le48 b4).2
    clear hr F2 N2 hl e0
    simp only [LCg.Off1, and_true] at of3
    show wpAny _ _ _ _ _ { heap := h3, gens := s.gens, drawn := s.drawn, toks := tk3, os := s.os }
    refine' storeX_C (o := c1) F3 N3 ?c ?U d1 ?_ ?hk ?hx
    case c => rfl
    case U =>
      refine UpdF.tail ?_ (UpdF.tail ?_ (UpdF.tail ?_ (UpdF.tail ?_ (UpdF.head ?_))))
      · exact Ne.symm of3.2.2.2.1
      · k_ne
      · k_ne
      · k_ne
      · intro p hp
        simp only [List.mem_cons, List.mem_nil_iff, or_false] at hp
        rcases hp with rfl | rfl | rfl | rfl | rfl
        · exact Nat.ne_of_lt (Nat.lt_succ_self _)
        · exact Nat.ne_of_lt (Nat.lt_succ_of_lt (Nat.lt_succ_self _))
        · exact Nat.ne_of_lt (Nat.lt_of_lt_of_le lf (Nat.le_add_right L 3))
        · exact Nat.ne_of_lt (Nat.lt_of_lt_of_le l157 (Nat.le_add_right L 3))
        · exact Nat.ne_of_lt (Nat.lt_of_lt_of_le l164 (Nat.le_add_right L 3))
    case hk => rfl
    case hx => rfl
    intro h4 o4 F4 N4 d4
    have eW : ([f0 + late, f1, f2, f3, f4].getD 0 0 = f0 + late ∧ [f0 + late, f1, f2, f3, f4].getD 1 0 = f1 ∧ [f0 + late, f1, f2, f3, f4].getD 2 0 = f2 ∧ [f0 + late, f1, f2, f3, f4].getD 3 0 = f3 ∧ [f0 + late, f1, f2, f3, f4].getD 4 0 = f4) := ⟨rfl, rfl, rfl, rfl, rfl⟩
    rw [eW.1, eW.2.1, eW.2.2.1, eW.2.2.2.1, eW.2.2.2.2] at N4
    clear F3 N3 lf l157 l164
    dsimp only
    generalize wS (f0 + late) = W0 at l0 BL N4 ⊢
    generalize wS f1 = W1 at l1 BL N4 ⊢
    generalize wS f2 = W2 at l2 BL N4 ⊢
    generalize wS f3 = W3 at l3 BL N4 ⊢
    generalize wS f4 = W4 at l4 BL N4 ⊢
    have N4' : News b L h4 [(D3, LCg.lst [.str W0 u0, .str W1 u1, .str W2 u2, .str W3 u3, .str W4 u4]), (L + 1 + 1 + 1, o4), (L + 1 + 1, c2), (L + 1, c3), (fa, W.listOf #[.int f0 t0, .int f1 t1, .int f2 t2, .int f3 t3, .int f4 t4] fn), (157, o157), (164, o164)] := by
      repeat (first | exact nw_nil | refine nw_sub N4 (by k_mem) ?_)
    have dfa : ∀ p, (W.listOf #[Value.int f0 t0, .int f1 t1, .int f2 t2, .int f3 t3, .int f4 t4] fn).data ≠ .fields p := fun p e => by cases e
    have tabX : ∀ h', (∀ a o, b.get? a = some o → h'.get? a = some o) → h'.get? 157 = some o157 → h'.get? 164 = some o164 → TabOk h' := fun h' k' e1 e2 => tab_of (X.keeps kg) (X'.keeps k') hTab (fun o e => by rw [e157] at e; cases e; exact e1) (fun o e => by rw [e164] at e; cases e; exact e2)
    have BMb : BMod b mainGlobals mg bm ob := BM.keeps B.g
    clear N4 eW of3
    refine bes_B (tl := tl) X' T' F4 N4' d4 d2 d3 rfl l0 l1 l2 l3 l4 b4 (fun h5 tk5 m5 t5 F5 N5 hm5 lU5 => ?_)
    refine bes_C X' T' BMb F5 N5 d4 d2 d3 dfa hm5 (tabX _ F5.keep (N5 (157, o157) (by k_mem)).1 (N5 (164, o164) (by k_mem)).1) l0 l1 l2 l3 l4 lU5 BL.run1 BL.end1 BL.txt1 (fun s6 p157 p164 F6 N6 tab6 os6 gs6 => ?_)
    refine bes_D X' T' F6 N6 d4 d2 d3 l0 l1 l2 l3 l4 br bw (fun h7 tk7 m7 t7 F7 N7 hm7 => ?_)
    have tab7 : TabOk h7 := tab_of (X'.keeps F6.keep) (X'.keeps F7.keep) tab6 (fun o e => by rw [(N6 (157, p157) (by k_mem)).1] at e; cases e; exact (N7 (157, p157) (by k_mem)).1) (fun o e => by rw [(N6 (164, p164) (by k_mem)).1] at e; cases e; exact (N7 (164, p164) (by k_mem)).1)
    refine bes_E X' T' BMb F7 N7 d4 d2 d3 hm7 (Nat.le_trans (List.length_filter_le _ _) (Nat.le_refl 5)) tab7 dfa l0 l1 l2 l3 l4 BL.run2 BL.end2 BL.txt2 (fun s8 k8 ef8 tab8 os8 gs8 => ?_)
    refine h s8 (fun a o e q => ?_) tab8 (os8.trans (os6.trans rfl)) (fun G => gs8 (gs6 G))
    by_cases z : a = fa
    · rw [z, hf] at e; cases e; rw [z]; exact ef8
    · refine k8 _ _ (B.old _ _ e ?_)
      simp only [List.mem_cons, List.mem_nil_iff, or_false, not_or] at q
      simp only [List.map_cons, List.map_nil, List.mem_cons, List.mem_nil_iff, or_false, not_or]
      exact ⟨z, q.1, q.2⟩
end
end Mine
end
section
open PySem PySem.W PyProof.Rows PySem.Calls
set_option Elab.async false
set_option maxRecDepth 100000
namespace Mine
noncomputable def lawB (i : Nat) : List Stmt := (fBody (top 23)).drop i
/-- the first numbers -/
noncomputable def ff (ns : List Int) (i : Nat) : Int := 1 + Int.fmod (numAt ns i) 4
section
variable {w : World} {b : Heap} {L : Addr} {s : Shared} {Q : Flow → Shared → Prop} {mg mb m : Str → Option Value}
set_option maxHeartbeats 1000000 in
theorem law_1 {l : Addr} {vs : List Value} {ns : List Int} {o1 o2 o3 o157 o164 : Obj} (X' : (KK w.params).In b) (T' : TR mg mb b) (F : Fr b L s.heap m)
    (N : News b L s.heap [(L + 1 + 1 + 1, o1), (L + 1 + 1, o2), (L + 1, o3), (157, o157), (164, o164)])
    (d1 : o1.data = .cell none) (d2 : o2.data = .cell none) (d3 : o3.data = .cell (some (.ref l))) (hl : b.IsList l vs.toArray) (hI : IntsAre vs ns) (hn : ns.length ≤ 63) (l157 : 157 < L) (l164 : 164 < L)
    (hQ : ∀ h' tk D o2' t0 t1 t2 t3 t4, Fr b L h' m → News b L h' [(D, LCg.lst [.int (ff ns 0) t0, .int (ff ns 1) t1, .int (ff ns 2) t2, .int (ff ns 3) t3, .int (ff ns 4) t4]), (L + 1 + 1 + 1, o1), (L + 1 + 1, o2'), (L + 1, o3), (157, o157), (164, o164)] → o2'.data = .cell (some (.ref D)) →
      wpAny (MM w) (AL L) (execs (lawB 1) (lawEnv L)) Q (fun _ _ => False) { s with heap := h', toks := tk }) :
    wpAny (MM w) (AL L) (execs (lawB 0) (lawEnv L)) Q (fun _ _ => False) s := by
  iterate 2 walk1
  refine LCg.ListComp_U (F₀ := F) (by rfl) (by decide) (by rfl) (by decide) (by rfl) ?_
  iterate 7 walk1
  rename_i h2 tk2 ra rb rc hr F2 N2 hk2
  refine LCg.CompSrc.range (n := 5) (by rfl) F2 N2 hr (by decide) (by rfl) (by decide) ?_
  intro g2
  dsimp only
  refine comp_gen (β := Int) (Rel := fun y x => ∃ t, y = .int x t) (F := fun i => ff ns i) 5 trivial ?_ ?_
  · intro i v I oI C oC D ys m₂ h tk E' hi hv hC hx F' N'
    obtain ⟨t, rfl⟩ := hv
    rw [show (0 : Int) + (i : Int) = (i : Int) by omega] at hx
    iterate 13 walk1
    have FF := F'
    refine wpAny_call (number_spec (place := i) X' T' F'.keep (by rw [depth_deeper]; decide) hl hI hn (by omega) (fun h5 tk5 t5 k5 => ?_))
    obtain ⟨F5, N5⟩ := calledN (Wc := []) F' N' k5 (fun a h => nomatch h) [] _ (fun q h => nomatch h) (fun q hq => ⟨hq, fun z => nomatch z⟩)
    clear F' N' k5
    dsimp only
    iterate 3 walk1
    exact ⟨_, _, rfl, F5, N5, _, rfl⟩
  · intro ys hl2 hr2
    obtain ⟨y0, y1, y2, y3, y4, rfl⟩ := five_of hl2
    obtain ⟨u0, rfl⟩ := hr2 0 y0 rfl
    obtain ⟨u1, rfl⟩ := hr2 1 y1 rfl
    obtain ⟨u2, rfl⟩ := hr2 2 y2 rfl
    obtain ⟨u3, rfl⟩ := hr2 3 y3 rfl
    obtain ⟨u4, rfl⟩ := hr2 4 y4 rfl
    intro D3 h3 tk3 F3 N3 of3
    simp only [LCg.Off1, and_true] at of3
    clear hr2 hl2
    dsimp only
    refine' storeX_C (o := o2) F3 N3 ?c ?U d2 ?_ ?hk ?hx
    case c => rfl
    case U =>
      refine UpdF.tail ?_ (UpdF.tail ?_ (UpdF.head ?_))
      · exact Ne.symm of3.2.1
      · k_ne
      · intro p hp
        simp only [List.mem_cons, List.mem_nil_iff, or_false] at hp
        rcases hp with rfl | rfl | rfl
        · k_ne
        · exact Nat.ne_of_lt (Nat.lt_of_lt_of_le l157 (Nat.le_add_right L 2))
        · exact Nat.ne_of_lt (Nat.lt_of_lt_of_le l164 (Nat.le_add_right L 2))
    case hk => rfl
    case hx => rfl
    intro h4 o4 F4 N4 d4
    exact hQ _ _ _ _ _ _ _ _ _ F4 N4 d4
end
end Mine
end
section
open PySem PySem.W PyProof.Rows PySem.Calls
set_option Elab.async false
set_option maxRecDepth 100000
namespace Mine
theorem max_val_ite {a b : Int} : (if b > a then b else a) = max a b := by split <;> (first | lia | omega)
section
variable {w : World} {b : Heap} {L : Addr} {s : Shared} {Q : Flow → Shared → Prop} {mg mb m : Str → Option Value}
set_option maxHeartbeats 1000000 in
theorem law_2 {l D : Addr} {vs : List Value} {ns : List Int} {o1 o2 o3 o157 o164 : Obj} {f0 f1 f2 f3 f4 lt : Int} {t0 t1 t2 t3 t4 : Tok} (X' : (KK w.params).In b) (T' : TR mg mb b) (F : Fr b L s.heap m)
    (N : News b L s.heap [(D, LCg.lst [.int f0 t0, .int f1 t1, .int f2 t2, .int f3 t3, .int f4 t4]), (L + 1 + 1 + 1, o1), (L + 1 + 1, o2), (L + 1, o3), (157, o157), (164, o164)])
    (d1 : o1.data = .cell none) (d2 : o2.data = .cell (some (.ref D))) (d3 : o3.data = .cell (some (.ref l))) (hl : b.IsList l vs.toArray) (hI : IntsAre vs ns) (hn : ns.length ≤ 63) (l157 : 157 < L) (l164 : 164 < L) (hlt : 1 + Int.fmod (numAt ns 5) 4 = lt)
    (hQ : ∀ h' tk o1' t, Fr b L h' m → News b L h' [(D, LCg.lst [.int f0 t0, .int f1 t1, .int f2 t2, .int f3 t3, .int f4 t4]), (L + 1 + 1 + 1, o1'), (L + 1 + 1, o2), (L + 1, o3), (157, o157), (164, o164)] → o1'.data = .cell (some (.int lt t)) →
      wpAny (MM w) (AL L) (execs (lawB 2) (lawEnv L)) Q (fun _ _ => False) { s with heap := h', toks := tk }) :
    wpAny (MM w) (AL L) (execs (lawB 1) (lawEnv L)) Q (fun _ _ => False) s := by
  have nD : D ≠ L + 1 + 1 + 1 := fun z => by
    have e1 := (N (D, LCg.lst [.int f0 t0, .int f1 t1, .int f2 t2, .int f3 t3, .int f4 t4]) (by k_mem)).1
    have e2 := (N (L + 1 + 1 + 1, o1) (by k_mem)).1
    rw [z] at e1
    dsimp only at e1 e2
    rw [e1] at e2
    have := Option.some.inj e2
    rw [← this] at d1
    cases d1
  iterate 14 walk1
  refine wpAny_call (number_spec (place := 5) X' T' F.keep (by rw [depth_deeper]; decide) hl hI hn (by decide) (fun h5 tk5 t5 k5 => ?_))
  obtain ⟨F5, N5⟩ := calledN (Wc := []) F N k5 (fun a h => nomatch h) [] _ (fun q h => nomatch h) (fun q hq => ⟨hq, fun z => nomatch z⟩)
  clear F N k5
  dsimp only
  iterate 3 walk1
  rw [hlt]
  refine' storeX_C (o := o1) F5 N5 ?c ?U d1 ?_ ?hk ?hx
  case c => rfl
  case U =>
    refine UpdF.tail nD (UpdF.head ?_)
    intro p hp
    simp only [List.mem_cons, List.mem_nil_iff, or_false] at hp
    rcases hp with rfl | rfl | rfl | rfl
    · k_ne
    · k_ne
    · exact Nat.ne_of_lt (Nat.lt_of_lt_of_le l157 (Nat.le_add_right L 3))
    · exact Nat.ne_of_lt (Nat.lt_of_lt_of_le l164 (Nat.le_add_right L 3))
  case hk => rfl
  case hx => rfl
  intro h4 o4 F4 N4 d4
  exact hQ _ _ _ _ F4 N4 d4
set_option maxHeartbeats 1000000 in
theorem law_3 {l D : Addr} {vs : List Value} {ns : List Int} {o1 o2 o3 o157 o164 : Obj} {f0 f1 f2 f3 f4 lt x : Int} {t0 t1 t2 t3 t4 tl : Tok} (X' : (KK w.params).In b) (T' : TR mg mb b) (F : Fr b L s.heap m)
    (N : News b L s.heap [(D, LCg.lst [.int f0 t0, .int f1 t1, .int f2 t2, .int f3 t3, .int f4 t4]), (L + 1 + 1 + 1, o1), (L + 1 + 1, o2), (L + 1, o3), (157, o157), (164, o164)])
    (d1 : o1.data = .cell (some (.int lt tl))) (d2 : o2.data = .cell (some (.ref D))) (d3 : o3.data = .cell (some (.ref l))) (hl : b.IsList l vs.toArray) (hI : IntsAre vs ns) (hn : ns.length ≤ 63) (hx : Int.fmod (numAt ns 6) 3 = x)
    (b0 : 1 ≤ f0 ∧ f0 ≤ 4) (b1 : 1 ≤ f1 ∧ f1 ≤ 4) (b2 : 1 ≤ f2 ∧ f2 ≤ 4) (b3 : 1 ≤ f3 ∧ f3 ≤ 4) (b4 : 1 ≤ f4 ∧ f4 ≤ 4) (bl : 1 ≤ lt ∧ lt ≤ 4) (bx : 0 ≤ x ∧ x ≤ 2)
    (hQ : ∀ h' tk m' t t', Fr b L h' m' → News b L h' [(D, LCg.lst [.int f0 t0, .int f1 t1, .int f2 t2, .int f3 t3, .int f4 t4]), (L + 1 + 1 + 1, o1), (L + 1 + 1, o2), (L + 1, o3), (157, o157), (164, o164)] → m' (Str.ofString "width") = some (.int (max (f1 + 1 + 2 * (f2 + f3 + f4 + 3)) (f0 + f1 + f2 + f3 + f4 + 5 + lt - 1) + x) t) →
      m' (Str.ofString "room") = some (.int (max (f1 + 1 + 2 * (f2 + f3 + f4 + 3)) (f0 + f1 + f2 + f3 + f4 + 5 + lt - 1) + x - (f0 + f1 + f2 + f3 + f4 + 5) - lt + 1) t') →
      wpAny (MM w) (AL L) (execs (lawB 6) (lawEnv L)) Q (fun _ _ => False) { s with heap := h', toks := tk }) :
    wpAny (MM w) (AL L) (execs (lawB 2) (lawEnv L)) Q (fun _ _ => False) s := by
  iterate 75 walk1
  rename_i h4 F4 N4
  rw [max_val_ite]
  have e1 : [f0, f1, f2, f3, f4].getD (Int.toNat 1) 0 + 1 + 2 * (f2 + (f3 + (f4 + 0)) + 3) = f1 + 1 + 2 * (f2 + f3 + f4 + 3) := by
    rw [show [f0, f1, f2, f3, f4].getD (Int.toNat 1) 0 = f1 from rfl]; (first | lia | omega)
  have e2 : f0 + (f1 + (f2 + (f3 + (f4 + 0)))) + 5 + lt - 1 = f0 + f1 + f2 + f3 + f4 + 5 + lt - 1 := by (first | lia | omega)
  have e3 : f0 + (f1 + (f2 + (f3 + (f4 + 0)))) + 5 = f0 + f1 + f2 + f3 + f4 + 5 := by (first | lia | omega)
  rw [e1, e2]
  rw [e1, e2, e3] at F4
  have bm : 0 ≤ max (f1 + 1 + 2 * (f2 + f3 + f4 + 3)) (f0 + f1 + f2 + f3 + f4 + 5 + lt - 1) ∧ max (f1 + 1 + 2 * (f2 + f3 + f4 + 3)) (f0 + f1 + f2 + f3 + f4 + 5 + lt - 1) ≤ 100 := by (first | lia | omega)
  have bw : 0 ≤ f0 + f1 + f2 + f3 + f4 + 5 ∧ f0 + f1 + f2 + f3 + f4 + 5 ≤ 100 := by (first | lia | omega)
  generalize max (f1 + 1 + 2 * (f2 + f3 + f4 + 3)) (f0 + f1 + f2 + f3 + f4 + 5 + lt - 1) = M at bm hQ ⊢
  generalize f0 + f1 + f2 + f3 + f4 + 5 = wh at bw hQ F4
  clear e1 e2 e3 b0 b1 b2 b3 b4
  refine wpAny_call (number_spec (place := 6) X' T' F4.keep (by rw [depth_deeper]; decide) hl hI hn (by decide) (fun h5 tk5 t5 k5 => ?_))
  obtain ⟨F5, N5⟩ := calledN (Wc := []) F4 N4 k5 (fun a h => nomatch h) [] _ (fun q h => nomatch h) (fun q hq => ⟨hq, fun z => nomatch z⟩)
  clear F4 N4 k5
  dsimp only
  iterate 2 walk1
  rw [hx]
  iterate 16 walk1
  rename_i h9 F9 N9
  exact hQ _ _ _ _ _ F9 (fun q hq => N9 q (List.mem_cons_of_mem _ hq)) rfl rfl
end
end Mine
end
section
open PySem PySem.W PyProof.Rows PySem.Calls
set_option Elab.async false
set_option maxRecDepth 100000
namespace Mine
noncomputable def cAt (f1 f2 f3 f4 late : Int) (i : Nat) : Int := late + ([f1, f2, f3, f4].drop i).sum + 4 - i
section
variable {w : World} {b : Heap} {L : Addr} {s : Shared} {Q : Flow → Shared → Prop} {mg mb m : Str → Option Value}
set_option maxHeartbeats 1000000 in
theorem law_4 {D : Addr} {o1 o2 o3 o157 o164 : Obj} {f0 f1 f2 f3 f4 lt : Int} {t0 t1 t2 t3 t4 tl : Tok} (X' : (KK w.params).In b) (T' : TR mg mb b) (F : Fr b L s.heap m)
    (N : News b L s.heap [(D, LCg.lst [.int f0 t0, .int f1 t1, .int f2 t2, .int f3 t3, .int f4 t4]), (L + 1 + 1 + 1, o1), (L + 1 + 1, o2), (L + 1, o3), (157, o157), (164, o164)])
    (d1 : o1.data = .cell (some (.int lt tl))) (d2 : o2.data = .cell (some (.ref D)))
    (b0 : 1 ≤ f0 ∧ f0 ≤ 4) (b1 : 1 ≤ f1 ∧ f1 ≤ 4) (b2 : 1 ≤ f2 ∧ f2 ≤ 4) (b3 : 1 ≤ f3 ∧ f3 ≤ 4) (b4 : 1 ≤ f4 ∧ f4 ≤ 4) (bl : 1 ≤ lt ∧ lt ≤ 4)
    (hQ : ∀ h' tk C u0 u1 u2 u3 u4, Fr b L h' (fun y => if y = Str.ofString "comes" then some (.ref C) else m y) → News b L h' [(C, LCg.lst [.int (cAt f1 f2 f3 f4 lt 0) u0, .int (cAt f1 f2 f3 f4 lt 1) u1, .int (cAt f1 f2 f3 f4 lt 2) u2, .int (cAt f1 f2 f3 f4 lt 3) u3, .int (cAt f1 f2 f3 f4 lt 4) u4]), (D, LCg.lst [.int f0 t0, .int f1 t1, .int f2 t2, .int f3 t3, .int f4 t4]), (L + 1 + 1 + 1, o1), (L + 1 + 1, o2), (L + 1, o3), (157, o157), (164, o164)] →
      wpAny (MM w) (AL L) (execs (lawB 7) (lawEnv L)) Q (fun _ _ => False) { s with heap := h', toks := tk }) :
    wpAny (MM w) (AL L) (execs (lawB 6) (lawEnv L)) Q (fun _ _ => False) s := by
  have bSum : ∀ i : Nat, 0 ≤ (List.drop i [f1, f2, f3, f4]).sum ∧ (List.drop i [f1, f2, f3, f4]).sum ≤ 16 := fun i => by
    rcases i with _ | _ | _ | _ | i
    · simp only [List.drop_zero, List.sum_cons, List.sum_nil]; (first | lia | omega)
    · simp only [List.drop_succ_cons, List.drop_zero, List.sum_cons, List.sum_nil]; (first | lia | omega)
    · simp only [List.drop_succ_cons, List.drop_zero, List.sum_cons, List.sum_nil]; (first | lia | omega)
    · simp only [List.drop_succ_cons, List.drop_zero, List.sum_cons, List.sum_nil]; (first | lia | omega)
    · simp only [List.drop_succ_cons, List.drop_nil, List.sum_nil]; (first | lia | omega)
  iterate 9 walk1
  rename_i h2 tk2 ra rb rc hr F2 N2 hk2
  refine LCg.CompSrc.range (n := 5) (by rfl) F2 N2 hr (by decide) (by rfl) (by decide) ?_
  intro g2
  dsimp only
  refine comp_gen (β := Int) (Rel := fun y x => ∃ t, y = .int x t) (F := fun i => cAt f1 f2 f3 f4 lt i) 5 trivial ?_ ?_
  · intro i v I oI C oC D2 ys m₂ h tk E' hi hv hC hx F' N'
    obtain ⟨t, rfl⟩ := hv
    rw [show (0 : Int) + (i : Int) = (i : Int) by (first | lia | omega)] at hx
    obtain ⟨kk, hkk⟩ : ∃ kk : Int, kk = (i : Int) := ⟨_, rfl⟩
    rw [← hkk] at hx
    have hb : 0 ≤ kk ∧ kk ≤ 4 := by (first | lia | omega)
    iterate 8 walk1
    refine wpAny_Subscript_list_slice ?_
    iterate 7 walk1
    dsimp only
    refine ⟨D, #[.int f0 t0, .int f1 t1, .int f2 t2, .int f3 t3, .int f4 t4], some (kk + 1), none, rfl, ⟨_, (N' (D, LCg.lst [.int f0 t0, .int f1 t1, .int f2 t2, .int f3 t3, .int f4 t4]) (by k_mem)).1, rfl, _, rfl⟩, (by show (5 : Nat) ≤ sizeLine; decide), IsPart.int _ _, .none, ?_⟩
    rw [show kk + 1 = ((i + 1 : Nat) : Int) by (first | lia | omega), slicePick_from']
    walk1
    obtain ⟨F9, N9⟩ := grownN (h' := (h.push { cls := .type "slice", data := .fields #[.int ((i + 1 : Nat) : Int) (tk + 1), .none, .none] }).push { cls := .type "list", data := .seq (List.drop (i + 1) [Value.int f0 t0, .int f1 t1, .int f2 t2, .int f3 t3, .int f4 t4]).toArray }) F' N' (fun a o e => Heap.get?_push_of_some _ (Heap.get?_push_of_some _ e))
    refine sumK (vs := List.drop (i + 1) [Value.int f0 t0, .int f1 t1, .int f2 t2, .int f3 t3, .int f4 t4]) (ns := List.drop (i + 1) [f0, f1, f2, f3, f4]) rfl F9 N9 ⟨{ cls := .type "list", data := .seq (List.drop (i + 1) [Value.int f0 t0, .int f1 t1, .int f2 t2, .int f3 t3, .int f4 t4]).toArray }, by heap_get, rfl, _, rfl⟩ (IntsAre.drop (.cons _ _ (.cons _ _ (.cons _ _ (.cons _ _ (.cons _ _ .nil))))) _) (fun h8 tk8 t8 F8 N8 => ?_)
    have eS : (List.drop (i + 1) [f0, f1, f2, f3, f4]) = List.drop i [f1, f2, f3, f4] := rfl
    have bS : 0 ≤ (List.drop i [f1, f2, f3, f4]).sum ∧ (List.drop i [f1, f2, f3, f4]).sum ≤ 16 := bSum i
    have eC : cAt f1 f2 f3 f4 lt i = lt + (List.drop i [f1, f2, f3, f4]).sum + 4 - i := rfl
    rw [eS, eC]
    generalize (List.drop i [f1, f2, f3, f4]).sum = S at bS ⊢
    clear eS eC F9 N9
    dsimp only
    iterate 5 walk1
    exact ⟨_, _, rfl, F8, N8, _, by rw [hkk]⟩
  · intro ys hl2 hr2
    obtain ⟨y0, y1, y2, y3, y4, rfl⟩ := five_of hl2
    obtain ⟨u0, rfl⟩ := hr2 0 y0 rfl
    obtain ⟨u1, rfl⟩ := hr2 1 y1 rfl
    obtain ⟨u2, rfl⟩ := hr2 2 y2 rfl
    obtain ⟨u3, rfl⟩ := hr2 3 y3 rfl
    obtain ⟨u4, rfl⟩ := hr2 4 y4 rfl
    intro D3 h3 tk3 F3 N3 of3
    clear hr2 hl2
    exact hQ _ _ _ _ _ _ _ _ F3 N3
set_option maxHeartbeats 1000000 in
theorem law_5 {D C : Addr} {oC o1 o2 o3 o157 o164 : Obj} {f0 f1 f2 f3 f4 : Int} {t0 t1 t2 t3 t4 : Tok} (X' : (KK w.params).In b) (T' : TR mg mb b) (F : Fr b L s.heap m)
    (N : News b L s.heap [(C, oC), (D, LCg.lst [.int f0 t0, .int f1 t1, .int f2 t2, .int f3 t3, .int f4 t4]), (L + 1 + 1 + 1, o1), (L + 1 + 1, o2), (L + 1, o3), (157, o157), (164, o164)])
    (d2 : o2.data = .cell (some (.ref D)))
    (b0 : 1 ≤ f0 ∧ f0 ≤ 4) (b1 : 1 ≤ f1 ∧ f1 ≤ 4) (b2 : 1 ≤ f2 ∧ f2 ≤ 4) (b3 : 1 ≤ f3 ∧ f3 ≤ 4) (b4 : 1 ≤ f4 ∧ f4 ≤ 4)
    (hQ : ∀ h' tk E u0 u1 u2 u3 u4, Fr b L h' (fun y => if y = Str.ofString "words" then some (.ref E) else m y) → News b L h' [(E, LCg.lst [.str (wS f0) u0, .str (wS f1) u1, .str (wS f2) u2, .str (wS f3) u3, .str (wS f4) u4]), (C, oC), (D, LCg.lst [.int f0 t0, .int f1 t1, .int f2 t2, .int f3 t3, .int f4 t4]), (L + 1 + 1 + 1, o1), (L + 1 + 1, o2), (L + 1, o3), (157, o157), (164, o164)] →
      wpAny (MM w) (AL L) (execs (lawB 8) (lawEnv L)) Q (fun _ _ => False) { s with heap := h', toks := tk }) :
    wpAny (MM w) (AL L) (execs (lawB 7) (lawEnv L)) Q (fun _ _ => False) s := by
  iterate 2 walk1
  refine comp_gen (β := Str) (Rel := fun y x => ∃ t, y = .str x t) (F := fun i => wS ([f0, f1, f2, f3, f4].getD i 0)) 5 (.inr ⟨_, (List.Mem.tail _ (List.mem_cons_self ..)), rfl, _, rfl⟩) ?_ ?_
  · intro i v I oI C2 oC2 D2 ys m₂ h tk E' hi hv hC hx F' N'
    obtain ⟨t, rfl⟩ : ∃ t, v = .int ([f0, f1, f2, f3, f4].getD i 0) t := by
      rcases i with _ | _ | _ | _ | _ | i
      · exact ⟨_, (Option.some.inj hv).symm⟩
      · exact ⟨_, (Option.some.inj hv).symm⟩
      · exact ⟨_, (Option.some.inj hv).symm⟩
      · exact ⟨_, (Option.some.inj hv).symm⟩
      · exact ⟨_, (Option.some.inj hv).symm⟩
      · (first | lia | omega)
    have hb : 0 ≤ [f0, f1, f2, f3, f4].getD i 0 ∧ [f0, f1, f2, f3, f4].getD i 0 ≤ 8 := by
      rcases i with _ | _ | _ | _ | _ | i
      · exact le48 b0
      · exact le48 b1
      · exact le48 b2
      · exact le48 b3
      · exact le48 b4
      · (first | lia | omega)
    generalize [f0, f1, f2, f3, f4].getD i 0 = kk at hb hv hx ⊢
    clear b0 b1 b2 b3 b4
    iterate 7 walk1
    exact ⟨_, _, rfl, F', N', _, rfl⟩
  · intro ys hl2 hr2
    obtain ⟨y0, y1, y2, y3, y4, rfl⟩ := five_of hl2
    obtain ⟨u0, rfl⟩ := hr2 0 y0 rfl
    obtain ⟨u1, rfl⟩ := hr2 1 y1 rfl
    obtain ⟨u2, rfl⟩ := hr2 2 y2 rfl
    obtain ⟨u3, rfl⟩ := hr2 3 y3 rfl
    obtain ⟨u4, rfl⟩ := hr2 4 y4 rfl
    intro D3 h3 tk3 F3 N3 of3
    exact hQ _ _ _ _ _ _ _ _ F3 N3
end
end Mine
end
section
open PySem PySem.W PyProof.Rows PySem.Calls
set_option Elab.async false
set_option maxRecDepth 100000
namespace Mine
noncomputable def lawFor : Stmt := nthS (fBody (top 23)) 8
noncomputable def hourB (i : Nat) : List Stmt := (forBodyOf' lawFor).drop i
noncomputable def endS (t : Nat) : Str := match t % 3 with
  | 0 => Str.ofString "\r"
  | 1 => Str.ofString "\n"
  | _ => Str.ofString "\r\n"
noncomputable def SG : Str := Str.ofString ",;."
noncomputable def foldS (W0 W1 W2 W3 W4 : Str) (room width : Int) : St := runSt width SG ⟨[], room, []⟩ (chunks "" W0 [W1, W2, W3, W4])
noncomputable def foldT (W0 W1 W2 W3 W4 : Str) (room width : Int) (e : Str) : Str := Txt.join e ((foldS W0 W1 W2 W3 W4 room width).lines ++ [accStr (foldS W0 W1 W2 W3 W4 room width).ps])
theorem after_fold2 {b h9 h' : Heap} {L : Addr} {m : Str → Option Value} {news9 news' : List (Addr × Obj)} (F9 : Fr b L h9 m) (N9 : News b L h9 news9) (k : Kept [157, 164] h9 h') (t' : TabOk h') {a1 a2 : Obj} (h157 : (157, a1) ∈ news9) (h164 : (164, a2) ∈ news9)
    (hs : ∀ q ∈ news', q ∈ news9) (hne : ∀ q ∈ news', (q.1 : Addr) ≠ 157 ∧ (q.1 : Addr) ≠ 164) : ∃ o1 o2, Fr b L h' m ∧ News b L h' ((157, o1) :: (164, o2) :: news') := by
  obtain ⟨o1, o2, e1, d1, e2, d2⟩ := tab_objs t'
  have F10 := (called F9 k (fun a ha => by
    simp only [List.mem_cons, List.mem_nil_iff, or_false] at ha
    rcases ha with rfl | rfl
    · exact (N9 _ h157).2
    · exact (N9 _ h164).2) (news' := news') (fun q hq => ⟨k _ _ (N9 q (hs q hq)).1 (by have := hne q hq; simp [this]), (N9 q (hs q hq)).2⟩))
  exact ⟨o1, o2, F10.1, nw_cons ⟨e1, (N9 _ h157).2⟩ (nw_cons ⟨e2, (N9 _ h164).2⟩ F10.2)⟩
theorem end_at (t : Nat) (a b c : Tok) : ∃ te, (#[Value.str (Str.ofString "\r") a, .str (Str.ofString "\n") b, .str (Str.ofString "\r\n") c] : Array Value)[(Int.fmod (t : Int) 3).toNat]? = some (.str (endS t) te) := by
  have e : (Int.fmod (t : Int) 3).toNat = t % 3 := by
    rw [Int.fmod_eq_emod_of_nonneg _ (by decide)]; (first | lia | omega)
  rw [e]
  unfold endS
  have h3 : t % 3 < 3 := Nat.mod_lt _ (by decide)
  match h : t % 3, h3 with
  | 0, _ => exact ⟨a, rfl⟩
  | 1, _ => exact ⟨b, rfl⟩
  | 2, _ => exact ⟨c, rfl⟩
section
variable {w : World} {b : Heap} {L : Addr} {s : Shared} {Q : Flow → Shared → Prop} {mg mb m : Str → Option Value}
set_option maxHeartbeats 1000000 in
theorem hour_A {E I : Addr} {oI o157 o164 : Obj} {W0 W1 W2 W3 W4 : Str} {u0 u1 u2 u3 u4 th tr tw : Tok} {room width : Int} {t : Nat} {rest : List (Addr × Obj)} (X' : (KK w.params).In b) (T' : TR mg mb b) {bm : Addr} {ob : Obj} (BM : BMod b mainGlobals mg bm ob) (F : Fr b L s.heap m)
    (N : News b L s.heap ((I, oI) :: (E, LCg.lst [.str W0 u0, .str W1 u1, .str W2 u2, .str W3 u3, .str W4 u4]) :: (157, o157) :: (164, o164) :: rest)) (hTab : TabOk s.heap) (hI : ∀ q ∈ ((I, oI) :: rest), (q.1 : Addr) ≠ 157 ∧ (q.1 : Addr) ≠ 164)
    (hm1 : m (Str.ofString "hour") = some (.int (t : Int) th)) (hm2 : m (Str.ofString "words") = some (.ref E)) (hm3 : m (Str.ofString "room") = some (.int room tr)) (hm4 : m (Str.ofString "width") = some (.int width tw)) (ht : t ≤ 100)
    (l0 : W0.length ≤ 100) (l1 : W1.length ≤ 100) (l2 : W2.length ≤ 100) (l3 : W3.length ≤ 100) (l4 : W4.length ≤ 100)
    (hrun : okRun width SG ⟨[], room, []⟩ (chunks "" W0 [W1, W2, W3, W4])) (hend : okEnd (foldS W0 W1 W2 W3 W4 room width))
    (hQ : ∀ s' te tt p157 p164, Fr b L s'.heap (fun y => if y = Str.ofString "text" then some (.str (foldT W0 W1 W2 W3 W4 room width (endS t)) tt) else if y = Str.ofString "end" then some (.str (endS t) te) else m y) →
      News b L s'.heap ((157, p157) :: (164, p164) :: (I, oI) :: (E, LCg.lst [.str W0 u0, .str W1 u1, .str W2 u2, .str W3 u3, .str W4 u4]) :: rest) → TabOk s'.heap → s'.os = s.os → (AllBare s.gens → AllBare s'.gens) →
      wpAny (MM w) (AL L) (execs (hourB 2) (lawEnv L)) Q (fun _ _ => False) s') :
    wpAny (MM w) (AL L) (execs (hourB 0) (lawEnv L)) Q (fun _ _ => False) s := by
  have hb : 0 ≤ (t : Int) ∧ (t : Int) ≤ 100 := by (first | lia | omega)
  have XF := X'.keeps F.keep
  have n157 := (N (157, o157) (by k_mem)).1
  have n164 := (N (164, o164) (by k_mem)).1
  iterate 16 walk1
  rename_i h2 F2 N2 lt2
  obtain ⟨te, hte⟩ := end_at t s.toks (s.toks + 1) (s.toks + 1 + 1)
  have fm : 0 ≤ Int.fmod (t : Int) 3 ∧ Int.fmod (t : Int) 3 < 3 := by
    rw [Int.fmod_eq_emod_of_nonneg _ (by decide)]; (first | lia | omega)
  refine item_listR (x := .str (endS t) te) ⟨_, (N2 _ (List.mem_cons_self ..)).1, rfl, _, rfl⟩ fm.1 (by (first | lia | omega)) hte ?_
  iterate 21 walk1
  rename_i h9 F9 N9
  have tab9 : TabOk h9 := tab_of XF (X'.keeps F9.keep) hTab (fun o e => by rw [n157] at e; cases e; exact (N9 (157, o157) (by k_mem)).1) (fun o e => by rw [n164] at e; cases e; exact (N9 (164, o164) (by k_mem)).1)
  have hE9 := N9 (E, LCg.lst [.str W0 u0, .str W1 u1, .str W2 u2, .str W3 u3, .str W4 u4]) (by k_mem)
  have nE := tab_ne tab9 hE9.1 (fun _ e => by cases e)
  refine wpAny_call (folded_spec (lw := E) (w0 := W0) (t0 := u0) (wv := [(W1, u1), (W2, u2), (W3, u3), (W4, u4)]) (wn := 5) (signs := SG) (blank := "") (sep := endS t) X' T' BM F9.keep hE9.1 hE9.2.2 (N9 (157, o157) (by k_mem)).2.2 (N9 (164, o164) (by k_mem)).2.2 (by rw [depth_deeper]; decide) rfl (by rw [units_deeper]; decide) tab9 (by (first | lia | omega)) ?wvl (by show 4 ≤ 900; decide) (by decide +kernel) ?lsep hrun hend (fun s' t' k' tab' os' gs' => ?_))
  case wvl =>
    intro q hq
    simp only [List.mem_cons, List.mem_nil_iff, or_false] at hq
    rcases hq with rfl | rfl | rfl | rfl
    all_goals dsimp only; (first | lia | omega)
  case lsep =>
    unfold endS
    split <;> decide
  obtain ⟨p1, p2, F10, N10⟩ := after_fold2 F9 N9 k' tab' (a1 := o157) (a2 := o164) (by k_mem) (by k_mem) (news' := (I, oI) :: (E, LCg.lst [.str W0 u0, .str W1 u1, .str W2 u2, .str W3 u3, .str W4 u4]) :: rest) (fun q hq => by
    rcases List.mem_cons.mp hq with rfl | hq
    · k_mem
    · rcases List.mem_cons.mp hq with rfl | hq
      · k_mem
      · exact .tail _ (.tail _ (.tail _ (.tail _ (.tail _ hq))))) (fun q hq => by
    rcases List.mem_cons.mp hq with rfl | hq
    · exact hI _ (List.mem_cons_self ..)
    · rcases List.mem_cons.mp hq with rfl | hq
      · exact nE
      · exact hI q (List.mem_cons_of_mem _ hq))
  clear F9 N9
  have X10 := X'.keeps F10.keep
  have q157 := (N10 (157, p1) (by k_mem)).1
  have q164 := (N10 (164, p2) (by k_mem)).1
  dsimp only
  walk1
  rename_i h11 F11 N11
  have tab11 : TabOk h11 := tab_of X10 (X'.keeps F11.keep) tab' (fun o e => by rw [q157] at e; cases e; exact (N11 (157, p1) (by k_mem)).1) (fun o e => by rw [q164] at e; cases e; exact (N11 (164, p2) (by k_mem)).1)
  exact hQ { s' with heap := h11, toks := s'.toks + 1 } te t' p1 p2 F11 N11 tab11 os' gs'
set_option maxHeartbeats 1000000 in
theorem hour_B {E I C D : Addr} {oI oE p157 p164 o1 o2 o3 : Obj} {T : Str} {f0 f1 f2 f3 f4 c0 c1 c2 c3 c4 : Int} {t0 t1 t2 t3 t4 v0 v1 v2 v3 v4 th te tt : Tok} {t : Nat} (X' : (KK w.params).In b) (T' : TR mg mb b) (F : Fr b L s.heap m)
    (N : News b L s.heap [(157, p157), (164, p164), (I, oI), (E, oE), (C, LCg.lst [.int c0 v0, .int c1 v1, .int c2 v2, .int c3 v3, .int c4 v4]), (D, LCg.lst [.int f0 t0, .int f1 t1, .int f2 t2, .int f3 t3, .int f4 t4]), (L + 1 + 1 + 1, o1), (L + 1 + 1, o2), (L + 1, o3)]) (d2 : o2.data = .cell (some (.ref D))) (hDC : D ≠ C)
    (hm1 : m (Str.ofString "hour") = some (.int (t : Int) th)) (hm2 : m (Str.ofString "comes") = some (.ref C)) (hm3 : m (Str.ofString "text") = some (.str T tt)) (hm4 : m (Str.ofString "end") = some (.str (endS t) te)) (ht : t ≤ 100)
    (hb : ∀ k < 5, 0 ≤ ([f0, f1, f2, f3, f4] : List Int).getD k 0 ∧ ([f0, f1, f2, f3, f4] : List Int).getD k 0 ≤ 100)
    (hT : T = toldTo [f0, f1, f2, f3, f4] [c0, c1, c2, c3, c4] t (endS t) 4)
    (hQ : ∀ h' tk, Fr b L h' m → News b L h' [(157, p157), (164, p164), (I, oI), (E, oE), (C, LCg.lst [.int c0 v0, .int c1 v1, .int c2 v2, .int c3 v3, .int c4 v4]), (D, LCg.lst [.int f0 t0, .int f1 t1, .int f2 t2, .int f3 t3, .int f4 t4]), (L + 1 + 1 + 1, o1), (L + 1 + 1, o2), (L + 1, o3)] →
      wpAny (MM w) (AL L) (execs (hourB 3) (lawEnv L)) Q (fun _ _ => False) { s with heap := h', toks := tk }) :
    wpAny (MM w) (AL L) (execs (hourB 2) (lawEnv L)) Q (fun _ _ => False) s := by
  iterate 17 walk1
  have eD := N (D, LCg.lst [.int f0 t0, .int f1 t1, .int f2 t2, .int f3 t3, .int f4 t4]) (by k_mem)
  have eC := N (C, LCg.lst [.int c0 v0, .int c1 v1, .int c2 v2, .int c3 v3, .int c4 v4]) (by k_mem)
  have le : (endS t).length ≤ 10 := by unfold endS; split <;> decide
  refine wpAny_call (told_spec (fa := D) (ca := C) (fn := 5) (cn := 5) (fv := [.int f0 t0, .int f1 t1, .int f2 t2, .int f3 t3, .int f4 t4]) (cv := [.int c0 v0, .int c1 v1, .int c2 v2, .int c3 v3, .int c4 v4]) (f := [f0, f1, f2, f3, f4]) (c := [c0, c1, c2, c3, c4]) X' T' F.keep (by rw [depth_deeper]; decide) rfl eD.1 eC.1 eD.2.2 eC.2.2 hDC (.cons _ _ (.cons _ _ (.cons _ _ (.cons _ _ (.cons _ _ .nil))))) (.cons _ _ (.cons _ _ (.cons _ _ (.cons _ _ (.cons _ _ .nil))))) rfl rfl hb (by (first | lia | omega)) le (fun h5 tk5 t5 k5 => ?_))
  obtain ⟨F5, N5⟩ := calledN (Wc := []) F N k5 (fun a h => nomatch h) [] _ (fun q h => nomatch h) (fun q hq => ⟨hq, fun z => nomatch z⟩)
  clear F N k5 eD eC hb
  dsimp only
  rw [← hT]
  iterate 2 walk1
  refine ite_neg (by simp) ?_
  refine wpAny_execs_nil ?_
  exact hQ _ _ F5 N5
end
end Mine
end
section
open PySem PySem.W PyProof.Rows PySem.Calls
set_option Elab.async false
set_option maxRecDepth 100000
namespace Mine
noncomputable def tl2 : Option (List Nat × List Nat) → List Nat
  | none => []
  | some (_, r2) => 46 :: r2
noncomputable def rp (n : Int) : List Nat := List.replicate n.toNat 46
theorem six_of {l : List (Str × Tok)} {x : Str} {n0 n1 n2 n3 n4 : Int} (e : l.map (fun y => y.1) = Txt.split x (Str.ofString ";")) (hx : x.cps.toList = joinC 59 [rp n0, rp n1, rp n2, rp n3, rp n4, []]) :
    ∃ t0 t1 t2 t3 t4 t5, l = [(Txt.mul "." n0, t0), (Txt.mul "." n1, t1), (Txt.mul "." n2, t2), (Txt.mul "." n3, t3), (Txt.mul "." n4, t4), ((Str.ofString ""), t5)] := by
  have h := split_eq x 59 [rp n0, rp n1, rp n2, rp n3, rp n4, []] (by simp) (fun p hp => by
    have key : ∀ n : Int, 59 ∉ rp n := fun n z => by
      have := (List.mem_replicate.mp z).2
      cases this
    simp only [List.mem_cons, List.mem_nil_iff, or_false] at hp
    rcases hp with rfl | rfl | rfl | rfl | rfl | rfl
    · exact key _
    · exact key _
    · exact key _
    · exact key _
    · exact key _
    · simp) hx
  rw [show (⟨#[59]⟩ : Str) = Str.ofString ";" from rfl, ← e] at h
  have ex : ∀ (q : Str × Tok) (n : Int), q.1.cps.toList = rp n → q = (Txt.mul "." n, q.2) := fun q n hq => by
    have : q.1 = Txt.mul "." n := str_ext (by rw [hq, mul_list]; rfl)
    rw [← this]
  have h6 : l.length = 6 := by
    have := congrArg List.length h
    simpa using this
  match l, h6, h with
  | [q0, q1, q2, q3, q4, q5], _, h =>
    simp only [List.map_cons, List.map_nil, List.cons.injEq, and_true] at h
    refine ⟨q0.2, q1.2, q2.2, q3.2, q4.2, q5.2, ?_⟩
    rw [← ex q0 n0 h.1, ← ex q1 n1 h.2.1, ← ex q2 n2 h.2.2.1, ← ex q3 n3 h.2.2.2.1, ← ex q4 n4 h.2.2.2.2.1]
    have : q5 = ((Str.ofString ""), q5.2) := by
      have : q5.1 = Str.ofString "" := str_ext (by rw [h.2.2.2.2.2]; rfl)
      rw [← this]
    rw [← this]
theorem row_no13 {r : List Nat} (h : IsRow r) : 13 ∉ r := fun z => by
  rcases h.all _ z with e | e <;> cases e
theorem repl_rows {v : Str} {r1 : List Nat} {o : Option (List Nat × List Nat)} {J : List Nat} (hr : RowsOk r1 o) (hv : v.cps.toList = twoRows (46 :: r1) (dotted o)) (hN : 46 :: (r1 ++ tl2 o) = J) : (Txt.replace v (Str.ofString "\r\n") (Str.ofString "")).cps.toList = J := by
  have n1 : 13 ∉ 46 :: r1 := fun z => by
    rcases List.mem_cons.mp z with e | e
    · cases e
    · exact row_no13 hr.h1 e
  rw [show Str.ofString "" = Str.empty from rfl, show Str.ofString "\r\n" = (⟨#[13, 10]⟩ : Str) from rfl, ← hN]
  cases o with
  | none =>
    rw [replace_no v (by rw [hv]; exact n1), hv]
    simp [twoRows, dotted, tl2]
  | some q =>
    obtain ⟨e, r2⟩ := q
    have h2 := (hr.h2 e r2 rfl).2
    rw [replace_pair v (46 :: r1) (46 :: r2) n1 (fun z => by
      rcases List.mem_cons.mp z with e | e
      · cases e
      · exact row_no13 h2 e) (by rw [hv]; rfl)]
    rfl
section
variable {w : World} {b : Heap} {L : Addr} {s : Shared} {Q : Flow → Shared → Prop} {mg mb m : Str → Option Value}
set_option maxHeartbeats 1000000 in
theorem hour_C {E I C D : Addr} {oI oE oC oD p157 p164 o1 o2 o3 : Obj} {T : Str} {n0 n1 n2 n3 n4 : Int} {tt : Tok} {r1 : List Nat} {o : Option (List Nat × List Nat)} (X' : (KK w.params).In b) (T' : TR mg mb b) (F : Fr b L s.heap m)
    (N : News b L s.heap [(157, p157), (164, p164), (I, oI), (E, oE), (C, oC), (D, oD), (L + 1 + 1 + 1, o1), (L + 1 + 1, o2), (L + 1, o3)])
    (hm3 : m (Str.ofString "text") = some (.str T tt)) (hr : RowsOk r1 o) (hT : T.cps.toList = twoRows r1 o) (hN : 46 :: (r1 ++ tl2 o) = joinC 59 [rp n0, rp n1, rp n2, rp n3, rp n4, []]) (b0 : n0 ≤ 200) (b1 : n1 ≤ 200) (b2 : n2 ≤ 200) (b3 : n3 ≤ 200) (b4 : n4 ≤ 200)
    (hQ : ∀ h' tk E' u0 u1 u2 u3 u4, Fr b L h' (fun y => if y = Str.ofString "words" then some (.ref E') else m y) → News b L h' [(E', LCg.lst [.str (wS n0) u0, .str (wS n1) u1, .str (wS n2) u2, .str (wS n3) u3, .str (wS n4) u4]), (157, p157), (164, p164), (I, oI), (C, oC), (D, oD), (L + 1 + 1 + 1, o1), (L + 1 + 1, o2), (L + 1, o3)] →
      Q .next { s with heap := h', toks := tk }) :
    wpAny (MM w) (AL L) (execs (hourB 3) (lawEnv L)) Q (fun _ _ => False) s := by
  walk1
  refine LCg.Assign_ListComp_U (F₀ := F) (by rfl) (by with_unfolding_all rfl) (by rfl) (by decide) (by rfl) (by decide) (by rfl) (by rfl) (by rfl) ?_
  iterate 10 walk1
  refine wpAny_call (quote_spec (d := T) (r1 := r1) (o := o) X' T' F.keep (by rw [depth_deeper]; decide) hr hT (fun v t5 h5 tk5 tp5 hv k5 => ?_))
  obtain ⟨F5, N5⟩ := calledN (Wc := []) F N k5 (fun a h => nomatch h) [] _ (fun q h => nomatch h) (fun q hq => ⟨hq, fun z => nomatch z⟩)
  clear F N k5
  have lv : v.length ≤ 4100 := by
    rw [len_list, hv]
    have hz := hr.hz
    cases o with
    | none => simp only [twoRows, dotted, List.length_cons] at hz ⊢; (first | lia | omega)
    | some q =>
      obtain ⟨e, r2⟩ := q
      simp only [twoRows, dotted, List.length_cons, List.length_append, List.length_nil] at hz ⊢; (first | lia | omega)
  have eN : (Txt.replace v (Str.ofString "\r\n") (Str.ofString "")).cps.toList = joinC 59 [rp n0, rp n1, rp n2, rp n3, rp n4, []] := repl_rows hr hv hN
  dsimp only
  iterate 7 walk1
  refine SC.replaceW (Nat.pos_iff_ne_zero.mp tp5) (Nat.succ_ne_zero _) (Nat.ne_of_lt (Nat.lt_succ_self _)) (by decide) (Nat.le_trans lv (by decide)) (by decide) (fun t6 tk6 => ?_)
  have lx : (Txt.replace v (Str.ofString "\r\n") (Str.ofString "")).length ≤ 4200 := by
    have hz := hr.hz
    rw [len_list, eN, ← hN]
    cases o with
    | none => simp only [tl2, twoRows, List.length_cons, List.length_append, List.length_nil] at hz ⊢; (first | lia | omega)
    | some q =>
      obtain ⟨e, r2⟩ := q
      simp only [tl2, twoRows, List.length_cons, List.length_append, List.length_nil] at hz ⊢; (first | lia | omega)
  generalize Txt.replace v (Str.ofString "\r\n") (Str.ofString "") = x at eN lx ⊢
  clear hv lv hr hT hN
  dsimp only
  iterate 15 walk1
  rename_i l9 h8 k8 hl9 _ _ _ _ _ h9 F9 N9
  obtain ⟨a0, a1, a2, a3, a4, a5, rfl⟩ := six_of hl9 eN
  have e5 : slicePick (strValues [(Txt.mul "." n0, a0), (Txt.mul "." n1, a1), (Txt.mul "." n2, a2), (Txt.mul "." n3, a3), (Txt.mul "." n4, a4), ((Str.ofString ""), a5)]).toArray none (some (-1)) none = #[.str (Txt.mul "." n0) a0, .str (Txt.mul "." n1) a1, .str (Txt.mul "." n2) a2, .str (Txt.mul "." n3) a3, .str (Txt.mul "." n4) a4] := by
    rw [show (-1 : Int) = -((1 : Nat) : Int) by decide, slicePick_butLast _ 1 (Nat.le_refl 1)]
    rfl
  rw [e5] at N9
  clear e5 hl9 eN
  dsimp only
  refine LCg.CompSrc.ledger (by rfl) F9 N9 (List.mem_cons_self ..) (by first | size_fits | exact Nat.le_of_ble_eq_true rfl) ?_
  intro g2
  dsimp only
  refine comp_gen (β := Str) (Rel := fun y x => ∃ t, y = .str x t) (F := fun i => wS ([n0, n1, n2, n3, n4].getD i 0)) 5 (.inr ⟨_, List.mem_cons_self .., rfl, _, rfl⟩) ?_ ?_
  · intro i v I oI C2 oC2 D2 ys m₂ h tk E' hi hv hC hx F' N'
    obtain ⟨nn, t, rfl, hnn, en⟩ : ∃ nn t, v = .str (Txt.mul "." nn) t ∧ nn ≤ 200 ∧ wS ([n0, n1, n2, n3, n4].getD i 0) = Txt.mul "." nn ++ ";" := by
      rcases i with _ | _ | _ | _ | _ | i
      · exact ⟨_, _, (Option.some.inj hv).symm, b0, rfl⟩
      · exact ⟨_, _, (Option.some.inj hv).symm, b1, rfl⟩
      · exact ⟨_, _, (Option.some.inj hv).symm, b2, rfl⟩
      · exact ⟨_, _, (Option.some.inj hv).symm, b3, rfl⟩
      · exact ⟨_, _, (Option.some.inj hv).symm, b4, rfl⟩
      · (first | lia | omega)
    rw [en]
    clear en hv F9 N9 b0 b1 b2 b3 b4
    have lw : (Txt.mul "." nn).length ≤ 200 := by rw [mul_len]; (first | lia | omega)
    iterate 4 walk1

    exact ⟨_, _, rfl, F', N', _, rfl⟩
  · intro ys hl2 hr2
    obtain ⟨y0, y1, y2, y3, y4, rfl⟩ := five_of hl2
    obtain ⟨u0, rfl⟩ := hr2 0 y0 rfl
    obtain ⟨u1, rfl⟩ := hr2 1 y1 rfl
    obtain ⟨u2, rfl⟩ := hr2 2 y2 rfl
    obtain ⟨u3, rfl⟩ := hr2 3 y3 rfl
    obtain ⟨u4, rfl⟩ := hr2 4 y4 rfl
    intro D3 h3 tk3 F3 N3 of3
    clear hr2 hl2 of3 F9 N9
    refine wpAny_execs_nil ?_
    refine hQ _ _ D3 u0 u1 u2 u3 u4 F3 ?_
    repeat (first | exact nw_nil | refine nw_sub N3 (by k_mem) ?_)
end
end Mine
end
section
open PySem PySem.W PyProof.Rows PySem.Calls
set_option Elab.async false
set_option maxRecDepth 100000
namespace Mine
/-- what an hour has to be: its rows are the told ones, and the next words come of them -/
structure HourOk (f0 f1 f2 f3 f4 c0 c1 c2 c3 c4 room width : Int) (t : Nat) (p0 p1 p2 p3 p4 q0 q1 q2 q3 q4 : Int) : Prop where
  run : okRun width SG ⟨[], room, []⟩ (chunks "" (wS p0) [wS p1, wS p2, wS p3, wS p4])
  fin : okEnd (foldS (wS p0) (wS p1) (wS p2) (wS p3) (wS p4) room width)
  told : foldT (wS p0) (wS p1) (wS p2) (wS p3) (wS p4) room width (endS t) = toldTo [f0, f1, f2, f3, f4] [c0, c1, c2, c3, c4] t (endS t) 4
  next : ∃ r1 o, RowsOk r1 o ∧ (foldT (wS p0) (wS p1) (wS p2) (wS p3) (wS p4) room width (endS t)).cps.toList = twoRows r1 o ∧ 46 :: (r1 ++ tl2 o) = joinC 59 [rp q0, rp q1, rp q2, rp q3, rp q4, []]
  bp : p0 ≤ 90 ∧ p1 ≤ 90 ∧ p2 ≤ 90 ∧ p3 ≤ 90 ∧ p4 ≤ 90
  bq : q0 ≤ 90 ∧ q1 ≤ 90 ∧ q2 ≤ 90 ∧ q3 ≤ 90 ∧ q4 ≤ 90
section
variable {w : World} {b : Heap} {L : Addr} {s : Shared} {Q : Flow → Shared → Prop} {mg mb m : Str → Option Value}
set_option maxHeartbeats 1000000 in
theorem law_6 {E C D : Addr} {o157 o164 o1 o2 o3 : Obj} {f0 f1 f2 f3 f4 c0 c1 c2 c3 c4 room width : Int} {u0 u1 u2 u3 u4 t0 t1 t2 t3 t4 v0 v1 v2 v3 v4 tr tw : Tok} {cnt : Nat} {n0 n1 n2 n3 n4 : Nat → Int} (X' : (KK w.params).In b) (T' : TR mg mb b) {bm : Addr} {ob : Obj} (BM : BMod b mainGlobals mg bm ob) (F : Fr b L s.heap m)
    (N : News b L s.heap [(E, LCg.lst [.str (wS (n0 0)) u0, .str (wS (n1 0)) u1, .str (wS (n2 0)) u2, .str (wS (n3 0)) u3, .str (wS (n4 0)) u4]), (C, LCg.lst [.int c0 v0, .int c1 v1, .int c2 v2, .int c3 v3, .int c4 v4]), (D, LCg.lst [.int f0 t0, .int f1 t1, .int f2 t2, .int f3 t3, .int f4 t4]), (L + 1 + 1 + 1, o1), (L + 1 + 1, o2), (L + 1, o3), (157, o157), (164, o164)]) (hTab : TabOk s.heap) (d2 : o2.data = .cell (some (.ref D))) (hDC : D ≠ C)
    (nL : ∀ i, i ≤ 3 → (157 : Nat) ≠ L + i ∧ (164 : Nat) ≠ L + i)
    (hm1 : m (Str.ofString "words") = some (.ref E)) (hm2 : m (Str.ofString "comes") = some (.ref C)) (hm3 : m (Str.ofString "room") = some (.int room tr)) (hm4 : m (Str.ofString "width") = some (.int width tw)) (hc1 : c1 + 1 = (cnt : Int)) (hcnt : 0 < cnt) (hcn : cnt ≤ 90)
    (hb : ∀ k < 5, 0 ≤ ([f0, f1, f2, f3, f4] : List Int).getD k 0 ∧ ([f0, f1, f2, f3, f4] : List Int).getD k 0 ≤ 100)
    (H : ∀ t < cnt, HourOk f0 f1 f2 f3 f4 c0 c1 c2 c3 c4 room width t (n0 t) (n1 t) (n2 t) (n3 t) (n4 t) (n0 (t + 1)) (n1 (t + 1)) (n2 (t + 1)) (n3 (t + 1)) (n4 (t + 1)))
    (hQ : ∀ s' m' E' tt p157 p164 u0 u1 u2 u3 u4, Fr b L s'.heap m' → News b L s'.heap [(E', LCg.lst [.str (wS (n0 cnt)) u0, .str (wS (n1 cnt)) u1, .str (wS (n2 cnt)) u2, .str (wS (n3 cnt)) u3, .str (wS (n4 cnt)) u4]), (D, LCg.lst [.int f0 t0, .int f1 t1, .int f2 t2, .int f3 t3, .int f4 t4]), (L + 1 + 1 + 1, o1), (L + 1 + 1, o2), (L + 1, o3), (157, p157), (164, p164)] → TabOk s'.heap → s'.os = s.os → (AllBare s.gens → AllBare s'.gens) →
      m' (Str.ofString "words") = some (.ref E') → m' (Str.ofString "room") = some (.int room tr) → m' (Str.ofString "width") = some (.int width tw) →
      m' (Str.ofString "text") = some (.str (foldT (wS (n0 (cnt - 1))) (wS (n1 (cnt - 1))) (wS (n2 (cnt - 1))) (wS (n3 (cnt - 1))) (wS (n4 (cnt - 1))) room width (endS (cnt - 1))) tt) →
      wpAny (MM w) (AL L) (execs (lawB 9) (lawEnv L)) Q (fun _ _ => False) s') :
    wpAny (MM w) (AL L) (execs (lawB 8) (lawEnv L)) Q (fun _ _ => False) s := by
  have XF := X'.keeps F.keep
  have n157 := (N (157, o157) (by k_mem)).1
  have n164 := (N (164, o164) (by k_mem)).1
  walk1
  refine wpAny_For ?_ (fun _ => rfl)
  iterate 13 walk1
  rename_i h3 tk3 ra rb rc hr3 F3 N3 k3
  have ec : ([c0, c1, c2, c3, c4] : List Int).getD (Int.toNat 1) 0 + 1 = (cnt : Int) := hc1
  rw [ec] at hr3
  clear ec k3
  refine wpAny_pyIter_range hr3 (small_one (by decide) (by decide) (by (first | lia | omega)) (by (first | lia | omega))) ?_
  rw [show Builtin.Range.rangeSize 0 (cnt : Int) 1 = (cnt : Int) by rw [rangeSize_one]; (first | lia | omega)]
  obtain ⟨I2, hI2⟩ : ∃ I2, I2 = h3.objs.size := ⟨_, rfl⟩
  have nI2 : h3.get? I2 = none := by rw [hI2]; exact get_size_none _
  obtain ⟨F4, N4⟩ := grown (l := I2) (lo := rIt ((0 : Nat) : Int) (cnt : Int)) F3 N3 (fun a o e => Heap.get?_push_of_some _ e) (by rw [hI2]; exact Heap.get?_push_size _ rfl) nI2
  dsimp only
  rw [← hI2]
  have nf : ∀ (a : Addr) (o : Obj), h3.get? a = some o → a ≠ I2 := fun a o e z => by rw [z, nI2] at e; cases e
  have nC := nf _ _ (N3 (C, LCg.lst [.int c0 v0, .int c1 v1, .int c2 v2, .int c3 v3, .int c4 v4]) (by k_mem)).1
  have nD := nf _ _ (N3 (D, LCg.lst [.int f0 t0, .int f1 t1, .int f2 t2, .int f3 t3, .int f4 t4]) (by k_mem)).1
  have nl1 := nf _ _ (N3 (L + 1, o3) (by k_mem)).1
  have nl2 := nf _ _ (N3 (L + 1 + 1, o2) (by k_mem)).1
  have nl3 := nf _ _ (N3 (L + 1 + 1 + 1, o1) (by k_mem)).1
  have nt1 := nf _ _ (N3 (157, o157) (by k_mem)).1
  have nt2 := nf _ _ (N3 (164, o164) (by k_mem)).1
  have tab3 : TabOk h3 := tab_of XF (X'.keeps F3.keep) hTab (fun o e => by rw [n157] at e; cases e; exact (N3 (157, o157) (by k_mem)).1) (fun o e => by rw [n164] at e; cases e; exact (N3 (164, o164) (by k_mem)).1)
  have cC := tab_ne tab3 (N3 (C, LCg.lst [.int c0 v0, .int c1 v1, .int c2 v2, .int c3 v3, .int c4 v4]) (by k_mem)).1 (fun _ e => by cases e)
  have cD := tab_ne tab3 (N3 (D, LCg.lst [.int f0 t0, .int f1 t1, .int f2 t2, .int f3 t3, .int f4 t4]) (by k_mem)).1 (fun _ e => by cases e)
  have X3 := X'.keeps F3.keep
  have e157 := (N3 (157, o157) (by k_mem)).1
  have e164 := (N3 (164, o164) (by k_mem)).1
  have tab4 : TabOk (h3.push { cls := .type "range_iterator", data := .fields #[rawInt 0, rawInt (cnt : Int), rawInt 1] }) := tab_of X3 (X3.keeps fun a o e => Heap.get?_push_of_some _ e) tab3 (fun o e => Heap.get?_push_of_some _ e) (fun o e => Heap.get?_push_of_some _ e)
  have N5 : News b L (h3.push { cls := .type "range_iterator", data := .fields #[rawInt 0, rawInt (cnt : Int), rawInt 1] }) [(E, LCg.lst [.str (wS (n0 0)) u0, .str (wS (n1 0)) u1, .str (wS (n2 0)) u2, .str (wS (n3 0)) u3, .str (wS (n4 0)) u4]), (157, o157), (164, o164), (I2, rIt ((0 : Nat) : Int) (cnt : Int)), (C, LCg.lst [.int c0 v0, .int c1 v1, .int c2 v2, .int c3 v3, .int c4 v4]), (D, LCg.lst [.int f0 t0, .int f1 t1, .int f2 t2, .int f3 t3, .int f4 t4]), (L + 1 + 1 + 1, o1), (L + 1 + 1, o2), (L + 1, o3)] := by
    repeat (first | exact nw_nil | refine nw_sub N4 (by k_mem) ?_)
  clear N4 N3 F3 hr3 hI2 nI2 nf X3
  refine loopF (fun mm s' => Ex10 fun (m' : Str → Option Value) (j : Nat) (E' : Addr) (p157 p164 : Obj) (u0 u1 u2 u3 u4 : Tok) => A11 (j + mm = cnt) (Fr b L s'.heap m') (News b L s'.heap [(E', LCg.lst [.str (wS (n0 j)) u0, .str (wS (n1 j)) u1, .str (wS (n2 j)) u2, .str (wS (n3 j)) u3, .str (wS (n4 j)) u4]), (157, p157), (164, p164), (I2, rIt (j : Int) (mm : Int)), (C, LCg.lst [.int c0 v0, .int c1 v1, .int c2 v2, .int c3 v3, .int c4 v4]), (D, LCg.lst [.int f0 t0, .int f1 t1, .int f2 t2, .int f3 t3, .int f4 t4]), (L + 1 + 1 + 1, o1), (L + 1 + 1, o2), (L + 1, o3)]) (TabOk s'.heap) (s'.os = s.os) (AllBare s.gens → AllBare s'.gens) (m' (Str.ofString "words") = some (.ref E')) (m' (Str.ofString "comes") = some (.ref C)) (m' (Str.ofString "room") = some (.int room tr)) (m' (Str.ofString "width") = some (.int width tw)) (0 < j → ∃ tt, m' (Str.ofString "text") = some (.str (foldT (wS (n0 (j - 1))) (wS (n1 (j - 1))) (wS (n2 (j - 1))) (wS (n3 (j - 1))) (wS (n4 (j - 1))) room width (endS (j - 1))) tt))) (fun mm s' hJ JN hJN => ?_) cnt
    ⟨m, 0, E, o157, o164, u0, u1, u2, u3, u4, by (first | lia | omega), F4, N5, tab4, rfl, id, hm1, hm2, hm3, hm4, fun z => absurd z (Nat.lt_irrefl _)⟩
  clear F4 N5 tab4 hm1 hm2 hm3 hm4 tab3 e157 e164
  obtain ⟨m', j, E', p157, p164, u0, u1, u2, u3, u4, hj, F', N', tab', os', gs', hm1, hm2, hm3, hm4, hm5⟩ := hJ
  have hit' : IsRangeIter s'.heap I2 (j : Int) (mm : Int) 1 := (N' (I2, rIt (j : Int) (mm : Int)) (by k_mem)).1
  have nE : E' ≠ I2 := fun z => by
    have e1 := (N' (E', LCg.lst [.str (wS (n0 j)) u0, .str (wS (n1 j)) u1, .str (wS (n2 j)) u2, .str (wS (n3 j)) u3, .str (wS (n4 j)) u4]) (by k_mem)).1
    have e2 := (N' (I2, rIt (j : Int) (mm : Int)) (by k_mem)).1
    rw [z] at e1
    dsimp only at e1 e2
    rw [e1] at e2
    have z2 := congrArg (fun o : Option Obj => o.map (·.cls)) e2
    simp at z2
  have iI2 := (N' (I2, rIt (j : Int) (mm : Int)) (by k_mem)).2
  cases mm with
  | zero =>
    refine wpAny_pyNext_range_end rfl hit' (by (first | lia | omega)) (fun h5 hx5 => ?_)
    obtain rfl : j = cnt := by (first | lia | omega)
    have kp : ∀ (p : Addr × Obj), p ∈ [(E', LCg.lst [.str (wS (n0 j)) u0, .str (wS (n1 j)) u1, .str (wS (n2 j)) u2, .str (wS (n3 j)) u3, .str (wS (n4 j)) u4]), (157, p157), (164, p164), (I2, rIt (j : Int) ((0 : Nat) : Int)), (C, LCg.lst [.int c0 v0, .int c1 v1, .int c2 v2, .int c3 v3, .int c4 v4]), (D, LCg.lst [.int f0 t0, .int f1 t1, .int f2 t2, .int f3 t3, .int f4 t4]), (L + 1 + 1 + 1, o1), (L + 1 + 1, o2), (L + 1, o3)] → p.1 ≠ I2 → h5.get? p.1 = some p.2 ∧ p.1 ≠ L ∧ b.get? p.1 = none := fun p hp hne => ⟨hx5 _ _ hne (N' p hp).1, (N' p hp).2⟩
    obtain ⟨F5, N5⟩ := called (W := [I2]) (news' := [(E', LCg.lst [.str (wS (n0 j)) u0, .str (wS (n1 j)) u1, .str (wS (n2 j)) u2, .str (wS (n3 j)) u3, .str (wS (n4 j)) u4]), (D, LCg.lst [.int f0 t0, .int f1 t1, .int f2 t2, .int f3 t3, .int f4 t4]), (L + 1 + 1 + 1, o1), (L + 1 + 1, o2), (L + 1, o3), (157, p157), (164, p164)]) F' (fun a o e q => hx5 a o (by simpa using q) e) (fun a q => by
      obtain rfl : a = I2 := by simpa using q
      exact iI2) (by
      refine List.forall_mem_cons.mpr ⟨kp _ (by k_mem) nE, List.forall_mem_cons.mpr ⟨kp _ (by k_mem) nD, List.forall_mem_cons.mpr ⟨kp _ (by k_mem) nl3, List.forall_mem_cons.mpr ⟨kp _ (by k_mem) nl2, List.forall_mem_cons.mpr ⟨kp _ (by k_mem) nl1, List.forall_mem_cons.mpr ⟨kp _ (by k_mem) nt1, List.forall_mem_cons.mpr ⟨kp _ (by k_mem) nt2, List.forall_mem_nil _⟩⟩⟩⟩⟩⟩⟩)
    have tab5 : TabOk h5 := tab_of (X'.keeps F'.keep) (X'.keeps F5.keep) tab' (fun o e => hx5 _ _ nt1 e) (fun o e => hx5 _ _ nt2 e)
    obtain ⟨tt, hm5⟩ := hm5 hcnt
    dsimp only
    refine wpAny_execs_nil ?_
    exact hQ { s' with heap := h5 } m' E' tt p157 p164 u0 u1 u2 u3 u4 F5 N5 tab5 os' gs' hm1 hm3 hm4 hm5
  | succ mm =>
    refine wpAny_pyNext_range_item hit' (by (first | lia | omega)) (fun h5 hit5 hx5 => ?_)
    have hx5 := hx5.extBut
    have e1 : (j : Int) + 1 = ((j + 1 : Nat) : Int) := by (first | lia | omega)
    have e2 : ((mm + 1 : Nat) : Int) - 1 = (mm : Int) := by (first | lia | omega)
    rw [e1, e2] at hit5
    have kp : ∀ (p : Addr × Obj), p ∈ [(E', LCg.lst [.str (wS (n0 j)) u0, .str (wS (n1 j)) u1, .str (wS (n2 j)) u2, .str (wS (n3 j)) u3, .str (wS (n4 j)) u4]), (157, p157), (164, p164), (I2, rIt (j : Int) ((mm + 1 : Nat) : Int)), (C, LCg.lst [.int c0 v0, .int c1 v1, .int c2 v2, .int c3 v3, .int c4 v4]), (D, LCg.lst [.int f0 t0, .int f1 t1, .int f2 t2, .int f3 t3, .int f4 t4]), (L + 1 + 1 + 1, o1), (L + 1 + 1, o2), (L + 1, o3)] → p.1 ≠ I2 → h5.get? p.1 = some p.2 ∧ p.1 ≠ L ∧ b.get? p.1 = none := fun p hp hne => ⟨hx5 _ _ hne (N' p hp).1, (N' p hp).2⟩
    obtain ⟨F5, N5⟩ := called (W := [I2]) (news' := [(I2, rIt ((j + 1 : Nat) : Int) (mm : Int)), (E', LCg.lst [.str (wS (n0 j)) u0, .str (wS (n1 j)) u1, .str (wS (n2 j)) u2, .str (wS (n3 j)) u3, .str (wS (n4 j)) u4]), (157, p157), (164, p164), (C, LCg.lst [.int c0 v0, .int c1 v1, .int c2 v2, .int c3 v3, .int c4 v4]), (D, LCg.lst [.int f0 t0, .int f1 t1, .int f2 t2, .int f3 t3, .int f4 t4]), (L + 1 + 1 + 1, o1), (L + 1 + 1, o2), (L + 1, o3)]) F' (fun a o e q => hx5 a o (by simpa using q) e) (fun a q => by
      obtain rfl : a = I2 := by simpa using q
      exact iI2) (by
      refine List.forall_mem_cons.mpr ⟨⟨hit5, iI2⟩, List.forall_mem_cons.mpr ⟨kp _ (by k_mem) nE, List.forall_mem_cons.mpr ⟨kp _ (by k_mem) nt1, List.forall_mem_cons.mpr ⟨kp _ (by k_mem) nt2, List.forall_mem_cons.mpr ⟨kp _ (by k_mem) nC, List.forall_mem_cons.mpr ⟨kp _ (by k_mem) nD, List.forall_mem_cons.mpr ⟨kp _ (by k_mem) nl3, List.forall_mem_cons.mpr ⟨kp _ (by k_mem) nl2, List.forall_mem_cons.mpr ⟨kp _ (by k_mem) nl1, List.forall_mem_nil _⟩⟩⟩⟩⟩⟩⟩⟩⟩)
    have tab5 : TabOk h5 := tab_of (X'.keeps F'.keep) (X'.keeps F5.keep) tab' (fun o e => hx5 _ _ nt1 e) (fun o e => hx5 _ _ nt2 e)
    have X5 := X'.keeps F5.keep
    have g157 := (N5 (157, p157) (by k_mem)).1
    have g164 := (N5 (164, p164) (by k_mem)).1
    clear F' N' hit' hx5 tab' kp hit5 hm5
    dsimp only
    refine wpAny_assign_Name ?_
    walk1
    rename_i h6 F6 N6
    have tab6 : TabOk h6 := tab_of X5 (X'.keeps F6.keep) tab5 (fun o e => by rw [g157] at e; cases e; exact (N6 (157, p157) (by k_mem)).1) (fun o e => by rw [g164] at e; cases e; exact (N6 (164, p164) (by k_mem)).1)
    have HJ := H j (by (first | lia | omega))
    obtain ⟨p0, p1, p2, p3, p4⟩ := HJ.bp
    obtain ⟨r1, o, hro, hrl, hnx⟩ := HJ.next
    clear g157 g164 X5 tab5
    refine wpAny_mono (E := fun _ _ => False) ?_ (fun _ _ h => h) (fun _ _ z => z.elim)
    dsimp only
    have hA1 : (fun y => if y = Str.ofString "hour" then some (Value.int (j : Int) s'.toks) else m' y) (Str.ofString "hour") = some (.int (j : Int) s'.toks) := rfl
    have hA2 : (fun y => if y = Str.ofString "hour" then some (Value.int (j : Int) s'.toks) else m' y) (Str.ofString "words") = some (.ref E') := hm1
    have hA3 : (fun y => if y = Str.ofString "hour" then some (Value.int (j : Int) s'.toks) else m' y) (Str.ofString "room") = some (.int room tr) := hm3
    have hA4 : (fun y => if y = Str.ofString "hour" then some (Value.int (j : Int) s'.toks) else m' y) (Str.ofString "width") = some (.int width tw) := hm4
    refine hour_A (m := (fun y => if y = Str.ofString "hour" then some (Value.int (j : Int) s'.toks) else m' y)) (rest := [(C, LCg.lst [.int c0 v0, .int c1 v1, .int c2 v2, .int c3 v3, .int c4 v4]), (D, LCg.lst [.int f0 t0, .int f1 t1, .int f2 t2, .int f3 t3, .int f4 t4]), (L + 1 + 1 + 1, o1), (L + 1 + 1, o2), (L + 1, o3)]) (t := j) X' T' BM F6 N6 tab6 ?hI hA1 hA2 hA3 hA4 (by (first | lia | omega)) (by rw [wS_len]; (first | lia | omega)) (by rw [wS_len]; (first | lia | omega)) (by rw [wS_len]; (first | lia | omega)) (by rw [wS_len]; (first | lia | omega)) (by rw [wS_len]; (first | lia | omega)) HJ.run HJ.fin (fun s7 te tt q157 q164 F7 N7 tab7 os7 gs7 => ?_)
    case hI =>
      refine List.forall_mem_cons.mpr ⟨⟨Ne.symm nt1, Ne.symm nt2⟩, List.forall_mem_cons.mpr ⟨cC, List.forall_mem_cons.mpr ⟨cD, List.forall_mem_cons.mpr ⟨⟨Ne.symm (nL 3 (by decide)).1, Ne.symm (nL 3 (by decide)).2⟩, List.forall_mem_cons.mpr ⟨⟨Ne.symm (nL 2 (by decide)).1, Ne.symm (nL 2 (by decide)).2⟩, List.forall_mem_cons.mpr ⟨⟨Ne.symm (nL 1 (by decide)).1, Ne.symm (nL 1 (by decide)).2⟩, List.forall_mem_nil _⟩⟩⟩⟩⟩⟩
    clear F6 N6 tab6
    have X7 := X'.keeps F7.keep
    have g157 := (N7 (157, q157) (by k_mem)).1
    have g164 := (N7 (164, q164) (by k_mem)).1
    have hB1 : (fun y => if y = Str.ofString "text" then some (Value.str (foldT (wS (n0 j)) (wS (n1 j)) (wS (n2 j)) (wS (n3 j)) (wS (n4 j)) room width (endS j)) tt) else if y = Str.ofString "end" then some (.str (endS j) te) else (fun y => if y = Str.ofString "hour" then some (Value.int (j : Int) s'.toks) else m' y) y) (Str.ofString "hour") = some (.int (j : Int) s'.toks) := rfl
    have hB2 : (fun y => if y = Str.ofString "text" then some (Value.str (foldT (wS (n0 j)) (wS (n1 j)) (wS (n2 j)) (wS (n3 j)) (wS (n4 j)) room width (endS j)) tt) else if y = Str.ofString "end" then some (.str (endS j) te) else (fun y => if y = Str.ofString "hour" then some (Value.int (j : Int) s'.toks) else m' y) y) (Str.ofString "comes") = some (.ref C) := hm2
    have hB3 : (fun y => if y = Str.ofString "text" then some (Value.str (foldT (wS (n0 j)) (wS (n1 j)) (wS (n2 j)) (wS (n3 j)) (wS (n4 j)) room width (endS j)) tt) else if y = Str.ofString "end" then some (.str (endS j) te) else (fun y => if y = Str.ofString "hour" then some (Value.int (j : Int) s'.toks) else m' y) y) (Str.ofString "text") = some (.str (foldT (wS (n0 j)) (wS (n1 j)) (wS (n2 j)) (wS (n3 j)) (wS (n4 j)) room width (endS j)) tt) := rfl
    have hB4 : (fun y => if y = Str.ofString "text" then some (Value.str (foldT (wS (n0 j)) (wS (n1 j)) (wS (n2 j)) (wS (n3 j)) (wS (n4 j)) room width (endS j)) tt) else if y = Str.ofString "end" then some (.str (endS j) te) else (fun y => if y = Str.ofString "hour" then some (Value.int (j : Int) s'.toks) else m' y) y) (Str.ofString "end") = some (.str (endS j) te) := rfl
    refine hour_B (m := (fun y => if y = Str.ofString "text" then some (Value.str (foldT (wS (n0 j)) (wS (n1 j)) (wS (n2 j)) (wS (n3 j)) (wS (n4 j)) room width (endS j)) tt) else if y = Str.ofString "end" then some (.str (endS j) te) else (fun y => if y = Str.ofString "hour" then some (Value.int (j : Int) s'.toks) else m' y) y)) X' T' F7 N7 d2 hDC hB1 hB2 hB3 hB4 (by (first | lia | omega)) hb HJ.told (fun h8 tk8 F8 N8 => ?_)
    clear F7 N7
    refine hour_C (m := (fun y => if y = Str.ofString "text" then some (Value.str (foldT (wS (n0 j)) (wS (n1 j)) (wS (n2 j)) (wS (n3 j)) (wS (n4 j)) room width (endS j)) tt) else if y = Str.ofString "end" then some (.str (endS j) te) else (fun y => if y = Str.ofString "hour" then some (Value.int (j : Int) s'.toks) else m' y) y)) X' T' F8 N8 hB3 hro hrl hnx (by have := HJ.bq; (first | lia | omega)) (by have := HJ.bq; (first | lia | omega)) (by have := HJ.bq; (first | lia | omega)) (by have := HJ.bq; (first | lia | omega)) (by have := HJ.bq; (first | lia | omega)) (fun h9 tk9 E9 w0 w1 w2 w3 w4 F9 N9 => ?_)
    have tab9 : TabOk h9 := tab_of X7 (X'.keeps F9.keep) tab7 (fun o e => by rw [g157] at e; cases e; exact (N9 (157, q157) (by k_mem)).1) (fun o e => by rw [g164] at e; cases e; exact (N9 (164, q164) (by k_mem)).1)
    dsimp only
    refine hJN _ ⟨mm, Nat.lt_succ_self _, _, j + 1, E9, q157, q164, w0, w1, w2, w3, w4, by (first | lia | omega), F9, N9, tab9, os7.trans os', fun G => gs7 (gs' G), rfl, hm2, hm3, hm4, fun _ => ⟨tt, rfl⟩⟩
end
end Mine
end
section
open PySem PySem.W PyProof.Rows PySem.Calls
set_option Elab.async false
set_option maxRecDepth 100000
namespace Mine
theorem no257 {T : Str} {r : List Nat} (h : T.cps.toList = 46 :: r) (hl : 3 ≤ T.length) : (Txt.slice T none (some 3) == ("257" : Str)) = false := by
  rw [beq_eq_false_iff_ne]
  intro z
  have e := slice_to T 3 hl
  rw [show (some ((3 : Nat) : Int)) = some (3 : Int) from rfl, z, h] at e
  have := congrArg List.head? e
  rw [List.take_succ_cons] at this
  cases this
theorem is257 {T : Str} : (Txt.slice ((Str.ofString "257 ") ++ T) none (some 3) == ("257" : Str)) = true := by
  rw [beq_iff_eq]
  refine str_ext ?_
  have e4 : (Str.ofString "257 ").length = 4 := by decide
  have hl : 3 ≤ ((Str.ofString "257 ") ++ T).length := by rw [app_len]; omega
  rw [show (some (3 : Int)) = some ((3 : Nat) : Int) from rfl, slice_to _ 3 hl]
  show (((Str.ofString "257 ").cps ++ T.cps).toList).take 3 = _
  rw [Array.toList_append]
  rfl
theorem sp257 {T : Str} {r : List Nat} (h : T.cps.toList = 46 :: r) : (Txt.slice ((Str.ofString "257 ") ++ T) (some 3) (some 5) == (" \"" : Str)) = false := by
  rw [beq_eq_false_iff_ne]
  intro z
  have e4 : (Str.ofString "257 ").length = 4 := by decide
  have hT : 1 ≤ T.length := by rw [len_list, h]; simp
  have e := slice_mid ((Str.ofString "257 ") ++ T) 3 5 (by decide) (by rw [app_len]; omega)
  rw [show (some ((3 : Nat) : Int)) = some (3 : Int) from rfl, show (some ((5 : Nat) : Int)) = some (5 : Int) from rfl, z] at e
  have e2 : ((Str.ofString "257 ") ++ T).cps.toList = [50, 53, 55, 32] ++ T.cps.toList := by
    show ((Str.ofString "257 ").cps ++ T.cps).toList = _
    rw [Array.toList_append]; rfl
  rw [e2, h] at e
  cases e
section
variable {w : World} {b : Heap} {L : Addr} {s : Shared} {Q : Flow → Shared → Prop} {mg mb m : Str → Option Value}
set_option maxHeartbeats 1000000 in
theorem law_7 {news : List (Addr × Obj)} {T : Str} {tt : Tok} {r : List Nat} {mean : ExcName → Option Value} {p : Program} {loose : List Str} (X' : (KK w.params).In b) (T' : TR mg mb b) (TP : Top p loose mean mg mb b) (F : Fr b L s.heap m) (N : News b L s.heap news)
    (hm : m (Str.ofString "text") = some (.str T tt)) (hT : T.cps.toList = 46 :: r) (hl : 3 ≤ T.length) (hl2 : T.length ≤ 500)
    (hQ : ∀ s', Fr b L s'.heap m → News b L s'.heap news → s'.os = s.os → s'.gens = s.gens →
      wpAny (MM w) (AL L) (execs (lawB 10) (lawEnv L)) Q (fun _ _ => False) s') :
    wpAny (MM w) (AL L) (execs (lawB 9) (lawEnv L)) Q (fun _ _ => False) s := by
  iterate 12 walk1
  refine wpAny_call (refused_spec (A := AL L) callerA rfl F X' TP T' N rfl rfl rfl rfl (by rw [depth_deeper]; decide) (Nat.le_trans hl2 (by decide)) (no257 hT hl) (fun s' F2 N2 os2 gs2 => ?_))
  clear F N
  dsimp only
  iterate 14 walk1
  have e4 : (Str.ofString "257 ").length = 4 := by decide
  refine wpAny_call (parse_none X' T' F2.keep (by rw [depth_deeper]; decide) (by rw [app_len]; omega) is257 (sp257 hT) (fun h5 tk5 t5 k5 => ?_))
  obtain ⟨F5, N5⟩ := calledN (Wc := []) F2 N2 k5 (fun a h => nomatch h) [] _ (fun q h => nomatch h) (fun q hq => ⟨hq, fun z => nomatch z⟩)
  clear F2 N2 k5
  dsimp only
  iterate 3 walk1
  refine ite_neg (by simp) ?_
  walk1
  refine ite_neg (by decide) ?_
  refine wpAny_execs_nil ?_
  dsimp only
  exact hQ { s' with heap := h5, toks := _ } F5 N5 os2 gs2
end
end Mine
end
section
open PySem PySem.W PyProof.Rows PySem.Calls
set_option Elab.async false
set_option maxRecDepth 100000
namespace Mine
noncomputable def qS (k : Int) : Str := Txt.mul "\"" k ++ ";"
theorem mulq_list (n : Int) : (Txt.mul "\"" n).cps.toList = List.replicate n.toNat 34 := by
  have e1 : (Str.ofString "\"").cps = #[34] := by decide
  unfold Txt.mul
  by_cases h : n < 1
  · rw [if_pos h]
    have : n.toNat = 0 := by (first | lia | omega)
    rw [this]; rfl
  · rw [if_neg h]
    by_cases h1 : (n == 1 || (Str.ofString "\"").length == 0) = true
    · rw [if_pos h1]
      have : n = 1 := by
        have e2 : (Str.ofString "\"").length = 1 := by decide
        rw [e2] at h1
        simpa using h1
      rw [this, e1]; rfl
    · rw [if_neg h1, e1]
      have key : ∀ (k : Nat) (acc : Array Nat), ((List.replicate k (#[34] : Array Nat)).foldl (· ++ ·) acc).toList = acc.toList ++ List.replicate k 34 := by
        intro k
        induction k with
        | zero => intro acc; simp
        | succ k ih =>
          intro acc
          rw [List.replicate_succ, List.foldl_cons, ih]
          simp [List.replicate_succ]
      rw [key]; rfl
theorem qS_len (k : Int) : (qS k).length = k.toNat + 1 := by
  unfold qS
  rw [app_len]
  have := congrArg List.length (mulq_list k)
  rw [List.length_replicate] at this
  rw [len_list, this]; rfl
theorem qS9 {f : Int} (h : f ≤ 8) : (qS f).length ≤ 9 := by rw [qS_len]; (first | lia | omega)
theorem three_of {ys : List Value} (hl : ys.length = 3) : ∃ a b c, ys = [a, b, c] := by
  match ys, hl with
  | [a, b, c], _ => exact ⟨a, b, c, rfl⟩
section
variable {w : World} {b : Heap} {L : Addr} {s : Shared} {Q : Flow → Shared → Prop} {mg mb m : Str → Option Value}
set_option maxHeartbeats 1000000 in
theorem law_8 {D : Addr} {oE o1 o2 o3 o157 o164 : Obj} {E : Addr} {f0 f1 f2 f3 f4 : Int} {t0 t1 t2 t3 t4 : Tok} (X' : (KK w.params).In b) (T' : TR mg mb b) (F : Fr b L s.heap m)
    (N : News b L s.heap [(E, oE), (D, LCg.lst [.int f0 t0, .int f1 t1, .int f2 t2, .int f3 t3, .int f4 t4]), (L + 1 + 1 + 1, o1), (L + 1 + 1, o2), (L + 1, o3), (157, o157), (164, o164)])
    (d2 : o2.data = .cell (some (.ref D))) (b2 : 1 ≤ f2 ∧ f2 ≤ 4) (b3 : 1 ≤ f3 ∧ f3 ≤ 4) (b4 : 1 ≤ f4 ∧ f4 ≤ 4)
    (hQ : ∀ h' tk t, Fr b L h' (fun y => if y = Str.ofString "due" then some (.str (Txt.join "" [qS f2, qS f3, qS f4]) t) else m y) → News b L h' [(E, oE), (D, LCg.lst [.int f0 t0, .int f1 t1, .int f2 t2, .int f3 t3, .int f4 t4]), (L + 1 + 1 + 1, o1), (L + 1 + 1, o2), (L + 1, o3), (157, o157), (164, o164)] →
      wpAny (MM w) (AL L) (execs (lawB 11) (lawEnv L)) Q (fun _ _ => False) { s with heap := h', toks := tk }) :
    wpAny (MM w) (AL L) (execs (lawB 10) (lawEnv L)) Q (fun _ _ => False) s := by
  iterate 8 walk1
  refine comp_gen (β := Str) (Rel := fun y x => ∃ t, y = .str x t) (F := fun i => qS ([f2, f3, f4].getD i 0)) 3 (.inr ⟨_, List.mem_cons_self .., rfl, _, rfl⟩) ?_ ?_
  · intro i v I oI C2 oC2 D2 ys m₂ h tk E' hi hv hC hx F' N'
    obtain ⟨t, rfl⟩ : ∃ t, v = .int ([f2, f3, f4].getD i 0) t := by
      rcases i with _ | _ | _ | i
      · exact ⟨_, (Option.some.inj hv).symm⟩
      · exact ⟨_, (Option.some.inj hv).symm⟩
      · exact ⟨_, (Option.some.inj hv).symm⟩
      · (first | lia | omega)
    have hb : 0 ≤ [f2, f3, f4].getD i 0 ∧ [f2, f3, f4].getD i 0 ≤ 8 := by
      rcases i with _ | _ | _ | i
      · exact le48 b2
      · exact le48 b3
      · exact le48 b4
      · (first | lia | omega)
    generalize [f2, f3, f4].getD i 0 = kk at hb hv hx ⊢
    clear b2 b3 b4
    iterate 7 walk1
    exact ⟨_, _, rfl, F', N', _, rfl⟩
  · intro ys hl2 hr2
    obtain ⟨y0, y1, y2, rfl⟩ := three_of hl2
    obtain ⟨u0, rfl⟩ := hr2 0 y0 rfl
    obtain ⟨u1, rfl⟩ := hr2 1 y1 rfl
    obtain ⟨u2, rfl⟩ := hr2 2 y2 rfl
    intro D3 h3 tk3 F3 N3 of3
    clear hr2 hl2 of3
    have l2 : (qS f2).length ≤ 9 := qS9 (le48 b2).2
    have l3 : (qS f3).length ≤ 9 := qS9 (le48 b3).2
    have l4 : (qS f4).length ≤ 9 := qS9 (le48 b4).2
    iterate 1 walk1
    refine join_listW (ys := [qS f2, qS f3, qS f4]) ⟨_, (N3 _ (List.mem_cons_self ..)).1, rfl, _, rfl⟩ (.cons _ _ (.cons _ _ (.cons _ _ .nil))) (by decide) (by simp only [List.map_cons, List.map_nil, List.sum_cons, List.sum_nil, List.length_cons, List.length_nil]; (first | lia | omega)) (fun t6 k6 => ?_)
    dsimp only
    iterate 1 walk1
    rename_i h7 F7 N7
    trace_state
    refine hQ _ _ _ F7 ?_
    repeat (first | exact nw_nil | refine nw_sub N7 (by k_mem) ?_)
end
end Mine
end
section
open PySem PySem.W PyProof.Rows PySem.Calls
set_option Elab.async false
set_option maxRecDepth 100000
namespace Mine
theorem wS_list (n : Int) : (wS n).cps.toList = List.replicate n.toNat 46 ++ [59] := by
  show ((Txt.mul "." n).cps ++ (Str.ofString ";").cps).toList = _
  rw [Array.toList_append, mul_list]; rfl
theorem qS_list (n : Int) : (qS n).cps.toList = List.replicate n.toNat 34 ++ [59] := by
  show ((Txt.mul "\"" n).cps ++ (Str.ofString ";").cps).toList = _
  rw [Array.toList_append, mulq_list]; rfl
theorem due_list (a b c : Int) : (Txt.join "" [qS a, qS b, qS c]).cps.toList = List.replicate a.toNat 34 ++ 59 :: (List.replicate b.toNat 34 ++ 59 :: (List.replicate c.toNat 34 ++ [59])) := by
  rw [join0_toList]
  simp only [List.map_cons, List.map_nil, List.flatten_cons, List.flatten_nil, qS_list, List.append_assoc, List.append_nil, List.singleton_append]
theorem read_list (a b c : Int) (ha : 0 ≤ a) (hb : 0 ≤ b) (hc : 0 ≤ c) : (Txt.replace (Txt.join "" [wS (2 * a + 1), wS (2 * b + 1), wS (2 * c + 1)]) (Str.ofString ".") (Str.ofString "\"")).cps.toList =
    List.replicate (2 * a.toNat + 1) 34 ++ 59 :: (List.replicate (2 * b.toNat + 1) 34 ++ 59 :: (List.replicate (2 * c.toNat + 1) 34 ++ [59])) := by
  rw [show Str.ofString "." = (⟨#[46]⟩ : Str) from rfl, show Str.ofString "\"" = (⟨#[34]⟩ : Str) from rfl, replace_one, join0_toList]
  simp only [List.map_cons, List.map_nil, List.flatten_cons, List.flatten_nil, wS_list, List.append_assoc, List.append_nil, List.singleton_append, List.map_append, List.map_replicate]
  rw [show (2 * a + 1).toNat = 2 * a.toNat + 1 by (first | lia | omega), show (2 * b + 1).toNat = 2 * b.toNat + 1 by (first | lia | omega), show (2 * c + 1).toNat = 2 * c.toNat + 1 by (first | lia | omega)]
  simp
theorem js3 {x y z : Str} (a : x.length ≤ 10) (b : y.length ≤ 10) (c : z.length ≤ 10) : ([x, y, z].map (·.length)).sum + [x, y, z].length ≤ 1048576 := by
  simp only [List.map_cons, List.map_nil, List.sum_cons, List.sum_nil, List.length_cons, List.length_nil]; (first | lia | omega)
theorem tn8 {f : Int} (h : f ≤ 4) : f.toNat ≤ 8 := by (first | lia | omega)
theorem lx3 {a b c : Int} (ha : a ≤ 4) (hb : b ≤ 4) (hc : c ≤ 4) : (Txt.join (Str.ofString "") [wS (2 * a + 1), wS (2 * b + 1), wS (2 * c + 1)]).length ≤ 60 := by
  rw [len_list, join0_toList]
  simp only [List.map_cons, List.map_nil, List.flatten_cons, List.flatten_nil, wS_list, List.length_append, List.length_replicate, List.length_cons, List.length_nil]
  (first | lia | omega)
theorem lr3 {a b c : Int} (ha : 0 ≤ a ∧ a ≤ 8) (hb : 0 ≤ b ∧ b ≤ 8) (hc : 0 ≤ c ∧ c ≤ 8) : (Txt.replace (Txt.join (Str.ofString "") [wS (2 * a + 1), wS (2 * b + 1), wS (2 * c + 1)]) (Str.ofString ".") (Str.ofString "\"")).length ≤ 60 := by
  have e := read_list a b c ha.1 hb.1 hc.1
  rw [show Str.ofString "" = "" from rfl, len_list, e]
  simp only [List.length_append, List.length_replicate, List.length_cons, List.length_nil]
  (first | lia | omega)
theorem strOk_of {x : Str} (h : ∀ c ∈ x.cps.toList, c < 128) : PyData.strOk x = true := by
  unfold PyData.strOk
  rw [← Array.all_toList, List.all_eq_true]
  exact fun c hc => decide_eq_true (Nat.lt_of_lt_of_le (h c hc) (by decide))
theorem due_ok (a b c : Int) : PyData.strOk (Txt.join "" [qS a, qS b, qS c]) = true := strOk_of (fun x hx => by
  rw [due_list] at hx
  simp only [List.mem_append, List.mem_cons, List.mem_replicate, List.mem_nil_iff, or_false] at hx
  (first | lia | omega))
theorem tup3_ne {w : World} {A : Around} {E : Value → Shared → Prop} {s : Shared} {a b : Addr} {f f' : Str} {p p' : Int} {t1 t2 t3 t4 : Tok} {Q : Value → Shared → Prop} (ha : s.heap.IsTuple a #[.str f t1, .int p t2]) (hb : s.heap.IsTuple b #[.str f' t3, .int p' t4])
    (o1 : PyData.strOk f = true) (o3 : PyData.strOk f' = true)
    (hu : A.units + 64 < cLine) (h : Q (.bool (!(f == f' && p == p'))) s) : wpAny (MM w) A (compareOp .NotEq (.ref a) (.ref b)) Q E s := by
  obtain ⟨oa, ga, ca, na, da⟩ := ha
  obtain ⟨ob, gb, cb, nb, db⟩ := hb
  refine' ne_dataH_same (da := .tuple [.str f, .int p]) (db := .tuple [.str f', .int p']) (.tuple ga ca da (.cons (.str _ _) (.cons (.int _ _) .nil))) (.tuple gb cb db (.cons (.str _ _) (.cons (.int _ _) .nil))) ?s1 ?s2 hu ?s3 ?_
  case s1 => simp [SeqAt.shaped, PyData.canLay0, PyData.canLayAll0, PyData.depth, PyData.depthAll, o1]
  case s2 => simp [SeqAt.shaped, PyData.canLay0, PyData.canLayAll0, PyData.depth, PyData.depthAll, o3]
  case s3 => simp [SeqAt.noMix, SeqAt.noMixAll]
  have e : PySem.Spec.same (.tuple [.str f, .int p]) (.tuple [.str f', .int p']) = (f == f' && p == p') := by
    simp [PySem.Spec.same, PySem.Spec.sameAll]
  rw [e]; exact h
section
variable {w : World} {b : Heap} {L : Addr} {s : Shared} {Q : Flow → Shared → Prop} {mg mb m : Str → Option Value}
set_option maxHeartbeats 1000000 in
theorem law_9 {oD o1 o2 o3 o157 o164 : Obj} {D E : Addr} {f2 f3 f4 : Int} {W0 W1 : Str} {u0 u1 u2 u3 u4 td : Tok} (X' : (KK w.params).In b) (T' : TR mg mb b) (F : Fr b L s.heap m)
    (N : News b L s.heap [(E, LCg.lst [.str W0 u0, .str W1 u1, .str (wS (2 * f2 + 1)) u2, .str (wS (2 * f3 + 1)) u3, .str (wS (2 * f4 + 1)) u4]), (D, oD), (L + 1 + 1 + 1, o1), (L + 1 + 1, o2), (L + 1, o3), (157, o157), (164, o164)])
    (hm1 : m (Str.ofString "words") = some (.ref E)) (hm2 : m (Str.ofString "due") = some (.str (Txt.join "" [qS f2, qS f3, qS f4]) td)) (b2 : 1 ≤ f2 ∧ f2 ≤ 4) (b3 : 1 ≤ f3 ∧ f3 ≤ 4) (b4 : 1 ≤ f4 ∧ f4 ≤ 4)
    (hQ : ∀ h' tk, Fr b L h' m → News b L h' [(D, oD), (L + 1 + 1 + 1, o1), (L + 1 + 1, o2), (L + 1, o3), (157, o157), (164, o164)] →
      wpAny (MM w) (AL L) (execs (lawB 12) (lawEnv L)) Q (fun _ _ => False) { s with heap := h', toks := tk }) :
    wpAny (MM w) (AL L) (execs (lawB 11) (lawEnv L)) Q (fun _ _ => False) s := by
  iterate 22 walk1
  rename_i h2 F2 N2 lt2
  have w2 : (wS (2 * f2 + 1)).length ≤ 10 := wS10 b2.2
  have w3 : (wS (2 * f3 + 1)).length ≤ 10 := wS10 b3.2
  have w4 : (wS (2 * f4 + 1)).length ≤ 10 := wS10 b4.2
  refine join_listT (ys := [wS (2 * f2 + 1), wS (2 * f3 + 1), wS (2 * f4 + 1)]) ⟨_, (N2 _ (List.mem_cons_self ..)).1, rfl, _, rfl⟩ (.cons _ _ (.cons _ _ (.cons _ _ .nil))) (by decide) (js3 w2 w3 w4) (fun t6 k6 hk6 => ?_)
  have tp6 : 0 < k6 := Nat.lt_of_lt_of_le (Nat.succ_pos _) hk6
  have eR := read_list f2 f3 f4 (le48 b2).1 (le48 b3).1 (le48 b4).1
  have lx := lx3 b2.2 b3.2 b4.2
  have lr := lr3 (le48 b2) (le48 b3) (le48 b4)
  generalize Txt.join (Str.ofString "") [wS (2 * f2 + 1), wS (2 * f3 + 1), wS (2 * f4 + 1)] = X0 at eR lx lr ⊢
  clear w2 w3 w4 hk6
  dsimp only
  iterate 7 walk1
  refine SC.replaceW (Nat.pos_iff_ne_zero.mp tp6) (Nat.succ_ne_zero _) (Nat.ne_of_lt (Nat.lt_succ_self _)) (by decide) (Nat.le_trans lx (by decide)) (by decide) (fun t7 k7 => ?_)
  generalize Txt.replace X0 (Str.ofString ".") (Str.ofString "\"") = R0 at eR lr ⊢
  dsimp only
  iterate 2 walk1
  refine wpAny_call (read_spec X' T' F2.keep (by rw [depth_deeper]; decide) (Nat.le_trans lr (by decide)) eR (fun h5 tk5 T1 v tv tn hv k5 fT hTu => ?_))
  obtain ⟨F5, N5⟩ := calledN (Wc := []) F2 N2 k5 (fun a h => nomatch h) [] _ (fun q h => nomatch h) (fun q hq => ⟨hq, fun z => nomatch z⟩)
  obtain ⟨oT, eT, cT, nT, dT⟩ := hTu
  have N5 := newsPlus F2 fT N5 eT
  rw [read3 f2.toNat f3.toNat f4.toNat (tn8 b2.2) (tn8 b3.2) (tn8 b4.2)] at hv dT
  have ev : v = Txt.join (Str.ofString "") [qS f2, qS f3, qS f4] := str_ext (by rw [hv]; exact (due_list f2 f3 f4).symm)
  subst ev
  clear F2 N2 k5 eR lr lx lt2 hv
  dsimp only
  iterate 7 walk1
  rename_i D9 h9 F9 N9 l9
  refine tup3_ne (f := Txt.join (Str.ofString "") [qS f2, qS f3, qS f4]) (f' := Txt.join (Str.ofString "") [qS f2, qS f3, qS f4]) (p := ((4 : Nat) : Int)) (p' := 4) ⟨oT, (N9 (T1, oT) (by k_mem)).1, cT, nT, dT⟩ ⟨_, (N9 _ (List.mem_cons_self ..)).1, rfl, _, rfl⟩ (due_ok f2 f3 f4) (due_ok f2 f3 f4) (by rw [units_deeper]; decide) ?_
  iterate 1 walk1
  refine ite_neg (by simp) ?_
  refine wpAny_execs_nil ?_
  dsimp only
  refine hQ _ _ F9 ?_
  repeat (first | exact nw_nil | refine nw_sub N9 (by k_mem) ?_)
end
end Mine
end
section
open PySem PySem.W PyProof.Rows PySem.Calls
set_option Elab.async false
set_option maxRecDepth 100000
namespace Mine
section
variable {w : World} {b : Heap} {L : Addr} {s : Shared} {Q : Flow → Shared → Prop} {mg mb m : Str → Option Value}
set_option maxHeartbeats 1000000 in
theorem law_10 {D : Addr} {o1 o2 o3 o157 o164 : Obj} {f0 f1 f2 f3 f4 lt room width : Int} {t0 t1 t2 t3 t4 tl tr tw : Tok} (X' : (KK w.params).In b) (T' : TR mg mb b) {bm : Addr} {ob : Obj} (BM : BMod b mainGlobals mg bm ob) (F : Fr b L s.heap m)
    (N : News b L s.heap [(D, LCg.lst [.int f0 t0, .int f1 t1, .int f2 t2, .int f3 t3, .int f4 t4]), (L + 1 + 1 + 1, o1), (L + 1 + 1, o2), (L + 1, o3), (157, o157), (164, o164)]) (hTab : TabOk s.heap)
    (d1 : o1.data = .cell (some (.int lt tl))) (d2 : o2.data = .cell (some (.ref D))) (hm3 : m (Str.ofString "room") = some (.int room tr)) (hm4 : m (Str.ofString "width") = some (.int width tw))
    (b0 : 1 ≤ f0 ∧ f0 ≤ 4) (b1 : 1 ≤ f1 ∧ f1 ≤ 4) (b2 : 1 ≤ f2 ∧ f2 ≤ 4) (b3 : 1 ≤ f3 ∧ f3 ≤ 4) (b4 : 1 ≤ f4 ∧ f4 ≤ 4) (bl : 1 ≤ lt ∧ lt ≤ 4) (br : 0 ≤ room ∧ room ≤ 100) (bw : 0 ≤ width ∧ width ≤ 100)
    (BL : BesLaw (wS (f0 + lt)) (wS f1) (wS f2) (wS f3) (wS f4) f4 room width)
    (hQ : ∀ s', (∀ a o, b.get? a = some o → s'.heap.get? a = some o) → TabOk s'.heap → s'.os = s.os → (AllBare s.gens → AllBare s'.gens) → Q (.ret (.bool true)) s') :
    wpAny (MM w) (AL L) (execs (lawB 12) (lawEnv L)) Q (fun _ _ => False) s := by
  iterate 15 walk1
  have eD := N (D, LCg.lst [.int f0 t0, .int f1 t1, .int f2 t2, .int f3 t3, .int f4 t4]) (by k_mem)
  have g157 := (N (157, o157) (by k_mem)).2.2
  have g164 := (N (164, o164) (by k_mem)).2.2
  refine wpAny_call (beside_spec (fn := 5) X' T' BM F.keep hTab g157 g164 eD.1 eD.2.2 b0 b1 b2 b3 b4 bl br bw BL (fun s' k' tab' os' gs' => ?_))
  have fin := hQ s' (fun a o e => k' _ _ (F.keep _ _ e) (fun q => by
    simp only [List.mem_cons, List.mem_nil_iff, or_false] at q
    rcases q with rfl | rfl
    · rw [show b.get? 157 = none from g157] at e; cases e
    · rw [show b.get? 164 = none from g164] at e; cases e)) tab' os' gs'
  clear N F eD
  dsimp only
  first | exact fin | (walk1; exact fin) | (walk1; walk1; exact fin) | (refine wpAny_pure ?_; exact fin)
end
end Mine
end
end
theorem Mine.anew67 : True := by first | walk1 | trivial
section
open PySem PySem.W PyProof.Rows PySem.Calls
set_option Elab.async false
set_option maxRecDepth 100000
namespace Mine
theorem tab_start {w : World} {h : Heap} (X : (KK w.params).In h) (e1 : h.get? 157 = some tab0) (e2 : h.get? 164 = some tab0) : TabOk h := by
  have a1 : h.get? 161 = some (ob161 w.params) := X _ _ (by k_is)
  have b1 : h.get? 168 = some (ob168 w.params) := X _ _ (by k_is)
  exact ⟨⟨#[], ⟨_, _, _, _, _, _, _, _, _, tab0, a1, rfl, rfl, rfl, rfl, rfl, rfl, e1, rfl, trivial, by decide⟩, ⟨_, _, a1, rfl, rfl, rfl⟩, e1⟩,
    ⟨#[], ⟨_, _, _, _, _, _, _, _, _, tab0, b1, rfl, rfl, rfl, rfl, rfl, rfl, e2, rfl, trivial, by decide⟩, ⟨_, _, b1, rfl, rfl, rfl⟩, e2⟩⟩
theorem oldK_tab {h h' : Heap} {w : World} (X : (KK w.params).In h) (e1 : h.get? 157 = some tab0) (e2 : h.get? 164 = some tab0) (k : Kept [157, 164] h h') (t : TabOk h') : OldK h h' := by
  obtain ⟨⟨ps, _, t1⟩, ⟨ps', _, t2⟩⟩ := t
  have s1 := (tab_start X e1 e2).1
  have s2 := (tab_start X e1 e2).2
  obtain ⟨_, _, s1⟩ := s1
  obtain ⟨_, _, s2⟩ := s2
  refine ⟨fun b o e => ?_, fun b o e => ?_⟩
  · by_cases z : b = 157
    · subst z
      rw [e1] at e; cases e
      exact .inr (.inl ⟨s1.isCodeTable, rfl, #[], ps, rfl, by rw [Array.empty_append]; exact t1.2⟩)
    · by_cases z2 : b = 164
      · subst z2
        rw [e2] at e; cases e
        exact .inr (.inl ⟨s2.isCodeTable, rfl, #[], ps', rfl, by rw [Array.empty_append]; exact t2.2⟩)
      · exact .inl (k b o e (by simp [z, z2]))
  · by_cases z : b = 157
    · subst z; exact ⟨_, t1.2⟩
    · by_cases z2 : b = 164
      · subst z2; exact ⟨_, t2.2⟩
      · exact ⟨o, k b o e (by simp [z, z2])⟩
theorem base_hide {w : World} {h : Heap} (X : (KK w.params).In h) : (KK w.params).In (hideAll h [157, 164]) := fun a o e => by
  have n1 : (KK w.params).lookup 157 = none := by rfl
  have n2 : (KK w.params).lookup 164 = none := by rfl
  refine hideAll_get _ (X _ _ e) (fun q => ?_)
  simp only [List.mem_cons, List.mem_nil_iff, or_false] at q
  rcases q with rfl | rfl
  · rw [n1] at e; cases e
  · rw [n2] at e; cases e
end Mine
end
section
open PySem PySem.W PyProof.Rows PySem.Calls
set_option Elab.async false
set_option maxRecDepth 100000
namespace Mine
theorem accLen_app (i : Int) (a b : List (Str × Str)) : accLen i (a ++ b) = accLen (accLen i a) b := by
  unfold accLen
  rw [List.map_append, List.sum_append]
  (first | lia | omega)
theorem accLen_cons (i : Int) (c : Str × Str) (b : List (Str × Str)) : accLen i (c :: b) = accLen (i + c.1.length + c.2.length) b := by
  unfold accLen
  rw [List.map_cons, List.sum_cons]
  (first | lia | omega)
theorem accLen_mono (i : Int) (b : List (Str × Str)) : i ≤ accLen i b := by
  have : ∀ l : List (Str × Str), 0 ≤ (l.map fun p => ((p.1.length : Int) + p.2.length)).sum := by
    intro l
    induction l with
    | nil => exact Int.le_refl _
    | cons a r ih => rw [List.map_cons, List.sum_cons]; (first | lia | omega)
  have := this b
  unfold accLen; (first | lia | omega)
theorem run_app {Wd : Int} {signs : Str} : ∀ (a b : List (Str × Str)) (st : St), runSt Wd signs st (a ++ b) = runSt Wd signs (runSt Wd signs st a) b ∧ (okRun Wd signs st a → okRun Wd signs (runSt Wd signs st a) b → okRun Wd signs st (a ++ b))
  | [], b, st => ⟨rfl, fun _ h => h⟩
  | c :: a, b, st => by
    obtain ⟨e, h⟩ := run_app (Wd := Wd) (signs := signs) a b (stepSt Wd signs st c.1 c.2)
    exact ⟨e, fun ha hb => ⟨ha.1, h ha.2 hb⟩⟩
theorem run_fit {Wd : Int} {signs : Str} : ∀ (cs : List (Str × Str)) (st : St), Small (st.ps ++ cs) → 0 ≤ st.i → st.i ≤ 100000 → st.lines.length ≤ 900 → accLen st.i (st.ps ++ cs) ≤ Wd →
    runSt Wd signs st cs = ⟨st.lines, st.i, st.ps ++ cs⟩ ∧ okRun Wd signs st cs
  | [], st, _, _, _, _, _ => by
    rw [List.append_nil]; exact ⟨rfl, trivial⟩
  | c :: r, st, hs, h0, h1, hl, hf => by
    have e : st.ps ++ c :: r = (st.ps ++ [c]) ++ r := by simp
    rw [e] at hs hf
    have hle : accLen st.i (st.ps ++ [c]) ≤ Wd := by
      rw [accLen_app] at hf
      exact Int.le_trans (accLen_mono _ _) hf
    have hst : stepSt Wd signs st c.1 c.2 = ⟨st.lines, st.i, st.ps ++ [c]⟩ := by
      unfold stepSt
      rw [if_pos hle]
    obtain ⟨e2, h2⟩ := run_fit (Wd := Wd) (signs := signs) r ⟨st.lines, st.i, st.ps ++ [c]⟩ hs h0 h1 hl hf
    have hsm : Small (st.ps ++ [c]) := ⟨by have := hs.1; rw [List.length_append] at this; (first | lia | omega), fun p hp => hs.2 p (List.mem_append_left _ hp)⟩
    refine ⟨?_, ⟨hsm, h0, h1, hl, fun _ z => absurd hle (by (first | lia | omega))⟩, ?_⟩
    · show runSt Wd signs (stepSt Wd signs st c.1 c.2) r = _
      rw [hst, e2, e]
    · rw [hst]; exact h2
theorem small_pre {a b : List (Str × Str)} (h : Small (a ++ b)) : Small a := ⟨by have := h.1; rw [List.length_append] at this; (first | lia | omega), fun p hp => h.2 p (List.mem_append_left _ hp)⟩
theorem small_suf {a b : List (Str × Str)} (h : Small (a ++ b)) : Small b := ⟨by have := h.1; rw [List.length_append] at this; (first | lia | omega), fun p hp => h.2 p (List.mem_append_right _ hp)⟩
/-- a row that breaks ahead of c1 -/
theorem run_cut {Wd r : Int} {signs : Str} {P Rst : List (Str × Str)} {c1 c2 : Str × Str} (h0 : 0 ≤ r) (h1000 : r ≤ 100000) (hP : accLen r P ≤ Wd) (ho : Wd < accLen r (P ++ [c1, c2])) (hn : accLen 0 (c1 :: c2 :: Rst) ≤ Wd)
    (h1 : outerCut (P ++ [c1]) signs.cps.toList = some P.length) (h2 : outerCut (P ++ [c1, c2]) signs.cps.toList = some P.length) (hs : Small (P ++ (c1 :: c2 :: Rst))) :
    runSt Wd signs ⟨[], r, []⟩ (P ++ (c1 :: c2 :: Rst)) = ⟨[accStr P], 0, c1 :: c2 :: Rst⟩ ∧ okRun Wd signs ⟨[], r, []⟩ (P ++ (c1 :: c2 :: Rst)) := by
  obtain ⟨eP, kP⟩ := run_fit (Wd := Wd) (signs := signs) P ⟨[], r, []⟩ (small_pre hs) h0 h1000 (Nat.zero_le _) hP
  obtain ⟨eA, kA⟩ := run_app (Wd := Wd) (signs := signs) P (c1 :: c2 :: Rst) ⟨[], r, []⟩
  rw [eP] at eA kA
  rw [eA]
  have s1 : Small (P ++ [c1]) := by
    have : P ++ (c1 :: c2 :: Rst) = (P ++ [c1]) ++ (c2 :: Rst) := by simp
    rw [this] at hs; exact small_pre hs
  have s2 : Small (P ++ [c1] ++ [c2]) := by
    have : P ++ (c1 :: c2 :: Rst) = (P ++ [c1] ++ [c2]) ++ Rst := by simp
    rw [this] at hs; exact small_pre hs
  have s3 : Small (c1 :: c2 :: Rst) := small_suf hs
  have fin : runSt Wd signs ⟨[accStr P], 0, [c1, c2]⟩ Rst = ⟨[accStr P], 0, c1 :: c2 :: Rst⟩ ∧ okRun Wd signs ⟨[accStr P], 0, [c1, c2]⟩ Rst :=
    run_fit Rst ⟨[accStr P], 0, [c1, c2]⟩ s3 (Int.le_refl _) (by show (0 : Int) ≤ 100000; decide) (by show 1 ≤ 900; decide) hn
  have e0 : (P ++ [c1, c2]) = P ++ [c1] ++ [c2] := by simp
  rw [e0] at ho h2
  have tk : List.take P.length (P ++ [c1] ++ [c2]) = P := by simp
  have dr : List.drop P.length (P ++ [c1] ++ [c2]) = [c1, c2] := by simp
  by_cases hc : accLen r (P ++ [c1]) ≤ Wd
  · have st1 : stepSt Wd signs ⟨[], r, P⟩ c1.1 c1.2 = ⟨[], r, P ++ [c1]⟩ := by unfold stepSt; rw [if_pos hc]
    have st2 : stepSt Wd signs ⟨[], r, P ++ [c1]⟩ c2.1 c2.2 = ⟨[accStr P], 0, [c1, c2]⟩ := by
      unfold stepSt
      rw [if_neg (by show ¬ accLen r (P ++ [c1] ++ [c2]) ≤ Wd; (first | lia | omega))]
      show (match outerCut (P ++ [c1] ++ [c2]) signs.cps.toList with | some j => _ | none => _) = _
      rw [h2]
      show St.mk ([] ++ [accStr (List.take P.length (P ++ [c1] ++ [c2]))]) 0 (List.drop P.length (P ++ [c1] ++ [c2])) = _
      rw [tk, dr]; rfl
    refine ⟨?_, kA kP ⟨⟨s1, h0, h1000, Nat.zero_le _, fun _ z => absurd hc (by show ¬ accLen r (P ++ [c1]) ≤ Wd; exact Int.not_le.mpr z)⟩, ?_⟩⟩
    · show runSt Wd signs (stepSt Wd signs (stepSt Wd signs ⟨[], r, P⟩ c1.1 c1.2) c2.1 c2.2) Rst = _
      rw [st1, st2]; exact fin.1
    · show okRun Wd signs (stepSt Wd signs ⟨[], r, P⟩ c1.1 c1.2) (c2 :: Rst)
      rw [st1]
      refine ⟨⟨s2, h0, h1000, Nat.zero_le _, fun _ _ z => ?_⟩, ?_⟩
      · rw [show outerCut ((⟨[], r, P ++ [c1]⟩ : St).ps ++ [c2]) signs.cps.toList = some P.length from h2] at z; cases z
      · show okRun Wd signs (stepSt Wd signs ⟨[], r, P ++ [c1]⟩ c2.1 c2.2) Rst
        rw [st2]; exact fin.2
  · have st1 : stepSt Wd signs ⟨[], r, P⟩ c1.1 c1.2 = ⟨[accStr P], 0, [c1]⟩ := by
      unfold stepSt
      rw [if_neg hc]
      show (match outerCut (P ++ [c1]) signs.cps.toList with | some j => _ | none => _) = _
      rw [h1]
      show St.mk ([] ++ [accStr (List.take P.length (P ++ [c1]))]) 0 (List.drop P.length (P ++ [c1])) = _
      rw [show List.take P.length (P ++ [c1]) = P by simp, show List.drop P.length (P ++ [c1]) = [c1] by simp]; rfl
    have hc2 : accLen 0 ([c1] ++ [c2]) ≤ Wd := by
      have : accLen 0 (c1 :: c2 :: Rst) = accLen (accLen 0 [c1, c2]) Rst := accLen_app 0 [c1, c2] Rst
      rw [this] at hn
      exact Int.le_trans (accLen_mono _ _) hn
    have st2 : stepSt Wd signs ⟨[accStr P], 0, [c1]⟩ c2.1 c2.2 = ⟨[accStr P], 0, [c1, c2]⟩ := by
      unfold stepSt; rw [if_pos hc2]; rfl
    refine ⟨?_, kA kP ⟨⟨s1, h0, h1000, Nat.zero_le _, fun _ _ z => ?_⟩, ?_⟩⟩
    · show runSt Wd signs (stepSt Wd signs (stepSt Wd signs ⟨[], r, P⟩ c1.1 c1.2) c2.1 c2.2) Rst = _
      rw [st1, st2]; exact fin.1
    · have z2 := h1.symm.trans z; cases z2
    · show okRun Wd signs (stepSt Wd signs ⟨[], r, P⟩ c1.1 c1.2) (c2 :: Rst)
      rw [st1]
      refine ⟨⟨small_pre (a := [c1, c2]) (b := Rst) s3, Int.le_refl _, by show (0 : Int) ≤ 100000; decide, by show 1 ≤ 900; decide, fun z => absurd z (Int.lt_irrefl _)⟩, ?_⟩
      show okRun Wd signs (stepSt Wd signs ⟨[accStr P], 0, [c1]⟩ c2.1 c2.2) Rst
      rw [st2]; exact fin.2
end Mine
end
section
open PySem PySem.W PyProof.Rows PySem.Calls
set_option Elab.async false
set_option maxRecDepth 100000
namespace Mine
/-- what stands behind a word's first dot -/
noncomputable def wR (n : Int) : Str := Txt.mul "." (n - 1) ++ ";"
theorem wS_l (n : Int) : (wS n).cps.toList = List.replicate n.toNat 46 ++ [59] := by
  show ((Txt.mul "." n).cps ++ (Str.ofString ";").cps).toList = _
  rw [Array.toList_append, mul_list]; rfl
theorem wR_l (n : Int) : (wR n).cps.toList = List.replicate (n - 1).toNat 46 ++ [59] := by
  show ((Txt.mul "." (n - 1)).cps ++ (Str.ofString ";").cps).toList = _
  rw [Array.toList_append, mul_list]; rfl
theorem wR_len {n : Int} (h : 1 ≤ n) : ((wR n).length : Int) = n := by
  unfold wR
  rw [app_len, mul_len, show (Str.ofString ";").length = 1 by decide]; (first | lia | omega)
theorem wS_a {n : Int} (h : 1 ≤ n) : Txt.slice (wS n) none (some 1) = "." := by
  refine str_ext ?_
  rw [show (some (1 : Int)) = some ((1 : Nat) : Int) from rfl, slice_to _ 1 (by rw [wS_len]; (first | lia | omega)), wS_l]
  obtain ⟨k, hk⟩ : ∃ k, n.toNat = k + 1 := ⟨n.toNat - 1, by (first | lia | omega)⟩
  rw [hk, List.replicate_succ]
  rfl
theorem wS_b {n : Int} (h : 1 ≤ n) : Txt.slice (wS n) (some 1) none = wR n := by
  refine str_ext ?_
  rw [show (some (1 : Int)) = some ((1 : Nat) : Int) from rfl, slice_from _ 1 (by rw [wS_len]; (first | lia | omega)), wS_l, wR_l]
  obtain ⟨k, hk⟩ : ∃ k, n.toNat = k + 1 := ⟨n.toNat - 1, by (first | lia | omega)⟩
  rw [hk, show (n - 1).toNat = k by (first | lia | omega), List.replicate_succ]
  rfl
theorem sl_e1 : Txt.slice (Str.ofString "") none (some 1) = "" := by decide +kernel
theorem sl_e2 : Txt.slice (Str.ofString "") (some 1) none = "" := by decide +kernel
/-- the parts of five words -/
theorem chunks5 {b : Str} {n0 n1 n2 n3 n4 : Int} (h0 : 1 ≤ n0) (h1 : 1 ≤ n1) (h2 : 1 ≤ n2) (h3 : 1 ≤ n3) (h4 : 1 ≤ n4) : chunks b (wS n0) [wS n1, wS n2, wS n3, wS n4] =
    [(Str.ofString ".", wR n0), (b, Str.ofString "."), (Str.ofString "", wR n1), (b, Str.ofString "."), (Str.ofString "", wR n2), (b, Str.ofString "."), (Str.ofString "", wR n3), (b, Str.ofString "."), (Str.ofString "", wR n4)] := by
  unfold chunks tailChunks
  simp only [List.flatMap_cons, List.flatMap_nil, wS_a h0, wS_b h0, wS_a h1, wS_b h1, wS_a h2, wS_b h2, wS_a h3, wS_b h3, wS_a h4, wS_b h4, List.append_nil, List.cons_append, List.nil_append]
theorem chunks6 {n0 n1 n2 n3 n4 : Int} (h0 : 1 ≤ n0) (h1 : 1 ≤ n1) (h2 : 1 ≤ n2) (h3 : 1 ≤ n3) (h4 : 1 ≤ n4) : chunks "" (wS n0) ["", wS n1, wS n2, wS n3, wS n4] =
    [(Str.ofString ".", wR n0), (Str.ofString "", Str.ofString ""), (Str.ofString "", Str.ofString ""), (Str.ofString "", Str.ofString "."), (Str.ofString "", wR n1), (Str.ofString "", Str.ofString "."), (Str.ofString "", wR n2), (Str.ofString "", Str.ofString "."), (Str.ofString "", wR n3), (Str.ofString "", Str.ofString "."), (Str.ofString "", wR n4)] := by
  unfold chunks tailChunks
  simp only [List.flatMap_cons, List.flatMap_nil, wS_a h0, wS_b h0, wS_a h1, wS_b h1, wS_a h2, wS_b h2, wS_a h3, wS_b h3, wS_a h4, wS_b h4, sl_e1, sl_e2, List.append_nil, List.cons_append, List.nil_append]
theorem wR_back (n : Int) : (wR n).cps.back? = some 59 := by
  rw [← Array.getLast?_toList, wR_l]; simp
theorem accStr_l (ps : List (Str × Str)) : (accStr ps).cps.toList = (ps.map (fun p => p.1.cps.toList ++ p.2.cps.toList)).flatten := by
  unfold accStr
  rw [join0_toList, List.map_map]
  congr 1
  refine List.map_congr_left (fun p _ => ?_)
  show (pairStr p).cps.toList = _
  unfold pairStr
  rw [join0_toList]
  simp
end Mine
end
section
open PySem PySem.W PyProof.Rows PySem.Calls
set_option Elab.async false
set_option maxRecDepth 100000
namespace Mine
theorem inner_none {ch : Nat} {ps : List (Str × Str)} : ∀ {n : Nat}, (∀ i, cutHere ch ps i = false) → innerCut ch ps n = none
  | 0, _ => rfl
  | n + 1, h => by
    unfold innerCut
    rw [if_neg (by rw [h]; exact Bool.false_ne_true)]
    exact inner_none h
theorem cut_false {ch : Nat} {ps : List (Str × Str)} (hw : Txt.isspace ⟨#[ch]⟩ = false) (h : ∀ c ∈ ps, c.2.cps.back? ≠ some ch) (i : Nat) : cutHere ch ps i = false := by
  unfold cutHere
  rw [hw, Bool.false_and, Bool.false_or, beq_eq_false_iff_ne]
  rw [List.getD_eq_getElem?_getD]
  cases e : ps[i - 1]? with
  | none =>
    have e0 : (Str.ofString "").cps.back? = none := by decide +kernel
    exact fun z => nomatch (e0.symm.trans z)
  | some c => exact h c (List.mem_of_getElem? e)
theorem ws44 : Txt.isspace ⟨#[44]⟩ = false := by decide +kernel
theorem ws59 : Txt.isspace ⟨#[59]⟩ = false := by decide +kernel
theorem ws32 : Txt.isspace ⟨#[32]⟩ = true := by decide +kernel
theorem getD_mid {α : Type} {P T : List α} {p d : α} (n : Nat) (hn : n = P.length) : (P ++ p :: T).getD n d = p := by
  subst hn
  rw [List.getD_eq_getElem?_getD, List.getElem?_append_right (Nat.le_refl _), Nat.sub_self]
  rfl
theorem cut_at {P T : List (Str × Str)} {p : Str × Str} (h : p.2.cps.back? = some 59) : cutHere 59 (P ++ p :: T) (P.length + 1) = true := by
  unfold cutHere
  rw [ws59, Bool.false_and, Bool.false_or, Nat.add_sub_cancel, getD_mid _ rfl, h]; rfl
theorem not_at {P T : List (Str × Str)} {p : Str × Str} (h : p.2.cps.back? = some 46) : cutHere 59 (P ++ p :: T) (P.length + 1) = false := by
  unfold cutHere
  rw [ws59, Bool.false_and, Bool.false_or, Nat.add_sub_cancel, getD_mid _ rfl, h]; rfl
theorem sub_mem {α : Type} {P T : List α} {p c1 c : α} (h : c ∈ (P ++ [p]) ++ (c1 :: T.take 0)) : c ∈ P ++ (p :: c1 :: T) := by
  simp only [List.take_zero, List.mem_append, List.mem_cons, List.mem_nil_iff, or_false] at h ⊢
  rcases h with (h | h) | h
  · exact .inl h
  · exact .inr (.inl h)
  · exact .inr (.inr (.inl h))
/-- the place where a row breaks: behind the last semicolon but the open word's -/
theorem oc_sg {P : List (Str × Str)} {p c1 c2 : Str × Str} (hp : p.2.cps.back? = some 59) (h1 : c1.2.cps.back? = some 46) (hall : ∀ c ∈ P ++ [p, c1, c2], c.2.cps.back? ≠ some 44) :
    outerCut ((P ++ [p]) ++ [c1]) [44, 59, 46] = some (P ++ [p]).length ∧ outerCut ((P ++ [p]) ++ [c1, c2]) [44, 59, 46] = some (P ++ [p]).length := by
  have hl : (P ++ [p]).length = P.length + 1 := by simp
  constructor
  · have n44 : innerCut 44 ((P ++ [p]) ++ [c1]) (((P ++ [p]) ++ [c1]).length - 1) = none := inner_none (cut_false ws44 (fun c hc => hall c (sub_mem (T := [c2]) hc)))
    have e : ((P ++ [p]) ++ [c1]).length - 1 = P.length + 1 := by simp
    have l : (P ++ [p]) ++ [c1] = P ++ p :: [c1] := by simp
    unfold outerCut
    rw [n44]
    dsimp only
    unfold outerCut
    rw [e, l, hl]
    unfold innerCut
    rw [if_pos (cut_at hp)]
  · have n44 : innerCut 44 ((P ++ [p]) ++ [c1, c2]) (((P ++ [p]) ++ [c1, c2]).length - 1) = none := inner_none (cut_false ws44 (fun c hc => hall c (by rwa [List.append_assoc] at hc)))
    have e : ((P ++ [p]) ++ [c1, c2]).length - 1 = P.length + 1 + 1 := by simp
    have l : (P ++ [p]) ++ [c1, c2] = P ++ p :: [c1, c2] := by simp
    have l2 : P ++ p :: [c1, c2] = (P ++ [p]) ++ c1 :: [c2] := by simp
    unfold outerCut
    rw [n44]
    dsimp only
    unfold outerCut
    rw [e, l, hl]
    have i2 : innerCut 59 (P ++ p :: [c1, c2]) (P.length + 1 + 1) = some (P.length + 1) := by
      have hn : cutHere 59 (P ++ p :: [c1, c2]) (P.length + 1 + 1) = false := by
        rw [l2, ← hl]; exact not_at h1
      have hy : cutHere 59 (P ++ p :: [c1, c2]) (P.length + 1) = true := cut_at hp
      unfold innerCut
      rw [if_neg (by rw [hn]; exact Bool.false_ne_true)]
      unfold innerCut
      rw [if_pos hy]
    rw [i2]
/-- with blanks: at the open word's blank -/
theorem oc_sp {P : List (Str × Str)} {p c1 c2 : Str × Str} (h1 : c1.1.cps[0]? = some 32) (h1' : c1.2.cps.back? = some 46) (h2 : c2.1.cps[0]? = none) :
    outerCut ((P ++ [p]) ++ [c1]) [32] = some (P ++ [p]).length ∧ outerCut ((P ++ [p]) ++ [c1, c2]) [32] = some (P ++ [p]).length := by
  have hl : (P ++ [p]).length = P.length + 1 := by simp
  have hy : ∀ T : List (Str × Str), cutHere 32 ((P ++ [p]) ++ c1 :: T) (P.length + 1) = true := fun T => by
    unfold cutHere
    rw [ws32, getD_mid (P.length + 1) hl.symm, h1]; rfl
  constructor
  · have e : ((P ++ [p]) ++ [c1]).length - 1 = P.length + 1 := by simp
    unfold outerCut
    rw [e, hl]
    unfold innerCut
    rw [if_pos (hy [])]
  · have e : ((P ++ [p]) ++ [c1, c2]).length - 1 = P.length + 1 + 1 := by simp
    have hn : cutHere 32 ((P ++ [p]) ++ [c1, c2]) (P.length + 1 + 1) = false := by
      have l2 : (P ++ [p]) ++ [c1, c2] = ((P ++ [p]) ++ [c1]) ++ c2 :: [] := by simp
      have l3 : ((P ++ [p]) ++ [c1]) ++ c2 :: [] = (P ++ [p]) ++ c1 :: [c2] := by simp
      unfold cutHere
      rw [ws32, l2, getD_mid (P.length + 1 + 1) (by simp), h2, l3, Nat.add_sub_cancel, getD_mid (P.length + 1) hl.symm, h1']; rfl
    unfold outerCut
    rw [e, hl]
    have i2 : innerCut 32 ((P ++ [p]) ++ [c1, c2]) (P.length + 1 + 1) = some (P.length + 1) := by
      unfold innerCut
      rw [if_neg (by rw [hn]; exact Bool.false_ne_true)]
      unfold innerCut
      rw [if_pos (hy [c2])]
    rw [i2]
theorem oc_comma {ps : List (Str × Str)} (h : ∀ c ∈ ps, c.2.cps.back? ≠ some 44) : outerCut ps [44] = none := by
  unfold outerCut
  rw [inner_none (cut_false ws44 h)]
  rfl
end Mine
end
section
open PySem PySem.W PyProof.Rows PySem.Calls
set_option Elab.async false
set_option maxRecDepth 100000
namespace Mine
theorem accLen_nil (i : Int) : accLen i [] = i := by unfold accLen; simp
theorem accStr_len (ps : List (Str × Str)) : ((accStr ps).length : Int) = accLen 0 ps := by
  rw [len_list, accStr_l]
  induction ps with
  | nil => rfl
  | cons a r ih =>
    rw [List.map_cons, List.flatten_cons, List.length_append, accLen_cons]
    unfold accLen at ih ⊢
    rw [List.length_append, ← len_list, ← len_list]
    (first | lia | omega)
theorem app_l (a b : Str) : (a ++ b).cps.toList = a.cps.toList ++ b.cps.toList := by
  show (a.cps ++ b.cps).toList = _
  rw [Array.toList_append]
theorem join2_l (e a b : Str) : (Txt.join e [a, b]).cps.toList = a.cps.toList ++ (e.cps.toList ++ b.cps.toList) := by
  unfold Txt.join
  rw [StrLaws.glued_eq_join]
  show ((a.cps ++ e.cps ++ b.cps)).toList = _
  rw [Array.toList_append, Array.toList_append, List.append_assoc]
theorem join1_l (e a : Str) : Txt.join e [a] = a := by
  unfold Txt.join
  rw [StrLaws.glued_eq_join]
  rfl
theorem strOk_lt {x : Str} (h : ∀ c ∈ x.cps.toList, c < 128) : PyData.strOk x = true := by
  unfold PyData.strOk
  rw [← Array.all_toList, List.all_eq_true]
  exact fun c hc => decide_eq_true (Nat.lt_of_lt_of_le (h c hc) (by decide))
theorem wR_ok (n : Int) : PyData.strOk (wR n) = true := strOk_lt (fun c hc => by
  rw [wR_l] at hc
  simp only [List.mem_append, List.mem_replicate, List.mem_cons, List.mem_nil_iff, or_false] at hc
  (first | lia | omega))
theorem sp59 : Unicode.isSpace 59 = false := by decide +kernel
theorem nosp {x : Str} (h : 59 ∈ x.cps.toList) : Txt.isspace x = false := by
  unfold Txt.isspace
  have : x.cps.all Unicode.isSpace = false := by
    rw [← Array.all_toList, List.all_eq_false]
    exact ⟨59, h, by rw [sp59]; exact Bool.false_ne_true⟩
  rw [this, Bool.and_false]
theorem okEnd_of {lines : List Str} {i : Int} {psi : List (Str × Str)} {f : Str} {m : Int} (hf : (f, wR m) ≠ ((" " : Str), ("" : Str))) (hfo : PyData.strOk f = true) (hm : 1 ≤ m) (hs : Small (psi ++ [(f, wR m)])) (hi0 : 0 ≤ i) (hi : i ≤ 1000) (hl : lines.length ≤ 1) (hll : ∀ l ∈ lines, l.length ≤ 1000) (ha : accLen 0 (psi ++ [(f, wR m)]) ≤ 1000) :
    okEnd ⟨lines, i, psi ++ [(f, wR m)]⟩ where
  last := ⟨psi, (f, wR m), rfl, hf, hfo, wR_ok m⟩
  small := hs
  i0 := hi0
  i1 := Int.le_trans hi (by decide)
  lines := Nat.le_trans hl (by decide)
  pos := by
    show 0 < accLen i (psi ++ [(f, wR m)])
    rw [accLen_app, accLen_cons, accLen_nil, wR_len hm]
    have := accLen_mono i psi
    (first | lia | omega)
  ws := by
    have : Txt.isspace (accStr (psi ++ [(f, wR m)])) = false := nosp (by
      rw [accStr_l, List.map_append, List.flatten_append]
      simp [wR_l])
    rw [this, Bool.and_false]
  fit := by
    have h1 := accStr_len (psi ++ [(f, wR m)])
    show ((lines ++ [accStr (psi ++ [(f, wR m)])]).map (·.length)).sum + _ ≤ _
    match lines, hl, hll with
    | [], _, _ => simp only [List.nil_append, List.map_cons, List.map_nil, List.sum_cons, List.sum_nil, List.length_cons, List.length_nil]; (first | lia | omega)
    | [l], _, hll =>
      have := hll l (List.mem_cons_self ..)
      simp only [List.cons_append, List.nil_append, List.map_cons, List.map_nil, List.sum_cons, List.sum_nil, List.length_cons, List.length_nil]; (first | lia | omega)
end Mine
end
section
open PySem PySem.W PyProof.Rows PySem.Calls
set_option Elab.async false
set_option maxRecDepth 100000
namespace Mine
theorem lenDot : (Str.ofString ".").length = 1 := by decide
theorem lenE : (Str.ofString "").length = 0 := by decide
theorem lenB : (Str.ofString " ").length = 1 := by decide
theorem dotBack : (Str.ofString ".").cps.back? = some 46 := by decide +kernel
theorem eBack : (Str.ofString "").cps.back? = none := by decide +kernel
theorem dot_l : (Str.ofString ".").cps.toList = [46] := by decide +kernel
theorem e_l : (Str.ofString "").cps.toList = [] := by decide +kernel
theorem b_l : (Str.ofString " ").cps.toList = [32] := by decide +kernel
theorem nl_l : (Str.ofString "\n").cps.toList = [10] := by decide +kernel
theorem semi_l : (Str.ofString ";").cps.toList = [59] := by decide +kernel
theorem SG_l : SG.cps.toList = [44, 59, 46] := by decide +kernel
/-- parts, as a page gets them of words -/
inductive Part : Str × Str → Prop
  | head {n : Int} (h : 1 ≤ n) (h' : n ≤ 90) : Part (Str.ofString ".", wR n)
  | dot : Part (Str.ofString "", Str.ofString ".")
  | tail {n : Int} (h : 1 ≤ n) (h' : n ≤ 90) : Part (Str.ofString "", wR n)
  | none : Part (Str.ofString "", Str.ofString "")
  | blank : Part (Str.ofString " ", Str.ofString ".")
theorem Part.back {c : Str × Str} (h : Part c) : c.2.cps.back? ≠ some 44 := by
  cases h with
  | head => rw [wR_back]; decide
  | dot => rw [dotBack]; decide
  | tail => rw [wR_back]; decide
  | none => rw [eBack]; decide
  | blank => rw [dotBack]; decide
theorem Part.len {c : Str × Str} (h : Part c) : c.1.length ≤ 1000 ∧ c.2.length ≤ 1000 := by
  cases h with
  | head h h' =>
    have := wR_len h
    exact ⟨by rw [lenDot]; decide, by dsimp only; (first | lia | omega)⟩
  | dot => rw [lenDot, lenE]; (first | lia | omega)
  | tail h h' =>
    have := wR_len h
    exact ⟨by rw [lenE]; decide, by dsimp only; (first | lia | omega)⟩
  | none => rw [lenE]; (first | lia | omega)
  | blank => rw [lenDot, lenB]; (first | lia | omega)
theorem parts_small {cs : List (Str × Str)} (h : ∀ c ∈ cs, Part c) (hl : cs.length ≤ 50) : Small cs := ⟨by (first | lia | omega), fun c hc => (h c hc).len⟩
/-- an hour with a break ahead of a word -/
theorem hour_cut {width room : Int} {P Rst : List (Str × Str)} {p : Str × Str} {n : Int} {psi : List (Str × Str)} {m : Int} (h0 : 0 ≤ room) (h1 : room ≤ 1000) (hp : p.2.cps.back? = some 59) (hn : 1 ≤ n) (hP : accLen room (P ++ [p]) ≤ width) (ho : width < accLen room (P ++ [p]) + 1 + n) (hr : accLen 0 ((Str.ofString "", Str.ofString ".") :: (Str.ofString "", wR n) :: Rst) ≤ width)
    (hall : ∀ c ∈ (P ++ [p]) ++ ((Str.ofString "", Str.ofString ".") :: (Str.ofString "", wR n) :: Rst), Part c) (hl : ((P ++ [p]) ++ ((Str.ofString "", Str.ofString ".") :: (Str.ofString "", wR n) :: Rst)).length ≤ 50) (hw : width ≤ 1000)
    (hm : 1 ≤ m) (hlast : (Str.ofString "", Str.ofString ".") :: (Str.ofString "", wR n) :: Rst = psi ++ [(Str.ofString "", wR m)]) :
    runSt width SG ⟨[], room, []⟩ ((P ++ [p]) ++ ((Str.ofString "", Str.ofString ".") :: (Str.ofString "", wR n) :: Rst)) = ⟨[accStr (P ++ [p])], 0, (Str.ofString "", Str.ofString ".") :: (Str.ofString "", wR n) :: Rst⟩ ∧
    okRun width SG ⟨[], room, []⟩ ((P ++ [p]) ++ ((Str.ofString "", Str.ofString ".") :: (Str.ofString "", wR n) :: Rst)) ∧ okEnd ⟨[accStr (P ++ [p])], 0, (Str.ofString "", Str.ofString ".") :: (Str.ofString "", wR n) :: Rst⟩ := by
  have hs := parts_small hall hl
  obtain ⟨o1, o2⟩ := oc_sg (P := P) (p := p) (c1 := (Str.ofString "", Str.ofString ".")) (c2 := (Str.ofString "", wR n)) hp dotBack (fun c hc => (hall c (by
    simp only [List.mem_append, List.mem_cons, List.mem_nil_iff, or_false] at hc ⊢
    rcases hc with h | h | h | h
    · exact .inl (.inl h)
    · exact .inl (.inr h)
    · exact .inr (.inl h)
    · exact .inr (.inr (.inl h)))).back)
  obtain ⟨e, k⟩ := run_cut (Wd := width) (r := room) (signs := SG) (P := P ++ [p]) (Rst := Rst) (c1 := (Str.ofString "", Str.ofString ".")) (c2 := (Str.ofString "", wR n)) h0 (Int.le_trans h1 (by decide)) hP (by
    rw [accLen_app, accLen_cons, accLen_cons, accLen_nil, lenE, lenDot, wR_len hn]; (first | lia | omega)) hr (by rw [SG_l]; exact o1) (by rw [SG_l]; exact o2) hs
  refine ⟨e, k, ?_⟩
  have hs2 := small_suf hs
  rw [hlast] at hs2 hr ⊢
  refine okEnd_of (fun z => ?_) (by decide +kernel) hm hs2 (Int.le_refl _) (by decide) (by simp) (fun l hl => ?_) (Int.le_trans hr hw)
  · have := congrArg (fun q : Str × Str => q.1.length) z
    simp only [lenE] at this
    exact absurd this (by decide)
  · obtain rfl : l = accStr (P ++ [p]) := by simpa using hl
    have := accStr_len (P ++ [p])
    have h2 : accLen room (P ++ [p]) = room + accLen 0 (P ++ [p]) := by unfold accLen; (first | lia | omega)
    (first | lia | omega)
/-- an hour without a break -/
theorem hour_fit {width room : Int} {cs psi : List (Str × Str)} {m : Int} {sg : Str} (h0 : 0 ≤ room) (h1 : room ≤ 1000) (hf : accLen room cs ≤ width) (hall : ∀ c ∈ cs, Part c) (hl : cs.length ≤ 50) (hw : width ≤ 1000) (hm : 1 ≤ m) (hlast : cs = psi ++ [(Str.ofString "", wR m)]) :
    runSt width sg ⟨[], room, []⟩ cs = ⟨[], room, cs⟩ ∧ okRun width sg ⟨[], room, []⟩ cs ∧ okEnd ⟨[], room, cs⟩ := by
  have hs := parts_small hall hl
  obtain ⟨e, k⟩ := run_fit (Wd := width) (signs := sg) cs ⟨[], room, []⟩ hs h0 (Int.le_trans h1 (by decide)) (Nat.zero_le _) hf
  refine ⟨e, k, ?_⟩
  have h2 : accLen room cs = room + accLen 0 cs := by unfold accLen; (first | lia | omega)
  rw [hlast] at hs hf h2 ⊢
  refine okEnd_of (fun z => ?_) (by decide +kernel) hm hs h0 h1 (Nat.zero_le _) (fun l hl => nomatch hl) (by (first | lia | omega))
  have := congrArg (fun q : Str × Str => q.1.length) z
  simp only [lenE] at this
  exact absurd this (by decide)
end Mine
end
section
open PySem PySem.W PyProof.Rows PySem.Calls
set_option Elab.async false
set_option maxRecDepth 100000
namespace Mine
noncomputable def dt (p : Int) : List Nat := List.replicate p.toNat 46 ++ [59]
noncomputable def dts (l : List Int) : List Nat := (l.map dt).flatten
theorem dt_succ {p : Int} (h : 0 ≤ p) : dt (p + 1) = 46 :: dt p := by
  unfold dt
  rw [show (p + 1).toNat = p.toNat + 1 by (first | lia | omega), List.replicate_succ]; rfl
theorem dts_cons (p : Int) (r : List Int) : dts (p :: r) = dt p ++ dts r := by simp [dts]
theorem dts_nil : dts [] = [] := rfl
theorem dts_app (a b : List Int) : dts (a ++ b) = dts a ++ dts b := by simp [dts]
theorem dts_succ {p : Int} (h : 0 ≤ p) (r : List Int) : dts ((p + 1) :: r) = 46 :: dts (p :: r) := by
  rw [dts_cons, dts_cons, dt_succ h]; rfl
theorem wS_dt (p : Int) : (wS p).cps.toList = dt p := wS_l p
theorem wR_dt {p : Int} (h : 1 ≤ p) : 46 :: (wR p).cps.toList = dt p := by
  rw [wR_l]
  have := dt_succ (p := p - 1) (by (first | lia | omega))
  rw [show p - 1 + 1 = p by (first | lia | omega)] at this
  rw [this]; rfl
theorem acc_nil : (accStr []).cps.toList = [] := by rw [accStr_l]; rfl
theorem acc_head {p : Int} (h : 1 ≤ p) (r : List (Str × Str)) : (accStr ((Str.ofString ".", wR p) :: r)).cps.toList = dt p ++ (accStr r).cps.toList := by
  rw [accStr_l, accStr_l, List.map_cons, List.flatten_cons, ← wR_dt h, dot_l]; rfl
theorem acc_word {p : Int} (h : 1 ≤ p) (r : List (Str × Str)) : (accStr ((Str.ofString "", Str.ofString ".") :: (Str.ofString "", wR p) :: r)).cps.toList = dt p ++ (accStr r).cps.toList := by
  rw [accStr_l, accStr_l, List.map_cons, List.flatten_cons, List.map_cons, List.flatten_cons, ← wR_dt h, dot_l, e_l]; rfl
theorem acc_blank {p : Int} (h : 1 ≤ p) (r : List (Str × Str)) : (accStr ((Str.ofString " ", Str.ofString ".") :: (Str.ofString "", wR p) :: r)).cps.toList = 32 :: (dt p ++ (accStr r).cps.toList) := by
  rw [accStr_l, accStr_l, List.map_cons, List.flatten_cons, List.map_cons, List.flatten_cons, ← wR_dt h, dot_l, e_l, b_l]; rfl
theorem isRow_dts {p : Int} (h : 1 ≤ p) (r : List Int) : IsRow (dts (p :: r)) := by
  refine ⟨?_, ?_⟩
  · have := dts_succ (p := p - 1) (by (first | lia | omega)) r
    rw [show p - 1 + 1 = p by (first | lia | omega)] at this
    rw [this]; rfl
  · have key : ∀ l : List Int, ∀ c ∈ dts l, c = 46 ∨ c = 59 := by
      intro l
      induction l with
      | nil => intro c hc; cases hc
      | cons a r ih =>
        intro c hc
        rw [dts_cons] at hc
        rcases List.mem_append.mp hc with hc | hc
        · unfold dt at hc
          rcases List.mem_append.mp hc with hc | hc
          · exact .inl (List.mem_replicate.mp hc).2
          · exact .inr (by simpa using hc)
        · exact ih c hc
    exact key _
theorem dts_len : ∀ l : List Int, (∀ p ∈ l, p ≤ 90) → (dts l).length ≤ 91 * l.length
  | [], _ => Nat.zero_le _
  | a :: r, h => by
    have h1 := dts_len r (fun p hp => h p (.tail _ hp))
    have h2 := h a (.head _)
    rw [dts_cons, List.length_append, List.length_cons]
    unfold dt
    rw [List.length_append, List.length_replicate, List.length_singleton]
    (first | lia | omega)
theorem join_dts (q0 q1 q2 q3 q4 : Int) : joinC 59 [rp q0, rp q1, rp q2, rp q3, rp q4, []] = dts [q0, q1, q2, q3, q4] := by
  simp [joinC, dts, dt, rp]
theorem endS_end (t : Nat) : IsEnd (endS t).cps.toList := by
  unfold endS IsEnd
  split
  · exact .inl rfl
  · exact .inr (.inl rfl)
  · exact .inr (.inr rfl)
theorem endS_len (t : Nat) : (endS t).cps.toList.length ≤ 2 := by
  rcases endS_end t with e | e | e <;> rw [e] <;> decide
noncomputable def tS (X : Str) (f c d t : Int) (e : Str) : Str := (if c ≤ t ∧ t < d then X ++ e else X) ++ Txt.mul "." (f + min (max (t - c) 0) (f + 1)) ++ ";"
theorem told5 (f0 f1 f2 f3 f4 c0 c1 c2 c3 c4 t : Int) (e : Str) : toldTo [f0, f1, f2, f3, f4] [c0, c1, c2, c3, c4] t e 4 = tS (tS (tS (tS (wS (f0 + t)) f1 c1 c0 t e) f2 c2 c1 t e) f3 c3 c2 t e) f4 c4 c3 t e := rfl
theorem tS_yes {X : Str} {f c d t p : Int} {e : Str} (h : c ≤ t ∧ t < d) (hp : f + min (max (t - c) 0) (f + 1) = p) : (tS X f c d t e).cps.toList = X.cps.toList ++ (e.cps.toList ++ dt p) := by
  unfold tS
  rw [if_pos h, hp, app_l, app_l, app_l, mul_list, semi_l]
  simp [dt]
theorem tS_no {X : Str} {f c d t p : Int} {e : Str} (h : ¬ (c ≤ t ∧ t < d)) (hp : f + min (max (t - c) 0) (f + 1) = p) : (tS X f c d t e).cps.toList = X.cps.toList ++ dt p := by
  unfold tS
  rw [if_neg h, hp, app_l, app_l, mul_list, semi_l]
  simp [dt]
/-- words as a page gets them, behind blanks b -/
noncomputable def wds (b : Str) : List Int → List (Str × Str)
  | [] => []
  | p :: r => (b, Str.ofString ".") :: (Str.ofString "", wR p) :: wds b r
/-- how many signs they take -/
noncomputable def sm (n : Int) : List Int → Int
  | [] => 0
  | p :: r => (p + n) + sm n r
noncomputable abbrev In90 (l : List Int) : Prop := ∀ p ∈ l, 1 ≤ p ∧ p ≤ 90
theorem wds_acc {b : Str} : ∀ {l : List Int} {i : Int}, In90 l → accLen i (wds b l) = i + sm (1 + b.length) l
  | [], i, _ => by rw [wds, accLen_nil, sm, Int.add_zero]
  | p :: r, i, h => by
    rw [wds, accLen_cons, accLen_cons, wds_acc (fun q hq => h q (.tail _ hq)), lenE, lenDot, wR_len (h p (.head _)).1, sm]
    dsimp only
    (first | lia | omega)
theorem hd_acc {b : Str} {p i : Int} {l : List Int} (h0 : 1 ≤ p) (h : In90 l) : accLen i ((Str.ofString ".", wR p) :: wds b l) = i + (p + 1) + sm (1 + b.length) l := by
  rw [accLen_cons, wds_acc h, lenDot, wR_len h0]; (first | lia | omega)
theorem wds_len (b : Str) : ∀ l : List Int, (wds b l).length = 2 * l.length
  | [] => rfl
  | p :: r => by rw [wds, List.length_cons, List.length_cons, wds_len b r, List.length_cons]; (first | lia | omega)
theorem wds_part {b : Str} (hb : Part (b, Str.ofString ".")) : ∀ {l : List Int}, In90 l → ∀ c ∈ wds b l, Part c
  | [], _, c, hc => nomatch hc
  | p :: r, h, c, hc => by
    rcases List.mem_cons.mp hc with rfl | hc
    · exact hb
    · rcases List.mem_cons.mp hc with rfl | hc
      · exact .tail (h p (.head _)).1 (h p (.head _)).2
      · exact wds_part hb (fun q hq => h q (.tail _ hq)) c hc
/-- the last part is a word's rest -/
theorem wds_last {b : Str} : ∀ {q : Int} {l : List Int}, In90 (q :: l) → ∃ psi m, wds b (q :: l) = psi ++ [(Str.ofString "", wR m)] ∧ 1 ≤ m
  | q, [], h => ⟨[(b, Str.ofString ".")], q, rfl, (h q (.head _)).1⟩
  | q, p :: r, h => by
    obtain ⟨psi, m, e, hm⟩ := wds_last (b := b) (q := p) (l := r) (fun z hz => h z (.tail _ hz))
    exact ⟨(b, Str.ofString ".") :: (Str.ofString "", wR q) :: psi, m, by rw [wds, e]; rfl, hm⟩
theorem hd_last {b : Str} {p0 : Int} {l : List Int} (h : In90 l) : ∃ P p, (Str.ofString ".", wR p0) :: wds b l = P ++ [p] ∧ p.2.cps.back? = some 59 := by
  cases l with
  | nil => exact ⟨[], _, rfl, wR_back _⟩
  | cons q r =>
    obtain ⟨psi, m, e, hm⟩ := wds_last (b := b) h
    exact ⟨(Str.ofString ".", wR p0) :: psi, _, by rw [e]; rfl, wR_back _⟩
theorem acc_wds : ∀ {l : List Int}, In90 l → (accStr (wds (Str.ofString "") l)).cps.toList = dts l
  | [], _ => acc_nil
  | p :: r, h => by rw [wds, acc_word (h p (.head _)).1, acc_wds (fun q hq => h q (.tail _ hq)), dts_cons]
theorem acc_hd {p0 : Int} {l : List Int} (h0 : 1 ≤ p0) (h : In90 l) : (accStr ((Str.ofString ".", wR p0) :: wds (Str.ofString "") l)).cps.toList = dts (p0 :: l) := by
  rw [acc_head h0, acc_wds h, dts_cons]
theorem in90_app {l : List Int} {q : Int} {r : List Int} (hl : In90 l) (hr : In90 (q :: r)) (b : Str) (hb : Part (b, Str.ofString ".")) {p0 : Int} (h0 : 1 ≤ p0 ∧ p0 ≤ 90) : ∀ c ∈ ((Str.ofString ".", wR p0) :: wds b l) ++ wds b (q :: r), Part c := fun c hc => by
  rcases List.mem_append.mp hc with hc | hc
  · rcases List.mem_cons.mp hc with rfl | hc
    · exact .head h0.1 h0.2
    · exact wds_part hb hl c hc
  · exact wds_part hb hr c hc
theorem lenE' : (1 : Int) + ((Str.ofString "").length : Nat) = 1 := by rw [lenE]; rfl
/-- an hour with a break ahead of the word q -/
theorem hour_of {f0 f1 f2 f3 f4 c0 c1 c2 c3 c4 room width : Int} {t : Nat} {p0 p1 p2 p3 p4 q0 q1 q2 q3 q4 q : Int} {l r : List Int} (el : [p1, p2, p3, p4] = l ++ q :: r) (r0 : 0 ≤ room) (r1 : room ≤ 1000) (hw : width ≤ 1000) (h0 : 1 ≤ p0 ∧ p0 ≤ 90) (hl : In90 l) (hr : In90 (q :: r))
    (hP : room + (p0 + 1) + sm 1 l ≤ width) (ho : width < room + (p0 + 1) + sm 1 l + (q + 1)) (hR : sm 1 (q :: r) ≤ width)
    (hT : (toldTo [f0, f1, f2, f3, f4] [c0, c1, c2, c3, c4] t (endS t) 4).cps.toList = twoRows (dts (p0 :: l)) (some ((endS t).cps.toList, dts (q :: r))))
    (hN : dts [q0, q1, q2, q3, q4] = dts ((p0 + 1) :: l ++ (q + 1) :: r)) (bq : q0 ≤ 90 ∧ q1 ≤ 90 ∧ q2 ≤ 90 ∧ q3 ≤ 90 ∧ q4 ≤ 90) :
    HourOk f0 f1 f2 f3 f4 c0 c1 c2 c3 c4 room width t p0 p1 p2 p3 p4 q0 q1 q2 q3 q4 := by
  have h4 : In90 [p1, p2, p3, p4] := el ▸ fun p hp => by
    rcases List.mem_append.mp hp with hp | hp
    · exact hl p hp
    · exact hr p hp
  have b1 := h4 p1 (.head _)
  have b2 := h4 p2 (.tail _ (.head _))
  have b3 := h4 p3 (.tail _ (.tail _ (.head _)))
  have b4 := h4 p4 (.tail _ (.tail _ (.tail _ (.head _))))
  have ll : l.length + r.length = 3 := by
    have := congrArg List.length el
    simp only [List.length_cons, List.length_nil, List.length_append] at this
    (first | lia | omega)
  have wa : ∀ a b : List Int, wds (Str.ofString "") (a ++ b) = wds (Str.ofString "") a ++ wds (Str.ofString "") b := fun a b => by
    induction a with
    | nil => rfl
    | cons x a ih => rw [List.cons_append, wds, ih]; rfl
  have ec : chunks "" (wS p0) [wS p1, wS p2, wS p3, wS p4] = ((Str.ofString ".", wR p0) :: wds (Str.ofString "") l) ++ wds (Str.ofString "") (q :: r) := by
    rw [show chunks "" (wS p0) [wS p1, wS p2, wS p3, wS p4] = (Str.ofString ".", wR p0) :: wds (Str.ofString "") [p1, p2, p3, p4] from chunks5 h0.1 b1.1 b2.1 b3.1 b4.1, el, wa]; rfl
  have aP := hd_acc (b := Str.ofString "") (i := room) h0.1 hl
  rw [lenE'] at aP
  have aR := wds_acc (b := Str.ofString "") (i := 0) hr
  rw [lenE'] at aR
  have hall := in90_app hl hr _ .dot h0
  have hz : (((Str.ofString ".", wR p0) :: wds (Str.ofString "") l) ++ wds (Str.ofString "") (q :: r)).length ≤ 50 := by
    rw [List.length_append, List.length_cons, wds_len, wds_len, List.length_cons]; (first | lia | omega)
  obtain ⟨P, p, eP, hp⟩ := hd_last (b := Str.ofString "") (p0 := p0) hl
  obtain ⟨psi, m, em, hm⟩ := wds_last (b := Str.ofString "") hr
  have key := hour_cut (width := width) (room := room) (P := P) (p := p) (n := q) (Rst := wds (Str.ofString "") r) (psi := psi) (m := m) r0 r1 hp (hr q (.head _)).1 (by rw [← eP, aP]; exact hP) (by rw [← eP, aP]; (first | lia | omega)) (by
    rw [show (Str.ofString "", Str.ofString ".") :: (Str.ofString "", wR q) :: wds (Str.ofString "") r = wds (Str.ofString "") (q :: r) from rfl, aR]; (first | lia | omega)) (by rw [← eP]; exact hall) (by rw [← eP]; exact hz) hw hm em
  rw [← eP] at key
  obtain ⟨e, k, ke⟩ := key
  have eT : (foldT (wS p0) (wS p1) (wS p2) (wS p3) (wS p4) room width (endS t)).cps.toList = twoRows (dts (p0 :: l)) (some ((endS t).cps.toList, dts (q :: r))) := by
    unfold foldT foldS
    rw [ec, show ((Str.ofString ".", wR p0) :: wds (Str.ofString "") l) ++ wds (Str.ofString "") (q :: r) = ((Str.ofString ".", wR p0) :: wds (Str.ofString "") l) ++ ((Str.ofString "", Str.ofString ".") :: (Str.ofString "", wR q) :: wds (Str.ofString "") r) from rfl, e]
    show (Txt.join (endS t) [accStr ((Str.ofString ".", wR p0) :: wds (Str.ofString "") l), accStr (wds (Str.ofString "") (q :: r))]).cps.toList = _
    rw [join2_l, acc_hd h0.1 hl, acc_wds hr]; rfl
  refine ⟨?_, ?_, str_ext (by rw [eT, hT]), ⟨dts (p0 :: l), some ((endS t).cps.toList, dts (q :: r)), ⟨isRow_dts h0.1 _, fun e r2 z => ?_, ?_⟩, eT, ?_⟩, ⟨h0.2, b1.2, b2.2, b3.2, b4.2⟩, bq⟩
  · rw [ec]; exact k
  · unfold foldS
    rw [ec, show ((Str.ofString ".", wR p0) :: wds (Str.ofString "") l) ++ wds (Str.ofString "") (q :: r) = ((Str.ofString ".", wR p0) :: wds (Str.ofString "") l) ++ ((Str.ofString "", Str.ofString ".") :: (Str.ofString "", wR q) :: wds (Str.ofString "") r) from rfl, e]; exact ke
  · cases z
    exact ⟨endS_end t, isRow_dts (hr q (.head _)).1 _⟩
  · have l1 := dts_len (p0 :: l) (ac h0.2 (fun p hp => (hl p hp).2))
    have l2 := dts_len (q :: r) (fun p hp => (hr p hp).2)
    have l3 := endS_len t
    simp only [twoRows, List.length_append, List.length_cons] at l1 l2 l3 ⊢
    (first | lia | omega)
  · rw [join_dts, hN, dts_app, dts_succ (by (first | lia | omega)), dts_succ (by have := (hr q (.head _)).1; (first | lia | omega))]
    simp [tl2]
theorem hour_0 {f0 f1 f2 f3 f4 c0 c1 c2 c3 c4 room width : Int} {t : Nat} {p0 p1 p2 p3 p4 q0 q1 q2 q3 q4 : Int} (r0 : 0 ≤ room) (r1 : room ≤ 1000) (hw : width ≤ 1000) (h0 : 1 ≤ p0 ∧ p0 ≤ 90) (h4 : In90 [p1, p2, p3, p4])
    (hf : room + (p0 + 1) + sm 1 [p1, p2, p3, p4] ≤ width)
    (hT : (toldTo [f0, f1, f2, f3, f4] [c0, c1, c2, c3, c4] t (endS t) 4).cps.toList = dts [p0, p1, p2, p3, p4])
    (hN : dts [q0, q1, q2, q3, q4] = dts [p0 + 1, p1, p2, p3, p4]) (bq : q0 ≤ 90 ∧ q1 ≤ 90 ∧ q2 ≤ 90 ∧ q3 ≤ 90 ∧ q4 ≤ 90) :
    HourOk f0 f1 f2 f3 f4 c0 c1 c2 c3 c4 room width t p0 p1 p2 p3 p4 q0 q1 q2 q3 q4 := by
  have b1 := h4 p1 (.head _)
  have b2 := h4 p2 (.tail _ (.head _))
  have b3 := h4 p3 (.tail _ (.tail _ (.head _)))
  have b4 := h4 p4 (.tail _ (.tail _ (.tail _ (.head _))))
  have ec : chunks "" (wS p0) [wS p1, wS p2, wS p3, wS p4] = (Str.ofString ".", wR p0) :: wds (Str.ofString "") [p1, p2, p3, p4] := chunks5 h0.1 b1.1 b2.1 b3.1 b4.1
  have aP := hd_acc (b := Str.ofString "") (i := room) h0.1 h4
  rw [lenE'] at aP
  obtain ⟨psi, m, em, hm⟩ := wds_last (b := Str.ofString "") h4
  obtain ⟨e, k, ke⟩ := hour_fit (width := width) (room := room) (cs := (Str.ofString ".", wR p0) :: wds (Str.ofString "") [p1, p2, p3, p4]) (psi := (Str.ofString ".", wR p0) :: psi) (m := m) (sg := SG) r0 r1 (by rw [aP]; exact hf) (ac (.head h0.1 h0.2) (wds_part .dot h4)) (by rw [List.length_cons, wds_len]; exact Nat.le_of_ble_eq_true rfl) hw hm (by rw [em]; rfl)
  have eT : (foldT (wS p0) (wS p1) (wS p2) (wS p3) (wS p4) room width (endS t)).cps.toList = dts [p0, p1, p2, p3, p4] := by
    unfold foldT foldS
    rw [ec, e]
    show (Txt.join (endS t) [accStr _]).cps.toList = _
    rw [join1_l, acc_hd h0.1 h4]
  refine ⟨by rw [ec]; exact k, by unfold foldS; rw [ec, e]; exact ke, str_ext (by rw [eT, hT]), ⟨dts [p0, p1, p2, p3, p4], none, ⟨isRow_dts h0.1 _, (fun e r2 z => nomatch z), ?_⟩, eT, ?_⟩, ⟨h0.2, b1.2, b2.2, b3.2, b4.2⟩, bq⟩
  · have := dts_len [p0, p1, p2, p3, p4] (ac h0.2 (fun p hp => (h4 p hp).2))
    simp only [List.length_cons, List.length_nil] at this
    show (dts [p0, p1, p2, p3, p4]).length ≤ 4000
    (first | lia | omega)
  · rw [join_dts, hN, dts_succ (by (first | lia | omega))]
    simp [tl2]
end Mine
end
section
open PySem PySem.W PyProof.Rows PySem.Calls
set_option Elab.async false
set_option maxRecDepth 100000
namespace Mine
/-- how many dots a word has, at an hour -/
noncomputable def nF (f c t : Int) : Int := f + min (max (t - c) 0) (f + 1)
theorem cAt4 (f1 f2 f3 f4 lt : Int) : cAt f1 f2 f3 f4 lt 4 = lt := by simp [cAt]
theorem cAt3 (f1 f2 f3 f4 lt : Int) : cAt f1 f2 f3 f4 lt 3 = cAt f1 f2 f3 f4 lt 4 + f4 + 1 := by simp [cAt]; (first | lia | omega)
theorem cAt2 (f1 f2 f3 f4 lt : Int) : cAt f1 f2 f3 f4 lt 2 = cAt f1 f2 f3 f4 lt 3 + f3 + 1 := by simp [cAt]; (first | lia | omega)
theorem cAt1 (f1 f2 f3 f4 lt : Int) : cAt f1 f2 f3 f4 lt 1 = cAt f1 f2 f3 f4 lt 2 + f2 + 1 := by simp [cAt]; (first | lia | omega)
theorem cAt0 (f1 f2 f3 f4 lt : Int) : cAt f1 f2 f3 f4 lt 0 = cAt f1 f2 f3 f4 lt 1 + f1 + 1 := by simp [cAt]; (first | lia | omega)
theorem nF_lo {f c t : Int} (hf : 1 ≤ f) (h : t ≤ c) : nF f c t = f := by unfold nF; (first | lia | omega)
theorem nF_in {f c t : Int} (h1 : c ≤ t) (h2 : t ≤ c + f + 1) : nF f c t = f + (t - c) := by unfold nF; (first | lia | omega)
theorem nF_hi {f c t : Int} (hf : 1 ≤ f) (h : c + f + 1 ≤ t) : nF f c t = f + f + 1 := by unfold nF; (first | lia | omega)
theorem b90 {f : Int} (b : 1 ≤ f ∧ f ≤ 4) : 1 ≤ f ∧ f ≤ 90 := ⟨b.1, Int.le_trans b.2 (by decide)⟩
theorem d90 {f : Int} (b : 1 ≤ f ∧ f ≤ 4) : 1 ≤ f + f + 1 ∧ f + f + 1 ≤ 90 := by (first | lia | omega)
theorem m90 {f c t : Int} (b : 1 ≤ f ∧ f ≤ 4) (h1 : c ≤ t) (h2 : t ≤ c + f + 1) : 1 ≤ f + (t - c) ∧ f + (t - c) ≤ 90 := by (first | lia | omega)
theorem no_lo {a b c : Int} (h : c < a) : ¬ (a ≤ c ∧ c < b) := fun z => Int.not_le.mpr h z.1
theorem no_hi {a b c : Int} (h : b ≤ c) : ¬ (a ≤ c ∧ c < b) := fun z => Int.not_lt.mpr h z.2
theorem le_s {a b : Int} (h : a < b) : a + 1 ≤ b := h
theorem le_t {a b : Int} (h : a ≤ b) : a ≤ b + 1 := Int.le_trans h (Int.le_add_one (Int.le_refl _))
theorem sm0 : sm 1 [] = 0 + 0 := rfl
theorem sm1 {a : Int} : sm 1 [a] = a + 1 := by simp only [sm]; (first | lia | omega)
theorem sm2 {a b : Int} : sm 1 [a, b] = a + b + 2 := by simp only [sm]; (first | lia | omega)
theorem sm3 {a b c : Int} : sm 1 [a, b, c] = a + b + c + 3 := by simp only [sm]; (first | lia | omega)
theorem sm4 {a b c d : Int} : sm 1 [a, b, c, d] = a + b + c + d + 4 := by simp only [sm]; (first | lia | omega)
theorem sr2 {a b : Int} : sm 1 [a, b] = a + (b + 2) := by simp only [sm]; (first | lia | omega)
theorem sr3 {a b c : Int} : sm 1 [a, b, c] = a + (b + c + 3) := by simp only [sm]; (first | lia | omega)
theorem sr4 {a b c d : Int} : sm 1 [a, b, c, d] = a + (b + c + d + 4) := by simp only [sm]; (first | lia | omega)
theorem hPg {room f0 S c t n W : Int} (R : room + (f0 + S) + c + (n + 1) = W + 1) (h : t < c) : room + (f0 + t + 1) + (S + n) ≤ W := by (first | lia | omega)
theorem hOg {room f0 S c c' f t n W : Int} (R : room + (f0 + S) + c + (n + 1) = W + 1) (e : c = c' + f + 1) (h : c' ≤ t) : W < room + (f0 + t + 1) + (S + n) + (f + (t - c') + 1) := by (first | lia | omega)
theorem hRg {f t c X W : Int} (hW : f + f + 1 + X ≤ W) (i : t ≤ c + f + 1) : f + (t - c) + X ≤ W := by (first | lia | omega)
theorem lts {a b f : Int} (e : a = b + f + 1) (h : 1 ≤ f) : b < a := by (first | lia | omega)
theorem Rg {room f0 S f c c' n W : Int} (R : room + (f0 + (S + f)) + c' + (n + 1 + 1) = W + 1) (e : c = c' + f + 1) : room + (f0 + S) + c + (n + 1) = W + 1 := by (first | lia | omega)
theorem R5 {f0 f1 f2 f3 f4 lt W room c : Int} (hr : room = W - (f0 + f1 + f2 + f3 + f4 + 5) - lt + 1) (k : c = lt) : room + (f0 + (0 + f1 + f2 + f3 + f4)) + c + (0 + 1 + 1 + 1 + 1 + 1) = W + 1 := by (first | lia | omega)
theorem hWb {f1 f2 f3 f4 W : Int} (h1 : 1 ≤ f1) (hW : f1 + 1 + 2 * (f2 + f3 + f4 + 3) ≤ W) : f2 + f2 + 1 + ((f3 + f3 + 1) + (f4 + f4 + 1) + 3) ≤ W := by (first | lia | omega)
theorem hWc {f2 f3 f4 W X : Int} (h2 : 1 ≤ f2) (hW : f2 + f2 + 1 + ((f3 + f3 + 1) + X + 3) ≤ W) : f3 + f3 + 1 + (X + 2) ≤ W := by (first | lia | omega)
theorem hWd {f3 f4 W : Int} (h3 : 1 ≤ f3) (hW : f3 + f3 + 1 + ((f4 + f4 + 1) + 2) ≤ W) : f4 + f4 + 1 + 1 ≤ W := by (first | lia | omega)
theorem hRa {f1 f2 f3 f4 W t c : Int} (hW : f1 + 1 + 2 * (f2 + f3 + f4 + 3) ≤ W) (i : t ≤ c) : f1 + (t - c) + ((f2 + f2 + 1) + (f3 + f3 + 1) + (f4 + f4 + 1) + 4) ≤ W := by (first | lia | omega)
theorem tb {f2 f3 f4 c1 c2 c3 c4 t lt : Int} (b2 : f2 ≤ 4) (b3 : f3 ≤ 4) (b4 : f4 ≤ 4) (bl : lt ≤ 4) (e1 : c1 = c2 + f2 + 1) (e2 : c2 = c3 + f3 + 1) (e3 : c3 = c4 + f4 + 1) (k : c4 = lt) (ht : t ≤ c1) : t ≤ 19 := by (first | lia | omega)
theorem pb {f t : Int} (b : 1 ≤ f ∧ f ≤ 4) (t0 : 0 ≤ t) (t1 : t ≤ 19) : (1 ≤ f + t ∧ f + t ≤ 90) ∧ f + t + 1 ≤ 90 := by (first | lia | omega)
theorem rm {room f0 f1 f2 f3 f4 lt W : Int} (b0 : 1 ≤ f0) (b1 : 1 ≤ f1) (b2 : 1 ≤ f2) (b3 : 1 ≤ f3) (b4 : 1 ≤ f4) (bl : 1 ≤ lt) (hr : room = W - (f0 + f1 + f2 + f3 + f4 + 5) - lt + 1) (h : W ≤ 100) : room ≤ 1000 := by (first | lia | omega)
theorem s_in {f c t : Int} : f + (t + 1 - c) = f + (t - c) + 1 := by (first | lia | omega)
theorem hours {f0 f1 f2 f3 f4 lt W room c0 c1 c2 c3 c4 : Int} (b0 : 1 ≤ f0 ∧ f0 ≤ 4) (b1 : 1 ≤ f1 ∧ f1 ≤ 4) (b2 : 1 ≤ f2 ∧ f2 ≤ 4) (b3 : 1 ≤ f3 ∧ f3 ≤ 4) (b4 : 1 ≤ f4 ∧ f4 ≤ 4) (bl : 1 ≤ lt ∧ lt ≤ 4)
    (hW : f1 + 1 + 2 * (f2 + f3 + f4 + 3) ≤ W) (hr : room = W - (f0 + f1 + f2 + f3 + f4 + 5) - lt + 1) (r0 : 0 ≤ room) (hwm : W ≤ 100)
    (e0 : c0 = c1 + f1 + 1) (e1 : c1 = c2 + f2 + 1) (e2 : c2 = c3 + f3 + 1) (e3 : c3 = c4 + f4 + 1) (k4 : c4 = lt) (t : Nat) (ht : (t : Int) ≤ c1) :
    HourOk f0 f1 f2 f3 f4 c0 c1 c2 c3 c4 room W t (f0 + (t : Int)) (nF f1 c1 t) (nF f2 c2 t) (nF f3 c3 t) (nF f4 c4 t) (f0 + ((t + 1 : Nat) : Int)) (nF f1 c1 ((t + 1 : Nat) : Int)) (nF f2 c2 ((t + 1 : Nat) : Int)) (nF f3 c3 ((t + 1 : Nat) : Int)) (nF f4 c4 ((t + 1 : Nat) : Int)) := by
  have R5 := R5 hr k4
  have R4 := Rg R5 e3
  have R3 := Rg R4 e2
  have R2 := Rg R3 e1
  have R1 := Rg R2 e0
  have hW2 := hWb b1.1 hW
  have hW3 := hWc (f4 := f4) b2.1 hW2
  have hW4 := hWd b3.1 hW3
  have rm : room ≤ 1000 := rm b0.1 b1.1 b2.1 b3.1 b4.1 bl.1 hr hwm
  have wm : W ≤ 1000 := Int.le_trans hwm (by decide)
  have pb := pb b0 (Int.natCast_nonneg t) (tb b2.2 b3.2 b4.2 bl.2 e1 e2 e3 k4 ht)
  have hp0 := pb.1
  have hq0 := pb.2
  rw [show ((t + 1 : Nat) : Int) = (t : Int) + 1 from rfl]
  have s0 : f0 + ((t : Int) + 1) = f0 + (t : Int) + 1 := (Int.add_assoc _ _ _).symm
  have l43 := lts e3 b4.1
  have l32 := lts e2 b3.1
  have l21 := lts e1 b2.1
  have l10 := lts e0 b1.1
  rw [s0]
  by_cases h4 : (t : Int) < c4
  · have h3 := Int.lt_trans h4 l43
    have h2 := Int.lt_trans h3 l32
    have h1 := Int.lt_trans h2 l21
    rw [nF_lo b1.1 (Int.le_of_lt h1), nF_lo b2.1 (Int.le_of_lt h2), nF_lo b3.1 (Int.le_of_lt h3), nF_lo b4.1 (Int.le_of_lt h4), nF_lo b1.1 (le_s h1), nF_lo b2.1 (le_s h2), nF_lo b3.1 (le_s h3), nF_lo b4.1 (le_s h4)]
    refine hour_0 r0 rm wm hp0 (ac (b90 b1) (ac (b90 b2) (ac (b90 b3) (ac (b90 b4) an)))) (by rw [sm4]; have := hPg R5 h4; rw [Int.zero_add] at this; exact this) ?_ rfl ⟨hq0, (b90 b1).2, (b90 b2).2, (b90 b3).2, (b90 b4).2⟩
    rw [told5, tS_no (no_lo h4) (nF_lo b4.1 (Int.le_of_lt h4)), tS_no (no_lo h3) (nF_lo b3.1 (Int.le_of_lt h3)), tS_no (no_lo h2) (nF_lo b2.1 (Int.le_of_lt h2)), tS_no (no_lo h1) (nF_lo b1.1 (Int.le_of_lt h1)), wS_dt]
    simp only [dts_cons, dts_nil, List.append_assoc, List.append_nil]
  have h4 := Int.not_lt.mp h4
  by_cases h3 : (t : Int) < c3
  · have h2 := Int.lt_trans h3 l32
    have h1 := Int.lt_trans h2 l21
    have i4 : (t : Int) + 1 ≤ c4 + f4 + 1 := e3 ▸ le_s h3
    have i4' : (t : Int) ≤ c4 + f4 + 1 := e3 ▸ Int.le_of_lt h3
    have g4 := m90 b4 h4 i4'
    have g4' := m90 b4 (le_t h4) i4
    rw [nF_lo b1.1 (Int.le_of_lt h1), nF_lo b2.1 (Int.le_of_lt h2), nF_lo b3.1 (Int.le_of_lt h3), nF_in h4 i4', nF_lo b1.1 (le_s h1), nF_lo b2.1 (le_s h2), nF_lo b3.1 (le_s h3), nF_in (le_t h4) i4, s_in]
    rw [s_in] at g4'
    refine hour_of (l := [f1, f2, f3]) (q := f4 + (t - c4)) (r := []) rfl r0 rm wm hp0 (ac (b90 b1) (ac (b90 b2) (ac (b90 b3) an))) (ac g4 an) (by rw [sm3]; have := hPg R4 h3; rw [Int.zero_add] at this; exact this) (by rw [sm3]; have := hOg R4 e3 h4; rw [Int.zero_add] at this; exact this) (by rw [sm1]; exact hRg hW4 i4') ?_ rfl ⟨hq0, (b90 b1).2, (b90 b2).2, (b90 b3).2, g4'.2⟩
    rw [told5, tS_yes ⟨h4, h3⟩ (nF_in h4 i4'), tS_no (no_lo h3) (nF_lo b3.1 (Int.le_of_lt h3)), tS_no (no_lo h2) (nF_lo b2.1 (Int.le_of_lt h2)), tS_no (no_lo h1) (nF_lo b1.1 (Int.le_of_lt h1)), wS_dt]
    simp only [twoRows, dts_cons, dts_nil, List.append_assoc, List.append_nil]
  have h3 := Int.not_lt.mp h3
  have g4 : c4 + f4 + 1 ≤ (t : Int) := e3 ▸ h3
  by_cases h2 : (t : Int) < c2
  · have h1 := Int.lt_trans h2 l21
    have i3 : (t : Int) + 1 ≤ c3 + f3 + 1 := e2 ▸ le_s h2
    have i3' : (t : Int) ≤ c3 + f3 + 1 := e2 ▸ Int.le_of_lt h2
    have g3 := m90 b3 h3 i3'
    have g3' := m90 b3 (le_t h3) i3
    rw [nF_lo b1.1 (Int.le_of_lt h1), nF_lo b2.1 (Int.le_of_lt h2), nF_in h3 i3', nF_hi b4.1 g4, nF_lo b1.1 (le_s h1), nF_lo b2.1 (le_s h2), nF_in (le_t h3) i3, nF_hi b4.1 (le_t g4), s_in]
    rw [s_in] at g3'
    refine hour_of (l := [f1, f2]) (q := f3 + (t - c3)) (r := [f4 + f4 + 1]) rfl r0 rm wm hp0 (ac (b90 b1) (ac (b90 b2) an)) (ac g3 (ac (d90 b4) an)) (by rw [sm2]; have := hPg R3 h2; rw [Int.zero_add] at this; exact this) (by rw [sm2]; have := hOg R3 e2 h3; rw [Int.zero_add] at this; exact this) (by rw [sr2]; exact hRg hW3 i3') ?_ rfl ⟨hq0, (b90 b1).2, (b90 b2).2, g3'.2, (d90 b4).2⟩
    rw [told5, tS_no (no_hi h3) (nF_hi b4.1 g4), tS_yes ⟨h3, h2⟩ (nF_in h3 i3'), tS_no (no_lo h2) (nF_lo b2.1 (Int.le_of_lt h2)), tS_no (no_lo h1) (nF_lo b1.1 (Int.le_of_lt h1)), wS_dt]
    simp only [twoRows, dts_cons, dts_nil, List.append_assoc, List.append_nil]
  have h2 := Int.not_lt.mp h2
  have g3 : c3 + f3 + 1 ≤ (t : Int) := e2 ▸ h2
  by_cases h1 : (t : Int) < c1
  · have i2 : (t : Int) + 1 ≤ c2 + f2 + 1 := e1 ▸ le_s h1
    have i2' : (t : Int) ≤ c2 + f2 + 1 := e1 ▸ Int.le_of_lt h1
    have g2 := m90 b2 h2 i2'
    have g2' := m90 b2 (le_t h2) i2
    rw [nF_lo b1.1 (Int.le_of_lt h1), nF_in h2 i2', nF_hi b3.1 g3, nF_hi b4.1 g4, nF_lo b1.1 (le_s h1), nF_in (le_t h2) i2, nF_hi b3.1 (le_t g3), nF_hi b4.1 (le_t g4), s_in]
    rw [s_in] at g2'
    refine hour_of (l := [f1]) (q := f2 + (t - c2)) (r := [f3 + f3 + 1, f4 + f4 + 1]) rfl r0 rm wm hp0 (ac (b90 b1) an) (ac g2 (ac (d90 b3) (ac (d90 b4) an))) (by rw [sm1]; have := hPg R2 h1; rw [Int.zero_add] at this; exact this) (by rw [sm1]; have := hOg R2 e1 h2; rw [Int.zero_add] at this; exact this) (by rw [sr3]; exact hRg hW2 i2') ?_ rfl ⟨hq0, (b90 b1).2, g2'.2, (d90 b3).2, (d90 b4).2⟩
    rw [told5, tS_no (no_hi h3) (nF_hi b4.1 g4), tS_no (no_hi h2) (nF_hi b3.1 g3), tS_yes ⟨h2, h1⟩ (nF_in h2 i2'), tS_no (no_lo h1) (nF_lo b1.1 (Int.le_of_lt h1)), wS_dt]
    simp only [twoRows, dts_cons, dts_nil, List.append_assoc, List.append_nil]
  have h1 := Int.not_lt.mp h1
  have g2 : c2 + f2 + 1 ≤ (t : Int) := e1 ▸ h1
  have h0 : (t : Int) < c0 := Int.lt_of_le_of_lt ht l10
  have i1 : (t : Int) + 1 ≤ c1 + f1 + 1 := e0 ▸ le_s h0
  have i1' : (t : Int) ≤ c1 + f1 + 1 := e0 ▸ Int.le_of_lt h0
  have g1 := m90 b1 h1 i1'
  have g1' := m90 b1 (le_t h1) i1
  rw [nF_in h1 i1', nF_hi b2.1 g2, nF_hi b3.1 g3, nF_hi b4.1 g4, nF_in (le_t h1) i1, nF_hi b2.1 (le_t g2), nF_hi b3.1 (le_t g3), nF_hi b4.1 (le_t g4), s_in]
  rw [s_in] at g1'
  refine hour_of (l := []) (q := f1 + (t - c1)) (r := [f2 + f2 + 1, f3 + f3 + 1, f4 + f4 + 1]) rfl r0 rm wm hp0 an (ac g1 (ac (d90 b2) (ac (d90 b3) (ac (d90 b4) an)))) (by rw [sm0]; exact hPg R1 h0) (by rw [sm0]; exact hOg R1 e0 h1) (by rw [sr4]; exact hRa hW ht) ?_ rfl ⟨hq0, g1'.2, (d90 b2).2, (d90 b3).2, (d90 b4).2⟩
  rw [told5, tS_no (no_hi h3) (nF_hi b4.1 g4), tS_no (no_hi h2) (nF_hi b3.1 g3), tS_no (no_hi h1) (nF_hi b2.1 g2), tS_yes ⟨h1, h0⟩ (nF_in h1 i1'), wS_dt]
  simp only [twoRows, dts_cons, dts_nil, List.append_assoc, List.append_nil]
end Mine
end
section
open PySem PySem.W PyProof.Rows PySem.Calls PySem.Builtin PySem.Builtin.Str
set_option Elab.async false
set_option maxRecDepth 100000
namespace Mine
theorem ix_negA (k n : Nat) (h1 : 1 ≤ k) (h : k ≤ n) : strSliceIndices none (some (-(k : Int))) 1 n = strSliceIndices none (some ((n - k : Nat) : Int)) 1 n := by
  unfold strSliceIndices
  have h2 : (-(k : Int)) < 0 := by (first | lia | omega)
  have h3 : ¬ (((n - k : Nat) : Int) < 0) := by (first | lia | omega)
  simp only [h2, h3, if_false, if_true, show (1 : Int) > 0 by decide]
  rw [show max (0 : Int) (min (-(k : Int) + (n : Int)) (n : Int)) = max (0 : Int) (min ((n - k : Nat) : Int) (n : Int)) by (first | lia | omega)]
theorem ix_negB (k n : Nat) (h1 : 1 ≤ k) (h : k ≤ n) : strSliceIndices (some (-(k : Int))) none 1 n = strSliceIndices (some ((n - k : Nat) : Int)) none 1 n := by
  unfold strSliceIndices
  have h2 : (-(k : Int)) < 0 := by (first | lia | omega)
  have h3 : ¬ (((n - k : Nat) : Int) < 0) := by (first | lia | omega)
  simp only [h2, h3, if_false, if_true, show (1 : Int) > 0 by decide]
  rw [show max (0 : Int) (min (-(k : Int) + (n : Int)) (n : Int)) = max (0 : Int) (min ((n - k : Nat) : Int) (n : Int)) by (first | lia | omega)]
theorem slice_negA (x : Str) (k : Nat) (h1 : 1 ≤ k) (h : k ≤ x.length) : (Txt.slice x none (some (-(k : Int)))).cps.toList = x.cps.toList.take (x.length - k) := by
  rw [← slice_to x (x.length - k) (by (first | lia | omega))]
  unfold Txt.slice
  rw [ix_negA k x.length h1 h]
theorem slice_negB (x : Str) (k : Nat) (h1 : 1 ≤ k) (h : k ≤ x.length) : (Txt.slice x (some (-(k : Int))) none).cps.toList = x.cps.toList.drop (x.length - k) := by
  rw [← slice_from x (x.length - k) (by (first | lia | omega))]
  unfold Txt.slice
  rw [ix_negB k x.length h1 h]
theorem comma_l : (Str.ofString ",").cps.toList = [44] := by decide +kernel
theorem acc_none (r : List (Str × Str)) : (accStr ((Str.ofString "", Str.ofString "") :: r)).cps.toList = (accStr r).cps.toList := by
  rw [accStr_l, accStr_l, List.map_cons, List.flatten_cons, e_l]; rfl
theorem acc_dot : (accStr [(Str.ofString "", Str.ofString ".")]).cps.toList = [46] := by
  rw [accStr_l]; rfl
theorem joinB1 (a : Str) : (Txt.join " " [a]).cps.toList = a.cps.toList := by rw [join1_l]
theorem joinB (a b : Str) (r : List Str) : (Txt.join " " (a :: b :: r)).cps.toList = a.cps.toList ++ 32 :: (Txt.join " " (b :: r)).cps.toList := by
  unfold Txt.join
  rw [StrLaws.glued_eq_join, StrLaws.glued_eq_join]
  show (a.cps ++ (Str.ofString " ").cps ++ (Str.join " " (b :: r)).cps).toList = _
  rw [Array.toList_append, Array.toList_append, b_l]
  simp
theorem dt_len {p : Int} (h : 0 ≤ p) : ((dt p).length : Int) = p + 1 := by
  unfold dt
  rw [List.length_append, List.length_replicate, List.length_singleton]; (first | lia | omega)
theorem sp_cut {width room : Int} {P Rst : List (Str × Str)} {p : Str × Str} {n : Int} {psi : List (Str × Str)} {m : Int} (h0 : 0 ≤ room) (h1 : room ≤ 1000) (hn : 1 ≤ n) (hP : accLen room (P ++ [p]) ≤ width) (ho : width < accLen room (P ++ [p]) + 2 + n) (hr : accLen 0 ((Str.ofString " ", Str.ofString ".") :: (Str.ofString "", wR n) :: Rst) ≤ width)
    (hall : ∀ c ∈ (P ++ [p]) ++ ((Str.ofString " ", Str.ofString ".") :: (Str.ofString "", wR n) :: Rst), Part c) (hl : ((P ++ [p]) ++ ((Str.ofString " ", Str.ofString ".") :: (Str.ofString "", wR n) :: Rst)).length ≤ 50) (hw : width ≤ 1000)
    (hm : 1 ≤ m) (hlast : (Str.ofString " ", Str.ofString ".") :: (Str.ofString "", wR n) :: Rst = psi ++ [(Str.ofString "", wR m)]) :
    runSt width (Str.ofString " ") ⟨[], room, []⟩ ((P ++ [p]) ++ ((Str.ofString " ", Str.ofString ".") :: (Str.ofString "", wR n) :: Rst)) = ⟨[accStr (P ++ [p])], 0, (Str.ofString " ", Str.ofString ".") :: (Str.ofString "", wR n) :: Rst⟩ ∧
    okRun width (Str.ofString " ") ⟨[], room, []⟩ ((P ++ [p]) ++ ((Str.ofString " ", Str.ofString ".") :: (Str.ofString "", wR n) :: Rst)) ∧ okEnd ⟨[accStr (P ++ [p])], 0, (Str.ofString " ", Str.ofString ".") :: (Str.ofString "", wR n) :: Rst⟩ := by
  have hs := parts_small hall hl
  obtain ⟨o1, o2⟩ := oc_sp (P := P) (p := p) (c1 := (Str.ofString " ", Str.ofString ".")) (c2 := (Str.ofString "", wR n)) (by decide +kernel) dotBack (by show (Str.ofString "").cps[0]? = none; decide +kernel)
  obtain ⟨e, k⟩ := run_cut (Wd := width) (r := room) (signs := Str.ofString " ") (P := P ++ [p]) (Rst := Rst) (c1 := (Str.ofString " ", Str.ofString ".")) (c2 := (Str.ofString "", wR n)) h0 (Int.le_trans h1 (by decide)) hP (by
    rw [accLen_app, accLen_cons, accLen_cons, accLen_nil, lenE, lenDot, lenB, wR_len hn]; (first | lia | omega)) hr (by rw [b_l]; exact o1) (by rw [b_l]; exact o2) hs
  refine ⟨e, k, ?_⟩
  have hs2 := small_suf hs
  rw [hlast] at hs2 hr ⊢
  refine okEnd_of (fun z => ?_) (by decide +kernel) hm hs2 (Int.le_refl _) (by decide) (by simp) (fun l hl => ?_) (Int.le_trans hr hw)
  · have := congrArg (fun q : Str × Str => q.1.length) z
    simp only [lenE] at this
    exact absurd this (by decide)
  · obtain rfl : l = accStr (P ++ [p]) := by simpa using hl
    have := accStr_len (P ++ [p])
    have h2 : accLen room (P ++ [p]) = room + accLen 0 (P ++ [p]) := by unfold accLen; (first | lia | omega)
    (first | lia | omega)
structure SpOk (p0 p1 p2 p3 p4 room W : Int) : Prop where
  run2 : okRun W " " ⟨[], room, []⟩ (chunks " " (wS p0) [wS p1, wS p2, wS p3, wS p4])
  end2 : okEnd (runSt W " " ⟨[], room, []⟩ (chunks " " (wS p0) [wS p1, wS p2, wS p3, wS p4]))
  txt2 : Txt.join "\n" ((runSt W " " ⟨[], room, []⟩ (chunks " " (wS p0) [wS p1, wS p2, wS p3, wS p4])).lines ++ [accStr (runSt W " " ⟨[], room, []⟩ (chunks " " (wS p0) [wS p1, wS p2, wS p3, wS p4])).ps]) = spacedS (wS p0) (wS p1) (wS p2) (wS p3) (wS p4) (stayN (wS p0) (wS p1) (wS p2) (wS p3) (wS p4) room W)
theorem nlb_l : (Str.ofString "\n ").cps.toList = [10, 32] := by decide +kernel

theorem lenB' : (1 : Int) + ((Str.ofString " ").length : Nat) = 2 := by rw [lenB]; rfl
theorem sm_nn {n : Int} (hn : 0 ≤ n) : ∀ {l : List Int}, In90 l → 0 ≤ sm n l
  | [], _ => Int.le_refl _
  | p :: r, h => by
    have := sm_nn hn (l := r) (fun z hz => h z (.tail _ hz))
    have := (h p (.head _)).1
    rw [sm]; (first | lia | omega)
theorem sm_app (n : Int) : ∀ (a b : List Int), sm n (a ++ b) = sm n a + sm n b
  | [], b => by rw [List.nil_append, sm, Int.zero_add]
  | p :: a, b => by rw [List.cons_append, sm, sm, sm_app n a b, ← Int.add_assoc]
/-- how long the words are, joined by blanks -/
theorem spl : ∀ {p0 : Int} {l : List Int}, 0 ≤ p0 → In90 l → ((Txt.join " " (wS p0 :: l.map wS)).length : Int) = p0 + 1 + sm 2 l
  | p0, [], h0, _ => by rw [len_list, List.map_nil, joinB1, wS_dt, dt_len h0, sm, Int.add_zero]
  | p0, q :: r, h0, h => by
    have ih := spl (p0 := q) (l := r) (by have := (h q (.head _)).1; (first | lia | omega)) (fun z hz => h z (.tail _ hz))
    rw [len_list, List.map_cons, joinB, wS_dt, List.length_append, List.length_cons, ← len_list]
    have := dt_len h0
    rw [sm]
    (first | lia | omega)
/-- the words joined by blanks, and as the page holds them -/
theorem join_wds : ∀ {p0 : Int} {l : List Int}, In90 l → (Txt.join " " (wS p0 :: l.map wS)).cps.toList = dt p0 ++ (accStr (wds (Str.ofString " ") l)).cps.toList
  | p0, [], _ => by rw [List.map_nil, joinB1, wS_dt, wds, acc_nil, List.append_nil]
  | p0, q :: r, h => by
    rw [List.map_cons, joinB, join_wds (fun z hz => h z (.tail _ hz)), wS_dt, wds, acc_blank (h q (.head _)).1]
theorem take_in {l : List Int} (h : In90 l) (n : Nat) : In90 (l.take n) := fun p hp => h p (List.mem_of_mem_take hp)
theorem drop_in {l : List Int} (h : In90 l) (n : Nat) : In90 (l.drop n) := fun p hp => h p (List.mem_of_mem_drop hp)
theorem filt_lt : ∀ n ≤ 5, ((List.range 5).filter (fun i => decide (i < n))).length = n := by decide
theorem sp_of {room W : Int} {p0 p1 p2 p3 p4 q : Int} {l r : List Int} (el : [p1, p2, p3, p4] = l ++ q :: r) (r0 : 0 ≤ room) (r1 : room ≤ 1000) (hw : W ≤ 1000) (h0 : 1 ≤ p0 ∧ p0 ≤ 90) (hl : In90 l) (hr : In90 (q :: r))
    (hP : room + (p0 + 1) + sm 2 l ≤ W) (ho : W < room + (p0 + 1) + sm 2 l + (q + 2)) (hR : sm 2 (q :: r) ≤ W) : SpOk p0 p1 p2 p3 p4 room W := by
  have h4 : In90 [p1, p2, p3, p4] := el ▸ fun p hp => by
    rcases List.mem_append.mp hp with hp | hp
    · exact hl p hp
    · exact hr p hp
  have b1 := h4 p1 (.head _)
  have b2 := h4 p2 (.tail _ (.head _))
  have b3 := h4 p3 (.tail _ (.tail _ (.head _)))
  have b4 := h4 p4 (.tail _ (.tail _ (.tail _ (.head _))))
  have ll : l.length + r.length = 3 := by
    have := congrArg List.length el
    simp only [List.length_cons, List.length_nil, List.length_append] at this
    (first | lia | omega)
  have wa : ∀ a b : List Int, wds (Str.ofString " ") (a ++ b) = wds (Str.ofString " ") a ++ wds (Str.ofString " ") b := fun a b => by
    induction a with
    | nil => rfl
    | cons x a ih => rw [List.cons_append, wds, ih]; rfl
  have ec : chunks " " (wS p0) [wS p1, wS p2, wS p3, wS p4] = ((Str.ofString ".", wR p0) :: wds (Str.ofString " ") l) ++ wds (Str.ofString " ") (q :: r) := by
    rw [show chunks " " (wS p0) [wS p1, wS p2, wS p3, wS p4] = (Str.ofString ".", wR p0) :: wds (Str.ofString " ") [p1, p2, p3, p4] from chunks5 h0.1 b1.1 b2.1 b3.1 b4.1, el, wa]; rfl
  have aP := hd_acc (b := Str.ofString " ") (i := room) h0.1 hl
  rw [lenB'] at aP
  have aR := wds_acc (b := Str.ofString " ") (i := 0) hr
  rw [lenB'] at aR
  have hall := in90_app hl hr _ .blank h0
  have hz : (((Str.ofString ".", wR p0) :: wds (Str.ofString " ") l) ++ wds (Str.ofString " ") (q :: r)).length ≤ 50 := by
    rw [List.length_append, List.length_cons, wds_len, wds_len, List.length_cons]; (first | lia | omega)
  obtain ⟨P, p, eP, hp⟩ := hd_last (b := Str.ofString " ") (p0 := p0) hl
  obtain ⟨psi, m, em, hm⟩ := wds_last (b := Str.ofString " ") hr
  have key := sp_cut (width := W) (room := room) (P := P) (p := p) (n := q) (Rst := wds (Str.ofString " ") r) (psi := psi) (m := m) r0 r1 (hr q (.head _)).1 (by rw [← eP, aP]; exact hP) (by rw [← eP, aP]; (first | lia | omega)) (by
    rw [show (Str.ofString " ", Str.ofString ".") :: (Str.ofString "", wR q) :: wds (Str.ofString " ") r = wds (Str.ofString " ") (q :: r) from rfl, aR]; (first | lia | omega)) (by rw [← eP]; exact hall) (by rw [← eP]; exact hz) hw hm em
  rw [← eP] at key
  obtain ⟨e, k, ke⟩ := key
  have ew : [wS p0, wS p1, wS p2, wS p3, wS p4] = wS p0 :: (l ++ q :: r).map wS := by rw [← el]; rfl
  have hlr : In90 (l ++ q :: r) := el ▸ h4
  have eS : ∀ i, stayP (wS p0) (wS p1) (wS p2) (wS p3) (wS p4) room W i = decide (i < l.length + 1) := fun i => by
    unfold stayP
    rw [ew, List.take_succ_cons, ← List.map_take, spl (by (first | lia | omega)) (take_in hlr i)]
    by_cases hi : i ≤ l.length
    · rw [decide_eq_true (p := i < l.length + 1) (by (first | lia | omega))]
      refine decide_eq_true ?_
      have e1 := sm_app 2 (l.take i) (l.drop i)
      rw [List.take_append_drop] at e1
      have e2 := sm_nn (n := 2) (by decide) (drop_in hl i)
      rw [List.take_append_of_le_length hi]
      (first | lia | omega)
    · rw [decide_eq_false (p := i < l.length + 1) (by (first | lia | omega))]
      refine decide_eq_false ?_
      obtain ⟨j, rfl⟩ : ∃ j, i = l.length + (j + 1) := ⟨i - l.length - 1, by (first | lia | omega)⟩
      rw [List.take_length_add_append, List.take_succ_cons, sm_app, sm]
      have e2 := sm_nn (n := 2) (by decide) (take_in (l := r) (fun z hz => hr z (.tail _ hz)) j)
      (first | lia | omega)
  have eN : stayN (wS p0) (wS p1) (wS p2) (wS p3) (wS p4) room W = l.length + 1 := by
    unfold stayN
    rw [show stayP (wS p0) (wS p1) (wS p2) (wS p3) (wS p4) room W = fun i => decide (i < l.length + 1) from funext eS]
    exact filt_lt _ (by (first | lia | omega))
  refine ⟨by rw [ec]; exact k, ?_, ?_⟩
  · rw [ec, show ((Str.ofString ".", wR p0) :: wds (Str.ofString " ") l) ++ wds (Str.ofString " ") (q :: r) = ((Str.ofString ".", wR p0) :: wds (Str.ofString " ") l) ++ ((Str.ofString " ", Str.ofString ".") :: (Str.ofString "", wR q) :: wds (Str.ofString " ") r) from rfl, show ((" " : Str)) = Str.ofString " " from rfl, e]; exact ke
  rw [eN, ec, show ((Str.ofString ".", wR p0) :: wds (Str.ofString " ") l) ++ wds (Str.ofString " ") (q :: r) = ((Str.ofString ".", wR p0) :: wds (Str.ofString " ") l) ++ ((Str.ofString " ", Str.ofString ".") :: (Str.ofString "", wR q) :: wds (Str.ofString " ") r) from rfl, show ((" " : Str)) = Str.ofString " " from rfl, e]
  refine str_ext ?_
  show (Txt.join "\n" [accStr ((Str.ofString ".", wR p0) :: wds (Str.ofString " ") l), accStr ((Str.ofString " ", Str.ofString ".") :: (Str.ofString "", wR q) :: wds (Str.ofString " ") r)]).cps.toList = _
  unfold spacedS
  rw [ew, join2_l, app_l, app_l, nl_l, nlb_l, List.take_succ_cons, List.drop_succ_cons, ← List.map_take, ← List.map_drop, List.take_left' rfl, List.drop_left' rfl, join_wds hl, List.map_cons, join_wds (fun z hz => hr z (.tail _ hz)), acc_head h0.1, acc_blank (hr q (.head _)).1]
  simp only [List.append_assoc, List.cons_append, List.nil_append]
end Mine
end
section
open PySem PySem.W PyProof.Rows PySem.Calls PySem.Builtin PySem.Builtin.Str
set_option Elab.async false
set_option maxRecDepth 100000
namespace Mine
theorem com_step {width room : Int} {P : List (Str × Str)} {n : Int} (hn : 1 ≤ n) (ho : width < accLen room (P ++ [(Str.ofString "", Str.ofString ".")]) + n)
    (hall : ∀ c ∈ (P ++ [(Str.ofString "", Str.ofString ".")]) ++ [(Str.ofString "", wR n)], Part c) :
    stepSt width (Str.ofString ",") ⟨[], room, P ++ [(Str.ofString "", Str.ofString ".")]⟩ (Str.ofString "") (wR n) = if 0 < room then ⟨[accStr (P ++ [(Str.ofString "", Str.ofString ".")])], 0, [(Str.ofString " ", wR n)]⟩ else ⟨[], room, (P ++ [(Str.ofString "", Str.ofString ".")]) ++ [(Str.ofString "", wR n)]⟩ := by
  have oc : outerCut ((P ++ [(Str.ofString "", Str.ofString ".")]) ++ [(Str.ofString "", wR n)]) (Str.ofString ",").cps.toList = none := by
    rw [comma_l]; exact oc_comma (fun c hc => (hall c hc).back)
  have e : accLen room ((P ++ [(Str.ofString "", Str.ofString ".")]) ++ [(Str.ofString "", wR n)]) = accLen room (P ++ [(Str.ofString "", Str.ofString ".")]) + n := by
    rw [accLen_app _ (P ++ [(Str.ofString "", Str.ofString ".")]), accLen_cons, accLen_nil, lenE, wR_len hn]; (first | lia | omega)
  unfold stepSt
  rw [if_neg (by show ¬ accLen room ((P ++ [(Str.ofString "", Str.ofString ".")]) ++ [(Str.ofString "", wR n)]) ≤ width; (first | lia | omega))]
  show (match outerCut ((P ++ [(Str.ofString "", Str.ofString ".")]) ++ [(Str.ofString "", wR n)]) (Str.ofString ",").cps.toList with | some j => _ | none => _) = _
  rw [oc]
  show (if 0 < room then St.mk ([] ++ [accStr (P ++ [(Str.ofString "", Str.ofString ".")])]) 0 [(if (Str.ofString "").length = 0 then (Str.ofString " ") else (Str.ofString ""), wR n)] else St.mk [] room ((P ++ [(Str.ofString "", Str.ofString ".")]) ++ [(Str.ofString "", wR n)])) = _
  rw [if_pos lenE]; rfl
theorem com_run {width room : Int} {P : List (Str × Str)} {n : Int} (r0 : 0 ≤ room) (r1 : room ≤ 1000) (hn : 1 ≤ n) (hn' : n ≤ 90) (hP : accLen room (P ++ [(Str.ofString "", Str.ofString ".")]) ≤ width) (ho : width < accLen room (P ++ [(Str.ofString "", Str.ofString ".")]) + n)
    (hall : ∀ c ∈ (P ++ [(Str.ofString "", Str.ofString ".")]) ++ [(Str.ofString "", wR n)], Part c) (hl : ((P ++ [(Str.ofString "", Str.ofString ".")]) ++ [(Str.ofString "", wR n)]).length ≤ 50) (hw : width ≤ 900) :
    runSt width (Str.ofString ",") ⟨[], room, []⟩ ((P ++ [(Str.ofString "", Str.ofString ".")]) ++ [(Str.ofString "", wR n)]) = (if 0 < room then ⟨[accStr (P ++ [(Str.ofString "", Str.ofString ".")])], 0, [(Str.ofString " ", wR n)]⟩ else ⟨[], room, (P ++ [(Str.ofString "", Str.ofString ".")]) ++ [(Str.ofString "", wR n)]⟩) ∧
    okRun width (Str.ofString ",") ⟨[], room, []⟩ ((P ++ [(Str.ofString "", Str.ofString ".")]) ++ [(Str.ofString "", wR n)]) ∧
    okEnd (if 0 < room then ⟨[accStr (P ++ [(Str.ofString "", Str.ofString ".")])], 0, [(Str.ofString " ", wR n)]⟩ else ⟨[], room, (P ++ [(Str.ofString "", Str.ofString ".")]) ++ [(Str.ofString "", wR n)]⟩) := by
  have hs := parts_small hall hl
  obtain ⟨eP, kP⟩ := run_fit (Wd := width) (signs := Str.ofString ",") (P ++ [(Str.ofString "", Str.ofString ".")]) ⟨[], room, []⟩ (small_pre hs) r0 (Int.le_trans r1 (by decide)) (Nat.zero_le _) hP
  obtain ⟨eA, kA⟩ := run_app (Wd := width) (signs := Str.ofString ",") (P ++ [(Str.ofString "", Str.ofString ".")]) [(Str.ofString "", wR n)] ⟨[], room, []⟩
  rw [eP] at eA kA
  have st := com_step (room := room) hn ho hall
  have h2 : ∀ l, accLen room l = room + accLen 0 l := fun l => by unfold accLen; (first | lia | omega)
  refine ⟨?_, kA kP ⟨⟨hs, r0, Int.le_trans r1 (by decide), Nat.zero_le _, fun _ _ _ => ⟨P, (Str.ofString "", Str.ofString "."), rfl, fun z => ?_, by decide +kernel, by decide +kernel⟩⟩, trivial⟩, ?_⟩
  · rw [eA]
    exact st
  · have := congrArg (fun q : Str × Str => q.1.length) z
    simp only [lenE] at this
    exact absurd this (by decide)
  · by_cases hr : 0 < room
    · rw [if_pos hr]
      refine okEnd_of (psi := []) (fun z => ?_) (by decide +kernel) hn ⟨by show (1 : Nat) ≤ 1000; decide, fun c hc => ?_⟩ (Int.le_refl _) (by decide) (by simp) (fun l hl => ?_) ?_
      · have := congrArg (fun q : Str × Str => (q.2.length : Int)) z
        simp only [wR_len hn] at this
        have e0 : ((("" : Str).length : Nat) : Int) = 0 := by decide +kernel
        rw [e0] at this
        (first | lia | omega)
      · obtain rfl : c = (Str.ofString " ", wR n) := by simpa using hc
        have := wR_len hn
        exact ⟨by rw [lenB]; decide, by dsimp only; (first | lia | omega)⟩
      · obtain rfl : l = accStr (P ++ [(Str.ofString "", Str.ofString ".")]) := by simpa using hl
        have := accStr_len (P ++ [(Str.ofString "", Str.ofString ".")])
        have h3 := h2 (P ++ [(Str.ofString "", Str.ofString ".")])
        (first | lia | omega)
      · show accLen 0 [(Str.ofString " ", wR n)] ≤ 1000
        rw [accLen_cons, accLen_nil, lenB, wR_len hn]; (first | lia | omega)
    · rw [if_neg hr]
      refine okEnd_of (fun z => ?_) (by decide +kernel) hn hs r0 r1 (Nat.zero_le _) (fun l hl => nomatch hl) ?_
      · have := congrArg (fun q : Str × Str => q.1.length) z
        simp only [lenE] at this
        exact absurd this (by decide)
      · have h3 := h2 (P ++ [(Str.ofString "", Str.ofString ".")])
        rw [accLen_app _ (P ++ [(Str.ofString "", Str.ofString ".")]), accLen_cons, accLen_nil, lenE, wR_len hn]
        (first | lia | omega)
structure ComOk (p0 p1 p2 p3 p4 room W : Int) : Prop where
  run1 : okRun W "," ⟨[], room, []⟩ (chunks "" (wS p0) ["", wS p1, wS p2, wS p3, wS p4])
  end1 : okEnd (runSt W "," ⟨[], room, []⟩ (chunks "" (wS p0) ["", wS p1, wS p2, wS p3, wS p4]))
  txt1 : Txt.join "\n" ((runSt W "," ⟨[], room, []⟩ (chunks "" (wS p0) ["", wS p1, wS p2, wS p3, wS p4])).lines ++ [accStr (runSt W "," ⟨[], room, []⟩ (chunks "" (wS p0) ["", wS p1, wS p2, wS p3, wS p4])).ps]) = uncutS (Txt.join "" [wS p0, wS p1, wS p2, wS p3, wS p4]) room p4
theorem com_ok {room W : Int} {p0 p1 p2 p3 p4 : Int} (r0 : 0 ≤ room) (r1 : room ≤ 1000) (hw : W ≤ 900) (h0 : 1 ≤ p0 ∧ p0 ≤ 90) (h1 : 1 ≤ p1 ∧ p1 ≤ 90) (h2 : 1 ≤ p2 ∧ p2 ≤ 90) (h3 : 1 ≤ p3 ∧ p3 ≤ 90) (h4 : 1 ≤ p4 ∧ p4 ≤ 90) (hs : room + (p0 + 1) + (p1 + 1) + (p2 + 1) + (p3 + 1) + (p4 + 1) = W + 1) : ComOk p0 p1 p2 p3 p4 room W := by
  have ec : chunks "" (wS p0) ["", wS p1, wS p2, wS p3, wS p4] = ([(Str.ofString ".", wR p0), (Str.ofString "", Str.ofString ""), (Str.ofString "", Str.ofString ""), (Str.ofString "", Str.ofString "."), (Str.ofString "", wR p1), (Str.ofString "", Str.ofString "."), (Str.ofString "", wR p2), (Str.ofString "", Str.ofString "."), (Str.ofString "", wR p3)] ++ [(Str.ofString "", Str.ofString ".")]) ++ [(Str.ofString "", wR p4)] := chunks6 h0.1 h1.1 h2.1 h3.1 h4.1
  have eP : accLen room ([(Str.ofString ".", wR p0), (Str.ofString "", Str.ofString ""), (Str.ofString "", Str.ofString ""), (Str.ofString "", Str.ofString "."), (Str.ofString "", wR p1), (Str.ofString "", Str.ofString "."), (Str.ofString "", wR p2), (Str.ofString "", Str.ofString "."), (Str.ofString "", wR p3)] ++ [(Str.ofString "", Str.ofString ".")]) ≤ W := by
    simp only [List.cons_append, List.nil_append, accLen_cons, accLen_nil, lenDot, lenE, wR_len h0.1, wR_len h1.1, wR_len h2.1, wR_len h3.1]; (first | lia | omega)
  have eO : W < accLen room ([(Str.ofString ".", wR p0), (Str.ofString "", Str.ofString ""), (Str.ofString "", Str.ofString ""), (Str.ofString "", Str.ofString "."), (Str.ofString "", wR p1), (Str.ofString "", Str.ofString "."), (Str.ofString "", wR p2), (Str.ofString "", Str.ofString "."), (Str.ofString "", wR p3)] ++ [(Str.ofString "", Str.ofString ".")]) + p4 := by
    simp only [List.cons_append, List.nil_append, accLen_cons, accLen_nil, lenDot, lenE, wR_len h0.1, wR_len h1.1, wR_len h2.1, wR_len h3.1]; (first | lia | omega)
  obtain ⟨e, k, ke⟩ := com_run (P := [(Str.ofString ".", wR p0), (Str.ofString "", Str.ofString ""), (Str.ofString "", Str.ofString ""), (Str.ofString "", Str.ofString "."), (Str.ofString "", wR p1), (Str.ofString "", Str.ofString "."), (Str.ofString "", wR p2), (Str.ofString "", Str.ofString "."), (Str.ofString "", wR p3)]) r0 r1 h4.1 h4.2 eP eO (fun c hc => by
    simp only [List.cons_append, List.nil_append, List.mem_cons, List.mem_nil_iff, or_false] at hc
    rcases hc with rfl | rfl | rfl | rfl | rfl | rfl | rfl | rfl | rfl | rfl | rfl
    · exact .head h0.1 h0.2
    · exact .none
    · exact .none
    · exact .dot
    · exact .tail h1.1 h1.2
    · exact .dot
    · exact .tail h2.1 h2.2
    · exact .dot
    · exact .tail h3.1 h3.2
    · exact .dot
    · exact .tail h4.1 h4.2) (by show (11 : Nat) ≤ 50; decide) hw
  have eU : (Txt.join "" [wS p0, wS p1, wS p2, wS p3, wS p4]).cps.toList = (dt p0 ++ (dt p1 ++ (dt p2 ++ (dt p3 ++ [46])))) ++ (wR p4).cps.toList := by
    rw [join0_toList]
    simp only [List.map_cons, List.map_nil, List.flatten_cons, List.flatten_nil, wS_dt, List.append_nil, List.append_assoc, ← wR_dt h4.1, List.cons_append, List.nil_append]
  have eI : (accStr ([(Str.ofString ".", wR p0), (Str.ofString "", Str.ofString ""), (Str.ofString "", Str.ofString ""), (Str.ofString "", Str.ofString "."), (Str.ofString "", wR p1), (Str.ofString "", Str.ofString "."), (Str.ofString "", wR p2), (Str.ofString "", Str.ofString "."), (Str.ofString "", wR p3)] ++ [(Str.ofString "", Str.ofString ".")])).cps.toList = dt p0 ++ (dt p1 ++ (dt p2 ++ (dt p3 ++ [46]))) := by
    simp only [List.cons_append, List.nil_append, acc_head h0.1, acc_none, acc_word h1.1, acc_word h2.1, acc_word h3.1, acc_dot]
  refine ⟨by rw [ec]; exact k, by rw [ec, show (("," : Str)) = Str.ofString "," from rfl, e]; exact ke, ?_⟩
  rw [ec, show (("," : Str)) = Str.ofString "," from rfl, e]
  refine str_ext ?_
  have lB : ((wR p4).cps.toList.length : Int) = p4 := by rw [← len_list]; exact wR_len h4.1
  have lU : (Txt.join "" [wS p0, wS p1, wS p2, wS p3, wS p4]).length = (dt p0 ++ (dt p1 ++ (dt p2 ++ (dt p3 ++ [46])))).length + (wR p4).cps.toList.length := by
    rw [len_list, eU, List.length_append]
  unfold uncutS
  by_cases hr : 0 < room
  · rw [if_pos hr, if_pos hr]
    show (Txt.join "\n" [accStr ([(Str.ofString ".", wR p0), (Str.ofString "", Str.ofString ""), (Str.ofString "", Str.ofString ""), (Str.ofString "", Str.ofString "."), (Str.ofString "", wR p1), (Str.ofString "", Str.ofString "."), (Str.ofString "", wR p2), (Str.ofString "", Str.ofString "."), (Str.ofString "", wR p3)] ++ [(Str.ofString "", Str.ofString ".")]), accStr [(Str.ofString " ", wR p4)]]).cps.toList = _
    rw [join2_l, app_l, app_l, nl_l, nlb_l, eI]
    have ek : -p4 = -(((wR p4).cps.toList.length : Nat) : Int) := by rw [lB]
    rw [ek, slice_negA _ _ (by (first | lia | omega)) (by (first | lia | omega)), slice_negB _ _ (by (first | lia | omega)) (by (first | lia | omega)), eU, lU, Nat.add_sub_cancel, List.take_left' rfl, List.drop_left' rfl]
    rw [accStr_l]
    simp [b_l]
  · rw [if_neg hr, if_neg hr]
    show (Txt.join "\n" [accStr (([(Str.ofString ".", wR p0), (Str.ofString "", Str.ofString ""), (Str.ofString "", Str.ofString ""), (Str.ofString "", Str.ofString "."), (Str.ofString "", wR p1), (Str.ofString "", Str.ofString "."), (Str.ofString "", wR p2), (Str.ofString "", Str.ofString "."), (Str.ofString "", wR p3)] ++ [(Str.ofString "", Str.ofString ".")]) ++ [(Str.ofString "", wR p4)])]).cps.toList = _
    rw [join1_l, eU]
    simp only [List.cons_append, List.nil_append, acc_head h0.1, acc_none, acc_word h1.1, acc_word h2.1, acc_word h3.1, acc_word h4.1, acc_nil, ← wR_dt h4.1, List.append_nil, List.append_assoc]
theorem ad90 {a b : Int} (h : 1 ≤ a ∧ a ≤ 4) (k : 1 ≤ b ∧ b ≤ 4) : 1 ≤ a + b ∧ a + b ≤ 90 := by (first | lia | omega)
theorem cs {f0 f1 f2 f3 f4 lt W room : Int} (hr : room = W - (f0 + f1 + f2 + f3 + f4 + 5) - lt + 1) : room + (f0 + lt + 1) + (f1 + 1) + (f2 + 1) + (f3 + 1) + (f4 + 1) = W + 1 := by (first | lia | omega)
theorem cs0 {R p f1 f2 f3 f4 W : Int} (h1 : 1 ≤ f1) (h2 : 1 ≤ f2) (h3 : 1 ≤ f3) (h4 : 1 ≤ f4) (e : R + p + (f1 + 1) + (f2 + 1) + (f3 + 1) + (f4 + 1) = W + 1) : R + p + sm 2 [] ≤ W := by simp only [sm]; (first | lia | omega)
theorem cs4 {R p f1 f2 f3 f4 W : Int} (e : R + p + (f1 + 1) + (f2 + 1) + (f3 + 1) + (f4 + 1) = W + 1) : W < R + p + sm 2 [f1, f2, f3] + (f4 + 2) := by simp only [sm]; (first | lia | omega)
theorem nx3 {A W a b c : Int} (h : ¬ A + sm 2 [a, b, c] ≤ W) : W < A + sm 2 [a, b] + (c + 2) := by simp only [sm] at h ⊢; (first | lia | omega)
theorem nx2 {A W a b : Int} (h : ¬ A + sm 2 [a, b] ≤ W) : W < A + sm 2 [a] + (b + 2) := by simp only [sm] at h ⊢; (first | lia | omega)
theorem nx1 {A W a : Int} (h : ¬ A + sm 2 [a] ≤ W) : W < A + sm 2 [] + (a + 2) := by simp only [sm] at h ⊢; (first | lia | omega)
theorem rs1 {f1 f2 f3 f4 W : Int} (h2 : 1 ≤ f2) (h3 : 1 ≤ f3) (h4 : 1 ≤ f4) (hW : f1 + 1 + 2 * (f2 + f3 + f4 + 3) ≤ W) : sm 2 [f1, f2, f3, f4] ≤ W := by simp only [sm]; (first | lia | omega)
theorem rsn {a W : Int} {l : List Int} (ha : 1 ≤ a) (h : sm 2 (a :: l) ≤ W) : sm 2 l ≤ W := by rw [sm] at h; (first | lia | omega)
/-- the other signs: both foldings are as told -/
theorem besides {f0 f1 f2 f3 f4 lt W room : Int} (b0 : 1 ≤ f0 ∧ f0 ≤ 4) (b1 : 1 ≤ f1 ∧ f1 ≤ 4) (b2 : 1 ≤ f2 ∧ f2 ≤ 4) (b3 : 1 ≤ f3 ∧ f3 ≤ 4) (b4 : 1 ≤ f4 ∧ f4 ≤ 4) (bl : 1 ≤ lt ∧ lt ≤ 4)
    (hW : f1 + 1 + 2 * (f2 + f3 + f4 + 3) ≤ W) (hr : room = W - (f0 + f1 + f2 + f3 + f4 + 5) - lt + 1) (r0 : 0 ≤ room) (hwm : W ≤ 100) :
    BesLaw (wS (f0 + lt)) (wS f1) (wS f2) (wS f3) (wS f4) f4 room W := by
  have e := cs hr
  have rm := rm b0.1 b1.1 b2.1 b3.1 b4.1 bl.1 hr hwm
  have a0 := ad90 b0 bl
  have C := com_ok (room := room) (W := W) r0 rm (Int.le_trans hwm (by decide)) a0 (b90 b1) (b90 b2) (b90 b3) (b90 b4) e
  have hR1 := rs1 b2.1 b3.1 b4.1 hW
  have hR2 := rsn b1.1 hR1
  have hR3 := rsn b2.1 hR2
  have hR4 := rsn b3.1 hR3
  have wm : W ≤ 1000 := Int.le_trans hwm (by decide)
  have S : SpOk (f0 + lt) f1 f2 f3 f4 room W := by
    by_cases h4 : room + (f0 + lt + 1) + sm 2 [f1, f2, f3] ≤ W
    · exact sp_of (l := [f1, f2, f3]) (r := []) rfl r0 rm wm a0 (ac (b90 b1) (ac (b90 b2) (ac (b90 b3) an))) (ac (b90 b4) an) h4 (cs4 e) hR4
    by_cases h3 : room + (f0 + lt + 1) + sm 2 [f1, f2] ≤ W
    · exact sp_of (l := [f1, f2]) (r := [f4]) rfl r0 rm wm a0 (ac (b90 b1) (ac (b90 b2) an)) (ac (b90 b3) (ac (b90 b4) an)) h3 (nx3 h4) hR3
    by_cases h2 : room + (f0 + lt + 1) + sm 2 [f1] ≤ W
    · exact sp_of (l := [f1]) (r := [f3, f4]) rfl r0 rm wm a0 (ac (b90 b1) an) (ac (b90 b2) (ac (b90 b3) (ac (b90 b4) an))) h2 (nx2 h3) hR2
    · exact sp_of (l := []) (r := [f2, f3, f4]) rfl r0 rm wm a0 an (ac (b90 b1) (ac (b90 b2) (ac (b90 b3) (ac (b90 b4) an)))) (cs0 b1.1 b2.1 b3.1 b4.1 e) (nx1 h2) hR1
  exact ⟨C.run1, C.end1, C.txt1, S.run2, S.end2, S.txt2⟩
end Mine
end
section
open PySem PySem.W PyProof.Rows PySem.Calls
set_option Elab.async false
set_option maxRecDepth 100000
namespace Mine
theorem c0ne {f0 f1 f2 f3 f4 lt c0 c1 c2 c3 c4 : Int} (b0 : f0 ≤ 4) (b1 : 1 ≤ f1) (b2 : 1 ≤ f2) (b3 : 1 ≤ f3) (b4 : 1 ≤ f4) (bl : 1 ≤ lt) (e0 : c0 = c1 + f1 + 1) (e1 : c1 = c2 + f2 + 1) (e2 : c2 = c3 + f3 + 1) (e3 : c3 = c4 + f4 + 1) (e4 : c4 = lt) (z : c0 = f0) : False := by (first | lia | omega)
theorem cnt_of {g : Int} (h : 0 ≤ g) (h2 : g ≤ 19) : ∃ cnt : Nat, g + 1 = (cnt : Int) ∧ 0 < cnt ∧ cnt ≤ 90 := ⟨(g + 1).toNat, by (first | lia | omega), by (first | lia | omega), by (first | lia | omega)⟩
theorem lt_cnt {g : Int} {cnt t : Nat} (h : g + 1 = (cnt : Int)) (ht : t < cnt) : (t : Int) ≤ g := by (first | lia | omega)
theorem rm100 {room f0 f1 f2 f3 f4 lt W : Int} (b0 : 1 ≤ f0) (b1 : 1 ≤ f1) (b2 : 1 ≤ f2) (b3 : 1 ≤ f3) (b4 : 1 ≤ f4) (bl : 1 ≤ lt) (hr : room = W - (f0 + f1 + f2 + f3 + f4 + 5) - lt + 1) (h : W ≤ 100) : room ≤ 100 := by (first | lia | omega)
theorem wW0 {f1 f2 f3 f4 W : Int} (b1 : 1 ≤ f1) (b2 : 1 ≤ f2) (b3 : 1 ≤ f3) (b4 : 1 ≤ f4) (hW : f1 + 1 + 2 * (f2 + f3 + f4 + 3) ≤ W) : 0 ≤ W := by (first | lia | omega)
theorem told_shape {f0 f1 f2 f3 f4 c0 c1 c2 c3 c4 room width : Int} {t : Nat} {p0 p1 p2 p3 p4 q0 q1 q2 q3 q4 : Int} (H : HourOk f0 f1 f2 f3 f4 c0 c1 c2 c3 c4 room width t p0 p1 p2 p3 p4 q0 q1 q2 q3 q4) :
    ∃ r, (foldT (wS p0) (wS p1) (wS p2) (wS p3) (wS p4) room width (endS t)).cps.toList = 46 :: r ∧ 3 ≤ (foldT (wS p0) (wS p1) (wS p2) (wS p3) (wS p4) room width (endS t)).length ∧ (foldT (wS p0) (wS p1) (wS p2) (wS p3) (wS p4) room width (endS t)).length ≤ 500 := by
  obtain ⟨r1, o, hro, hT, hN⟩ := H.next
  have hb := H.bq
  rw [join_dts] at hN
  have up := dts_len [q0, q1, q2, q3, q4] (by simp only [List.mem_cons, List.mem_nil_iff, or_false]; intro p hp; (first | lia | omega))
  have lo5 : 5 ≤ (dts [q0, q1, q2, q3, q4]).length := by
    simp only [dts_cons, dts_nil, List.length_append, List.length_nil, dt, List.length_cons]
    (first | lia | omega)
  have hlen := congrArg List.length hN
  obtain ⟨r, hr⟩ : ∃ r, r1 = 46 :: r := by
    have hd := hro.h1.hd
    cases r1 with
    | nil => cases hd
    | cons a r => exact ⟨r, by cases hd; rfl⟩
  rw [len_list, hT]
  simp only [List.length_cons, List.length_append, List.length_nil] at hlen up
  cases o with
  | none =>
    simp only [tl2, List.length_nil] at hlen
    refine ⟨r, hr, ?_, ?_⟩
    · show 3 ≤ r1.length; (first | lia | omega)
    · show r1.length ≤ 500; (first | lia | omega)
  | some q =>
    obtain ⟨e, r2⟩ := q
    have he := (hro.h2 e r2 rfl).1
    have le : 1 ≤ e.length ∧ e.length ≤ 2 := by
      rcases he with rfl | rfl | rfl <;> decide
    simp only [tl2, List.length_cons] at hlen
    refine ⟨r ++ (e ++ r2), by show r1 ++ (e ++ r2) = _; rw [hr]; rfl, ?_, ?_⟩
    · show 3 ≤ (r1 ++ (e ++ r2)).length
      rw [List.length_append, List.length_append]; (first | lia | omega)
    · show (r1 ++ (e ++ r2)).length ≤ 500
      rw [List.length_append, List.length_append]; (first | lia | omega)
theorem five_bd {f0 f1 f2 f3 f4 : Int} (b0 : 1 ≤ f0 ∧ f0 ≤ 4) (b1 : 1 ≤ f1 ∧ f1 ≤ 4) (b2 : 1 ≤ f2 ∧ f2 ≤ 4) (b3 : 1 ≤ f3 ∧ f3 ≤ 4) (b4 : 1 ≤ f4 ∧ f4 ≤ 4) : ∀ k < 5, 0 ≤ ([f0, f1, f2, f3, f4] : List Int).getD k 0 ∧ ([f0, f1, f2, f3, f4] : List Int).getD k 0 ≤ 100 := fun k hk => by
  rcases k with _ | _ | _ | _ | _ | k
  · show 0 ≤ f0 ∧ f0 ≤ 100; (first | lia | omega)
  · show 0 ≤ f1 ∧ f1 ≤ 100; (first | lia | omega)
  · show 0 ≤ f2 ∧ f2 ≤ 100; (first | lia | omega)
  · show 0 ≤ f3 ∧ f3 ≤ 100; (first | lia | omega)
  · show 0 ≤ f4 ∧ f4 ≤ 100; (first | lia | omega)
  · (first | lia | omega)
section
variable {w : World} {b : Heap} {L : Addr} {s : Shared} {Q : Flow → Shared → Prop} {mg mb m : Str → Option Value}
set_option maxHeartbeats 1000000 in
theorem law_rest {D : Addr} {o1 o2 o3 o157 o164 : Obj} {f0 f1 f2 f3 f4 lt room W : Int} {t0 t1 t2 t3 t4 tl tr tw : Tok} {mean : ExcName → Option Value} {p : Program} {loose : List Str} (X' : (KK w.params).In b) (T' : TR mg mb b) (TP : Top p loose mean mg mb b) {bm : Addr} {ob : Obj} (BM : BMod b mainGlobals mg bm ob) (F : Fr b L s.heap m)
    (N : News b L s.heap [(D, LCg.lst [.int f0 t0, .int f1 t1, .int f2 t2, .int f3 t3, .int f4 t4]), (L + 1 + 1 + 1, o1), (L + 1 + 1, o2), (L + 1, o3), (157, o157), (164, o164)]) (hTab : TabOk s.heap)
    (d1 : o1.data = .cell (some (.int lt tl))) (d2 : o2.data = .cell (some (.ref D))) (l157 : 157 < L) (l164 : 164 < L)
    (hm3 : m (Str.ofString "room") = some (.int room tr)) (hm4 : m (Str.ofString "width") = some (.int W tw))
    (b0 : 1 ≤ f0 ∧ f0 ≤ 4) (b1 : 1 ≤ f1 ∧ f1 ≤ 4) (b2 : 1 ≤ f2 ∧ f2 ≤ 4) (b3 : 1 ≤ f3 ∧ f3 ≤ 4) (b4 : 1 ≤ f4 ∧ f4 ≤ 4) (bl : 1 ≤ lt ∧ lt ≤ 4)
    (hW : f1 + 1 + 2 * (f2 + f3 + f4 + 3) ≤ W) (hr : room = W - (f0 + f1 + f2 + f3 + f4 + 5) - lt + 1) (r0 : 0 ≤ room) (hwm : W ≤ 100)
    (hQ : ∀ s', (∀ a o, b.get? a = some o → s'.heap.get? a = some o) → TabOk s'.heap → s'.os = s.os → (AllBare s.gens → AllBare s'.gens) → Q (.ret (.bool true)) s') :
    wpAny (MM w) (AL L) (execs (lawB 6) (lawEnv L)) Q (fun _ _ => False) s := by
  have XF := X'.keeps F.keep
  have n157 := (N (157, o157) (by k_mem)).1
  have n164 := (N (164, o164) (by k_mem)).1
  refine law_4 X' T' F N d1 d2 b0 b1 b2 b3 b4 bl (fun h4 tk4 C u0 u1 u2 u3 u4 F4 N4 => ?_)
  refine law_5 X' T' F4 N4 d2 b0 b1 b2 b3 b4 (fun h5 tk5 E v0 v1 v2 v3 v4 F5 N5 => ?_)
  have tab5 : TabOk h5 := tab_of XF (X'.keeps F5.keep) hTab (fun o e => by rw [n157] at e; cases e; exact (N5 (157, o157) (by k_mem)).1) (fun o e => by rw [n164] at e; cases e; exact (N5 (164, o164) (by k_mem)).1)
  clear F4 N4
  have c0 := cAt0 f1 f2 f3 f4 lt
  have c1 := cAt1 f1 f2 f3 f4 lt
  have c2 := cAt2 f1 f2 f3 f4 lt
  have c3 := cAt3 f1 f2 f3 f4 lt
  have c4 := cAt4 f1 f2 f3 f4 lt
  have hDC : D ≠ C := fun z => by
    have e1 := (N5 (D, LCg.lst [.int f0 t0, .int f1 t1, .int f2 t2, .int f3 t3, .int f4 t4]) (by k_mem)).1
    have e2 := (N5 (C, LCg.lst [.int (cAt f1 f2 f3 f4 lt 0) u0, .int (cAt f1 f2 f3 f4 lt 1) u1, .int (cAt f1 f2 f3 f4 lt 2) u2, .int (cAt f1 f2 f3 f4 lt 3) u3, .int (cAt f1 f2 f3 f4 lt 4) u4]) (by k_mem)).1
    dsimp only at e1 e2
    rw [z, e2] at e1
    have z3 := congrArg (fun o : Obj => match o.data with | .seq xs _ => (match xs.toList with | (.int i _) :: _ => i | _ => 0) | _ => 0) (Option.some.inj e1)
    have z4 : cAt f1 f2 f3 f4 lt 0 = f0 := z3
    exact c0ne b0.2 b1.1 b2.1 b3.1 b4.1 bl.1 c0 c1 c2 c3 c4 z4
  generalize cAt f1 f2 f3 f4 lt 0 = g0 at c0 N5
  generalize cAt f1 f2 f3 f4 lt 1 = g1 at c0 c1 N5
  generalize cAt f1 f2 f3 f4 lt 2 = g2 at c1 c2 N5
  generalize cAt f1 f2 f3 f4 lt 3 = g3 at c2 c3 N5
  generalize cAt f1 f2 f3 f4 lt 4 = g4 at c3 c4 N5
  obtain ⟨n0, hn0⟩ : ∃ n : Nat → Int, ∀ t, n t = f0 + (t : Int) := ⟨_, fun _ => rfl⟩
  obtain ⟨n1, hn1⟩ : ∃ n : Nat → Int, ∀ t, n t = nF f1 g1 (t : Int) := ⟨_, fun _ => rfl⟩
  obtain ⟨n2, hn2⟩ : ∃ n : Nat → Int, ∀ t, n t = nF f2 g2 (t : Int) := ⟨_, fun _ => rfl⟩
  obtain ⟨n3, hn3⟩ : ∃ n : Nat → Int, ∀ t, n t = nF f3 g3 (t : Int) := ⟨_, fun _ => rfl⟩
  obtain ⟨n4, hn4⟩ : ∃ n : Nat → Int, ∀ t, n t = nF f4 g4 (t : Int) := ⟨_, fun _ => rfl⟩
  have p4 : 0 ≤ g4 := c4 ▸ Int.le_trans (by decide) bl.1
  have p3 : 0 ≤ g3 := Int.le_trans p4 (Int.le_of_lt (lts c3 b4.1))
  have p2 : 0 ≤ g2 := Int.le_trans p3 (Int.le_of_lt (lts c2 b3.1))
  have p1 : 0 ≤ g1 := Int.le_trans p2 (Int.le_of_lt (lts c1 b2.1))
  have q1 : g1 ≤ 19 := tb b2.2 b3.2 b4.2 bl.2 c1 c2 c3 c4 (Int.le_refl _)
  obtain ⟨cnt, hcnt, cp, cl⟩ : ∃ cnt : Nat, g1 + 1 = (cnt : Int) ∧ 0 < cnt ∧ cnt ≤ 90 := cnt_of p1 q1
  have z0 : wS f0 = wS (n0 0) := by rw [hn0]; exact congrArg wS (Int.add_zero f0).symm
  have z1 : wS f1 = wS (n1 0) := by rw [hn1]; exact congrArg wS (nF_lo b1.1 p1).symm
  have z2 : wS f2 = wS (n2 0) := by rw [hn2]; exact congrArg wS (nF_lo b2.1 p2).symm
  have z3 : wS f3 = wS (n3 0) := by rw [hn3]; exact congrArg wS (nF_lo b3.1 p3).symm
  have z4 : wS f4 = wS (n4 0) := by rw [hn4]; exact congrArg wS (nF_lo b4.1 p4).symm
  have k2 : g2 + f2 + 1 ≤ (cnt : Int) := by rw [← hcnt, ← c1]; exact le_t (Int.le_refl _)
  have k3 : g3 + f3 + 1 ≤ (cnt : Int) := by rw [← c2]; exact Int.le_trans (Int.le_of_lt (lts (f := f2) rfl b2.1)) k2
  have k4 : g4 + f4 + 1 ≤ (cnt : Int) := by rw [← c3]; exact Int.le_trans (Int.le_of_lt (lts (f := f3) rfl b3.1)) k3
  have y2 : n2 cnt = 2 * f2 + 1 := by rw [hn2, nF_hi b2.1 k2, Int.two_mul]
  have y3 : n3 cnt = 2 * f3 + 1 := by rw [hn3, nF_hi b3.1 k3, Int.two_mul]
  have y4 : n4 cnt = 2 * f4 + 1 := by rw [hn4, nF_hi b4.1 k4, Int.two_mul]
  have HH : ∀ t < cnt, HourOk f0 f1 f2 f3 f4 g0 g1 g2 g3 g4 room W t (n0 t) (n1 t) (n2 t) (n3 t) (n4 t) (n0 (t + 1)) (n1 (t + 1)) (n2 (t + 1)) (n3 (t + 1)) (n4 (t + 1)) := fun t ht => by
    have h := hours (room := room) b0 b1 b2 b3 b4 bl hW hr r0 hwm c0 c1 c2 c3 c4 t (lt_cnt hcnt ht)
    rw [hn0, hn1, hn2, hn3, hn4, hn0, hn1, hn2, hn3, hn4]
    exact h
  have BL := besides b0 b1 b2 b3 b4 bl hW hr r0 hwm
  obtain ⟨rT, eT, lT, lT2⟩ := told_shape (HH (cnt - 1) (Nat.sub_lt cp Nat.one_pos))
  have fb := five_bd b0 b1 b2 b3 b4
  have nL : ∀ i, i ≤ 3 → (157 : Nat) ≠ L + i ∧ (164 : Nat) ≠ L + i := fun i _ => ⟨Nat.ne_of_lt (Nat.lt_of_lt_of_le l157 (Nat.le_add_right L i)), Nat.ne_of_lt (Nat.lt_of_lt_of_le l164 (Nat.le_add_right L i))⟩
  rw [z0, z1, z2, z3, z4] at N5
  clear z0 z1 z2 z3 z4 hn0 hn1 hn2 hn3 hn4 c0 c1 c2 c3 c4
  refine law_6 (n0 := n0) (n1 := n1) (n2 := n2) (n3 := n3) (n4 := n4) X' T' BM F5 N5 tab5 d2 hDC nL rfl rfl hm3 hm4 hcnt cp cl fb HH (fun s6 m6 E6 tt p157 p164 w0 w1 w2 w3 w4 F6 N6 tab6 os6 gs6 hw6 hr6 hwd6 htx6 => ?_)
  clear F5 N5 tab5 HH
  rw [y2, y3, y4] at N6
  refine law_7 X' T' TP F6 N6 htx6 eT lT lT2 (fun s7 F7 N7 os7 gs7 => ?_)
  have tab7 : TabOk s7.heap := tab_of (X'.keeps F6.keep) (X'.keeps F7.keep) tab6 (fun o e => by rw [(N6 (157, p157) (by k_mem)).1] at e; cases e; exact (N7 (157, p157) (by k_mem)).1) (fun o e => by rw [(N6 (164, p164) (by k_mem)).1] at e; cases e; exact (N7 (164, p164) (by k_mem)).1)
  clear F6 N6 tab6
  refine law_8 X' T' F7 N7 d2 b2 b3 b4 (fun h8 tk8 t8 F8 N8 => ?_)
  refine law_9 X' T' F8 N8 hw6 rfl b2 b3 b4 (fun h9 tk9 F9 N9 => ?_)
  have tab9 : TabOk h9 := tab_of (X'.keeps F7.keep) (X'.keeps F9.keep) tab7 (fun o e => by rw [(N7 (157, p157) (by k_mem)).1] at e; cases e; exact (N9 (157, p157) (by k_mem)).1) (fun o e => by rw [(N7 (164, p164) (by k_mem)).1] at e; cases e; exact (N9 (164, p164) (by k_mem)).1)
  clear F7 N7 tab7 F8 N8
  refine law_10 X' T' BM F9 N9 tab9 d1 d2 hr6 hwd6 b0 b1 b2 b3 b4 bl ⟨r0, rm100 b0.1 b1.1 b2.1 b3.1 b4.1 bl.1 hr hwm⟩ ⟨wW0 b1.1 b2.1 b3.1 b4.1 hW, hwm⟩ BL (fun s10 k10 tab10 os10 gs10 => ?_)
  exact hQ s10 k10 tab10 (os10.trans (os7.trans os6)) (fun G => gs10 (by
    show AllBare s7.gens
    rw [gs7]; exact gs6 G))
end
end Mine
end
section
open PySem PySem.W PyProof.Rows PySem.Calls
set_option Elab.async false
set_option maxRecDepth 100000
namespace Mine
theorem fm4 (a : Int) : 1 ≤ 1 + Int.fmod a 4 ∧ 1 + Int.fmod a 4 ≤ 4 := by
  rw [Int.fmod_eq_emod_of_nonneg _ (by decide)]; omega
theorem fm3 (a : Int) : 0 ≤ Int.fmod a 3 ∧ Int.fmod a 3 ≤ 2 := by
  rw [Int.fmod_eq_emod_of_nonneg _ (by decide)]; omega
noncomputable def LawGoal2 : Prop := ∀ (w : World) (s : Shared) (mean : ExcName → Option Value) (mg mb : Str → Option Value) (l : Addr) (vs : List Value) (ns : List Int),
  YP w s.heap → Top qv (looseW qv lo) mean mg mb s.heap → s.gens = #[] → s.heap.IsList l vs.toArray → IntsAre vs ns → ns.length ≤ 63 →
  wpAny (model PySem.Challenge.pw_xl0017_01 w) callerA (call (.ref 293) [.ref l])
    (fun v s' => v = .bool true ∧ OldK s.heap s'.heap ∧ s'.os = s.os ∧ AllBare s'.gens) (fun _ _ => False) s
set_option maxHeartbeats 1000000 in
theorem law_goal : LawGoal2 := by
  intro w s mean mg mb l vs ns Y TP hg hl hI hn
  have X := base_hide Y.k
  have T : TR mg mb (hideAll s.heap [157, 164]) := read_hide (topRead_of TP) (by decide) (by decide) (by decide)
  have TPg : Top p0 lo2 mean mg mb (hideAll s.heap [157, 164]) := top_hide TP (by decide) (by decide) (by decide) (by decide) (fun a o e hc q => by
    simp only [List.mem_cons, List.mem_nil_iff, or_false] at q
    rcases q with rfl | rfl
    · rw [Y.t1] at e; cases e; cases hc
    · rw [Y.t2] at e; cases e; cases hc)
  have kg : (hideAll s.heap [157, 164]).StaysIn s.heap := fun a o e => of_hideAll _ e
  refine wpAny_call ?_
  refine' enterC (news := [(157, tab0), (164, tab0)]) (binds := [("script", .ref l)]) X T kg ?n ?ho ?hcd ?room ?bind ?loc ?nd ?_ ?c1 ?c2 ?c3
  case ho => k_is
  case hcd => k_is
  case room => decide
  case bind => exact BindsTo.of_eq rfl
  case loc =>
    intro n x hx
    simp only [List.mem_cons, List.mem_nil_iff, or_false] at hx
    subst hx
    exact .inr ⟨rfl, rfl⟩
  case nd => decide
  case n =>
    intro p hp
    simp only [List.mem_cons, List.mem_nil_iff, or_false] at hp
    rcases hp with rfl | rfl
    · exact ⟨Y.t1, hideAll_none _ (by decide)⟩
    · exact ⟨Y.t2, hideAll_none _ (by decide)⟩
  case c1 => rfl
  case c2 => rfl
  case c3 => rfl
  intro b L h₁ tk cells F N C B ltL
  have X' := B.k
  have T' := B.t
  have TP' : Top p0 lo2 mean mg mb b := TPg.keeps B.g
  obtain ⟨bm, ob, BM⟩ := bmod_of_top TP'
  obtain ⟨c1, c2, c3, rfl, d1, d2, d3⟩ := C.three
  simp only [List.cons_append, List.nil_append] at N
  have d1 : c1.data = .cell none := d1
  have d2 : c2.data = .cell none := d2
  have d3 : c3.data = .cell (some (.ref l)) := d3
  have l157 : 157 < L := ltL (157, tab0) (by simp)
  have l164 : 164 < L := ltL (164, tab0) (by simp)
  have hl' : b.IsList l vs.toArray := by
    obtain ⟨o, e, hc, r⟩ := hl
    refine ⟨o, B.old _ _ e (fun q => ?_), hc, r⟩
    simp only [List.map_cons, List.map_nil, List.mem_cons, List.mem_nil_iff, or_false] at q
    rcases q with rfl | rfl
    · rw [Y.t1] at e; cases e; cases hc
    · rw [Y.t2] at e; cases e; cases hc
  have tabS : TabOk s.heap := tab_start Y.k Y.t1 Y.t2
  refine law_1 X' T' F N d1 d2 d3 hl' hI hn l157 l164 (fun h1 tk1 D o2' t0 t1 t2 t3 t4 F1 N1 d2' => ?_)
  clear N F
  have b0 : 1 ≤ ff ns 0 ∧ ff ns 0 ≤ 4 := fm4 _
  have b1 : 1 ≤ ff ns 1 ∧ ff ns 1 ≤ 4 := fm4 _
  have b2 : 1 ≤ ff ns 2 ∧ ff ns 2 ≤ 4 := fm4 _
  have b3 : 1 ≤ ff ns 3 ∧ ff ns 3 ≤ 4 := fm4 _
  have b4 : 1 ≤ ff ns 4 ∧ ff ns 4 ≤ 4 := fm4 _
  generalize ff ns 0 = f0 at b0 N1
  generalize ff ns 1 = f1 at b1 N1
  generalize ff ns 2 = f2 at b2 N1
  generalize ff ns 3 = f3 at b3 N1
  generalize ff ns 4 = f4 at b4 N1
  obtain ⟨lt, hlt⟩ : ∃ lt, 1 + Int.fmod (numAt ns 5) 4 = lt := ⟨_, rfl⟩
  obtain ⟨x, hx⟩ : ∃ x, Int.fmod (numAt ns 6) 3 = x := ⟨_, rfl⟩
  have bl : 1 ≤ lt ∧ lt ≤ 4 := hlt ▸ fm4 _
  have bx : 0 ≤ x ∧ x ≤ 2 := hx ▸ fm3 _
  refine law_2 X' T' F1 N1 d1 d2' d3 hl' hI hn l157 l164 hlt (fun h2 tk2 o1' tl F2 N2 d1' => ?_)
  refine law_3 X' T' F2 N2 d1' d2' d3 hl' hI hn hx b0 b1 b2 b3 b4 bl bx (fun h3 tk3 m3 tw tr F3 N3 hm4 hm3 => ?_)
  clear F1 N1 F2 N2
  have tab3 : TabOk h3 := tab_of (X.keeps kg) (X'.keeps F3.keep) tabS (fun o e => by rw [Y.t1] at e; cases e; exact (N3 (157, _) (by k_mem)).1) (fun o e => by rw [Y.t2] at e; cases e; exact (N3 (164, _) (by k_mem)).1)
  refine law_rest X' T' TP' BM F3 N3 tab3 d1' d2' l157 l164 hm3 hm4 b0 b1 b2 b3 b4 bl (by omega) rfl (by omega) (by omega) (fun s4 k4 tab4 os4 gs4 => ?_)
  refine ⟨rfl, oldK_tab Y.k Y.t1 Y.t2 (fun a o e q => k4 _ _ (B.old _ _ e q)) tab4, os4, gs4 ?_⟩
  exact AllBare.of_eq hg
set_option maxHeartbeats 4000000 in
theorem hd2 : PySem.Challenge.rw_xl0017_01.Holds := by
  refine holds_law ws fun k1 => ?_
  refine holds_open (q := qv) (loose := lo) (Xt := fun s => xlAt qv [] s && recOk [] s) (XP := XL qv []) (Yf := Yf) (Ya := Ya) (YP := YP) (N := 3964) left ?_ ?_ (fun s e => xl_of s (Bool.and_eq_true_iff.mp e).1) XL.keeps (by rfl) (by rfl) (by rfl) (fun s e => recFacts_of (Bool.and_eq_true_iff.mp e).2) (by rfl) k1 (by decide +kernel) ⟨rfl, rfl, rfl, rfl, rfl, by decide +kernel⟩ ?hw ?hc
  · intro w s e
    obtain ⟨e1, e2⟩ := Prod.mk.inj e
    obtain ⟨e2, e3⟩ := Prod.mk.inj e2
    exact ⟨Frag.in_of (as := kAddrs) rfl e1, e2, e3⟩
  · intro w h h' Y k
    exact ⟨Y.k.keeps k, k _ _ Y.t1, k _ _ Y.t2⟩
  case hw => w_witness2
  case hc =>
    intro w s₀ s₁ mg mb G Y a o pm cd doc dV kV ho hd hcd hD hmg hg args vals as hpre hlay hrd hwl hlo
    have T := topRead_of G.T
    have TT := G.T
    have ha : a = 293 := by
      have := mg_of Y.k T.g (n := Str.ofString "law") (v := .ref 293) (by rfl)
      rw [show mg _ = mg (Str.ofString "law") from rfl] at hmg
      rw [hmg] at this
      cases this; rfl
    subst ha
    clear ho hd hcd hD hmg
    wrow_args hpre hlay hrd hwl hlo
    rename_i hL _ _ _ hI _ hc _
    refine wpAny_mono (law_goal w s₁ _ mg mb _ _ _ Y TT hg hL hI (by omega)) (fun v s' h => ?_) (fun _ _ h => h.elim)
    obtain ⟨rfl, ho, hos, hb⟩ := h
    exact ⟨.inl ⟨_, .bool true, [], rfl, fun cls => (by kernel_rfl!), .bool _, (by kernel_rfl!), fun _ => ⟨.nil, nofun⟩⟩, ho, hos, hb⟩
end Mine
end
theorem PySem.Challenge.cw_xl0017_01_holds : PySem.Challenge.rw_xl0017_01.Holds :=
  Mine.hd2
