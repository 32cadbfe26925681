import PyProof.Rows.All
import Wide.All
import OpenK.AllK
import Wide.FinOn
import Lean
import PySem.Challenge.RW_wb0072_02
open PySem PySem.W PySem.Calls PyProof.Rows PySem.Builtin PySem.Builtin.Str
set_option maxRecDepth 100000
set_option Elab.async false
set_option linter.unusedVariables false
set_option linter.unusedSimpArgs false
namespace Mine
section
open PySem PySem.W PySem.Calls PyProof.Rows PySem.Builtin PySem.Builtin.Str
set_option maxRecDepth 1000000
noncomputable abbrev prg1 : Program := (PySem.Challenge.rw_wb0072_02).row.prog
/-- parts of the given text, by their place in it -/
noncomputable def stAt : List Stmt → Nat → Stmt
  | [], _ => .Pass default
  | s :: _, 0 => s
  | _ :: r, n + 1 => stAt r n
noncomputable def fnP : Stmt → Arguments
  | .FunctionDef _ a _ _ _ _ _ _ _ _ => a
  | _ => ⟨[], [], none, [], [], none, []⟩
noncomputable def fnB : Stmt → List Stmt
  | .FunctionDef _ _ b _ _ _ _ _ _ _ => b
  | _ => []
noncomputable def fnS : Stmt → Scope
  | .FunctionDef _ _ _ _ _ _ s _ _ _ => s
  | _ => default
noncomputable def clB : Stmt → List Stmt
  | .ClassDef _ _ _ b _ _ _ _ _ _ _ => b
  | _ => []
/-- what stands in the heap when the text has run (in a text, \\x69 is the letter i) -/
noncomputable def K1 : Params → Frag := fun P =>
  (nat_lit 2, { cls := Value.none, data := Data.dict #[{ hash := PyData.keyHash P (Str.ofString "\x69mport.loaded._sre"), key := Value.str (Str.ofString "\x69mport.loaded._sre") 183, val := Value.bool true }, { hash := PyData.keyHash P (Str.ofString "class._frozen_importlib.BuiltinImporter"), key := Value.str (Str.ofString "class._frozen_importlib.BuiltinImporter") 185, val := Value.ref 14 }, { hash := PyData.keyHash P (Str.ofString "watched.\x69mport"), key := Value.str (Str.ofString "watched.\x69mport") 206, val := Value.ref 18 }, { hash := PyData.keyHash P (Str.ofString "class._frozen_importlib.ModuleSpec"), key := Value.str (Str.ofString "class._frozen_importlib.ModuleSpec") 216, val := Value.ref 22 }, { hash := PyData.keyHash P (Str.ofString "sys.modules.booked-epoch"), key := Value.str (Str.ofString "sys.modules.booked-epoch") 245, val := Value.int 3 0 }, { hash := PyData.keyHash P (Str.ofString "\x69mport.later-laid._sre"), key := Value.str (Str.ofString "\x69mport.later-laid._sre") 270, val := Value.bool true }, { hash := PyData.keyHash P (Str.ofString "watched.library"), key := Value.str (Str.ofString "watched.library") 272, val := Value.ref 27 }, { hash := PyData.keyHash P (Str.ofString "watched.library-objects"), key := Value.str (Str.ofString "watched.library-objects") 0, val := Value.str (Str.ofString "\x0c") 0 }, { hash := PyData.keyHash P (Str.ofString "watched.library-deep._sre"), key := Value.str (Str.ofString "watched.library-deep._sre") 273, val := Value.str (Str.ofString "\x04\x00\x00\x0b\x04\x00\x00\x0b\x04\x00\x00\x03\x04\x00\x00\x0b\x08\x04dict\x02") 0 }] 9 }) ::
  (nat_lit 3, { cls := Value.type "dict", data := Data.dict #[{ hash := PyData.keyHash P (Str.ofString "__name__"), key := Value.str (Str.ofString "__name__") 165, val := Value.str (Str.ofString "law_wb0072_02") 667 }, { hash := PyData.keyHash P (Str.ofString "__doc__"), key := Value.str (Str.ofString "__doc__") 166, val := Value.none }, { hash := PyData.keyHash P (Str.ofString "__package__"), key := Value.str (Str.ofString "__package__") 167, val := Value.none }, { hash := PyData.keyHash P (Str.ofString "__loader__"), key := Value.str (Str.ofString "__loader__") 168, val := Value.builtin "__main__.__loader__#opaque" }, { hash := PyData.keyHash P (Str.ofString "__spec__"), key := Value.str (Str.ofString "__spec__") 169, val := Value.none }, { hash := PyData.keyHash P (Str.ofString "__annotations__"), key := Value.str (Str.ofString "__annotations__") 170, val := Value.ref 6 }, { hash := PyData.keyHash P (Str.ofString "__builtins__"), key := Value.str (Str.ofString "__builtins__") 171, val := Value.ref 4 }, { hash := PyData.keyHash P (Str.ofString "__file__"), key := Value.str (Str.ofString "__file__") 173, val := Value.str (Str.ofString "/claim/cut.py") 172 }, { hash := PyData.keyHash P (Str.ofString "__cached__"), key := Value.str (Str.ofString "__cached__") 174, val := Value.none }, { hash := PyData.keyHash P (Str.ofString "_sre"), key := Value.str (Str.ofString "_sre") 275, val := Value.ref 12 }, { hash := PyData.keyHash P (Str.ofString "_wall"), key := Value.str (Str.ofString "_wall") 288, val := Value.ref 38 }, { hash := PyData.keyHash P (Str.ofString "ELLIPSIS_MARKER"), key := Value.str (Str.ofString "ELLIPSIS_MARKER") 292, val := Value.str (Str.ofString "...") 291 }, { hash := PyData.keyHash P (Str.ofString "_ellipsis_match"), key := Value.str (Str.ofString "_ellipsis_match") 304, val := Value.ref 45 }, { hash := PyData.keyHash P (Str.ofString "EMPTYSTRING"), key := Value.str (Str.ofString "EMPTYSTRING") 308, val := Value.str (Str.ofString "") 307 }, { hash := PyData.keyHash P (Str.ofString "_Accumulator"), key := Value.str (Str.ofString "_Accumulator") 403, val := Value.ref 125 }, { hash := PyData.keyHash P (Str.ofString "tspecials"), key := Value.str (Str.ofString "tspecials") 439, val := Value.ref 134 }, { hash := PyData.keyHash P (Str.ofString "_name_disallowed_re"), key := Value.str (Str.ofString "_name_disallowed_re") 465, val := Value.ref 139 }, { hash := PyData.keyHash P (Str.ofString "_value_disallowed_re"), key := Value.str (Str.ofString "_value_disallowed_re") 499, val := Value.ref 144 }, { hash := PyData.keyHash P (Str.ofString "_formatparam"), key := Value.str (Str.ofString "_formatparam") 509, val := Value.ref 152 }, { hash := PyData.keyHash P (Str.ofString "Headers"), key := Value.str (Str.ofString "Headers") 666, val := Value.ref 273 }, { hash := PyData.keyHash P (Str.ofString "_law_word"), key := Value.str (Str.ofString "_law_word") 674, val := Value.ref 282 }, { hash := PyData.keyHash P (Str.ofString "_law_piled"), key := Value.str (Str.ofString "_law_piled") 687, val := Value.ref 289 }, { hash := PyData.keyHash P (Str.ofString "_law_comes_off"), key := Value.str (Str.ofString "_law_comes_off") 693, val := Value.ref 294 }, { hash := PyData.keyHash P (Str.ofString "_law_stretch"), key := Value.str (Str.ofString "_law_stretch") 704, val := Value.ref 301 }, { hash := PyData.keyHash P (Str.ofString "_law_period"), key := Value.str (Str.ofString "_law_period") 714, val := Value.ref 308 }, { hash := PyData.keyHash P (Str.ofString "law"), key := Value.str (Str.ofString "law") 720, val := Value.ref 313 }] 26 }) ::
  (nat_lit 44, { cls := Value.type "code", data := Data.fields #[Value.str (Str.ofString "_ellipsis_match") 293, Value.str (Str.ofString "_ellipsis_match") 294, Value.str (Str.ofString "/claim/cut.py") 295, Value.int 7 0, Value.int 2 0, Value.int 0 0, Value.int 0 0, Value.int 3 0, Value.ref 39, Value.bool true, Value.int 276 0, Value.ref 40, Value.none, Value.ref 41, Value.ref 42, Value.ref 43, Value.int 302 0, Value.int 7 0, Value.str (Str.ofString "/claim/cut.py") 303] }) ::
  (nat_lit 45, { cls := Value.type "function", data := Data.func { name := Str.ofString "_ellipsis_match", qualname := Str.ofString "_ellipsis_match", params := (by refine' (?f : (b : Arguments) → (fnP (stAt prg1.main.body 4) = b) → Arguments) _ ?h; (case f => exact fun b _ => b); (case h => conv => lhs; whnf)), body := (FuncBody.stmts (by refine' (?f : (b : List Stmt) → (fnB (stAt prg1.main.body 4) = b) → List Stmt) _ ?h; (case f => exact fun b _ => b); (case h => conv => lhs; whnf))), scope := (by refine' (?f : (b : Scope) → (fnS (stAt prg1.main.body 4) = b) → Scope) _ ?h; (case f => exact fun b _ => b); (case h => conv => lhs; whnf)), globals := 3, closure := [], defaults := Value.none, kwdefaults := Value.none, pyModule := Value.str (Str.ofString "cpy313.doctest") 289, code := Value.ref 44 } }) ::
  (nat_lit 49, { cls := Value.type "cell", data := Data.cell (some (Value.ref 125)) }) ::
  (nat_lit 54, { cls := Value.type "tuple", data := Data.seq #[Value.int 0 321] }) ::
  (nat_lit 55, { cls := Value.type "tuple", data := Data.seq #[Value.ref 49] }) ::
  (nat_lit 61, { cls := Value.type "code", data := Data.fields #[Value.str (Str.ofString "__init__") 322, Value.str (Str.ofString "_Accumulator.__init__") 323, Value.str (Str.ofString "/claim/cut.py") 324, Value.int 39 0, Value.int 2 0, Value.int 0 0, Value.int 0 0, Value.int 3 0, Value.ref 56, Value.bool true, Value.int 276 0, Value.ref 57, Value.none, Value.ref 58, Value.ref 59, Value.ref 60, Value.int 328 0, Value.int 39 0, Value.str (Str.ofString "/claim/cut.py") 329] }) ::
  (nat_lit 62, { cls := Value.type "function", data := Data.func { name := Str.ofString "__init__", qualname := Str.ofString "_Accumulator.__init__", params := (by refine' (?f : (b : Arguments) → (fnP (stAt (clB (stAt prg1.main.body 7)) 0) = b) → Arguments) _ ?h; (case f => exact fun b _ => b); (case h => conv => lhs; whnf)), body := (FuncBody.stmts (by refine' (?f : (b : List Stmt) → (fnB (stAt (clB (stAt prg1.main.body 7)) 0) = b) → List Stmt) _ ?h; (case f => exact fun b _ => b); (case h => conv => lhs; whnf))), scope := (by refine' (?f : (b : Scope) → (fnS (stAt (clB (stAt prg1.main.body 7)) 0) = b) → Scope) _ ?h; (case f => exact fun b _ => b); (case h => conv => lhs; whnf)), globals := 3, closure := [(Str.ofString "__class__", 49)], defaults := Value.ref 54, kwdefaults := Value.none, pyModule := Value.str (Str.ofString "cpy313.email.header") 305, code := Value.ref 61, closureTuple := Value.ref 55 } }) ::
  (nat_lit 68, { cls := Value.type "code", data := Data.fields #[Value.str (Str.ofString "push") 331, Value.str (Str.ofString "_Accumulator.push") 332, Value.str (Str.ofString "/claim/cut.py") 333, Value.int 43 0, Value.int 3 0, Value.int 0 0, Value.int 0 0, Value.int 3 0, Value.ref 63, Value.bool true, Value.int 276 0, Value.ref 64, Value.none, Value.ref 65, Value.ref 66, Value.ref 67, Value.int 337 0, Value.int 43 0, Value.str (Str.ofString "/claim/cut.py") 338] }) ::
  (nat_lit 69, { cls := Value.type "function", data := Data.func { name := Str.ofString "push", qualname := Str.ofString "_Accumulator.push", params := (by refine' (?f : (b : Arguments) → (fnP (stAt (clB (stAt prg1.main.body 7)) 1) = b) → Arguments) _ ?h; (case f => exact fun b _ => b); (case h => conv => lhs; whnf)), body := (FuncBody.stmts (by refine' (?f : (b : List Stmt) → (fnB (stAt (clB (stAt prg1.main.body 7)) 1) = b) → List Stmt) _ ?h; (case f => exact fun b _ => b); (case h => conv => lhs; whnf))), scope := (by refine' (?f : (b : Scope) → (fnS (stAt (clB (stAt prg1.main.body 7)) 1) = b) → Scope) _ ?h; (case f => exact fun b _ => b); (case h => conv => lhs; whnf)), globals := 3, closure := [], defaults := Value.none, kwdefaults := Value.none, pyModule := Value.str (Str.ofString "cpy313.email.header") 305, code := Value.ref 68 } }) ::
  (nat_lit 78, { cls := Value.type "tuple", data := Data.seq #[Value.ref 49] }) ::
  (nat_lit 84, { cls := Value.type "code", data := Data.fields #[Value.str (Str.ofString "pop") 349, Value.str (Str.ofString "_Accumulator.pop") 350, Value.str (Str.ofString "/claim/cut.py") 351, Value.int 49 0, Value.int 1 0, Value.int 0 0, Value.int 0 0, Value.int 3 0, Value.ref 79, Value.bool true, Value.int 276 0, Value.ref 80, Value.none, Value.ref 81, Value.ref 82, Value.ref 83, Value.int 354 0, Value.int 49 0, Value.str (Str.ofString "/claim/cut.py") 355] }) ::
  (nat_lit 85, { cls := Value.type "function", data := Data.func { name := Str.ofString "pop", qualname := Str.ofString "_Accumulator.pop", params := (by refine' (?f : (b : Arguments) → (fnP (stAt (clB (stAt prg1.main.body 7)) 3) = b) → Arguments) _ ?h; (case f => exact fun b _ => b); (case h => conv => lhs; whnf)), body := (FuncBody.stmts (by refine' (?f : (b : List Stmt) → (fnB (stAt (clB (stAt prg1.main.body 7)) 3) = b) → List Stmt) _ ?h; (case f => exact fun b _ => b); (case h => conv => lhs; whnf))), scope := (by refine' (?f : (b : Scope) → (fnS (stAt (clB (stAt prg1.main.body 7)) 3) = b) → Scope) _ ?h; (case f => exact fun b _ => b); (case h => conv => lhs; whnf)), globals := 3, closure := [(Str.ofString "__class__", 49)], defaults := Value.none, kwdefaults := Value.none, pyModule := Value.str (Str.ofString "cpy313.email.header") 305, code := Value.ref 84, closureTuple := Value.ref 78 } }) ::
  (nat_lit 91, { cls := Value.type "code", data := Data.fields #[Value.str (Str.ofString "__len__") 357, Value.str (Str.ofString "_Accumulator.__len__") 358, Value.str (Str.ofString "/claim/cut.py") 359, Value.int 54 0, Value.int 1 0, Value.int 0 0, Value.int 0 0, Value.int 3 0, Value.ref 86, Value.bool true, Value.int 276 0, Value.ref 87, Value.none, Value.ref 88, Value.ref 89, Value.ref 90, Value.int 361 0, Value.int 54 0, Value.str (Str.ofString "/claim/cut.py") 362] }) ::
  (nat_lit 92, { cls := Value.type "function", data := Data.func { name := Str.ofString "__len__", qualname := Str.ofString "_Accumulator.__len__", params := (by refine' (?f : (b : Arguments) → (fnP (stAt (clB (stAt prg1.main.body 7)) 4) = b) → Arguments) _ ?h; (case f => exact fun b _ => b); (case h => conv => lhs; whnf)), body := (FuncBody.stmts (by refine' (?f : (b : List Stmt) → (fnB (stAt (clB (stAt prg1.main.body 7)) 4) = b) → List Stmt) _ ?h; (case f => exact fun b _ => b); (case h => conv => lhs; whnf))), scope := (by refine' (?f : (b : Scope) → (fnS (stAt (clB (stAt prg1.main.body 7)) 4) = b) → Scope) _ ?h; (case f => exact fun b _ => b); (case h => conv => lhs; whnf)), globals := 3, closure := [], defaults := Value.none, kwdefaults := Value.none, pyModule := Value.str (Str.ofString "cpy313.email.header") 305, code := Value.ref 91 } }) ::
  (nat_lit 98, { cls := Value.type "code", data := Data.fields #[Value.str (Str.ofString "__str__") 364, Value.str (Str.ofString "_Accumulator.__str__") 365, Value.str (Str.ofString "/claim/cut.py") 366, Value.int 57 0, Value.int 1 0, Value.int 0 0, Value.int 0 0, Value.int 3 0, Value.ref 93, Value.bool true, Value.int 276 0, Value.ref 94, Value.none, Value.ref 95, Value.ref 96, Value.ref 97, Value.int 368 0, Value.int 57 0, Value.str (Str.ofString "/claim/cut.py") 369] }) ::
  (nat_lit 99, { cls := Value.type "function", data := Data.func { name := Str.ofString "__str__", qualname := Str.ofString "_Accumulator.__str__", params := (by refine' (?f : (b : Arguments) → (fnP (stAt (clB (stAt prg1.main.body 7)) 5) = b) → Arguments) _ ?h; (case f => exact fun b _ => b); (case h => conv => lhs; whnf)), body := (FuncBody.stmts (by refine' (?f : (b : List Stmt) → (fnB (stAt (clB (stAt prg1.main.body 7)) 5) = b) → List Stmt) _ ?h; (case f => exact fun b _ => b); (case h => conv => lhs; whnf))), scope := (by refine' (?f : (b : Scope) → (fnS (stAt (clB (stAt prg1.main.body 7)) 5) = b) → Scope) _ ?h; (case f => exact fun b _ => b); (case h => conv => lhs; whnf)), globals := 3, closure := [], defaults := Value.none, kwdefaults := Value.none, pyModule := Value.str (Str.ofString "cpy313.email.header") 305, code := Value.ref 98 } }) ::
  (nat_lit 115, { cls := Value.type "tuple", data := Data.seq #[Value.ref 49] }) ::
  (nat_lit 121, { cls := Value.type "code", data := Data.fields #[Value.str (Str.ofString "part_count") 386, Value.str (Str.ofString "_Accumulator.part_count") 387, Value.str (Str.ofString "/claim/cut.py") 388, Value.int 66 0, Value.int 1 0, Value.int 0 0, Value.int 0 0, Value.int 3 0, Value.ref 116, Value.bool true, Value.int 276 0, Value.ref 117, Value.none, Value.ref 118, Value.ref 119, Value.ref 120, Value.int 391 0, Value.int 66 0, Value.str (Str.ofString "/claim/cut.py") 392] }) ::
  (nat_lit 122, { cls := Value.type "function", data := Data.func { name := Str.ofString "part_count", qualname := Str.ofString "_Accumulator.part_count", params := (by refine' (?f : (b : Arguments) → (fnP (stAt (clB (stAt prg1.main.body 7)) 8) = b) → Arguments) _ ?h; (case f => exact fun b _ => b); (case h => conv => lhs; whnf)), body := (FuncBody.stmts (by refine' (?f : (b : List Stmt) → (fnB (stAt (clB (stAt prg1.main.body 7)) 8) = b) → List Stmt) _ ?h; (case f => exact fun b _ => b); (case h => conv => lhs; whnf))), scope := (by refine' (?f : (b : Scope) → (fnS (stAt (clB (stAt prg1.main.body 7)) 8) = b) → Scope) _ ?h; (case f => exact fun b _ => b); (case h => conv => lhs; whnf)), globals := 3, closure := [(Str.ofString "__class__", 49)], defaults := Value.none, kwdefaults := Value.none, pyModule := Value.str (Str.ofString "cpy313.email.header") 305, code := Value.ref 121, closureTuple := Value.ref 115 } }) ::
  (nat_lit 124, { cls := Value.type "dict", data := Data.dict #[{ hash := PyData.keyHash P (Str.ofString "__module__"), key := Value.str (Str.ofString "__module__") 316, val := Value.str (Str.ofString "cpy313.email.header") 305 }, { hash := PyData.keyHash P (Str.ofString "__firstlineno__"), key := Value.str (Str.ofString "__firstlineno__") 320, val := Value.int 37 319 }, { hash := PyData.keyHash P (Str.ofString "__init__"), key := Value.str (Str.ofString "__init__") 330, val := Value.ref 62 }, { hash := PyData.keyHash P (Str.ofString "push"), key := Value.str (Str.ofString "push") 339, val := Value.ref 69 }, { hash := PyData.keyHash P (Str.ofString "pop_from"), key := Value.str (Str.ofString "pop_from") 348, val := Value.ref 77 }, { hash := PyData.keyHash P (Str.ofString "pop"), key := Value.str (Str.ofString "pop") 356, val := Value.ref 85 }, { hash := PyData.keyHash P (Str.ofString "__len__"), key := Value.str (Str.ofString "__len__") 363, val := Value.ref 92 }, { hash := PyData.keyHash P (Str.ofString "__str__"), key := Value.str (Str.ofString "__str__") 370, val := Value.ref 99 }, { hash := PyData.keyHash P (Str.ofString "reset"), key := Value.str (Str.ofString "reset") 378, val := Value.ref 107 }, { hash := PyData.keyHash P (Str.ofString "is_onlyws"), key := Value.str (Str.ofString "is_onlyws") 385, val := Value.ref 114 }, { hash := PyData.keyHash P (Str.ofString "part_count"), key := Value.str (Str.ofString "part_count") 393, val := Value.ref 122 }, { hash := PyData.keyHash P (Str.ofString "__static_attributes__"), key := Value.str (Str.ofString "__static_attributes__") 395, val := Value.ref 123 }, { hash := PyData.keyHash P (Str.ofString "__dict__"), key := Value.str (Str.ofString "__dict__") 398, val := Value.ref 126 }, { hash := PyData.keyHash P (Str.ofString "__weakref__"), key := Value.str (Str.ofString "__weakref__") 400, val := Value.ref 127 }, { hash := PyData.keyHash P (Str.ofString "__doc__"), key := Value.str (Str.ofString "__doc__") 401, val := Value.none }] 5 }) ::
  (nat_lit 125, { cls := Value.type "type", data := Data.cls { name := Str.ofString "_Accumulator", bases := [Value.type "list"], mro := [Value.ref 125, Value.type "list", Value.type "object"], ns := 124, qualname := Str.ofString "_Accumulator" }, slots := #[some (Value.ref 46), none, some (Value.str (Str.ofString "_Accumulator") 309), some (Value.str (Str.ofString "_Accumulator") 317), some (Value.builtin "list.__new__"), some (Value.bool true)] }) ::
  (nat_lit 138, { cls := Value.type "tuple", data := Data.seq #[Value.int 14 0, Value.int 10 0, Value.int 4 0, Value.int 1 0, Value.int 1 0, Value.int 22 0, Value.int 0 0, Value.int 31 0, Value.int 16 0, Value.int 127 0, Value.int 0 0, Value.int 13 0, Value.int 7 0, Value.int 22 0, Value.int 0 0, Value.int 31 0, Value.int 16 0, Value.int 127 0, Value.int 0 0, Value.int 1 0] }) ::
  (nat_lit 139, { cls := Value.type "re.Pattern", data := Data.fields #[Value.str (Str.ofString "[\\x00-\\x1F\\x7F]") 441, Value.int 32 464, Value.int 0 0, Value.none, Value.none, Value.ref 138, Value.int 0 0] }) ::
  (nat_lit 143, { cls := Value.type "tuple", data := Data.seq #[Value.int 14 0, Value.int 14 0, Value.int 4 0, Value.int 1 0, Value.int 1 0, Value.int 9 0, Value.int 4294966783 0, Value.int 0 0, Value.int 0 0, Value.int 2147483648 0, Value.int 0 0, Value.int 0 0, Value.int 0 0, Value.int 0 0, Value.int 0 0, Value.int 13 0, Value.int 11 0, Value.int 9 0, Value.int 4294966783 0, Value.int 0 0, Value.int 0 0, Value.int 2147483648 0, Value.int 0 0, Value.int 0 0, Value.int 0 0, Value.int 0 0, Value.int 0 0, Value.int 1 0] }) ::
  (nat_lit 144, { cls := Value.type "re.Pattern", data := Data.fields #[Value.str (Str.ofString "[\\x00-\\x08\\x0A-\\x1F\\x7F]") 467, Value.int 32 498, Value.int 0 0, Value.none, Value.none, Value.ref 143, Value.int 0 0] }) ::
  (nat_lit 160, { cls := Value.type "tuple", data := Data.seq #[Value.none] }) ::
  (nat_lit 166, { cls := Value.type "code", data := Data.fields #[Value.str (Str.ofString "__init__") 522, Value.str (Str.ofString "Headers.__init__") 523, Value.str (Str.ofString "/claim/cut.py") 524, Value.int 83 0, Value.int 2 0, Value.int 0 0, Value.int 0 0, Value.int 3 0, Value.ref 161, Value.bool true, Value.int 276 0, Value.ref 162, Value.none, Value.ref 163, Value.ref 164, Value.ref 165, Value.int 529 0, Value.int 83 0, Value.str (Str.ofString "/claim/cut.py") 530] }) ::
  (nat_lit 167, { cls := Value.type "function", data := Data.func { name := Str.ofString "__init__", qualname := Str.ofString "Headers.__init__", params := (by refine' (?f : (b : Arguments) → (fnP (stAt (clB (stAt prg1.main.body 13)) 0) = b) → Arguments) _ ?h; (case f => exact fun b _ => b); (case h => conv => lhs; whnf)), body := (FuncBody.stmts (by refine' (?f : (b : List Stmt) → (fnB (stAt (clB (stAt prg1.main.body 13)) 0) = b) → List Stmt) _ ?h; (case f => exact fun b _ => b); (case h => conv => lhs; whnf))), scope := (by refine' (?f : (b : Scope) → (fnS (stAt (clB (stAt prg1.main.body 13)) 0) = b) → Scope) _ ?h; (case f => exact fun b _ => b); (case h => conv => lhs; whnf)), globals := 3, closure := [], defaults := Value.ref 160, kwdefaults := Value.none, pyModule := Value.str (Str.ofString "cpy313.wsgiref.headers") 404, code := Value.ref 166 } }) ::
  (nat_lit 173, { cls := Value.type "code", data := Data.fields #[Value.str (Str.ofString "_convert_string_type") 532, Value.str (Str.ofString "Headers._convert_string_type") 533, Value.str (Str.ofString "/claim/cut.py") 534, Value.int 93 0, Value.int 2 0, Value.int 0 0, Value.int 1 0, Value.int 3 0, Value.ref 168, Value.bool true, Value.int 276 0, Value.ref 169, Value.none, Value.ref 170, Value.ref 171, Value.ref 172, Value.int 539 0, Value.int 93 0, Value.str (Str.ofString "/claim/cut.py") 540] }) ::
  (nat_lit 174, { cls := Value.type "function", data := Data.func { name := Str.ofString "_convert_string_type", qualname := Str.ofString "Headers._convert_string_type", params := (by refine' (?f : (b : Arguments) → (fnP (stAt (clB (stAt prg1.main.body 13)) 1) = b) → Arguments) _ ?h; (case f => exact fun b _ => b); (case h => conv => lhs; whnf)), body := (FuncBody.stmts (by refine' (?f : (b : List Stmt) → (fnB (stAt (clB (stAt prg1.main.body 13)) 1) = b) → List Stmt) _ ?h; (case f => exact fun b _ => b); (case h => conv => lhs; whnf))), scope := (by refine' (?f : (b : Scope) → (fnS (stAt (clB (stAt prg1.main.body 13)) 1) = b) → Scope) _ ?h; (case f => exact fun b _ => b); (case h => conv => lhs; whnf)), globals := 3, closure := [], defaults := Value.none, kwdefaults := Value.none, pyModule := Value.str (Str.ofString "cpy313.wsgiref.headers") 404, code := Value.ref 173 } }) ::
  (nat_lit 180, { cls := Value.type "code", data := Data.fields #[Value.str (Str.ofString "__len__") 542, Value.str (Str.ofString "Headers.__len__") 543, Value.str (Str.ofString "/claim/cut.py") 544, Value.int 101 0, Value.int 1 0, Value.int 0 0, Value.int 0 0, Value.int 3 0, Value.ref 175, Value.bool true, Value.int 276 0, Value.ref 176, Value.none, Value.ref 177, Value.ref 178, Value.ref 179, Value.int 546 0, Value.int 101 0, Value.str (Str.ofString "/claim/cut.py") 547] }) ::
  (nat_lit 181, { cls := Value.type "function", data := Data.func { name := Str.ofString "__len__", qualname := Str.ofString "Headers.__len__", params := (by refine' (?f : (b : Arguments) → (fnP (stAt (clB (stAt prg1.main.body 13)) 2) = b) → Arguments) _ ?h; (case f => exact fun b _ => b); (case h => conv => lhs; whnf)), body := (FuncBody.stmts (by refine' (?f : (b : List Stmt) → (fnB (stAt (clB (stAt prg1.main.body 13)) 2) = b) → List Stmt) _ ?h; (case f => exact fun b _ => b); (case h => conv => lhs; whnf))), scope := (by refine' (?f : (b : Scope) → (fnS (stAt (clB (stAt prg1.main.body 13)) 2) = b) → Scope) _ ?h; (case f => exact fun b _ => b); (case h => conv => lhs; whnf)), globals := 3, closure := [], defaults := Value.none, kwdefaults := Value.none, pyModule := Value.str (Str.ofString "cpy313.wsgiref.headers") 404, code := Value.ref 180 } }) ::
  (nat_lit 211, { cls := Value.type "code", data := Data.fields #[Value.str (Str.ofString "get_all") 580, Value.str (Str.ofString "Headers.get_all") 581, Value.str (Str.ofString "/claim/cut.py") 582, Value.int 118 0, Value.int 2 0, Value.int 0 0, Value.int 0 0, Value.int 3 0, Value.ref 208, Value.bool true, Value.int 276 0, Value.ref 209, Value.none, Value.none, Value.none, Value.ref 210, Value.int 583 0, Value.int 118 0, Value.str (Str.ofString "/claim/cut.py") 584] }) ::
  (nat_lit 212, { cls := Value.type "function", data := Data.func { name := Str.ofString "get_all", qualname := Str.ofString "Headers.get_all", params := (by refine' (?f : (b : Arguments) → (fnP (stAt (clB (stAt prg1.main.body 13)) 7) = b) → Arguments) _ ?h; (case f => exact fun b _ => b); (case h => conv => lhs; whnf)), body := (FuncBody.stmts (by refine' (?f : (b : List Stmt) → (fnB (stAt (clB (stAt prg1.main.body 13)) 7) = b) → List Stmt) _ ?h; (case f => exact fun b _ => b); (case h => conv => lhs; whnf))), scope := (by refine' (?f : (b : Scope) → (fnS (stAt (clB (stAt prg1.main.body 13)) 7) = b) → Scope) _ ?h; (case f => exact fun b _ => b); (case h => conv => lhs; whnf)), globals := 3, closure := [], defaults := Value.none, kwdefaults := Value.none, pyModule := Value.str (Str.ofString "cpy313.wsgiref.headers") 404, code := Value.ref 211 } }) ::
  (nat_lit 269, { cls := Value.type "code", data := Data.fields #[Value.str (Str.ofString "add_header") 645, Value.str (Str.ofString "Headers.add_header") 646, Value.str (Str.ofString "/claim/cut.py") 647, Value.int 150 0, Value.int 3 0, Value.int 0 0, Value.int 0 0, Value.int 11 0, Value.ref 264, Value.bool true, Value.int 276 0, Value.ref 265, Value.none, Value.ref 266, Value.ref 267, Value.ref 268, Value.int 655 0, Value.int 150 0, Value.str (Str.ofString "/claim/cut.py") 656] }) ::
  (nat_lit 270, { cls := Value.type "function", data := Data.func { name := Str.ofString "add_header", qualname := Str.ofString "Headers.add_header", params := (by refine' (?f : (b : Arguments) → (fnP (stAt (clB (stAt prg1.main.body 13)) 16) = b) → Arguments) _ ?h; (case f => exact fun b _ => b); (case h => conv => lhs; whnf)), body := (FuncBody.stmts (by refine' (?f : (b : List Stmt) → (fnB (stAt (clB (stAt prg1.main.body 13)) 16) = b) → List Stmt) _ ?h; (case f => exact fun b _ => b); (case h => conv => lhs; whnf))), scope := (by refine' (?f : (b : Scope) → (fnS (stAt (clB (stAt prg1.main.body 13)) 16) = b) → Scope) _ ?h; (case f => exact fun b _ => b); (case h => conv => lhs; whnf)), globals := 3, closure := [], defaults := Value.none, kwdefaults := Value.none, pyModule := Value.str (Str.ofString "cpy313.wsgiref.headers") 404, code := Value.ref 269 } }) ::
  (nat_lit 272, { cls := Value.type "dict", data := Data.dict #[{ hash := PyData.keyHash P (Str.ofString "__module__"), key := Value.str (Str.ofString "__module__") 517, val := Value.str (Str.ofString "cpy313.wsgiref.headers") 404 }, { hash := PyData.keyHash P (Str.ofString "__firstlineno__"), key := Value.str (Str.ofString "__firstlineno__") 521, val := Value.int 81 520 }, { hash := PyData.keyHash P (Str.ofString "__init__"), key := Value.str (Str.ofString "__init__") 531, val := Value.ref 167 }, { hash := PyData.keyHash P (Str.ofString "_convert_string_type"), key := Value.str (Str.ofString "_convert_string_type") 541, val := Value.ref 174 }, { hash := PyData.keyHash P (Str.ofString "__len__"), key := Value.str (Str.ofString "__len__") 548, val := Value.ref 181 }, { hash := PyData.keyHash P (Str.ofString "__setitem__"), key := Value.str (Str.ofString "__setitem__") 557, val := Value.ref 188 }, { hash := PyData.keyHash P (Str.ofString "__delitem__"), key := Value.str (Str.ofString "__delitem__") 563, val := Value.ref 193 }, { hash := PyData.keyHash P (Str.ofString "__getitem__"), key := Value.str (Str.ofString "__getitem__") 571, val := Value.ref 200 }, { hash := PyData.keyHash P (Str.ofString "__contains__"), key := Value.str (Str.ofString "__contains__") 579, val := Value.ref 207 }, { hash := PyData.keyHash P (Str.ofString "get_all"), key := Value.str (Str.ofString "get_all") 585, val := Value.ref 212 }, { hash := PyData.keyHash P (Str.ofString "get"), key := Value.str (Str.ofString "get") 596, val := Value.ref 220 }, { hash := PyData.keyHash P (Str.ofString "keys"), key := Value.str (Str.ofString "keys") 602, val := Value.ref 225 }, { hash := PyData.keyHash P (Str.ofString "values"), key := Value.str (Str.ofString "values") 608, val := Value.ref 230 }, { hash := PyData.keyHash P (Str.ofString "items"), key := Value.str (Str.ofString "items") 615, val := Value.ref 237 }, { hash := PyData.keyHash P (Str.ofString "__repr__"), key := Value.str (Str.ofString "__repr__") 622, val := Value.ref 244 }, { hash := PyData.keyHash P (Str.ofString "__str__"), key := Value.str (Str.ofString "__str__") 628, val := Value.ref 249 }, { hash := PyData.keyHash P (Str.ofString "__bytes__"), key := Value.str (Str.ofString "__bytes__") 635, val := Value.ref 256 }, { hash := PyData.keyHash P (Str.ofString "setdefault"), key := Value.str (Str.ofString "setdefault") 644, val := Value.ref 263 }, { hash := PyData.keyHash P (Str.ofString "add_header"), key := Value.str (Str.ofString "add_header") 657, val := Value.ref 270 }, { hash := PyData.keyHash P (Str.ofString "__static_attributes__"), key := Value.str (Str.ofString "__static_attributes__") 659, val := Value.ref 271 }, { hash := PyData.keyHash P (Str.ofString "__dict__"), key := Value.str (Str.ofString "__dict__") 661, val := Value.ref 274 }, { hash := PyData.keyHash P (Str.ofString "__weakref__"), key := Value.str (Str.ofString "__weakref__") 663, val := Value.ref 275 }, { hash := PyData.keyHash P (Str.ofString "__doc__"), key := Value.str (Str.ofString "__doc__") 664, val := Value.none }] 4 }) ::
  (nat_lit 273, { cls := Value.type "type", data := Data.cls { name := Str.ofString "Headers", bases := [Value.type "object"], mro := [Value.ref 273, Value.type "object"], ns := 272, qualname := Str.ofString "Headers" }, slots := #[none, none, some (Value.str (Str.ofString "Headers") 510), some (Value.str (Str.ofString "Headers") 518), some (Value.builtin "object.__new__"), some (Value.bool true)] }) ::
  (nat_lit 281, { cls := Value.type "code", data := Data.fields #[Value.str (Str.ofString "_law_word") 669, Value.str (Str.ofString "_law_word") 670, Value.str (Str.ofString "/claim/cut.py") 671, Value.int 164 0, Value.int 2 0, Value.int 0 0, Value.int 0 0, Value.int 3 0, Value.ref 278, Value.bool true, Value.int 276 0, Value.ref 279, Value.none, Value.none, Value.none, Value.ref 280, Value.int 672 0, Value.int 164 0, Value.str (Str.ofString "/claim/cut.py") 673] }) ::
  (nat_lit 282, { cls := Value.type "function", data := Data.func { name := Str.ofString "_law_word", qualname := Str.ofString "_law_word", params := (by refine' (?f : (b : Arguments) → (fnP (stAt prg1.main.body 15) = b) → Arguments) _ ?h; (case f => exact fun b _ => b); (case h => conv => lhs; whnf)), body := (FuncBody.stmts (by refine' (?f : (b : List Stmt) → (fnB (stAt prg1.main.body 15) = b) → List Stmt) _ ?h; (case f => exact fun b _ => b); (case h => conv => lhs; whnf))), scope := (by refine' (?f : (b : Scope) → (fnS (stAt prg1.main.body 15) = b) → Scope) _ ?h; (case f => exact fun b _ => b); (case h => conv => lhs; whnf)), globals := 3, closure := [], defaults := Value.none, kwdefaults := Value.none, pyModule := Value.str (Str.ofString "law_wb0072_02") 667, code := Value.ref 281 } }) ::
  (nat_lit 288, { cls := Value.type "code", data := Data.fields #[Value.str (Str.ofString "_law_piled") 675, Value.str (Str.ofString "_law_piled") 676, Value.str (Str.ofString "/claim/cut.py") 677, Value.int 169 0, Value.int 2 0, Value.int 0 0, Value.int 0 0, Value.int 3 0, Value.ref 283, Value.bool true, Value.int 276 0, Value.ref 284, Value.none, Value.ref 285, Value.ref 286, Value.ref 287, Value.int 685 0, Value.int 169 0, Value.str (Str.ofString "/claim/cut.py") 686] }) ::
  (nat_lit 289, { cls := Value.type "function", data := Data.func { name := Str.ofString "_law_piled", qualname := Str.ofString "_law_piled", params := (by refine' (?f : (b : Arguments) → (fnP (stAt prg1.main.body 16) = b) → Arguments) _ ?h; (case f => exact fun b _ => b); (case h => conv => lhs; whnf)), body := (FuncBody.stmts (by refine' (?f : (b : List Stmt) → (fnB (stAt prg1.main.body 16) = b) → List Stmt) _ ?h; (case f => exact fun b _ => b); (case h => conv => lhs; whnf))), scope := (by refine' (?f : (b : Scope) → (fnS (stAt prg1.main.body 16) = b) → Scope) _ ?h; (case f => exact fun b _ => b); (case h => conv => lhs; whnf)), globals := 3, closure := [], defaults := Value.none, kwdefaults := Value.none, pyModule := Value.str (Str.ofString "law_wb0072_02") 667, code := Value.ref 288 } }) ::
  (nat_lit 293, { cls := Value.type "code", data := Data.fields #[Value.str (Str.ofString "_law_comes_off") 688, Value.str (Str.ofString "_law_comes_off") 689, Value.str (Str.ofString "/claim/cut.py") 690, Value.int 182 0, Value.int 3 0, Value.int 0 0, Value.int 0 0, Value.int 3 0, Value.ref 290, Value.bool true, Value.int 276 0, Value.ref 291, Value.none, Value.none, Value.none, Value.ref 292, Value.int 691 0, Value.int 182 0, Value.str (Str.ofString "/claim/cut.py") 692] }) ::
  (nat_lit 294, { cls := Value.type "function", data := Data.func { name := Str.ofString "_law_comes_off", qualname := Str.ofString "_law_comes_off", params := (by refine' (?f : (b : Arguments) → (fnP (stAt prg1.main.body 17) = b) → Arguments) _ ?h; (case f => exact fun b _ => b); (case h => conv => lhs; whnf)), body := (FuncBody.stmts (by refine' (?f : (b : List Stmt) → (fnB (stAt prg1.main.body 17) = b) → List Stmt) _ ?h; (case f => exact fun b _ => b); (case h => conv => lhs; whnf))), scope := (by refine' (?f : (b : Scope) → (fnS (stAt prg1.main.body 17) = b) → Scope) _ ?h; (case f => exact fun b _ => b); (case h => conv => lhs; whnf)), globals := 3, closure := [], defaults := Value.none, kwdefaults := Value.none, pyModule := Value.str (Str.ofString "law_wb0072_02") 667, code := Value.ref 293 } }) ::
  (nat_lit 300, { cls := Value.type "code", data := Data.fields #[Value.str (Str.ofString "_law_stretch") 694, Value.str (Str.ofString "_law_stretch") 695, Value.str (Str.ofString "/claim/cut.py") 696, Value.int 199 0, Value.int 3 0, Value.int 0 0, Value.int 0 0, Value.int 3 0, Value.ref 295, Value.bool true, Value.int 276 0, Value.ref 296, Value.none, Value.ref 297, Value.ref 298, Value.ref 299, Value.int 702 0, Value.int 199 0, Value.str (Str.ofString "/claim/cut.py") 703] }) ::
  (nat_lit 301, { cls := Value.type "function", data := Data.func { name := Str.ofString "_law_stretch", qualname := Str.ofString "_law_stretch", params := (by refine' (?f : (b : Arguments) → (fnP (stAt prg1.main.body 18) = b) → Arguments) _ ?h; (case f => exact fun b _ => b); (case h => conv => lhs; whnf)), body := (FuncBody.stmts (by refine' (?f : (b : List Stmt) → (fnB (stAt prg1.main.body 18) = b) → List Stmt) _ ?h; (case f => exact fun b _ => b); (case h => conv => lhs; whnf))), scope := (by refine' (?f : (b : Scope) → (fnS (stAt prg1.main.body 18) = b) → Scope) _ ?h; (case f => exact fun b _ => b); (case h => conv => lhs; whnf)), globals := 3, closure := [], defaults := Value.none, kwdefaults := Value.none, pyModule := Value.str (Str.ofString "law_wb0072_02") 667, code := Value.ref 300 } }) ::
  (nat_lit 307, { cls := Value.type "code", data := Data.fields #[Value.str (Str.ofString "_law_period") 705, Value.str (Str.ofString "_law_period") 706, Value.str (Str.ofString "/claim/cut.py") 707, Value.int 207 0, Value.int 2 0, Value.int 0 0, Value.int 0 0, Value.int 3 0, Value.ref 302, Value.bool true, Value.int 276 0, Value.ref 303, Value.none, Value.ref 304, Value.ref 305, Value.ref 306, Value.int 712 0, Value.int 207 0, Value.str (Str.ofString "/claim/cut.py") 713] }) ::
  (nat_lit 308, { cls := Value.type "function", data := Data.func { name := Str.ofString "_law_period", qualname := Str.ofString "_law_period", params := (by refine' (?f : (b : Arguments) → (fnP (stAt prg1.main.body 19) = b) → Arguments) _ ?h; (case f => exact fun b _ => b); (case h => conv => lhs; whnf)), body := (FuncBody.stmts (by refine' (?f : (b : List Stmt) → (fnB (stAt prg1.main.body 19) = b) → List Stmt) _ ?h; (case f => exact fun b _ => b); (case h => conv => lhs; whnf))), scope := (by refine' (?f : (b : Scope) → (fnS (stAt prg1.main.body 19) = b) → Scope) _ ?h; (case f => exact fun b _ => b); (case h => conv => lhs; whnf)), globals := 3, closure := [], defaults := Value.none, kwdefaults := Value.none, pyModule := Value.str (Str.ofString "law_wb0072_02") 667, code := Value.ref 307 } }) ::
  []
noncomputable def addrs1 : List Addr := [2, 3, 44, 45, 49, 54, 55, 61, 62, 68, 69, 78, 84, 85, 91, 92, 98, 99, 115, 121, 122, 124, 125, 138, 139, 143, 144, 160, 166, 167, 173, 174, 180, 181, 211, 212, 269, 270, 272, 273, 281, 282, 288, 289, 293, 294, 300, 301, 307, 308]
noncomputable abbrev hook1 : Hook := kmHook K1 addrs1 (fun _ => by kernel_rfl) [87, 94]
noncomputable def view0 : Program := { prg1 with main := { prg1.main with body := [stAt prg1.main.body 0, stAt prg1.main.body 20] } }
noncomputable def loose0 : List Str := [Str.ofString "_sre", Str.ofString "_wall", Str.ofString "ELLIPSIS_MARKER", Str.ofString "_ellipsis_match", Str.ofString "EMPTYSTRING", Str.ofString "_Accumulator", Str.ofString "tspecials", Str.ofString "_name_disallowed_re", Str.ofString "_value_disallowed_re", Str.ofString "_formatparam", Str.ofString "Headers", Str.ofString "_law_word", Str.ofString "_law_piled", Str.ofString "_law_comes_off", Str.ofString "_law_stretch", Str.ofString "_law_period"]
theorem left1 : LeftO prg1 view0 loose0 (fun s => xlAt view0 [] s && recOk (RowW.records (OpenRow.toRowW (PySem.Challenge.rw_wb0072_02).row)) s) hook1.obs hook1.val 3686 true := by
  intro w
  kernel_rfl
end
section
open PySem PySem.W PySem.Calls PyProof.Rows
noncomputable abbrev Led := List (Addr × Obj)
noncomputable abbrev Mp := Str → Option Value
section
variable {prog : Program} {w : World} {A : Around} {E : Value → Shared → Prop} {s : Shared} {env : Env} {h₀ : Heap} {x : Str} {body : List Stmt} {Q : Flow → Shared → Prop}

/-- a turn's end: the frame, the ledger, the loop's word -/
noncomputable def TEnd (h₀ : Heap) (L : Addr) (I : Addr) (oI : Obj) (keep : Led) (J : Mp → Led → Prop) (s₁ s₂ : Shared) : Prop :=
  ∃ h' tk m' news', s₂ = { s₁ with heap := h', toks := tk } ∧ Fr h₀ L h' m' ∧ News h₀ L h' ((I, oI) :: news') ∧ (∀ p ∈ news', p.1 ≠ I) ∧ (∀ p ∈ keep, p ∈ news') ∧ J m' news'
noncomputable def TPost (h₀ : Heap) (L : Addr) (I : Addr) (oI : Obj) (keep : Led) (J : Mp → Led → Prop) (s₁ : Shared) (Q : Flow → Shared → Prop) (f : Flow) (s₂ : Shared) : Prop :=
  match f with
  | .ret v => Q (.ret v) s₂
  | .brk => Q .next s₂
  | _ => TEnd h₀ L I oI keep J s₁ s₂

theorem loop_led {I : Addr} {fp : List Addr} {n : Nat} {P : Nat → Value → Prop} {St : Nat → Heap → Prop} {m₀ : Mp} {news : Led} (keep : Led) (J : Nat → Mp → Led → Prop)
    (W : Walks prog w A I fp [I] n P St) (hfp : ∀ b ∈ fp, b = I ∨ (∃ q, h₀.get? b = some q) ∨ ∃ q, (b, q) ∈ keep) (hI0 : h₀.get? I = none) (hob : ∀ i h, St i h → ∃ o, h.get? I = some o)
    (hLf : env.locals ∉ fp) (hnw : ∀ p ∈ news, p.1 ≠ I) (hst : St 0 s.heap) (F : Fr h₀ env.locals s.heap m₀) (N : News h₀ env.locals s.heap news) (hk : ∀ p ∈ keep, p ∈ news) (hj : J 0 m₀ news)
    (turn : ∀ i v m₁ news₁ h tk oI, i < n → P i v → J i m₁ news₁ → (∀ p ∈ news₁, p.1 ≠ I) → (∀ p ∈ keep, p ∈ news₁) → Fr h₀ env.locals h (fun y => if y = x then some v else m₁ y) → News h₀ env.locals h ((I, oI) :: news₁) →
      wpAny (model prog w) A (execs body env) (TPost h₀ env.locals I oI keep (J (i + 1)) { s with heap := h, toks := tk } Q) E { s with heap := h, toks := tk })
    (done : ∀ m₁ news₁ h tk, J n m₁ news₁ → (∀ p ∈ keep, p ∈ news₁) → Fr h₀ env.locals h m₁ → News h₀ env.locals h news₁ → Q .next { s with heap := h, toks := tk }) :
    LoopAtV prog w A h₀ env x body Q E (.ref I) s := by
  refine ⟨I, fp, [I], n, P, St, m₀, news, (fun i m l => (∀ p ∈ keep, p ∈ l) ∧ J i m l), rfl, W, hLf, ?_, ?_, hst, F, N, ⟨hk, hj⟩, ?_, ?_⟩
  · intro b hb; rw [List.mem_singleton.mp hb]; exact hI0
  · intro p hp hI; exact hnw p hp (List.mem_singleton.mp hI)
  · rintro i v m₁ news₁ s₁ own ⟨hh', tk', rfl⟩ hin hP ⟨hk₁, hJ⟩ hoff hown hat hall hst' F₁ N₁
    obtain ⟨oI, ho⟩ := hob _ _ hst'
    have hio : (I, oI) ∈ own := hall I (W.sub I (List.mem_singleton.mpr rfl)) hI0 oI ho
    have hsub : ∀ p ∈ own, p = (I, oI) ∨ p ∈ keep := by
      intro p hp
      have g := (N₁ p (List.mem_append_left _ hp))
      rcases hfp p.1 (hown p hp) with e | ⟨q, hq⟩ | ⟨q, hq⟩
      · left
        have : p.2 = oI := by have := g.1; rw [e] at this; exact Option.some.inj (this.symm.trans ho)
        exact Prod.ext e this
      · have := g.2.2; rw [hq] at this; cases this
      · right
        have h1 := (N₁ _ (List.mem_append_right own (hk₁ _ hq))).1
        have h2 := g.1
        have : p.2 = q := Option.some.inj (h2.symm.trans h1)
        have e : p = (p.1, q) := Prod.ext rfl this
        rw [e]; exact hq
    have N₂ : News h₀ env.locals hh' ((I, oI) :: news₁) := fun p hp => by
      rcases List.mem_cons.mp hp with rfl | hp
      · exact N₁ _ (List.mem_append_left _ hio)
      · exact N₁ _ (List.mem_append_right _ hp)
    refine wpAny_mono (turn i v m₁ news₁ hh' tk' oI hin hP hJ (fun p hp e => hoff p hp (List.mem_singleton.mpr e)) hk₁ F₁ N₂) (fun f s₂ p => ?_) fun _ _ e => e
    have fin : TEnd h₀ env.locals I oI keep (J (i + 1)) { s with heap := hh', toks := tk' } s₂ → LoopStepU h₀ env.locals [I] own (fun m l => (∀ p ∈ keep, p ∈ l) ∧ J (i + 1) m l) { s with heap := hh', toks := tk' } .next s₂ := by
      rintro ⟨h', tk, m', news', e, F', N', hoff', hk', hm⟩
      refine ⟨rfl, h', tk, m', news', e, F', fun p hp => ?_, fun p hp hq => hoff' p hp (List.mem_singleton.mp hq), hk', hm⟩
      rcases List.mem_append.mp hp with hp | hp
      · rcases hsub p hp with rfl | hp
        · exact N' _ (.head _)
        · exact N' _ (.tail _ (hk' p hp))
      · exact N' _ (.tail _ hp)
    cases f with
    | ret v => exact .ret p
    | brk => exact .brk p
    | next => exact .next (fin p)
    | cont => exact .cont (fin p)
  · rintro h' tk m' news' F' N' _ ⟨hk', hJ⟩
    exact done m' news' h' tk hJ hk' F' N'

/-- a for over a list of the ledger -/
theorem loop_list {D : Addr} {k : Nat} {vs : List Value} {m₀ : Mp} {news : Led} (J : Nat → Mp → Led → Prop)
    (hh : A.handled = none) (hD : (D, listOf vs.toArray k) ∈ news) (F : Fr h₀ env.locals s.heap m₀) (N : News h₀ env.locals s.heap news) (hj : J 0 m₀ news)
    (turn : ∀ I i v m₁ news₁ h tk oI, vs[i]? = some v → J i m₁ news₁ → (∀ p ∈ news₁, p.1 ≠ I) → (D, listOf vs.toArray k) ∈ news₁ → Fr h₀ env.locals h (fun y => if y = x then some v else m₁ y) → News h₀ env.locals h ((I, oI) :: news₁) →
      wpAny (model prog w) A (execs body env) (TPost h₀ env.locals I oI [(D, listOf vs.toArray k)] (J (i + 1)) { s with heap := h, toks := tk } Q) E { s with heap := h, toks := tk })
    (done : ∀ m₁ news₁ h tk, J vs.length m₁ news₁ → (D, listOf vs.toArray k) ∈ news₁ → Fr h₀ env.locals h m₁ → News h₀ env.locals h news₁ → Q .next { s with heap := h, toks := tk }) :
    wpAny (model prog w) A (pyIter (.ref D)) (fun it s₂ => LoopAtV prog w A h₀ env x body Q E it s₂) E s := by
  have hls : s.heap.IsList D vs.toArray := ⟨_, (N _ hD).1, rfl, k, rfl⟩
  have hlt : D < s.heap.objs.size := Heap.lt_size (N _ hD).1
  have hne : D ≠ s.heap.objs.size := Nat.ne_of_lt hlt
  refine wpAny_pyIter_list hls ?_
  have W := Walks.list (prog := prog) (w := w) hh s.heap.objs.size D hne vs.toArray
  have hlen : vs.toArray.size = vs.length := by simp
  rw [hlen] at W
  refine loop_led [(D, listOf vs.toArray k)] J W ?_ (next_is_new F) ?_ ?_ ?_ ⟨⟨_, Heap.get?_push_size _ rfl, rfl, rfl⟩, hls.at fun o e => Heap.get?_push_of_some _ e⟩ (F.push _) (fun p hp => ⟨Heap.get?_push_of_some _ (N p hp).1, (N p hp).2⟩) ?_ hj ?_ ?_
  · intro b hb
    rcases List.mem_cons.mp hb with e | hb
    · exact .inl e
    · rw [List.mem_singleton.mp hb]; exact .inr (.inr ⟨_, List.mem_singleton.mpr rfl⟩)
  · rintro i h ⟨⟨o, ho, _⟩, _⟩; exact ⟨o, ho⟩
  · intro hm
    rcases List.mem_cons.mp hm with e | hm
    · exact absurd F.ns.lt (e ▸ Nat.lt_irrefl _)
    · exact (N _ hD).2.1 (List.mem_singleton.mp hm).symm
  · intro p hp e; exact absurd (Heap.lt_size (N p hp).1) (e ▸ Nat.lt_irrefl _)
  · intro p hp; rw [List.mem_singleton.mp hp]; exact hD
  · intro i v m₁ news₁ h tk oI hin hP hJ hoff hk F₁ N₁
    exact turn _ i v m₁ news₁ h tk oI (by simpa using hP) hJ hoff (hk _ (List.mem_singleton.mpr rfl)) F₁ N₁
  · intro m₁ news₁ h tk hJ hk F₁ N₁
    exact done m₁ news₁ h tk hJ (hk _ (List.mem_singleton.mpr rfl)) F₁ N₁
end
/-- the names' map under a name of its own: the terms stay small -/
theorem Fr.foldc {h₀ h : Heap} {L : Addr} {m : Mp} {P : Prop} (F : Fr h₀ L h m) (k : let m' := m; Fr h₀ L h m' → P) : P := k F
end
section
open PySem PySem.W PySem.Calls PyProof.Rows PySem.Builtin PySem.Builtin.Str
section
variable {prog : Program} {w : World} {A : Around} {E : Value → Shared → Prop} {s : Shared} {env : Env} {h₀ : Heap} {L : Addr} {m : Mp} {news news' : Led} {K : Frag}

theorem led_list {D : Addr} {n : Nat} {vs : List Value} (N : News h₀ L s.heap news) (hm : (D, listOf vs.toArray n) ∈ news) : s.heap.IsList D vs.toArray := ⟨_, (N _ hm).1, rfl, n, rfl⟩

theorem getItem_at {D : Addr} {vs : List Value} {i : Int} {u : Tok} {j : Nat} {v : Value} {Q : Value → Shared → Prop} (hl : s.heap.IsList D vs.toArray)
    (hlo : -(2 ^ 63) ≤ i) (hhi : i < 2 ^ 63) (hj : seqIndex? i vs.length = some j) (hx : vs[j]? = some v) (h : Q v s) : wpAny (model prog w) A (getItem (.ref D) (.int i u)) Q E s := by
  by_cases h0 : 0 ≤ i
  · refine wpAny_getItem_list hl h0 hhi ?_ h
    have hn : ¬ i < 0 := by omega
    unfold seqIndex? at hj
    simp only [hn, if_false] at hj
    split at hj
    · cases hj; simpa using hx
    · cases hj
  · have hn : i < 0 := by omega
    have h1 : -(vs.length : Int) ≤ i := by
      unfold seqIndex? at hj
      simp only [hn, if_true] at hj
      split at hj
      · rename_i h2; simp only [Bool.and_eq_true, decide_eq_true_eq] at h2; omega
      · cases hj
    refine wpAny_getItem_list_neg hl (by omega) (by simpa using h1) hlo ?_ h
    have := PySem.seqIndex_neg (by omega) h1
    rw [hj] at this
    cases this
    simpa using hx

theorem led_item {value slice : Expr} {D : Addr} {n : Nat} {vs : List Value} {i : Int} {u : Tok} {j : Nat} {v : Value} {Q : Value → Shared → Prop} (N : News h₀ L s.heap news) (hm : (D, listOf vs.toArray n) ∈ news)
    (hlo : -(2 ^ 63) ≤ i) (hhi : i < 2 ^ 63) (hj : seqIndex? i vs.length = some j) (hx : vs[j]? = some v) (h : Q v s)
    (hs : subscripted slice false (.ref D) (.int i u) = operate [.ref D, .int i u] (getItem (.ref D) (.int i u)) := by with_unfolding_all rfl) :
    wpAny (model prog w) A (subscriptTail value slice (.ref D) (.int i u)) Q E s :=
  tail_any (led_list N hm).typeIs slot_list_getitem.lookup (getItem_at (led_list N hm) hlo hhi hj hx h) hs

theorem gives_find4 (x y : Str) (i k : Int) (t u v v' : Tok) : Gives («str.find» ⟨[.str x t, .str y u, .int i v, .int k v'], []⟩) (.int (match occurrences x y (fromIndex x.length i) (min (fromIndex x.length k) x.length) 1 with | k :: _ => (k : Int) | [] => -1)) := by
  show Gives (match occurrences x y (fromIndex x.length i) (min (fromIndex x.length k) x.length) 1 with | k :: _ => retInt k | [] => (do rule "str.find.not-found"; retInt (-1))) _
  cases occurrences x y (fromIndex x.length i) (min (fromIndex x.length k) x.length) 1 with
  | nil => exact .rule (.of_eq rfl)
  | cons k _ => exact .of_eq rfl
theorem find4_of {x y : Str} {i k : Int} {t u v v' : Tok} {Q : Value → Shared → Prop}
    (hq : Q (.int (match occurrences x y (fromIndex x.length i) (min (fromIndex x.length k) x.length) 1 with | k :: _ => (k : Int) | [] => -1) s.toks) { s with toks := s.toks + 1 }) :
    wpAny (model prog w) A (call (.builtin "str.find") [.str x t, .str y u, .int i v, .int k v']) Q E s :=
  call_gives F.slot_str_find (typeIs_str _ _ _) F.entry_str_find (F.args_str_find_4 _ _ _ _) (gives_find4 x y i k t u v v') hq
/-- str.find of CPython, with both ends -/
noncomputable def find4 (x y : Str) (i k : Int) : Int := match occurrences x y (fromIndex x.length i) (min (fromIndex x.length k) x.length) 1 with | k :: _ => (k : Int) | [] => -1
theorem find4_r {x y : Str} {i k : Int} {t u v v' : Tok} {Q : Value → Shared → Prop}
    (hq : Q (.int (find4 x y i k) s.toks) { s with toks := s.toks + 1 }) :
    wpAny (model prog w) A (call (.builtin "str.find") [.str x t, .str y u, .int i v, .int k v']) Q E s := find4_of hq

theorem truth_str {x : Str} {t : Tok} {Q : Bool → Shared → Prop} (hl : x.length ≤ 100000) (h : ∀ k, Q (!x.cps.isEmpty) { s with toks := k }) : wpAny (model prog w) A (truthy (.str x t)) Q E s := by
  refine P.truthy_str (by omega) ?_
  have e : ((x.length : Int) != 0) = !x.cps.isEmpty := by
    unfold Str.length
    rw [Bool.eq_iff_iff]; simp
  rw [e]
  exact h _
end
section
variable {prog : Program} {w : World} {A : Around} {E : Value → Shared → Prop} {s : Shared} {env : Env} {h₀ : Heap} {L : Addr} {m : Mp} {news news' : Led} {K : Frag} {D : Addr} {n : Nat} {vs q : List Value} {v : Value} {u : Tok}
theorem led_item0 {value slice : Expr} {Q : Value → Shared → Prop} (N : News h₀ L s.heap news) (hm : (D, listOf vs.toArray n) ∈ news) (hx : vs.head? = some v) (h : Q v s)
    (hs : subscripted slice false (.ref D) (.int 0 u) = operate [.ref D, .int 0 u] (getItem (.ref D) (.int 0 u)) := by with_unfolding_all rfl) :
    wpAny (model prog w) A (subscriptTail value slice (.ref D) (.int 0 u)) Q E s := by
  cases vs with
  | nil => cases hx
  | cons x r =>
    refine led_item N hm (by decide) (by decide) (j := 0) ?_ (by simpa using hx) h hs
    unfold seqIndex?
    simp
theorem led_itemL {value slice : Expr} {Q : Value → Shared → Prop} (N : News h₀ L s.heap news) (hm : (D, listOf vs.toArray n) ∈ news) (hx : vs.getLast? = some v) (h : Q v s)
    (hs : subscripted slice false (.ref D) (.int (-1) u) = operate [.ref D, .int (-1) u] (getItem (.ref D) (.int (-1) u)) := by with_unfolding_all rfl) :
    wpAny (model prog w) A (subscriptTail value slice (.ref D) (.int (-1) u)) Q E s := by
  have hne : 0 < vs.length := by cases vs with | nil => cases hx | cons x r => simp
  refine led_item N hm (by decide) (by decide) (j := vs.length - 1) ?_ (by rw [List.getLast?_eq_getElem?] at hx; exact hx) h hs
  rw [PySem.seqIndex_neg (by omega) (by omega)]
  congr 1; omega
theorem led_del {i : Int} {k : Nat} {Q : Unit → Shared → Prop} (F : Fr h₀ L s.heap m) (N : News h₀ L s.heap news) (U : Upd D (listOf vs.toArray n) (listOf q.toArray (n + 1)) news news')
    (hf : Builtin.List.listFitsIndex i = true) (hk : seqIndex? i vs.length = some k) (e : vs.eraseIdx k = q) (hq : q.length + 1 = vs.length) (hz : vs.length ≤ sizeLine)
    (h : ∀ h', Fr h₀ L h' m → News h₀ L h' news' → Q () { s with heap := h' }) : wpAny (model prog w) A (delItem (.ref D) (.int i u)) Q E s := by
  obtain ⟨pre, post, rfl, rfl, a, b⟩ := U.split
  have z := N (D, listOf vs.toArray n) (List.mem_append.mpr (.inr (.head _)))
  refine P.delItem_list (n := n) z.1 hf (by simpa using hk) (h _ (F.change (Heap.SameBut.update ..) z.2.1 z.2.2) (ki_turn _ N a b ?_ ?_)) (by simpa using hz)
  · show vs.toArray.eraseIdxIfInBounds k = q.toArray
    rw [← e]
    apply Array.toList_inj.mp
    simp
  · have hq : q.toArray.size ≠ vs.toArray.size := by rw [List.size_toArray, List.size_toArray]; omega
    rw [if_neg (by simpa using hq)]
theorem led_del0 {Q : Unit → Shared → Prop} (F : Fr h₀ L s.heap m) (N : News h₀ L s.heap news) (U : Upd D (listOf vs.toArray n) (listOf q.toArray (n + 1)) news news')
    (e : vs = v :: q) (hz : vs.length ≤ sizeLine)
    (h : ∀ h', Fr h₀ L h' m → News h₀ L h' news' → Q () { s with heap := h' }) : wpAny (model prog w) A (delItem (.ref D) (.int 0 u)) Q E s := by
  subst e
  refine led_del F N U rfl (k := 0) ?_ rfl rfl hz h
  unfold seqIndex?; simp
theorem led_delL {Q : Unit → Shared → Prop} (F : Fr h₀ L s.heap m) (N : News h₀ L s.heap news) (U : Upd D (listOf vs.toArray n) (listOf q.toArray (n + 1)) news news')
    (e : vs = q ++ [v]) (hz : vs.length ≤ sizeLine)
    (h : ∀ h', Fr h₀ L h' m → News h₀ L h' news' → Q () { s with heap := h' }) : wpAny (model prog w) A (delItem (.ref D) (.int (-1) u)) Q E s := by
  subst e
  refine led_del F N U rfl (k := q.length) ?_ (by rw [List.eraseIdx_append_of_length_le (Nat.le_refl _)]; simp) (by simp) hz h
  rw [PySem.seqIndex_neg (by omega) (by simp; omega)]
  congr 1; simp; omega
theorem last_s {α : Type} {l : List α} {a : α} : (l ++ [a]).getLast? = some a := by simp
theorem last_cs {α : Type} {l : List α} {a b : α} : (b :: (l ++ [a])).getLast? = some a := by rw [← List.cons_append]; exact last_s
theorem snoc_cs {α : Type} {l : List α} {a b : α} : (b :: (l ++ [a])) = (b :: l) ++ [a] := rfl
end
end
section
open PySem PySem.W PySem.Calls PyProof.Rows PySem.Builtin PySem.Builtin.Str
theorem len_r {prog : Program} {w : World} {A : Around} {E : Value → Shared → Prop} {s : Shared} {h₀ : Heap} {L : Addr} {news : Led} {D : Addr} {n k : Nat} {vs : List Value} {Q : Value → Shared → Prop} (N : News h₀ L s.heap news) (hm : (D, listOf vs.toArray n) ∈ news) (hk : vs.length = k) (hz : k ≤ sizeLine)
    (h : ∀ t k', Q (.int (k : Int) t) { s with toks := k' }) : wpAny (model prog w) A (call (.builtin "len") [.ref D]) Q E s := by
  subst hk
  have hs := sizeLine_eq
  refine PyProof.Rows.len_list (led_list N hm) (by simp; omega) ?_
  have := h (s.toks + 1) (s.toks + 1 + 1)
  simpa using this
noncomputable def emLoop (got : Str) (ep : Int) : List Str → Int → Bool
  | [], _ => true
  | w :: r, sp => if find4 got w sp ep < 0 then false else emLoop got ep r (find4 got w sp ep + w.length)
/-- the match behind the split: the first part, those between, the last -/
noncomputable def emParts (got a b : Str) (mid : List Str) : Bool :=
  if !a.cps.isEmpty && !(Txt.startswith got a) then false
  else if !b.cps.isEmpty && !(Txt.endswith got b) then false
  else
    let sp : Int := if !a.cps.isEmpty then (a.length : Int) else 0
    let ep : Int := if !b.cps.isEmpty then (got.length : Int) - (b.length : Int) else (got.length : Int)
    if sp > ep then false else emLoop got ep ((if !a.cps.isEmpty then [] else [a]) ++ mid ++ (if !b.cps.isEmpty then [] else [b])) sp
noncomputable def em (want got : Str) : Bool :=
  if (occurrences want (Str.ofString "...") 0 want.length 1).isEmpty then want == got
  else match Txt.split want (Str.ofString "...") with
    | [] => false
    | a :: r => emParts got a (r.getLastD Str.empty) r.dropLast

section
variable {prog : Program} {w : World} {A : Around} {E : Value → Shared → Prop} {s : Shared} {env : Env} {h₀ : Heap} {body : List Stmt} {Q : Flow → Shared → Prop}
/-- the loop over the parts: a search with one int -/
theorem em_loop {D : Addr} {k : Nat} {vs : List Value} {l : List (Str × Tok)} {m₀ : Mp} {news : Led} {got : Str} {ep sp0 : Int} {t0 tg te : Tok}
    (hh : A.handled = none) (hv : vs = strValues l) (hD : (D, listOf vs.toArray k) ∈ news) (F : Fr h₀ env.locals s.heap m₀) (N : News h₀ env.locals s.heap news)
    (_hg : m₀ (Str.ofString "got") = some (.str got tg)) (_he : m₀ (Str.ofString "endpos") = some (.int ep te)) (h0 : m₀ (Str.ofString "startpos") = some (.int sp0 t0)) (hlen : ∀ p ∈ l, p.1.length ≤ 1000)
    (turn : ∀ (I : Addr) (oI : Obj) (x : Str) (t : Tok) (rest : List Str) (sp : Int) (tsp : Tok) (u : Mp) (h : Heap) (tk : Nat), x.length ≤ 1000 → (∀ p ∈ news, p.1 ≠ I) →
      emLoop got ep (l.map (·.1)) sp0 = (if find4 got x sp ep < 0 then false else emLoop got ep rest (find4 got x sp ep + x.length)) →
      Fr h₀ env.locals h (fun y => if y = Str.ofString "w" then some (.str x t) else if y = Str.ofString "startpos" then some (.int sp tsp) else if y = Str.ofString "w" then u y else m₀ y) → News h₀ env.locals h ((I, oI) :: news) →
      wpAny (model prog w) A (execs body env) (TPost h₀ env.locals I oI [(D, listOf vs.toArray k)] (fun m' l' => l' = news ∧ ¬ find4 got x sp ep < 0 ∧ (∃ t', m' (Str.ofString "startpos") = some (.int (find4 got x sp ep + x.length) t')) ∧ ∀ z, z ≠ Str.ofString "w" → z ≠ Str.ofString "startpos" → m' z = m₀ z) { s with heap := h, toks := tk } Q) E { s with heap := h, toks := tk })
    (done : ∀ (m₁ : Mp) h tk, emLoop got ep (l.map (·.1)) sp0 = true → Fr h₀ env.locals h m₁ → News h₀ env.locals h news → Q .next { s with heap := h, toks := tk }) :
    wpAny (model prog w) A (pyIter (.ref D)) (fun it s₂ => LoopAtV prog w A h₀ env (Str.ofString "w") body Q E it s₂) E s := by
  subst hv
  refine loop_list (fun i m' l' => l' = news ∧ ∃ (sp : Int) (t : Tok), m' (Str.ofString "startpos") = some (.int sp t) ∧ (∀ z, z ≠ Str.ofString "w" → z ≠ Str.ofString "startpos" → m' z = m₀ z) ∧ emLoop got ep (l.map (·.1)) sp0 = emLoop got ep ((l.drop i).map (·.1)) sp) hh hD F N ⟨rfl, sp0, t0, h0, fun _ _ _ => rfl, rfl⟩ ?_ ?_
  · rintro I i v m₁ news₁ h tk oI hiv ⟨rfl, sp, tsp, h1, h2, h3⟩ hoff hDm F₁ N₁
    have hi : i < l.length := by
      by_cases hc : i < l.length
      · exact hc
      · simp [strValues, List.getElem?_eq_none (Nat.not_lt.mp hc)] at hiv
    have hx : l[i]? = some l[i] := List.getElem?_eq_getElem hi
    have hv : v = .str l[i].1 l[i].2 := by
      simp only [strValues, List.getElem?_map, hx, Option.map_some] at hiv
      exact (Option.some.inj hiv).symm
    subst hv
    have hd : l.drop i = l[i] :: l.drop (i + 1) := List.drop_eq_getElem_cons hi
    have e : (fun y => if y = Str.ofString "w" then some (Value.str l[i].1 l[i].2) else m₁ y) = fun y => if y = Str.ofString "w" then some (Value.str l[i].1 l[i].2) else if y = Str.ofString "startpos" then some (.int sp tsp) else if y = Str.ofString "w" then m₁ y else m₀ y := by
      funext y
      by_cases e1 : y = Str.ofString "w"
      · simp [e1]
      · simp only [if_neg e1]
        by_cases e2 : y = Str.ofString "startpos"
        · subst e2; simp [h1]
        · simp only [if_neg e2]; exact h2 y e1 e2
    rw [e] at F₁
    have h3' := h3
    rw [hd, List.map_cons, emLoop] at h3'
    refine wpAny_mono (turn I oI l[i].1 l[i].2 ((l.drop (i + 1)).map (·.1)) sp tsp m₁ h tk (hlen _ (List.getElem_mem hi)) hoff h3' F₁ N₁) (fun f s₂ p => ?_) fun _ _ e => e
    have fin : TEnd h₀ env.locals I oI [(D, listOf (strValues l).toArray k)] (fun m' l' => l' = news₁ ∧ ¬ find4 got l[i].1 sp ep < 0 ∧ (∃ t', m' (Str.ofString "startpos") = some (.int (find4 got l[i].1 sp ep + l[i].1.length) t')) ∧ ∀ z, z ≠ Str.ofString "w" → z ≠ Str.ofString "startpos" → m' z = m₀ z) { s with heap := h, toks := tk } s₂ →
        TEnd h₀ env.locals I oI [(D, listOf (strValues l).toArray k)] (fun m' l' => l' = news₁ ∧ ∃ (sp : Int) (t : Tok), m' (Str.ofString "startpos") = some (.int sp t) ∧ (∀ z, z ≠ Str.ofString "w" → z ≠ Str.ofString "startpos" → m' z = m₀ z) ∧ emLoop got ep (l.map (·.1)) sp0 = emLoop got ep ((l.drop (i + 1)).map (·.1)) sp) { s with heap := h, toks := tk } s₂ := by
      rintro ⟨h', tk', m', news', e1, F', N', ho, hk, rfl, hf, ⟨t', ht⟩, hm⟩
      refine ⟨h', tk', m', _, e1, F', N', ho, hk, rfl, _, t', ht, hm, ?_⟩
      rw [h3', if_neg hf]
    cases f with
    | ret v => exact p
    | brk => exact p
    | next => exact fin p
    | cont => exact fin p
  · rintro m₁ news₁ h tk ⟨rfl, sp, t, _, _, h3⟩ hDm F₁ N₁
    refine done m₁ h tk ?_ F₁ N₁
    rw [h3]
    simp [strValues, emLoop]
end
theorem sv0 {a b : Str} {ta tb : Tok} {l : List (Str × Tok)} : Value.str a ta :: (strValues l ++ [Value.str b tb]) = strValues ((a, ta) :: (l ++ [(b, tb)])) := by simp [strValues]
theorem sv1 {b : Str} {tb : Tok} {l : List (Str × Tok)} : strValues l ++ [Value.str b tb] = strValues (l ++ [(b, tb)]) := by simp [strValues]
theorem sv2 {a : Str} {ta : Tok} {l : List (Str × Tok)} : Value.str a ta :: strValues l = strValues ((a, ta) :: l) := by simp [strValues]
theorem allLt_ne {d : Addr} {l : Led} (h : AllLt d l) : ∀ p ∈ l, p.1 ≠ d := by
  induction l with
  | nil => intro p hp; cases hp
  | cons q r ih =>
    intro p hp
    rcases List.mem_cons.mp hp with rfl | hp
    · exact Nat.ne_of_lt h.1
    · exact ih h.2 p hp
theorem lt_ne {d : Addr} {l : Led} (h : ∀ p ∈ l, p.1 < d) : ∀ p ∈ l, p.1 ≠ d := fun p hp => Nat.ne_of_lt (h p hp)
section
variable {got a b : Str} {ta tb : Tok} {mid : List (Str × Tok)}
theorem em_c1 (ha : a.cps.isEmpty = false) (hs : Txt.startswith got a = false) {m : List Str} : emParts got a b m = false := by simp [emParts, ha, hs]
theorem em_c2 (ha : a.cps.isEmpty = true) (hb : b.cps.isEmpty = false) (he : Txt.endswith got b = false) {m : List Str} : emParts got a b m = false := by simp [emParts, ha, hb, he]
theorem em_c3 (ha : a.cps.isEmpty = false) (hs : Txt.startswith got a = true) (hb : b.cps.isEmpty = false) (he : Txt.endswith got b = false) {m : List Str} : emParts got a b m = false := by simp [emParts, ha, hs, hb, he]
theorem em_c4 (ha : a.cps.isEmpty = true) (hb : b.cps.isEmpty = false) (he : Txt.endswith got b = true) (h : (got.length : Int) - (b.length : Int) < 0) {m : List Str} : emParts got a b m = false := by simp [emParts, ha, hb, he]; omega
theorem em_c5 (ha : a.cps.isEmpty = false) (hs : Txt.startswith got a = true) (hb : b.cps.isEmpty = true) (h : (got.length : Int) < (a.length : Int)) {m : List Str} : emParts got a b m = false := by simp [emParts, ha, hb, hs]; omega
theorem em_c6 (ha : a.cps.isEmpty = false) (hs : Txt.startswith got a = true) (hb : b.cps.isEmpty = false) (he : Txt.endswith got b = true) (h : (got.length : Int) - (b.length : Int) < (a.length : Int)) {m : List Str} : emParts got a b m = false := by simp [emParts, ha, hb, hs, he]; omega
theorem em_L0 (ha : a.cps.isEmpty = true) (hb : b.cps.isEmpty = true) : emParts got a b (mid.map (·.1)) = emLoop got (got.length : Int) (((a, ta) :: (mid ++ [(b, tb)])).map (·.1)) 0 := by
  simp [emParts, ha, hb]
theorem em_L1 (ha : a.cps.isEmpty = true) (hb : b.cps.isEmpty = false) (he : Txt.endswith got b = true) (h : ¬ (got.length : Int) - (b.length : Int) < 0) : emParts got a b (mid.map (·.1)) = emLoop got ((got.length : Int) - (b.length : Int)) (((a, ta) :: mid).map (·.1)) 0 := by
  simp [emParts, ha, hb, he]; omega
theorem em_L2 (ha : a.cps.isEmpty = false) (hs : Txt.startswith got a = true) (hb : b.cps.isEmpty = true) (h : ¬ (got.length : Int) < (a.length : Int)) : emParts got a b (mid.map (·.1)) = emLoop got (got.length : Int) ((mid ++ [(b, tb)]).map (·.1)) (a.length : Int) := by
  simp [emParts, ha, hb, hs]; omega
theorem em_L3 (ha : a.cps.isEmpty = false) (hs : Txt.startswith got a = true) (hb : b.cps.isEmpty = false) (he : Txt.endswith got b = true) (h : ¬ (got.length : Int) - (b.length : Int) < (a.length : Int)) : emParts got a b (mid.map (·.1)) = emLoop got ((got.length : Int) - (b.length : Int)) (mid.map (·.1)) (a.length : Int) := by
  simp [emParts, ha, hb, hs, he]; omega
end
end
section
open PySem PySem.W PySem.Calls PyProof.Rows PySem.Builtin PySem.Builtin.Str
theorem dots_eq : Str.ofString "..." = Str.mk #[46, 46, 46] := by decide +kernel
theorem dots_len : (Str.ofString "...").length = 3 := by rw [dots_eq]; rfl
theorem dots_kind : strKind (Str.ofString "...") = 1 := by decide +kernel
theorem strSub_len (x : Str) (i j : Nat) : (strSub x i j).length ≤ x.length := by
  unfold strSub Str.length; simp; omega
theorem split_shape (want : Str) (l : List (Str × Tok)) (e : l.map (·.1) = Txt.split want (Str.ofString "...")) (h : (occurrences want (Str.ofString "...") 0 want.length 1).isEmpty = false) :
    ∃ a ta mid b tb, strValues l = .str a ta :: (strValues mid ++ [.str b tb]) ∧ (∀ got, em want got = emParts got a b (mid.map (·.1))) ∧ a.length ≤ want.length ∧ b.length ≤ want.length ∧ mid.length ≤ want.length ∧ ∀ p ∈ mid, p.1.length ≤ want.length := by
  have hf := (StrLaws.found_iff want (Str.ofString "...")).mp (by rw [h]; rfl)
  obtain ⟨i, hi, hs⟩ := hf
  have h1 : (decide (want.length < (Str.ofString "...").length) || decide (strKind want < strKind (Str.ofString "..."))) = false := by
    rw [dots_kind]
    have : 1 ≤ strKind want := by unfold Builtin.Str.strKind; split <;> (try split) <;> decide
    simp; omega
  have h2 : (occurrences want (Str.ofString "...") 0 want.length (want.length + 1)).isEmpty = false := by
    obtain ⟨f, hc, hn⟩ := StrLaws.occ_tight want (Str.ofString "...") (by rw [dots_len]; omega)
    cases ho : occurrences want (Str.ofString "...") 0 want.length (want.length + 1) with
    | cons => rfl
    | nil =>
      rw [ho] at hc
      have hf0 : f = 0 := by first | exact hc.symm | exact hc | (simp [StrLaws.ChainG] at hc; omega)
      exact absurd ⟨hi, hs⟩ (hn i (by omega))
  have hsp : Txt.split want (Str.ofString "...") = partsBetween want (occurrences want (Str.ofString "...") 0 want.length (want.length + 1)) (Str.ofString "...").length := by
    unfold Txt.split
    rw [if_neg (by rw [h1]; decide), if_neg (by rw [h2]; decide)]
  have hlen : (l.map (·.1)).length = (occurrences want (Str.ofString "...") 0 want.length (want.length + 1)).length + 1 := by
    rw [e, hsp]; unfold partsBetween; simp
  have hub := StrLaws.occ_length_le_len want (Str.ofString "...") 0 want.length (want.length + 1)
  have hne : 1 ≤ (occurrences want (Str.ofString "...") 0 want.length (want.length + 1)).length := by
    cases ho : occurrences want (Str.ofString "...") 0 want.length (want.length + 1) with
    | cons => simp
    | nil => rw [ho] at h2; cases h2
  have hall : ∀ p ∈ l, p.1.length ≤ want.length := by
    intro p hp
    have hm : p.1 ∈ l.map (·.1) := List.mem_map.mpr ⟨p, hp, rfl⟩
    rw [e, hsp] at hm
    unfold partsBetween at hm
    obtain ⟨⟨i, j⟩, _, hq⟩ := List.mem_map.mp hm
    rw [← hq]
    exact strSub_len _ _ _
  rw [List.length_map] at hlen
  cases l with
  | nil => simp at hlen
  | cons p r =>
    obtain ⟨a, ta⟩ := p
    have hr : r ≠ [] := by intro q; subst q; simp only [List.length_cons, List.length_nil] at hlen; omega
    obtain ⟨mid, q, rfl⟩ : ∃ mid q, r = mid ++ [q] := ⟨r.dropLast, r.getLast hr, (List.dropLast_concat_getLast hr).symm⟩
    obtain ⟨b, tb⟩ := q
    refine ⟨a, ta, mid, b, tb, sv0.symm, ?_, hall _ (.head _), hall (b, tb) (by simp), ?_, fun p hp => hall p (by simp [hp])⟩
    · intro got
      unfold em
      rw [if_neg (by rw [h]; decide), ← e]
      simp
    · simp at hlen; omega
theorem lt_ne1 {d : Addr} {l : Led} (h : ∀ p ∈ l, p.1 < d) : ∀ p ∈ l, p.1 ≠ d + 1 := fun p hp => Nat.ne_of_lt (Nat.lt_succ_of_lt (h p hp))
theorem lt_ne2 {d : Addr} {l : Led} (h : ∀ p ∈ l, p.1 < d) : ∀ p ∈ l, p.1 ≠ d + 2 := fun p hp => Nat.ne_of_lt (Nat.lt_succ_of_lt (Nat.lt_succ_of_lt (h p hp)))
end
section
open PySem PySem.W PySem.Calls PyProof.Rows PySem.Builtin PySem.Builtin.Str
noncomputable def Clean (x : Str) : Prop := x.length ≤ 1000 ∧ ∀ c ∈ x.cps.toList, 32 ≤ c ∧ c < 127
noncomputable def nameCode : Array Nat := #[14, 10, 4, 1, 1, 22, 0, 31, 16, 127, 0, 13, 7, 22, 0, 31, 16, 127, 0, 1]
noncomputable def valueCode : Array Nat := #[14, 14, 4, 1, 1, 9, 4294966783, 0, 0, 2147483648, 0, 0, 0, 0, 0, 13, 11, 9, 4294966783, 0, 0, 2147483648, 0, 0, 0, 0, 0, 1]
theorem inSet_name (c : Nat) (h1 : 32 ≤ c) (h2 : c < 127) (seen : Sre.Seen) : ∃ q, Sre.inSet nameCode c nameCode.size 5 true seen = .ok (false, q) := by
  have a1 : ¬ c ≤ 31 := by omega
  have a2 : ¬ c = 127 := by omega
  exact ⟨_, by simp [Sre.inSet, nameCode, Sre.ops, a1, a2]; rfl⟩
theorem bits_value : ∀ c, c < 127 → 32 ≤ c → ((valueCode.getD (5 + (1 + c / 32)) 0).testBit (c % 32)) = false := by decide +kernel
theorem inSet_value (c : Nat) (h1 : 32 ≤ c) (h2 : c < 127) (seen : Sre.Seen) : ∃ q, Sre.inSet valueCode c valueCode.size 5 true seen = .ok (false, q) := by
  have a1 := bits_value c h2 h1
  refine ⟨(seen.add 9).add 0, ?_⟩
  show Sre.inSet valueCode c (27 + 1) 5 true seen = _
  unfold Sre.inSet
  have e0 : valueCode.getD (5 + 0) 0 = 9 := rfl
  have e1 : Sre.ops[9]? = some .CHARSET := rfl
  simp only [e0, e1]
  rw [if_neg (by rw [a1]; simp)]
  show Sre.inSet valueCode c (26 + 1) 14 true (seen.add 9) = _
  unfold Sre.inSet
  rfl
theorem admitted_none (m : Sre.M) (hset : ∀ i, i < m.lim → ∀ seen, ∃ q, Sre.inSet m.code (m.text.getD i 0) m.code.size 5 true seen = .ok (false, q)) : ∀ fuel s seen, ∃ q, Sre.M.admitted m fuel s seen = .ok (none, q)
  | 0, s, seen => ⟨seen, rfl⟩
  | fuel + 1, s, seen => by
    unfold Sre.M.admitted
    by_cases h : s ≥ m.lim
    · exact ⟨seen, by rw [if_pos h]⟩
    · rw [if_neg h]
      obtain ⟨q, hq⟩ := hset s (by omega) seen
      rw [hq]
      exact admitted_none m hset fuel (s + 1) q
theorem admitted_of {m : Sre.M} {fuel s : Nat} {seen : Sre.Seen} {r} (h : Sre.M.admitted m fuel s seen = r) (hset : ∀ i, i < m.lim → ∀ seen, ∃ q, Sre.inSet m.code (m.text.getD i 0) m.code.size 5 true seen = .ok (false, q)) : ∃ q, r = .ok (none, q) := by
  obtain ⟨q, hq⟩ := admitted_none m hset fuel s seen
  exact ⟨q, h.symm.trans hq⟩
structure Ended (m : Sre.M) : Prop where
  a : m.answer = some false
  f : m.frames = []
  o : m.outcome = none
theorem runFor_false (m : Sre.M) (h : Ended m) : (m.runFor 4).outcome = some .failed := by
  have hs : m.step = { m with outcome := some .failed } := by
    unfold Sre.M.step
    rw [h.o]
    simp [h.a, h.f]
  show (Sre.M.runFor (3 + 1) m).outcome = _
  unfold Sre.M.runFor
  rw [h.o, hs]
  rfl
theorem search_ended (code text : Array Nat) (hc : code = nameCode ∨ code = valueCode) (ht : ∀ i, i < text.size → 32 ≤ text.getD i 0 ∧ text.getD i 0 < 127) : Ended (Sre.forSearch code text 0 0 text.size false) := by
  have hset : ∀ i, i < text.size → ∀ seen, ∃ q, Sre.inSet code (text.getD i 0) code.size 5 true seen = .ok (false, q) := by
    intro i hi seen
    obtain ⟨h1, h2⟩ := ht i hi
    rcases hc with rfl | rfl
    · exact inSet_name _ h1 h2 seen
    · exact inSet_value _ h1 h2 seen
  have hfs : ∀ m : Sre.M, m.code = code → m.hasFirstSet = true := by
    intro m hm
    unfold Sre.M.hasFirstSet
    rw [hm]
    rcases hc with rfl | rfl <;> rfl
  unfold Sre.forSearch
  dsimp only
  split
  · exact ⟨rfl, rfl, rfl⟩
  · unfold Sre.M.attemptFrom
    rw [hfs _ rfl]
    simp only [Bool.not_true, Bool.false_eq_true, if_false]
    split
    · rename_i heq
      obtain ⟨q, hq⟩ := admitted_of heq (by exact hset)
      cases hq
    · exact ⟨rfl, rfl, rfl⟩
    · rename_i heq
      obtain ⟨q, hq⟩ := admitted_of heq (by exact hset)
      cases hq
section
variable {prog : Program} {w : World} {A : Around} {E : Value → Shared → Prop} {s : Shared}
theorem slot_search : Slot "re.Pattern" "search" "re.Pattern.search" :=
  .of (owner := "re.Pattern") (n := "search") (by rw [typeLookup_type, builtinLookup_eq_fast]; kernel_rfl) (by decide +kernel) (by decide +kernel) (by decide +kernel)
    (by first | exact .inl (by decide +kernel) | exact .inr (by decide +kernel)) (by rw [isSubtype_type]; kernel_rfl)
theorem type_search : typeOf (.builtin "re.Pattern.search") = pure (.type "method_descriptor") := by show builtinType _ = _; rw [builtinType_eq_fast]; kernel_rfl
theorem entry_search : entryFor table "re.Pattern.search" = some Builtin.«re.Pattern.search» := entryFor_of_tree (by kernel_rfl)
theorem args_search (a b : Value) : argsOk "re.Pattern.search" ⟨[a, b], []⟩ := by
  unfold argsOk; kernel_rfl
theorem plainAttrs_pat : PlainAttrs "re.Pattern" :=
  ⟨⟨"object.__getattribute__", by rw [typeLookup_type, builtinLookup_eq_fast]; kernel_rfl, by decide +kernel⟩, by rw [typeLookup_type, builtinLookup_eq_fast]; kernel_rfl⟩
theorem rules_skip {m' : Sre.M} {Q : PUnit → Shared → Prop} (h : Q ⟨⟩ s) : ∀ l : List Nat, wpAny (model prog w) A (forIn l PUnit.unit fun i _ =>
      if m'.seen.has i = true then do
        rule (Sre.names.getD i "")
        pure (ForInStep.yield PUnit.unit)
      else pure (ForInStep.yield PUnit.unit)) Q E s
  | [] => wpAny_pure h
  | i :: l => by
    rw [List.forIn_cons]
    refine wpAny_bind ?_
    split
    · refine wpAny_bind (wpAny_rule ?_)
      exact wpAny_pure (rules_skip h l)
    · exact wpAny_pure (rules_skip h l)
theorem drive_false {m : Sre.M} (h : Ended m) {Q : Option Sre.M → Shared → Prop} (hq : Q none s) : wpAny (model prog w) A (Re.reRunToEnd m) Q E s := by
  unfold Re.reRunToEnd
  have hd : Re.reDrive (2 ^ 64) m = pure (m.runFor 4) := by
    have e : (2 : Nat) ^ 64 = (2 ^ 64 - 1) + 1 := by decide
    rw [e]
    unfold Re.reDrive
    have := runFor_false m h
    simp only [Re.reTurnSteps, this]
    rfl
  rw [hd]
  refine wpAny_bind (wpAny_pure ?_)
  generalize hm' : m.runFor 4 = m'
  have ho : m'.outcome = some .failed := by rw [← hm']; exact runFor_false m h
  refine wpAny_bind (rules_skip ?_ _)
  rw [ho]
  exact wpAny_pure hq
theorem re_search {a T : Addr} {fs ws : Array Value} {n : Nat} {x : Str} {t : Tok} {Q : Value → Shared → Prop} (ho : s.heap.get? a = some { cls := .type "re.Pattern", data := .fields fs }) (h5 : fs.getD 5 .none = .ref T)
    (h2 : Re.reRawNat (fs.getD 2 .none) = 0) (h6 : Re.reRawNat (fs.getD 6 .none) = 0) (hT : s.heap.get? T = some { cls := .type "tuple", data := .seq ws n })
    (hc : ((ws.map Re.reRawOf).map (·.toNat)) = nameCode ∨ ((ws.map Re.reRawOf).map (·.toNat)) = valueCode) (hx : Clean x) (hq : Q .none s) :
    wpAny (model prog w) A (call (.builtin "re.Pattern.search") [.ref a, .str x t]) Q E s := by
  refine wpAny_call (codeAny_call_builtin slot_search.plain entry_search (slot_search.check _ _ _ _ _ _ _ _ ⟨_, ho, rfl⟩ (args_search _ _) ?_))
  unfold Builtin.«re.Pattern.search»
  refine wpAny_bind ?_
  unfold Re.reTarget
  have e1 : Re.reNamed "re.Pattern.search" "search" ["string", "pos", "endpos"] 1 [Value.str x t] [] = pure [some (Value.str x t), none, none] := by with_unfolding_all rfl
  have e2 : Re.reTextOf (Value.str x t) = pure (x.cps, 0) := by with_unfolding_all rfl
  have e3 : Re.reNoCollectionInside (Value.str x t) 0 = pure () := by with_unfolding_all rfl
  dsimp only
  rw [e1]
  refine wpAny_bind (wpAny_pure ?_)
  dsimp only
  refine wpAny_bind (wpAny_pure ?_)
  refine wpAny_bind (wpAny_pure ?_)
  unfold fieldsOf
  refine wpAny_bind (wpAny_bind (wpAny_load ho ?_))
  dsimp only
  refine wpAny_pure ?_
  rw [e2]
  refine wpAny_bind (wpAny_pure ?_)
  dsimp only
  rw [h6, h2, h5]
  rw [if_neg (by decide), if_neg (by decide), e3]
  refine wpAny_bind (wpAny_pure ?_)
  unfold Re.reRawItems seqItems?
  refine wpAny_bind (wpAny_bind (wpAny_bind (wpAny_load hT ?_)))
  dsimp only
  refine wpAny_pure (wpAny_pure ?_)
  refine wpAny_pure ?_
  dsimp only [Option.getD]
  have hsz : x.cps.size ≤ 1000 := hx.1
  have hl : min ((2 ^ 63 - 1 : Int)).toNat x.cps.size = x.cps.size := Nat.min_eq_right (by have : ((2 ^ 63 - 1 : Int)).toNat = 9223372036854775807 := by decide
                                                                                           omega)
  have hp : min ((0 : Int)).toNat x.cps.size = 0 := by simp
  rw [hl, hp]
  have hE := search_ended _ x.cps hc (fun i hi => by
    have hg : x.cps.getD i 0 = x.cps[i] := by simp [Array.getD, hi]
    rw [hg]
    exact hx.2 _ (by simp))
  unfold Re.reAnswer
  exact wpAny_bind (drive_false hE (wpAny_pure hq))
/-- the very pattern of the written part -/
structure PatIn (K : Frag) (a : Addr) : Prop where
  out : ∃ (fs ws : Array Value) (T : Addr) (n : Nat), K.lookup a = some ⟨.type "re.Pattern", none, .fields fs, #[]⟩ ∧ fs.getD 5 .none = .ref T ∧ Re.reRawNat (fs.getD 2 .none) = 0 ∧ Re.reRawNat (fs.getD 6 .none) = 0 ∧
    K.lookup T = some ⟨.type "tuple", none, .seq ws n, #[]⟩ ∧ (((ws.map Re.reRawOf).map (·.toNat)) = nameCode ∨ ((ws.map Re.reRawOf).map (·.toNat)) = valueCode)
theorem re_search_K {K : Frag} {h₀ : Heap} {L : Addr} {m : Mp} {a : Addr} {x : Str} {t : Tok} {Q : Value → Shared → Prop} (F : Fr h₀ L s.heap m) (X : K.In h₀) (P : PatIn K a) (hx : Clean x) (hq : Q .none s) :
    wpAny (model prog w) A (call (.builtin "re.Pattern.search") [.ref a, .str x t]) Q E s := by
  obtain ⟨fs, ws, T, n, h1, h2, h3, h4, h5, h6⟩ := P.out
  exact re_search (F.keep _ _ (X _ _ h1)) h2 h3 h4 (F.keep _ _ (X _ _ h5)) h6 hx hq
theorem re_method {a : Addr} {fs : Array Value} {pl : Sem Bool} {Q : Value × List Value → Shared → Prop} (ho : s.heap.get? a = some { cls := .type "re.Pattern", data := .fields fs }) (h : Q (.builtin "re.Pattern.search", [.ref a]) s) :
    wpAny (model prog w) A (getMethod (.ref a) (Str.ofString "search") pl) Q E s :=
  getMethod_builtin ⟨_, ho, rfl⟩ plainAttrs_pat slot_search type_search (fun a e => by cases e; exact ⟨_, ho, rfl⟩) h
theorem re_method_K {K : Frag} {h₀ : Heap} {L : Addr} {m : Mp} {a : Addr} {pl : Sem Bool} {Q : Value × List Value → Shared → Prop} (F : Fr h₀ L s.heap m) (X : K.In h₀) (P : PatIn K a) (h : Q (.builtin "re.Pattern.search", [.ref a]) s) :
    wpAny (model prog w) A (getMethod (.ref a) (Str.ofString "search") pl) Q E s := by
  obtain ⟨fs, ws, T, n, h1, h2, h3, h4, h5, h6⟩ := P.out
  exact re_method (F.keep _ _ (X _ _ h1)) h
end
end
section
open PySem PySem.W PySem.Calls PyProof.Rows PySem.Builtin PySem.Builtin.Str
inductive OutsAre {α : Type} (out : α → Tok → Value) : List α → List Value → Prop
  | nil : OutsAre out [] []
  | cons {a : α} {t : Tok} {as : List α} {vs : List Value} : OutsAre out as vs → OutsAre out (a :: as) (out a t :: vs)
theorem OutsAre.snoc {α : Type} {out : α → Tok → Value} {as : List α} {vs : List Value} (h : OutsAre out as vs) (a : α) (t : Tok) : OutsAre out (as ++ [a]) (vs ++ [out a t]) := by
  induction h with
  | nil => exact .cons .nil
  | cons _ ih => exact .cons ih
theorem OutsAre.strs {α : Type} {g : α → Str} {as : List α} {vs : List Value} (h : OutsAre (fun a t => .str (g a) t) as vs) : ∃ l, vs = strValues l ∧ l.map (·.1) = as.map g := by
  induction h with
  | nil => exact ⟨[], rfl, rfl⟩
  | cons _ ih =>
    rename_i a t as vs _
    obtain ⟨l, e1, e2⟩ := ih
    exact ⟨(g a, t) :: l, by rw [e1]; rfl, by rw [List.map_cons, e2]; rfl⟩
noncomputable def LcEl {α : Type} (p : α → Bool) (out : α → Tok → Value) (a : α) (news : Led) (y : Value) (news' : Led) : Prop := news' = news ∧ p a = true ∧ ∃ t, y = out a t
noncomputable def LcNo {α : Type} (p : α → Bool) (a : α) (news news' : Led) : Prop := news' = news ∧ p a = false
theorem LcEl.mk {α : Type} {p : α → Bool} {out : α → Tok → Value} {a : α} {news news' : Led} {y : Value} {t : Tok} (h : p a = true) (hn : news' = news) (hy : y = out a t) : LcEl p out a news y news' := ⟨hn, h, t, hy⟩
theorem LcNo.mk {α : Type} {p : α → Bool} {a : α} {news news' : Led} (h : p a = false) (hn : news' = news) : LcNo p a news news' := ⟨hn, h⟩
section
variable {prog : Program} {w : World} {A : Around} {h₀ : Heap} {L : Addr} {m : Mp} {env : Env} {ct elt : Expr} {x : Str} {scope : Scope} {cl : List (Str × Addr)} {s : Shared} {S : Led → Prop} {P : Nat → Value → Prop} {Fin : List Value → Led → Prop} {news : Led}
/-- a comprehension with one test over items of any kind -/
theorem lct_rest {α : Type} {items : List α} {n : Nat} (IsIt : α → Value → Prop) (p : α → Bool) (out : α → Tok → Value) (hn : items.length = n) (hP : ∀ i v, i < n → P i v → ∃ a, items[i]? = some a ∧ IsIt a v) (hS : S news)
    (turn : ∀ a v I oI C oC D m₂ ys h tk (E' : Value → Shared → Prop), a ∈ items → IsIt a v → LCg.NsObj oC m₂ → m₂ x = some v → Fr h₀ L h m → News h₀ L h ((I, oI) :: (C, oC) :: (D, LCg.lst ys) :: news) → LCg.Off3 I C D news → ((@Ne Nat I C) ∧ (@Ne Nat I D) ∧ (@Ne Nat C D)) →
      wpAny (model prog w) A (isTrue ct (compEnvC scope cl C env) (eval ct (compEnvC scope cl C env))) (fun b s' => if b = true then wpAny (model prog w) A (eval elt (compEnvC scope cl C env)) (LCg.CompEnd h₀ L m { s with heap := h, toks := tk } I oI C oC D (LCg.lst ys) S (LcEl p out a news)) E' s'
        else LCg.CompEnd h₀ L m { s with heap := h, toks := tk } I oI C oC D (LCg.lst ys) S (fun _ => LcNo p a news) Value.none s') E' { s with heap := h, toks := tk })
    (fin : ∀ ys, OutsAre out (items.filter p) ys → Fin ys news) : LCt.CompRestT prog w A h₀ L m env ct elt x scope cl s S P Fin n 0 [] news := by
  have key : ∀ (j i : Nat) (ys : List Value), i + j = n → OutsAre out ((items.take i).filter p) ys → LCt.CompRestT prog w A h₀ L m env ct elt x scope cl s S P Fin j i ys news := by
    intro j
    induction j with
    | zero =>
      intro i ys hi hy
      have e : i = items.length := by omega
      subst e
      rw [List.take_length] at hy
      exact LCt.CompRestT.zero (fin ys hy)
    | succ j ih =>
      intro i ys hi hy
      refine LCt.CompRestT.succ ?_
      intro v I oI C oC D m₂ h tk E' hv hC hx F N off ne
      obtain ⟨a, ha, hv'⟩ := hP i v (by omega) hv
      have ht : items.take (i + 1) = items.take i ++ [a] := by rw [List.take_add_one, ha]; rfl
      refine wpAny_mono (turn a v I oI C oC D m₂ ys h tk E' (List.mem_of_getElem? ha) hv' hC hx F N off ne) (fun b s₂ hq => ?_) fun _ _ e => e
      cases b with
      | true =>
        simp only [if_true] at hq ⊢
        refine wpAny_mono hq (fun y s₃ hr => ?_) fun _ _ e => e
        obtain ⟨h', tk', nw, e, F', N', off', hS', hn, hp, t, hy'⟩ := hr
        rw [hn] at N' off' hS'
        refine ⟨h', tk', news, e, F', N', off', hS', ?_⟩
        rw [hy']
        refine ih (i + 1) _ (by omega) ?_
        rw [ht, List.filter_append]
        have : [a].filter p = [a] := by simp [hp]
        rw [this]
        exact hy.snoc a t
      | false =>
        simp only [Bool.false_eq_true, if_false] at hq ⊢
        obtain ⟨h', tk', nw, e, F', N', off', hS', hn, hp⟩ := hq
        rw [hn] at N' off' hS'
        refine ⟨h', tk', news, e, F', N', off', hS', ih (i + 1) _ (by omega) ?_⟩
        rw [ht, List.filter_append]
        have : [a].filter p = [] := by simp [hp]
        rw [this, List.append_nil]
        exact hy
  exact key n 0 [] (by omega) (by simp only [List.take_zero, List.filter_nil]; exact .nil)
/-- a comprehension without a test -/
theorem lcu_rest {α : Type} {items : List α} {n : Nat} (IsIt : α → Value → Prop) (out : α → Tok → Value) (hn : items.length = n) (hP : ∀ i v, i < n → P i v → ∃ a, items[i]? = some a ∧ IsIt a v) (hS : S news)
    (turn : ∀ a v I oI C oC D m₂ ys h tk (E' : Value → Shared → Prop), a ∈ items → IsIt a v → LCg.NsObj oC m₂ → m₂ x = some v → Fr h₀ L h m → News h₀ L h ((I, oI) :: (C, oC) :: (D, LCg.lst ys) :: news) → LCg.Off3 I C D news → ((@Ne Nat I C) ∧ (@Ne Nat I D) ∧ (@Ne Nat C D)) →
      wpAny (model prog w) A (eval elt (compEnvC scope cl C env)) (LCg.CompEnd h₀ L m { s with heap := h, toks := tk } I oI C oC D (LCg.lst ys) S (LcEl (fun _ => true) out a news)) E' { s with heap := h, toks := tk })
    (fin : ∀ ys, OutsAre out items ys → Fin ys news) : LCg.CompRest prog w A h₀ L m env elt x scope cl s S P Fin n 0 [] news := by
  have key : ∀ (j i : Nat) (ys : List Value), i + j = n → OutsAre out (items.take i) ys → LCg.CompRest prog w A h₀ L m env elt x scope cl s S P Fin j i ys news := by
    intro j
    induction j with
    | zero =>
      intro i ys hi hy
      have e : i = items.length := by omega
      subst e
      rw [List.take_length] at hy
      exact LCg.CompRest.zero (fin ys hy)
    | succ j ih =>
      intro i ys hi hy
      refine LCg.CompRest.succ ?_
      intro v I oI C oC D m₂ h tk E' hv hC hx F N off ne
      obtain ⟨a, ha, hv'⟩ := hP i v (by omega) hv
      have ht : items.take (i + 1) = items.take i ++ [a] := by rw [List.take_add_one, ha]; rfl
      refine wpAny_mono (turn a v I oI C oC D m₂ ys h tk E' (List.mem_of_getElem? ha) hv' hC hx F N off ne) (fun y s₃ hr => ?_) fun _ _ e => e
      obtain ⟨h', tk', nw, e, F', N', off', hS', hn, hp, t, hy'⟩ := hr
      rw [hn] at N' off' hS'
      refine ⟨h', tk', news, e, F', N', off', hS', ?_⟩
      rw [hy']
      refine ih (i + 1) _ (by omega) ?_
      rw [ht]
      exact hy.snoc a t
  exact key n 0 [] (by omega) (by simp only [List.take_zero]; exact .nil)
end
theorem off1_ne {D : Addr} : ∀ {l : Led}, LCg.Off1 D l → ∀ p ∈ l, p.1 ≠ D
  | [], _, _, hp => nomatch hp
  | q :: r, h, p, hp => by
    rcases List.mem_cons.mp hp with rfl | hp
    · exact h.1
    · exact off1_ne h.2 p hp
theorem allLt_mem {d : Addr} {l : Led} (h : AllLt d l) : ∀ p ∈ l, p.1 < d := by
  induction l with
  | nil => intro p hp; cases hp
  | cons q r ih =>
    intro p hp
    rcases List.mem_cons.mp hp with rfl | hp
    · exact h.1
    · exact ih h.2 p hp
end
section
open PySem PySem.W PySem.Calls PyProof.Rows PySem.Builtin
theorem entry_lga : entryFor table "list.__getattribute__" = some Builtin.«object.__getattribute__» := by first | exact F.entry_list_ga | exact F.am_entry_list_getattribute | exact entry_list_ga | exact am_entry_list_getattribute
theorem canon_lga : (Manifest.canonical "list.__getattribute__" != "object.__getattribute__") = false := by decide +kernel
section
variable {prog : Program} {w : World} {A : Around} {E : Value → Shared → Prop} {s : Shared} {K : Frag} {x C : Addr} {ox : Obj} {od : Option Obj} {name : Str} {expr : Bool} {pl : Sem Bool}
theorem acc_get {v : Value} {Q : Value → Shared → Prop} (X : K.In s.heap) (I : InstAt s.heap x ox C od) (hga : findIn K (.ref C) "__getattribute__" = some (some (.builtin "list.__getattribute__")))
    (hb : findIn K (.ref C) "__getattr__" = some none) (hi : subIn K (.ref C) (.type "list") = some true) (hf : findObj K C od name = some (.value v)) (hh : handedIn v = true) (h : Q v { s with toks := s.toks + 1 }) :
    wpAny (model prog w) A (getAttr (.ref x) name expr) Q E s := by
  have hook : Looks (model prog w) s.heap (hookBefore (.ref C)) none := looks_hook X (by rw [if_pos (by rfl)]; exact hb)
  refine wpAny_bind (wpAny_mkText (wpAny_holding (wpAny_bind (I.type _ _ _ _ (fun _ _ e => e) (wpAny_bind (looks_findIn X hga _ _ _ _ (fun _ _ e => e) ?_))))))
  dsimp only
  rw [show (onTheHeap (Value.ref C) && Value.builtin "list.__getattribute__" == Value.builtin "object.__getattribute__") = false from by rw [show (Value.builtin "list.__getattribute__" == Value.builtin "object.__getattribute__") = false from by decide +kernel, Bool.and_false], if_neg (by decide)]
  refine wpAny_bind (hook _ _ _ _ (fun _ _ e => e) (wpAny_bind (wpAny_attempt (wpAny_holding ?_))))
  unfold callGetattribute
  rw [show (expr && onTheHeap (Value.builtin "list.__getattribute__")) = false from Bool.and_false _, if_neg (by decide)]
  unfold boundAndCalled
  rw [F.slot_list_getattribute.bind]
  refine wpAny_bind (wpAny_pure ?_)
  show wpAny _ _ (call (.builtin "list.__getattribute__") [.ref x, .str name s.toks]) _ _ _
  refine wpAny_call ?_
  refine codeAny_call_builtin F.slot_list_getattribute.plain entry_lga ?_
  refine @check_slot (model prog w) _ _ { s with toks := s.toks + 1 } "list.__getattribute__" "list" "__getattribute__" (.ref x) [.str name s.toks] [] _ (by decide +kernel) (by decide +kernel) (I.type.andThen (looks_subIn X hi)) (F.args_list_getattribute_2 (.ref x) (.str name s.toks)) ?_
  unfold Builtin.«object.__getattribute__»
  have L0 := I.type (M := model prog w)
  have L1 := looks_find (M := model prog w) X I hf
  refine wpAny_bind (wpAny_pure (wpAny_bind (wpAny_pure (wpAny_bind (L0 _ _ _ _ (fun _ _ e => e) (wpAny_bind (L1 _ _ _ _ (fun _ _ e => e) ?_)))))))
  refine wpAny_pure ?_
  show wpAny _ _ (handedOut v) _ _ _
  rw [handedOut_of hh]; exact wpAny_pure h
theorem acc_method {f : Value} {Q : Value × List Value → Shared → Prop} (X : K.In s.heap) (I : InstAt s.heap x ox C od) (hga : findIn K (.ref C) "__getattribute__" = some (some (.builtin "list.__getattribute__")))
    (hk : findIn K (.ref C) "__getattr__" = some none) (hf : findIn K (.ref C) name = some (some f)) (ht : (typeIn K f).any (fun t => t == .type "function" || t == .type "method_descriptor") = true) (hs : shadowIn od name = some false) (h : Q (f, [.ref x]) s) :
    wpAny (model prog w) A (getMethod (.ref x) name pl) Q E s := by
  obtain ⟨tt, ht1, ht2⟩ := any_some ht
  unfold getMethod specialOf
  refine wpAny_bind (wpAny_bind (I.type.here ((looks_findIn X hga).here ?_)))
  dsimp only
  rw [canon_lga, if_neg (by decide)]
  refine wpAny_bind (wpAny_bind (I.type.here ((looks_findIn X hk).here ?_)))
  refine wpAny_bind (wpAny_bind (I.type.here ((looks_findIn X hf).here (wpAny_bind ((looks_typeIn X ht1).here ?_)))))
  have hc : (tt != .type "function" && tt != .type "method_descriptor" && tt != .type "wrapper_descriptor") = false := by
    rcases Bool.or_eq_true_iff.mp ht2 with e | e <;> (rw [beq_iff_eq.mp e]; decide +kernel)
  rw [if_neg (by rw [hc]; decide)]
  refine wpAny_bind (wpAny_loadPart I.at_ ?_)
  have hd := I.dict
  cases e : ox.dict with
  | none => exact wpAny_bind (wpAny_rule (wpAny_pure h))
  | some dx =>
    cases od with
    | none => rw [e] at hd; exact hd.elim
    | some o =>
      rw [e] at hd
      obtain ⟨r, a, b⟩ := Option.map_eq_some_iff.mp hs
      refine wpAny_bind (wpAny_bind (wpAny_loadPart hd ?_))
      rw [nsLook_of a]
      refine wpAny_pure ?_
      rw [b]
      exact wpAny_bind (wpAny_rule (wpAny_pure h))
end
/-- an object of a class over list -/
noncomputable abbrev accO (C D : Addr) (vs : List Value) (n : Nat) : Obj := { cls := .ref C, dict := some D, data := .seq vs.toArray n }
noncomputable abbrev but (D : Addr) (news : Led) : Led := news.filter fun p => p.1 != D
theorem mem_but {D : Addr} {news : Led} {p : Addr × Obj} : p ∈ but D news ↔ p ∈ news ∧ p.1 ≠ D := by simp [but]
theorem News.head {h₀ h : Heap} {L D : Addr} {news : Led} {o : Obj} (N : News h₀ L h news) (hm : (D, o) ∈ news) : News h₀ L h ((D, o) :: but D news) := fun p hp => by
  rcases List.mem_cons.mp hp with rfl | hp
  · exact N _ hm
  · exact N _ (mem_but.mp hp).1
theorem Upd.but {D : Addr} {o o' : Obj} {news : Led} : Upd D o o' ((D, o) :: but D news) ((D, o') :: but D news) := .head fun _ hp => (mem_but.mp hp).2
theorem News.ne {h₀ h : Heap} {L a b : Addr} {news : Led} {o o' : Obj} (N : News h₀ L h news) (h1 : (a, o) ∈ news) (h2 : (b, o') ∈ news) (hne : o ≠ o') : a ≠ b := fun e => by
  have e1 := (N _ h1).1
  have e2 := (N _ h2).1
  rw [show a = b from e] at e1
  exact hne (Option.some.inj (e1.symm.trans e2))
theorem InstAt.acc {h₀ h : Heap} {L P C D : Addr} {news : Led} {od : Obj} {vs : List Value} {n : Nat} (N : News h₀ L h news) (h1 : (P, accO C D vs n) ∈ news) (h2 : (D, od) ∈ news) :
    InstAt h P (accO C D vs n) C (some od) := ⟨(N _ h1).1, rfl, rfl, (N _ h2).1⟩
theorem check_method {M : Model} {A : Around} {E : Value → Shared → Prop} {s : Shared} {i owner n : String} {self : Value} {rest : List Value} {kw : List (Str × Value)} {Q : Unit → Shared → Prop}
    (hk : builtinKind i = some .method) (hs : splitId i = some (owner, n)) (hi : Looks M s.heap (isInstance self (.type owner)) true) (ha : argsOk i ⟨self :: rest, kw⟩) (q : Q () s) :
    wpAny M A (checkBuiltinCall i ⟨self :: rest, kw⟩) Q E s := by
  simp only [checkBuiltinCall, hk, hs]
  refine wpAny_bind (hi.here ?_)
  simp only [Bool.not_true, Bool.false_eq_true, if_false]
  cases hsig : Manifest.signature? i with
  | none => exact wpAny_pure q
  | some sig =>
    simp only [argsOk, hsig] at ha
    have h2 : Bind.checkArgs i sig ⟨self :: rest, kw⟩ = pure () := ha
    show wpAny M A (Bind.checkArgs i sig ⟨self :: rest, kw⟩) Q E s
    rw [h2]; exact wpAny_pure q
section
variable {prog : Program} {w : World} {A : Around} {E : Value → Shared → Prop} {s : Shared} {K : Frag} {h₀ : Heap} {L P C D : Addr} {m : Mp} {news : Led} {od : Obj} {vs : List Value} {n : Nat}
theorem acc_update {A : Around} {vs' : List Value} {Q : Unit → Shared → Prop} (F : Fr h₀ L s.heap m) (N : News h₀ L s.heap news) (h1 : (P, accO C D vs n) ∈ news) (f : Array Value → Array Value) (hf : f vs.toArray = vs'.toArray) (hne : vs'.length ≠ vs.length) (hz : vs.length ≤ sizeLine) (hz' : vs'.length ≤ sizeLine + 1)
    (h : ∀ h', Fr h₀ L h' m → News h₀ L h' ((P, accO C D vs' (n + 1)) :: but P news) → Q () { s with heap := h' }) : wpAny (model prog w) A (Builtin.List.listUpdate (.ref P) f) Q E s := by
  have z := N _ h1
  have ho' : (s.heap.update P (Obj.mapSeq f)).get? P = some (accO C D vs' (n + 1)) := by
    refine (Heap.get?_update_self _ z.1 ?_).trans ?_
    · rfl
    · show some (Obj.mapSeq f (accO C D vs n)) = _
      unfold Obj.mapSeq
      simp only [hf]
      have : (vs'.toArray.size == vs.toArray.size) = false := by simp; omega
      rw [this]
      rfl
  unfold Builtin.List.listUpdate
  refine wpAny_updateSeq z.1 rfl (h _ (F.change (Heap.SameBut.update ..) z.2.1 z.2.2) (news_set (pre := []) (post := but P news) (Mine.News.head N h1) (fun _ hp => nomatch hp) (fun _ hp => (mem_but.mp hp).2) (Heap.SameBut.update ..) ho')) (by simpa using hz) (by rw [hf]; simpa using hz')
theorem acc_append {v : Value} {Q : Value → Shared → Prop} (F : Fr h₀ L s.heap m) (X₀ : K.In h₀) (N : News h₀ L s.heap news) (h1 : (P, accO C D vs n) ∈ news) (h2 : (D, od) ∈ news) (hi : subIn K (.ref C) (.type "list") = some true) (hz : vs.length ≤ 100000)
    (h : ∀ h', Fr h₀ L h' m → News h₀ L h' ((P, accO C D (vs ++ [v]) (n + 1)) :: but P news) → Q .none { s with heap := h' }) : wpAny (model prog w) A (call (.builtin "list.append") [.ref P, v]) Q E s := by
  have I := InstAt.acc N h1 h2
  refine wpAny_call ?_
  refine codeAny_call_builtin PySem.F.slot_list_append.plain PySem.F.entry_list_append ?_
  refine check_method (owner := "list") (n := "append") (by decide +kernel) (by decide +kernel) (I.type.andThen (looks_subIn (X₀.keeps F.keep) hi)) (PySem.F.args_list_append_2 _ _) ?_
  unfold Builtin.«list.append»
  refine wpAny_bind (m := selfAndOne _ _) (wpAny_pure ?_)
  refine wpAny_bind (m := Builtin.List.listUpdate _ _) ?_
  have hs := sizeLine_eq
  refine acc_update F N h1 (fun xs => xs.push v) (vs' := vs ++ [v]) (by simp) (by simp) (by omega) (by simp; omega) fun h' F' N' => wpAny_pure (h h' F' N')
end
section
variable {prog : Program} {w : World} {A : Around} {E : Value → Shared → Prop} {s : Shared} {K : Frag} {h₀ : Heap} {L P C D : Addr} {m : Mp} {news : Led} {od : Obj} {vs : List Value} {n : Nat} {name : Str}
theorem acc_method_K {pl : Sem Bool} {f : Value} {Q : Value × List Value → Shared → Prop} (F : Fr h₀ L s.heap m) (X₀ : K.In h₀) (N : News h₀ L s.heap news) (h1 : (P, accO C D vs n) ∈ news) (h2 : (D, od) ∈ news) (hga : findIn K (.ref C) "__getattribute__" = some (some (.builtin "list.__getattribute__")))
    (hk : findIn K (.ref C) "__getattr__" = some none) (hf : findIn K (.ref C) name = some (some f)) {tt : Value} (ht1 : typeIn K f = some tt) (ht2 : (tt == .type "function" || tt == .type "method_descriptor") = true) (hs : shadowIn (some od) name = some false) (h : Q (f, [.ref P]) s) :
    wpAny (model prog w) A (getMethod (.ref P) name pl) Q E s := acc_method (X₀.keeps F.keep) (InstAt.acc N h1 h2) hga hk hf (by rw [ht1]; exact ht2) hs h
theorem acc_get_K {v : Value} {expr : Bool} {Q : Value → Shared → Prop} (F : Fr h₀ L s.heap m) (X₀ : K.In h₀) (N : News h₀ L s.heap news) (h1 : (P, accO C D vs n) ∈ news) (h2 : (D, od) ∈ news) (hga : findIn K (.ref C) "__getattribute__" = some (some (.builtin "list.__getattribute__")))
    (hb : findIn K (.ref C) "__getattr__" = some none) (hi : subIn K (.ref C) (.type "list") = some true) (hf : findObj K C (some od) name = some (.value v)) (hh : handedIn v = true) (h : Q v { s with toks := s.toks + 1 }) :
    wpAny (model prog w) A (getAttr (.ref P) name expr) Q E s := acc_get (X₀.keeps F.keep) (InstAt.acc N h1 h2) hga hb hi hf hh h
end
noncomputable def Kept (D : Addr) (news news' : Led) : Prop := ∀ p ∈ news, p.1 ≠ D → p ∈ news'
noncomputable abbrev sizeO (hs : Int) (t : Tok) (k : Int) (u : Tok) : Obj := dictOf [⟨hs, .str (Str.ofString "_initial_size") t, .int k u⟩] 1
end
section
open PySem PySem.W PySem.Calls PyProof.Rows PySem.Builtin
theorem slot_wrap_get : Slot "wrapper_descriptor" "__get__" "wrapper_descriptor.__get__" := .of (owner := "wrapper_descriptor") (n := "__get__") (by rw [typeLookup_type, builtinLookup_eq_fast]; kernel_rfl) (by decide +kernel) (by decide +kernel) (by decide +kernel)
  (by first | exact .inl (by decide +kernel) | exact .inr (by decide +kernel)) (by rw [isSubtype_type]; kernel_rfl)
theorem entry_wrap_get : entryFor table "wrapper_descriptor.__get__" = some Builtin.«wrapper_descriptor.__get__» := entryFor_of_tree (by kernel_rfl)
theorem args_wrap_get (a b c : Value) : argsOk "wrapper_descriptor.__get__" ⟨[a, b, c], []⟩ := by unfold argsOk; kernel_rfl
theorem slot_meth_get : Slot "method_descriptor" "__get__" "method_descriptor.__get__" := .of (owner := "method_descriptor") (n := "__get__") (by rw [typeLookup_type, builtinLookup_eq_fast]; kernel_rfl) (by decide +kernel) (by decide +kernel) (by decide +kernel)
  (by first | exact .inl (by decide +kernel) | exact .inr (by decide +kernel)) (by rw [isSubtype_type]; kernel_rfl)
theorem entry_meth_get : entryFor table "method_descriptor.__get__" = some Builtin.«method_descriptor.__get__» := entryFor_of_tree (by kernel_rfl)
theorem args_meth_get (a b c : Value) : argsOk "method_descriptor.__get__" ⟨[a, b, c], []⟩ := by unfold argsOk; kernel_rfl
theorem type_len : typeOf (.builtin "list.__len__") = pure (.type "wrapper_descriptor") := by show builtinType _ = _; rw [builtinType_eq_fast]; kernel_rfl
theorem type_init : typeOf (.builtin "list.__init__") = pure (.type "wrapper_descriptor") := by show builtinType _ = _; rw [builtinType_eq_fast]; kernel_rfl
theorem type_pop : typeOf (.builtin "list.pop") = pure (.type "method_descriptor") := by show builtinType _ = _; rw [builtinType_eq_fast]; kernel_rfl
section
variable {prog : Program} {w : World} {M : Model} {A : Around} {E : Value → Shared → Prop} {h : Heap} {g : Array GenState} {d : Drawn} {t : Nat} {os : OsState}
theorem sup_ga {so D x C : Addr} {id T get : String} {Bg : Builtin} {l₀ l : List Value} {K : Frag} {name : Str} {tk : Tok} {cT : String} {Q : Fin → Shared → Prop}
    (hso : h.get? so = some { cls := .type "super", dict := none, data := .fields #[.ref D, .ref x, .ref C], slots := #[] }) (hno : Looks (model prog w) h (opaqueClassAbove (.ref C)) none)
    (hC : Looks (model prog w) h (mroOf (.ref C)) l₀) (hl : (l₀.dropWhile (· != .ref D)).drop 1 = l) (X : K.In h)
    (hf : alongIn K name l = some (some (.builtin id))) (hT : typeOf (.builtin id) = pure (.type T)) (hsl : Slot T "__get__" get) (he : entryFor table get = some Bg) (ha : argsOk get ⟨[.builtin id, .ref x, .ref C], []⟩)
    (hB : ∀ {A : Around} {Q : Fin → Shared → Prop} {E : Value → Shared → Prop}, Q (.done (.ret (.ref h.objs.size))) ⟨h.push { cls := .type cT, data := .fields #[.builtin id, .ref x] }, g, d, t, os⟩ → wpAny (model prog w) A (Bg ⟨[.builtin id, .ref x, .ref C], []⟩) Q E ⟨h, g, d, t, os⟩)
    (hxC : x ≠ C) (hn : (name == ("__class__" : Str)) = false)
    (hq : Q (.done (.ret (.ref h.objs.size))) ⟨h.push { cls := .type cT, data := .fields #[.builtin id, .ref x] }, g, d, t, os⟩) :
    wpAny (model prog w) A (Builtin.«super.__getattribute__» ⟨[.ref so, .str name tk], []⟩) Q E ⟨h, g, d, t, os⟩ := by
  have hne : (Value.ref x == Value.ref C) = false := by simp [hxC]
  have hTf : (⟨h, g, d, t, os⟩ : Shared).TypeIs (.builtin id) T := hT
  have hdt : ({ cls := .type "super", dict := none, data := .fields #[.ref D, .ref x, .ref C], slots := #[] } : Obj).data = .fields #[.ref D, .ref x, .ref C] := rfl
  have f0 : (#[.ref D, .ref x, .ref C] : Array Value)[0]? = some (.ref D) := rfl
  have f1 : (#[.ref D, .ref x, .ref C] : Array Value)[1]? = some (.ref x) := rfl
  have f2 : (#[.ref D, .ref x, .ref C] : Array Value)[2]? = some (.ref C) := rfl
  unfold Builtin.«super.__getattribute__»
  repeat (first
    | (with_reducible refine wpAny_field hso hdt f0 ?_) | (with_reducible refine wpAny_field hso hdt f1 ?_) | (with_reducible refine wpAny_field hso hdt f2 ?_)
    | (with_reducible refine ks_wpAny_notOpaque hno ?_)
    | (with_reducible refine Looks.at hC ?_; rw [hl])
    | (refine ks_forIn_along X (fun _ _ => rfl) rfl ?_ hf)
    | (with_reducible refine wpAny_typeOf hTf ?_)
    | (with_reducible refine wpAny_call_entry hsl hTf he (hB ?_) ha)
    | (with_reducible refine ⟨_, rfl, ?_⟩)
    | (refine wpAny_of_eq hsl.lookup ?_)
    | (simp only [hn, hne, Bool.or_false, Bool.false_eq_true, if_false])
    | wp_step
    | dsimp only)
  all_goals exact hq
theorem sup_method {so D x C : Addr} {id T get : String} {Bg : Builtin} {l₀ l : List Value} {K : Frag} {name : Str} {cT : String} {pl : Sem Bool} {Q : Value × List Value → Shared → Prop}
    (hso : h.get? so = some { cls := .type "super", dict := none, data := .fields #[.ref D, .ref x, .ref C], slots := #[] }) (hno : Looks (model prog w) h (opaqueClassAbove (.ref C)) none)
    (hC : Looks (model prog w) h (mroOf (.ref C)) l₀) (hl : (l₀.dropWhile (· != .ref D)).drop 1 = l) (X : K.In h)
    (hf : alongIn K name l = some (some (.builtin id))) (hTi : typeOf (.builtin id) = pure (.type T)) (hsl : Slot T "__get__" get) (he : entryFor table get = some Bg) (ha : argsOk get ⟨[.builtin id, .ref x, .ref C], []⟩)
    (hB : ∀ {A : Around} {Q : Fin → Shared → Prop} {E : Value → Shared → Prop} {t : Nat}, Q (.done (.ret (.ref h.objs.size))) ⟨h.push { cls := .type cT, data := .fields #[.builtin id, .ref x] }, g, d, t, os⟩ → wpAny (model prog w) A (Bg ⟨[.builtin id, .ref x, .ref C], []⟩) Q E ⟨h, g, d, t, os⟩)
    (hxC : x ≠ C) (hn : (name == ("__class__" : Str)) = false)
    (hq : Q (.ref h.objs.size, []) ⟨h.push { cls := .type cT, data := .fields #[.builtin id, .ref x] }, g, d, t + 1, os⟩) :
    wpAny (model prog w) A (getMethod (.ref so) name pl) Q E ⟨h, g, d, t, os⟩ := by
  have hlk := F.ks_slot_super_ga.lookup
  have hcan := F.ks_canon_super_ga
  have hT : ∀ t', (⟨h, g, d, t', os⟩ : Shared).TypeIs (.ref so) "super" := fun _ => ⟨_, hso, rfl⟩
  unfold getMethod
  refine wpAny_bind (wpAny_specialOf (hT _) hlk ?_)
  show wpAny _ _ (if (Manifest.canonical "super.__getattribute__" != "object.__getattribute__") = true then _ else _) _ _ _
  rw [if_pos hcan]
  unfold getAttr getAttrBy
  refine wpAny_bind (wpAny_bind (wpAny_mkText (wpAny_holding (wpAny_bind (wpAny_typeOf (hT _) (wpAny_bind (wpAny_of_eq hlk ?_)))))))
  show wpAny _ _ (getAttrByItsOwn (.ref so) (.str name t) (.type "super") (.builtin "super.__getattribute__") true false) _ _ _
  unfold getAttrByItsOwn hookBefore callGetattribute boundAndCalled
  refine wpAny_bind (wpAny_of_eq (show (if onTheHeap (.type "super") then typeLookup (.type "super") "__getattr__" else pure none) = pure none from rfl) ?_)
  refine wpAny_bind (wpAny_attempt (wpAny_holding ?_))
  show wpAny _ _ (bindSpecial (.builtin "super.__getattribute__") (.ref so) >>= _) _ _ _
  refine wpAny_bind (wpAny_of_eq (F.ks_slot_super_ga.bind _) ?_)
  refine wpAny_mono (Q := fun v s' => v = .ref h.objs.size ∧ s' = ⟨h.push { cls := .type cT, data := .fields #[.builtin id, .ref x] }, g, d, t + 1, os⟩) (E := fun _ _ => False)
    (wpAny_call_entry F.ks_slot_super_ga (hT _) F.ks_entry_super_ga (sup_ga (t := t + 1) hso hno hC hl X hf hTi hsl he ha (fun q => hB q) hxC hn ⟨_, rfl, rfl, rfl⟩) (F.ks_gaArgs_super _ _)) (fun v s' hv => ?_) fun _ _ z => z.elim
  obtain ⟨rfl, rfl⟩ := hv
  exact wpAny_pure (wpAny_pure hq)
theorem wrap_len {K : Frag} {x C : Addr} {ox : Obj} {od : Option Obj} (X : K.In h) (I : InstAt h x ox C od) (hi : subIn K (.ref C) (.type "list") = some true) {A : Around} {Q : Fin → Shared → Prop} {E : Value → Shared → Prop} {t : Nat}
    (hq : Q (.done (.ret (.ref h.objs.size))) ⟨h.push { cls := .type "method-wrapper", data := .fields #[.builtin "list.__len__", .ref x] }, g, d, t, os⟩) : wpAny (model prog w) A (Builtin.«wrapper_descriptor.__get__» ⟨[.builtin "list.__len__", .ref x, .ref C], []⟩) Q E ⟨h, g, d, t, os⟩ := by
  unfold Builtin.«wrapper_descriptor.__get__»
  refine wpAny_bind (wpAny_of_eq (a := (Value.builtin "list.__len__", some (Value.ref x), some (Value.ref C))) rfl ?_)
  dsimp only
  refine wpAny_bind (wpAny_bind (wpAny_of_eq (a := (Str.ofString "__len__", Value.type "list")) (by kernel_rfl) ?_))
  dsimp only
  have hisi : Looks (model prog w) h (isInstance (.ref x) (.type "list")) true := I.type.andThen (looks_subIn X hi)
  refine wpAny_bind (hisi.at ?_)
  refine wpAny_pure ?_
  exact wpAny_bind (wpAny_newObj_type (wpAny_pure hq) (by show (2 : Nat) ≤ _; decide))
theorem wrap_init {K : Frag} {x C : Addr} {ox : Obj} {od : Option Obj} (X : K.In h) (I : InstAt h x ox C od) (hi : subIn K (.ref C) (.type "list") = some true) {A : Around} {Q : Fin → Shared → Prop} {E : Value → Shared → Prop} {t : Nat}
    (hq : Q (.done (.ret (.ref h.objs.size))) ⟨h.push { cls := .type "method-wrapper", data := .fields #[.builtin "list.__init__", .ref x] }, g, d, t, os⟩) : wpAny (model prog w) A (Builtin.«wrapper_descriptor.__get__» ⟨[.builtin "list.__init__", .ref x, .ref C], []⟩) Q E ⟨h, g, d, t, os⟩ := by
  unfold Builtin.«wrapper_descriptor.__get__»
  refine wpAny_bind (wpAny_of_eq (a := (Value.builtin "list.__init__", some (Value.ref x), some (Value.ref C))) rfl ?_)
  dsimp only
  refine wpAny_bind (wpAny_bind (wpAny_of_eq (a := (Str.ofString "__init__", Value.type "list")) (by kernel_rfl) ?_))
  dsimp only
  have hisi : Looks (model prog w) h (isInstance (.ref x) (.type "list")) true := I.type.andThen (looks_subIn X hi)
  refine wpAny_bind (hisi.at ?_)
  refine wpAny_pure ?_
  exact wpAny_bind (wpAny_newObj_type (wpAny_pure hq) (by show (2 : Nat) ≤ _; decide))
theorem wrap_pop {K : Frag} {x C : Addr} {ox : Obj} {od : Option Obj} (X : K.In h) (I : InstAt h x ox C od) (hi : subIn K (.ref C) (.type "list") = some true) {A : Around} {Q : Fin → Shared → Prop} {E : Value → Shared → Prop} {t : Nat}
    (hq : Q (.done (.ret (.ref h.objs.size))) ⟨h.push { cls := .type "builtin_function_or_method", data := .fields #[.builtin "list.pop", .ref x] }, g, d, t, os⟩) : wpAny (model prog w) A (Builtin.«method_descriptor.__get__» ⟨[.builtin "list.pop", .ref x, .ref C], []⟩) Q E ⟨h, g, d, t, os⟩ := by
  unfold Builtin.«method_descriptor.__get__»
  refine wpAny_bind (wpAny_of_eq (a := (Value.builtin "list.pop", some (Value.ref x), some (Value.ref C))) rfl ?_)
  dsimp only
  rw [if_neg (by decide +kernel)]
  refine wpAny_bind (wpAny_bind (wpAny_of_eq (a := (Str.ofString "pop", Value.type "list")) (by kernel_rfl) ?_))
  dsimp only
  have hisi : Looks (model prog w) h (isInstance (.ref x) (.type "list")) true := I.type.andThen (looks_subIn X hi)
  refine wpAny_bind (hisi.at ?_)
  refine wpAny_pure ?_
  exact wpAny_bind (wpAny_newObj_type (wpAny_pure hq) (by show (2 : Nat) ≤ _; decide))
end
section
variable {prog : Program} {w : World} {A : Around} {E : Value → Shared → Prop} {s : Shared} {K : Frag} {h₀ : Heap} {L P C D : Addr} {m : Mp} {news : Led} {od : Obj} {vs : List Value} {n : Nat} {q : Addr}
noncomputable abbrev wrapO (id : String) (P : Addr) : Obj := { cls := .type "method-wrapper", data := .fields #[.builtin id, .ref P] }
noncomputable abbrev boundO (id : String) (P : Addr) : Obj := { cls := .type "builtin_function_or_method", data := .fields #[.builtin id, .ref P] }
theorem call_len {Q : Value → Shared → Prop} (N : News h₀ L s.heap news) (hq : (q, wrapO "list.__len__" P) ∈ news) (h1 : (P, accO C D vs n) ∈ news)
    (h : ∀ t k, Q (.int vs.length t) { s with toks := k }) : wpAny (model prog w) A (call (.ref q) []) Q E s := by
  refine wpAny_call (codeAny_of_tree ?_)
  show wpAny _ _ (callAny (.ref q) ⟨[], []⟩) _ _ _
  unfold callAny
  refine wpAny_bind (wpAny_load (N _ hq).1 ?_)
  dsimp only
  rw [if_pos (by decide +kernel)]
  show wpAny _ _ (if (Value.type "method-wrapper" != Value.type "method") = true then (do checkBoundCall "list.__len__" ⟨[.ref P], []⟩; again (.builtin "list.__len__" ⟨[.ref P], []⟩)) else _) _ _ _
  rw [if_pos (by decide +kernel)]
  have hc : checkBoundCall "list.__len__" ⟨[.ref P], []⟩ = pure () := by kernel_rfl
  refine wpAny_bind (wpAny_of_eq hc (wpAny_pure ⟨plainId_quiet PySem.F.slot_list_len.plain _, codeAny_builtin PySem.F.entry_list_len ?_⟩))
  unfold Builtin.«list.__len__»
  refine wpAny_bind (wpAny_of_eq (a := (Value.ref P, ([] : List Value))) (by rfl) ?_)
  dsimp only
  refine wpAny_bind (m := seqSize P) ?_
  unfold seqSize
  refine wpAny_bind (wpAny_loadPart (N _ h1).1 ?_)
  dsimp only
  refine wpAny_pure ?_
  rw [List.size_toArray]
  exact wpAny_bind (wpAny_mkInt (wpAny_pure (h _ _)))
/-- list.__init__ of an empty list over a class: nothing turns -/
theorem call_init {Q : Value → Shared → Prop} (F : Fr h₀ L s.heap m) (N : News h₀ L s.heap news) (hq : (q, wrapO "list.__init__" P) ∈ news) (h1 : (P, accO C D [] n) ∈ news)
    (h : ∀ h', Fr h₀ L h' m → News h₀ L h' ((P, accO C D [] n) :: but P news) → Q .none { s with heap := h' }) : wpAny (model prog w) A (call (.ref q) []) Q E s := by
  refine wpAny_call (codeAny_of_tree ?_)
  show wpAny _ _ (callAny (.ref q) ⟨[], []⟩) _ _ _
  unfold callAny
  refine wpAny_bind (wpAny_load (N _ hq).1 ?_)
  dsimp only
  rw [if_pos (by decide +kernel)]
  show wpAny _ _ (if (Value.type "method-wrapper" != Value.type "method") = true then (do checkBoundCall "list.__init__" ⟨[.ref P], []⟩; again (.builtin "list.__init__" ⟨[.ref P], []⟩)) else _) _ _ _
  rw [if_pos (by decide +kernel)]
  have hc : checkBoundCall "list.__init__" ⟨[.ref P], []⟩ = pure () := by kernel_rfl
  refine wpAny_bind (wpAny_of_eq hc (wpAny_pure ⟨plainId_quiet PySem.F.slot_list_init.plain _, codeAny_builtin PySem.F.entry_list_init ?_⟩))
  unfold Builtin.«list.__init__»
  dsimp only
  have z := N _ h1
  refine wpAny_bind (m := Builtin.List.listItems _) (wpAny_listItems z.1 rfl ?_)
  refine wpAny_bind (m := Builtin.List.listUpdate _ _) ?_
  have ho' : (s.heap.update P (Obj.mapSeq fun _ => #[])).get? P = some (accO C D [] n) := by
    refine (Heap.get?_update_self _ z.1 ?_).trans ?_
    · rfl
    · rfl
  unfold Builtin.List.listUpdate
  refine wpAny_updateSeq z.1 rfl ?_ (by simp) (by simp)
  exact wpAny_pure (h _ (F.change (Heap.SameBut.update ..) z.2.1 z.2.2) (news_set (pre := []) (post := but P news) (Mine.News.head N h1) (fun _ hp => nomatch hp) (fun _ hp => (mem_but.mp hp).2) (Heap.SameBut.update ..) ho'))
noncomputable def sigPop : Manifest.Signature := ⟨.positional, "list.pop", "pop", .self, [{ name := "index", kind := .posOnly, required := false }]⟩
theorem sig_pop : Manifest.signature? "list.pop" = some sigPop := by
  rw [signature?_of (id := "list.pop") (n := ['p', 'o', 'p']) (o := ['t', 's', 'i', 'l']) (by kernel_rfl) PySem.F.owner_list]; kernel_rfl
/-- list.pop of the last item -/
theorem call_pop {K : Frag} {cd : ClassData} {v : Value} {Q : Value → Shared → Prop} (F : Fr h₀ L s.heap m) (X₀ : K.In h₀) (N : News h₀ L s.heap news) (hq : (q, boundO "list.pop" P) ∈ news) (h1 : (P, accO C D (vs ++ [v]) n) ∈ news) (h2 : (D, od) ∈ news) (hz : vs.length ≤ 100000)
    (hi : subIn K (.ref C) (.type "module") = some false) (hc : clsIn K C = some cd) (ht : typeIn K (.ref C) = some (.type "type"))
    (hk : Bind.checkArgs "list.pop" { sigPop with full := s!"{cd.qualname.toString}.{Bind.lastOf "list.pop"}" } ⟨[.ref P], []⟩ = pure ())
    (h : ∀ h', Fr h₀ L h' m → News h₀ L h' ((P, accO C D vs (n + 1)) :: but P news) → Q v { s with heap := h' }) : wpAny (model prog w) A (call (.ref q) []) Q E s := by
  have I := InstAt.acc N h1 h2
  refine wpAny_call (codeAny_of_tree ?_)
  show wpAny _ _ (callAny (.ref q) ⟨[], []⟩) _ _ _
  unfold callAny
  refine wpAny_bind (wpAny_load (N _ hq).1 ?_)
  dsimp only
  rw [if_pos (by decide +kernel)]
  show wpAny _ _ (if (Value.type "builtin_function_or_method" != Value.type "method") = true then (do checkBoundCall "list.pop" ⟨[.ref P], []⟩; again (.builtin "list.pop" ⟨[.ref P], []⟩)) else _) _ _ _
  rw [if_pos (by decide +kernel)]
  have X := X₀.keeps F.keep
  have hmod : Looks (model prog w) s.heap (isInstance (.ref P) (.type "module")) false := I.type.andThen (looks_subIn X hi)
  have hkind : builtinKind "list.pop" = some .method := by decide +kernel
  refine wpAny_bind ?_
  unfold checkBoundCall
  rw [sig_pop]
  dsimp only
  rw [hkind]
  dsimp only
  rw [if_neg (by decide +kernel)]
  refine wpAny_bind (hmod.here ?_)
  rw [if_neg (by decide +kernel)]
  refine wpAny_bind ?_
  obtain ⟨hh, g, d, tk, os⟩ := s
  refine ks_wpAny_isType_inst (N _ h1).1 (fun c e => by cases e) ?_
  rw [if_neg (by decide)]
  refine wpAny_bind (I.type.here ?_)
  dsimp only
  refine wpAny_bind ((looks_clsIn X hc).here ?_)
  refine wpAny_bind ((looks_typeIn X ht).here ?_)
  rw [if_pos (by decide +kernel)]
  refine wpAny_of_eq hk ?_
  refine wpAny_pure ⟨plainId_quiet PySem.F.slot_list_pop.plain _, codeAny_builtin PySem.F.entry_list_pop ?_⟩
  unfold Builtin.«list.pop»
  refine wpAny_bind (wpAny_of_eq (a := (Value.ref P, ([] : List Value))) (by rfl) ?_)
  dsimp only
  refine wpAny_bind (wpAny_pure ?_)
  rw [if_neg (by decide)]
  refine wpAny_bind (m := Builtin.List.listItems _) (wpAny_listItems (N _ h1).1 rfl ?_)
  have he : (vs ++ [v]).toArray.isEmpty = false := by simp
  rw [he, if_neg (by decide)]
  have hj : seqIndex? (-1) (vs ++ [v]).toArray.size = some vs.length := by
    rw [PySem.seqIndex_neg (by omega) (by simp; omega)]
    congr 1; simp; omega
  rw [hj]
  have hx : (vs ++ [v]).toArray[vs.length]? = some v := by simp
  simp only [Option.bind_some, hx, Option.map_some]
  have hs := sizeLine_eq
  refine wpAny_bind (m := Builtin.List.listUpdate _ _) (acc_update (vs' := vs) F N h1 (fun xs => xs.eraseIdxIfInBounds vs.length) ?_ (by simp) (by simp; omega) (by omega) fun h' F' N' => wpAny_pure (h h' F' N'))
  apply Array.toList_inj.mp
  simp only [Array.toList_eraseIdxIfInBounds]
  rw [List.eraseIdx_append_of_length_le (Nat.le_refl _)]
  simp
end
end
section
open PySem PySem.W PySem.Calls PyProof.Rows PySem.Builtin
section
variable {prog : Program} {w : World} {A : Around} {E : Value → Shared → Prop} {s : Shared} {K : Frag} {h₀ : Heap} {L P C D so Dc : Addr} {m : Mp} {news : Led} {od : Obj} {vs : List Value} {n : Nat} {name : Str} {pl : Sem Bool}
theorem sup_K {id T get cT : String} {Bg : Builtin} {Q : Value × List Value → Shared → Prop} (F : Fr h₀ L s.heap m) (X₀ : K.In h₀) (N : News h₀ L s.heap news) (hso : (so, ks_superObj Dc P C) ∈ news) (h1 : (P, accO C D vs n) ∈ news) (h2 : (D, od) ∈ news)
    (ho : nsIn K cStatics "thirdparty.any" = some none) (hm : ks_superIn K C Dc name = some (some (.builtin id))) (hn : (name == ("__class__" : Str)) = false)
    (hTi : typeOf (.builtin id) = pure (.type T)) (hsl : Slot T "__get__" get) (he : entryFor table get = some Bg) (ha : argsOk get ⟨[.builtin id, .ref P, .ref C], []⟩)
    (hB : ∀ {A : Around} {Q : Fin → Shared → Prop} {E : Value → Shared → Prop} {t : Nat}, Q (.done (.ret (.ref s.heap.objs.size))) ⟨s.heap.push { cls := .type cT, data := .fields #[.builtin id, .ref P] }, s.gens, s.drawn, t, s.os⟩ → wpAny (model prog w) A (Bg ⟨[.builtin id, .ref P, .ref C], []⟩) Q E ⟨s.heap, s.gens, s.drawn, t, s.os⟩)
    (h : ∀ q h', Fr h₀ L h' m → News h₀ L h' ((q, { cls := .type cT, data := .fields #[.builtin id, .ref P] }) :: news) → (∀ p ∈ news, p.1 < q) → Q (.ref q, []) { s with heap := h', toks := s.toks + 1 }) : wpAny (model prog w) A (getMethod (.ref so) name pl) Q E s := by
  have X : K.In s.heap := X₀.keeps F.keep
  have I := InstAt.acc N h1 h2
  obtain ⟨hh, g, d, t, os⟩ := s
  cases hc : clsIn K C with
  | none => unfold ks_superIn at hm; rw [hc] at hm; cases hm
  | some cd =>
    unfold ks_superIn at hm
    rw [hc] at hm
    refine sup_method (l₀ := cd.mro) (N _ hso).1 (looks_opaque X ho) ?_ rfl X hm hTi hsl he ha hB (ks_ne X I hc) hn ?_
    · exact fun A Q E s k q => wpAny_bind ((looks_clsIn X hc) A _ E s k (wpAny_pure q))
    · obtain ⟨F', N', l'⟩ := ks_newsPush (s := ⟨hh, g, d, t, os⟩) (o := { cls := .type cT, data := .fields #[.builtin id, .ref P] }) F N rfl (Heap.get?_push_at rfl rfl) (fun b o e => Heap.get?_push_of_some _ e)
      exact h _ _ F' N' l'
variable {Q : Value × List Value → Shared → Prop} (F : Fr h₀ L s.heap m) (X₀ : K.In h₀) (N : News h₀ L s.heap news) (hso : (so, ks_superObj Dc P C) ∈ news) (h1 : (P, accO C D vs n) ∈ news) (h2 : (D, od) ∈ news)
    (ho : nsIn K cStatics "thirdparty.any" = some none) (hi : subIn K (.ref C) (.type "list") = some true)
include F X₀ N hso h1 h2 ho hi
theorem sup_len (hm : ks_superIn K C Dc (Str.ofString "__len__") = some (some (.builtin "list.__len__")))
    (h : ∀ q h', Fr h₀ L h' m → News h₀ L h' ((q, wrapO "list.__len__" P) :: news) → (∀ p ∈ news, p.1 < q) → Q (.ref q, []) { s with heap := h', toks := s.toks + 1 }) : wpAny (model prog w) A (getMethod (.ref so) (Str.ofString "__len__") pl) Q E s :=
  sup_K F X₀ N hso h1 h2 ho hm (by decide) type_len slot_wrap_get entry_wrap_get (args_wrap_get _ _ _) (fun q => wrap_len (X₀.keeps F.keep) (InstAt.acc N h1 h2) hi q) h
theorem sup_init (hm : ks_superIn K C Dc (Str.ofString "__init__") = some (some (.builtin "list.__init__")))
    (h : ∀ q h', Fr h₀ L h' m → News h₀ L h' ((q, wrapO "list.__init__" P) :: news) → (∀ p ∈ news, p.1 < q) → Q (.ref q, []) { s with heap := h', toks := s.toks + 1 }) : wpAny (model prog w) A (getMethod (.ref so) (Str.ofString "__init__") pl) Q E s :=
  sup_K F X₀ N hso h1 h2 ho hm (by decide) type_init slot_wrap_get entry_wrap_get (args_wrap_get _ _ _) (fun q => wrap_init (X₀.keeps F.keep) (InstAt.acc N h1 h2) hi q) h
theorem sup_pop (hm : ks_superIn K C Dc (Str.ofString "pop") = some (some (.builtin "list.pop")))
    (h : ∀ q h', Fr h₀ L h' m → News h₀ L h' ((q, boundO "list.pop" P) :: news) → (∀ p ∈ news, p.1 < q) → Q (.ref q, []) { s with heap := h', toks := s.toks + 1 }) : wpAny (model prog w) A (getMethod (.ref so) (Str.ofString "pop") pl) Q E s :=
  sup_K F X₀ N hso h1 h2 ho hm (by decide) type_pop slot_meth_get entry_meth_get (args_meth_get _ _ _) (fun q => wrap_pop (X₀.keeps F.keep) (InstAt.acc N h1 h2) hi q) h
end
section
variable {prog : Program} {w : World} {M : Model} {A : Around} {E : Value → Shared → Prop} {s : Shared} {h₀ : Heap} {L u P : Addr} {news : Led} {id : String}
theorem callWith_b {cT : String} {vs : Array Value} {pos : Pos} {env : Env} {Q : Value → Shared → Prop} (ho : s.heap.get? u = some { cls := .type cT, data := .fields vs }) (h1 : (Value.type cT != Value.type "method") = true) (h2 : (Value.type cT == Value.type "builtin_function_or_method" || Value.type cT == Value.type "method-wrapper") = true)
    (h : wpAny M A (call (.ref u) []) Q E s) : wpAny M A (callWith pos (.ref u) [] (backTo pos (starEach [] env)) []) Q E s := by
  unfold callWith
  refine wpAny_bind (wpAny_holding ?_)
  have he : evalArgs (.ref u) true (backTo pos (starEach [] env)) [] = pure ⟨[], []⟩ := by rfl
  rw [he]
  refine wpAny_pure (wpAny_bind (wpAny_standAt ?_))
  have hp : (backTo pos (starEach [] env)).any (·.1) = false := rfl
  simp only [hp, List.any_nil, Bool.or_false]
  refine wpAny_bind (m := keeperOf (.ref u)) ?_
  unfold keeperOf
  refine wpAny_bind (wpAny_load ho ?_)
  simp only [h1, h2, if_true]
  refine wpAny_pure ?_
  exact wpAny_bind (wpAny_mono h (fun r s₂ hr => wpAny_bind (wpAny_holding (wpAny_point (wpAny_pure hr)))) fun _ _ x => x)
theorem callWith_wrap {pos : Pos} {env : Env} {Q : Value → Shared → Prop} (N : News h₀ L s.heap news) (hm : (u, wrapO id P) ∈ news) (h : wpAny M A (call (.ref u) []) Q E s) : wpAny M A (callWith pos (.ref u) [] (backTo pos (starEach [] env)) []) Q E s :=
  callWith_b (N _ hm).1 (by decide +kernel) (by decide +kernel) h
theorem callWith_bnd {pos : Pos} {env : Env} {Q : Value → Shared → Prop} (N : News h₀ L s.heap news) (hm : (u, boundO id P) ∈ news) (h : wpAny M A (call (.ref u) []) Q E s) : wpAny M A (callWith pos (.ref u) [] (backTo pos (starEach [] env)) []) Q E s :=
  callWith_b (N _ hm).1 (by decide +kernel) (by decide +kernel) h
end
end
section
open PySem PySem.W PySem.Calls PyProof.Rows PySem.Builtin
section
variable {prog : Program} {w : World} {A : Around} {E : Value → Shared → Prop} {s : Shared} {K : Frag} {h₀ : Heap} {L P C D : Addr} {m : Mp} {news : Led} {od : Obj} {vs : List Value} {n : Nat}
theorem check_slot {M : Model} {A : Around} {E : Value → Shared → Prop} {s : Shared} {i owner n : String} {self : Value} {rest : List Value} {kw : List (Str × Value)} {Q : Unit → Shared → Prop}
    (hk : builtinKind i = some .slot) (hs : splitId i = some (owner, n)) (hi : Looks M s.heap (isInstance self (.type owner)) true) (ha : argsOk i ⟨self :: rest, kw⟩) (q : Q () s) :
    wpAny M A (checkBuiltinCall i ⟨self :: rest, kw⟩) Q E s := by
  simp only [checkBuiltinCall, hk, hs]
  refine wpAny_bind (hi.here ?_)
  simp only [Bool.not_true, Bool.false_eq_true, if_false]
  cases hsig : Manifest.signature? i with
  | none => exact wpAny_pure q
  | some sig =>
    simp only [argsOk, hsig] at ha
    have h2 : Bind.checkArgs i sig ⟨self :: rest, kw⟩ = pure () := ha
    show wpAny M A (Bind.checkArgs i sig ⟨self :: rest, kw⟩) Q E s
    rw [h2]; exact wpAny_pure q
end
end
section
open PySem PySem.W PySem.Calls PyProof.Rows PySem.Builtin
/-- a class over list that is made by list.__new__ -/
noncomputable def lmakesIn (K : Frag) (C : Addr) : Bool := match K.lookup C with
  | some ⟨_, _, .cls cd, sl⟩ => !cd.abstract && !cd.hasDel && (sl.toList[4]?).join == some (.builtin "list.__new__") && !cd.mro.isEmpty && cd.mro.contains (.ref C) &&
      specialIn K (.ref C) "__call__" == some (some (.builtin "type.__call__")) && instIn K (.ref C) (.type "type") == some true && subIn K (.ref C) (.type "list") == some true
  | _ => false
structure LMakes (M : Model) (h : Heap) (C : Addr) : Prop where
  obj : ∃ oc od cd sl, h.get? C = some ⟨oc, od, .cls cd, sl⟩ ∧ cd.abstract = false ∧ cd.hasDel = false ∧ cd.mro.isEmpty = false
  made : Looks M h (Bind.madeBy (.ref C)) (some "list.__new__")
  base : Looks M h (Bind.staticBase (.ref C)) (.ref C)
  self : Looks M h (isSubtype (.ref C) (.ref C)) true
  top : Looks M h (isSubtype (.ref C) (.type "list")) true
  call : Looks M h (specialOf (.ref C) "__call__") (some (.builtin "type.__call__"))
  typ : Looks M h (isInstance (.ref C) (.type "type")) true
theorem lmakes_of {K : Frag} {M : Model} {h : Heap} (X : K.In h) {C : Addr} (e : lmakesIn K C = true) : LMakes M h C := by
  unfold lmakesIn at e
  split at e
  · rename_i oc od cd sl ho
    simp only [Bool.and_eq_true, Bool.not_eq_true', beq_iff_eq] at e
    obtain ⟨⟨⟨⟨⟨⟨⟨e1, e2⟩, e3⟩, e4⟩, e5⟩, e7⟩, e8⟩, e9⟩ := e
    have hc : clsIn K C = some cd := by unfold clsIn; rw [ho]
    have hm : Looks M h (mroOf (.ref C)) cd.mro := (looks_clsIn X hc).andThen .now
    obtain ⟨c, l, hl⟩ : ∃ c l, cd.mro = c :: l := by cases q : cd.mro with | nil => rw [q] at e4; cases e4 | cons c l => exact ⟨c, l, rfl⟩
    have made : Looks M h (Bind.madeBy (.ref C)) (some "list.__new__") := by
      intro A Q E s k q
      unfold Bind.madeBy
      refine wpAny_bind (hm A _ E s k ?_)
      rw [hl, List.forIn_cons]
      refine wpAny_bind (wpAny_bind (wpAny_bind (wpAny_bind (wpAny_loadPart (k _ _ (X _ _ ho)) (wpAny_pure ?_)))))
      dsimp only
      rw [← Array.getElem?_toList, e3]
      exact wpAny_pure (wpAny_pure (wpAny_pure q))
    refine ⟨⟨oc, od, cd, sl, X _ _ ho, e1, e2, e4⟩, made, ?_, looks_mroIn X ?_, looks_subIn X e9, looks_specialIn X e7, looks_instIn X e8⟩
    · intro A Q E s k q
      unfold Bind.staticBase
      refine wpAny_bind (hm A _ E s k ?_)
      rw [hl, List.forIn_cons]
      exact wpAny_bind (wpAny_bind (wpAny_bind (made A _ E s k (wpAny_pure (wpAny_pure (wpAny_pure q))))))
    · unfold mroIn; rw [hc, Option.bind_some, if_neg (by rw [e4]; decide), e5]
  · cases e
section
variable {prog : Program} {w : World} {A : Around} {K : Frag} {C : Addr} {R : Result → Shared → Prop} {h : Heap} {g : Array GenState} {d : Drawn} {t : Nat} {os : OsState}
theorem kind_lnew : builtinKind "list.__new__" = some .builtinFn := by decide +kernel
theorem split_lnew : splitId "list.__new__" = some ("list", "__new__") := by decide +kernel
theorem args_lnew (a b : Value) : argsOk "list.__new__" ⟨[a, b], []⟩ := by unfold argsOk; kernel_rfl
theorem lnew_K {v : Value} (Y : LMakes (model prog w) h C)
    (hq : R (.ok (.ret (.ref (h.objs.size + 1)))) ⟨(h.push emptyDict).push (accO C h.objs.size [] 0), g, d, t, os⟩) :
    codeAny (model prog w) A (.call (.builtin "list.__new__") ⟨[.ref C, v], []⟩) R ⟨h, g, d, t, os⟩ := by
  obtain ⟨⟨oc, od, cd, sl, hC, e1, e2, e4⟩, made, base, self, top, call, typ⟩ := Y
  refine codeAny_call_builtin_code (Code.quiet_builtin _ (by decide +kernel)) ?_
  simp only [checkBuiltinCall, kind_lnew, split_lnew]
  have here : Looks (model prog w) h (Bind.madeHere "list.__new__" (.ref C)) () := base.andThen (made.andThen (Looks.of_pure (by simp only [Option.map_some, bne_self_eq_false, Bool.false_eq_true, if_false])))
  have ha : argsOk "list.__new__" ⟨[.ref C, v], []⟩ := args_lnew _ _
  have fin : codeAny (model prog w) A (.builtin "list.__new__" ⟨[.ref C, v], []⟩) R ⟨h, g, d, t, os⟩ := by
    refine codeAny_builtin_stack PySem.F.entry_list_new rfl fun p st => ?_
    rw [Around.under_plainId PySem.F.plain_list_new _]
    have hown := PySem.owner_list_new
    dsimp only
    simp only [hown]
    repeat (first | simp only [beq_self_eq_true, if_true, Bool.not_true, bne_self_eq_false, Bool.false_eq_true, if_false] | lk)
    refine wpAny_load (Heap.get?_push_of_some _ (Heap.get?_push_of_some _ hC)) ?_
    dsimp only
    refine wpAny_pure ?_
    rw [e2]
    refine wpAny_pure (wpAny_pure ?_)
    show R _ _
    rw [Heap.size_push]
    exact hq
  cases hsig : Manifest.signature? "list.__new__" with
  | none =>
    repeat (first | simp only [beq_self_eq_true, if_true, Bool.not_true, bne_self_eq_false, Bool.false_eq_true, if_false] | lk)
    exact fin
  | some sig =>
    simp only [argsOk, hsig] at ha
    have args : Bind.checkArgs "list.__new__" sig ⟨[.ref C, v], []⟩ = pure () := ha
    simp only [args]
    repeat (first | simp only [beq_self_eq_true, if_true, Bool.not_true, bne_self_eq_false, Bool.false_eq_true, if_false] | lk)
    exact fin
theorem lmake_core {v init : Value} (Y : LMakes (model prog w) h C) (hi : Looks (model prog w) h (typeLookup (.ref C) "__init__") (some init))
    (hb : ∀ self, Looks (model prog w) h (bindSpecial init self) (init, [self]))
    (hq : codeAny (model prog w) (A.under (.builtin "type.__call__" ⟨[.ref C, v], []⟩)) (.call init ⟨[.ref (h.objs.size + 1), v], []⟩) (InitBack (h.objs.size + 1) R) ⟨(h.push emptyDict).push (accO C h.objs.size [] 0), g, d, t, os⟩) :
    codeAny (model prog w) A (.call (.ref C) ⟨[v], []⟩) R ⟨h, g, d, t, os⟩ := by
  have Y' := Y
  obtain ⟨⟨oc, od, cd, sl, hC, e1, e2, e4⟩, made, base, self, top, call, typ⟩ := Y
  refine codeAny_of_tree ?_
  show wpAny _ _ (callAny (.ref C) _) _ _ _
  refine nd_load hC ?_
  show wpAny _ _ (callAny.viaDunder (.ref C) _) _ _ _
  unfold callAny.viaDunder
  refine wpAny_bind (call.at ?_)
  dsimp only
  rw [tc_bind]
  refine wpAny_bind (wpAny_pure (wpAny_bind (wpAny_pure ?_)))
  refine wpAny_pure (a := Fin.again (.call (.builtin "type.__call__") ⟨[.ref C, v], []⟩)) (And.intro rfl ?_)
  refine codeAny_call_builtin_at (Code.quiet_builtin _ (by decide +kernel)) entry_typeCall (PySem.W.check_slot tc_kind tc_split typ (tc_args _ _ _) ?_)
  unfold Builtin.«type.__call__»
  have hm : Looks (model prog w) h (mroOf (.ref C)) cd.mro := ((Looks.ld (part := none) hC).andThen .now).andThen .now
  repeat (first | simp only [e4, Bool.false_eq_true, if_false] | with_reducible refine wpAny_call ?_ | lk)
  refine lnew_K Y' ?_
  have k : ∀ b o, h.get? b = some o → ((h.push emptyDict).push (accO C h.objs.size [] 0)).get? b = some o := fun b o e => Heap.get?_push_of_some _ (Heap.get?_push_of_some _ e)
  have hx : ((h.push emptyDict).push (accO C h.objs.size [] 0)).get? (h.objs.size + 1) = some (accO C h.objs.size [] 0) := by heap_get
  have t1 : Looks (model prog w) ((h.push emptyDict).push (accO C h.objs.size [] 0)) (typeOf (.ref (h.objs.size + 1))) (.ref C) := (Looks.ld hx).andThen .now
  have s1 := self.keeps k
  have i1 := hi.keeps k
  have b1 := (hb (.ref (h.objs.size + 1))).keeps k
  unfold isInstance callSpecial? specialOf
  repeat (first | with_reducible refine wpAny_call ?_ | lk)
  refine codeAny_mono hq fun r s' z => ?_
  rcases r with e | (v | _ | _ | _) <;> first | exact z | exact z.elim | skip
  obtain ⟨rfl, z⟩ := z
  exact wpAny_pure (wpAny_pure z)
end
section
variable {prog : Program} {w : World} {A : Around} {E : Value → Shared → Prop} {K : Frag} {C : Addr} {s : Shared} {h₀ : Heap} {L : Addr} {m : Mp} {news : Led}
theorem call_acc {v : Value} {fI : Addr} {Q : Value → Shared → Prop} (F : Fr h₀ L s.heap m) (X₀ : K.In h₀) (N : News h₀ L s.heap news) (hm : lmakesIn K C = true) (hi : findIn K (.ref C) "__init__" = some (some (.ref fI))) (hf : isFn K (.ref fI) = true)
    (h : ∀ x dx h', Fr h₀ L h' m → News h₀ L h' ((x, accO C dx [] 0) :: (dx, emptyDict) :: news) → (∀ p ∈ news, p.1 < dx) → dx < x →
      codeAny (model prog w) (A.under (.builtin "type.__call__" ⟨[.ref C, v], []⟩)) (.call (.ref fI) ⟨[.ref x, v], []⟩) (InitBack x fun r s' => match r with | .ok (.ret v) => Q v s' | .ok _ => False | .error e => E e s') { s with heap := h' }) :
    wpAny (model prog w) A (call (.ref C) [v] []) Q E s := by
  have X := X₀.keeps F.keep
  obtain ⟨hh, g, d, t, os⟩ := s
  have := (N.push F emptyDict).push (F.push _) (accO C hh.objs.size [] 0)
  rw [Heap.size_push] at this
  exact wpAny_call (lmake_core (lmakes_of X hm) (looks_findIn X hi) (fun self => bind_fn X self (beq_iff_eq.mp hf)) (h _ hh.objs.size _ ((F.push _).push _) this (fun p hp => Heap.lt_size (N p hp).1) (Nat.lt_succ_self _)))
end
end
section
open PySem PySem.W PySem.Calls PyProof.Rows PySem.Builtin PySem.Builtin.ObjectAttr
theorem refuse_list (self : Value) : refuseLoop self "__setattr__" [.type "list", .type "object"] = pure () := by
  first | kernel_rfl | rfl
/-- a class right over list -/
noncomputable def lplain (K : Frag) (C : Addr) : Bool := (clsIn K C).any fun cd => cd.mro == [.ref C, .type "list", .type "object"]
section
variable {prog : Program} {w : World} {A : Around} {K : Frag} {C x : Addr} {s : Shared} {h₀ : Heap} {L : Addr} {m : Mp} {news : Led} {R : Result → Shared → Prop}
theorem lsa_open {ox : Obj} {od : Option Obj} {name : Str} {tk : Tok} {v : Value} {r : Option Value} (X : K.In s.heap) (I : InstAt s.heap x ox C od) (hp : lplain K C = true) (ht : takerIn K C name = some r)
    (h : ∀ b, wpAny (model prog w) A.in1 (match r with | some a => setByDescriptor a (.ref x) v | none => storeInOwnDict (.ref x) (.ref C) (.str name tk) name v b)
      (fun fin s' => match fin with | .done f => R (.ok f) s' | .again c' => c'.quiet = true ∧ codeAny (model prog w) A c' R s') (fun e s' => R (.error e) s') s) :
    codeAny (model prog w) A (.call (.builtin "object.__setattr__") ⟨[.ref x, .str name tk, v], []⟩) R s := by
  have SF := PySem.F.store_object
  obtain ⟨cd, hc, ho⟩ := any_some hp
  have hmro : cd.mro = [.ref C, .type "list", .type "object"] := beq_iff_eq.mp ho
  have sub : Looks (model prog w) s.heap (isInstance (.ref x) (.type "object")) true := I.type.andThen (looks_mroIn X (by unfold mroIn; rw [hc, Option.bind_some, hmro]; rfl))
  refine codeAny_call_builtin SF.slot.plain SF.entry (@PySem.W.check_slot (model prog w) _ _ s "object.__setattr__" "object" "__setattr__" (.ref x) [.str name tk, v] [] _ SF.kind SF.split sub (SF.args (.ref x) (.str name tk) v) ?_)
  obtain ⟨attr, ha, hr⟩ := Option.bind_eq_some_iff.mp ht
  have hm : Looks (model prog w) s.heap (mroOf (.ref C)) cd.mro := (looks_clsIn X hc).andThen .now
  have L3 : Looks (model prog w) s.heap (storeTaker? attr) r := by
    cases attr with
    | none => cases hr; exact .now
    | some a =>
      obtain ⟨b, hb, rfl⟩ := Option.map_eq_some_iff.mp hr
      refine (looks_takesIn X hb).andThen ?_
      cases b <;> exact .now
  rw [osa_eq, refuse_eq]
  refine wpAny_bind (wpAny_bind (I.type.here (wpAny_bind (hm.here ?_))))
  rw [hmro, refuseLoop_ref, refuse_list]
  refine wpAny_pure (wpAny_bind (I.type.here (wpAny_bind ((looks_findIn X ha).here (wpAny_bind (L3.here ?_))))))
  exact h _
theorem lsa_dict {ox od od' : Obj} {dx : Addr} {name : Str} {tk : Tok} {v : Value} {es : List DictEntry} {n : Nat} (F : Fr h₀ L s.heap m) (N : News h₀ L s.heap news) (X : K.In s.heap)
    (I : InstAt s.heap x ox C (some od)) (hd : ox.dict = some dx) (hp : lplain K C = true) (ht : takerIn K C name = some none) (hh : (clsIn K C).any (·.hasDict) = true)
    (hl : (lookIn name od).isSome = true) (hm : (dx, od) ∈ news)
    (e : Obj.putName name (PyData.keyHash w.params name) (.str name s.toks) v od = od') (e' : od'.data = .dict es.toArray n) (hz : es.length ≤ 1000)
    (h : ∀ h', Fr h₀ L h' m → News h₀ L h' ((dx, od') :: but dx news) → R (.ok (.ret .none)) { s with heap := h', toks := s.toks + 1 }) :
    codeAny (model prog w) A (.call (.builtin "object.__setattr__") ⟨[.ref x, .str name tk, v], []⟩) R s := by
  refine lsa_open X I hp ht fun b => ?_
  obtain ⟨cd, hc, hd'⟩ := any_some hh
  obtain ⟨U1, U2⟩ := news_upd (pre := []) (post := but dx news) (f := Obj.putName name (PyData.keyHash w.params name) (.str name s.toks) v) F (Mine.News.head N hm) (fun _ hp => nomatch hp) (fun _ hp => (mem_but.mp hp).2) e (by obtain ⟨_, _, dd, _⟩ := od'; cases e'; rfl)
  have D := (N (dx, od) hm).1
  have D' := (U2 (dx, od') (by simp)).1
  obtain ⟨hx, hcl, hn, -⟩ := I
  obtain ⟨oc, odi, oda, osl⟩ := ox
  dsimp only at hcl hd
  subst hcl hd
  refine wpAny_bind (wpAny_pure (wpAny_bind (wpAny_bind (wpAny_loadPart hx (wpAny_bind ((looks_clsIn X hc).here ?_))))))
  rw [hd']
  refine wpAny_pure (a := some dx) (wpAny_bind (wpAny_pure (wpAny_bind ?_)))
  unfold nsSet
  refine wpAny_bind (wpAny_bind (wpAny_askSetting (wpAny_pure (wpAny_bind (wpAny_mkText (wpAny_bind (wpAny_loadPart D ?_)))))))
  unfold lookIn at hl
  split at hl
  · rename_i es₀ n₀ q
    rw [q]
    dsimp only
    have c : (!es₀.any (·.key.isStr name) && es₀.any (·.refKey)) = false := by
      rw [← Array.any_toList, ← Array.any_toList]
      split at hl
      · rename_i en he
        rw [List.any_eq_true.mpr ⟨en, List.mem_of_find?_eq_some he, List.find?_some he⟩]; rfl
      · split at hl
        · cases hl
        · rename_i z; rw [Bool.not_eq_true] at z; rw [z, Bool.and_false]
    rw [aRefKeyMayBeTheName_at, c]
    refine wpAny_updatePart D ?_
    refine wpAny_bind (wpAny_lookBehind D' (by rw [e']; exact pastItsLine_dict (by rw [List.size_toArray, sizeLine_eq]; omega)) ?_)
    exact wpAny_pure (h _ U1 U2)
  · cases hl
theorem acc_set {E : Value → Shared → Prop} {name : Str} {v : Value} {dx : Addr} {vs : List Value} {n : Nat} {Q : Unit → Shared → Prop} (F : Fr h₀ L s.heap m) (X₀ : K.In h₀) (N : News h₀ L s.heap news) (h1 : (x, accO C dx vs n) ∈ news) (h2 : (dx, emptyDict) ∈ news)
    (hs : findIn K (.ref C) "__setattr__" = some (some (.builtin "object.__setattr__"))) (hp : lplain K C = true) (ht : takerIn K C name = some none) (hh : (clsIn K C).any (·.hasDict) = true)
    (h : ∀ h' hsh tk k, Fr h₀ L h' m → News h₀ L h' ((dx, dictOf [⟨hsh, .str name tk, v⟩] 1) :: but dx news) → (x, accO C dx vs n) ∈ but dx news → Q () { s with heap := h', toks := k }) : wpAny (model prog w) A (setAttr (.ref x) name v) Q E s := by
  have I := InstAt.acc N h1 h2
  refine set_plain (X₀.keeps F.keep) I hs ?_
  exact lsa_dict (s := { s with toks := s.toks + 1 }) F N (X₀.keeps F.keep) I rfl hp ht hh rfl h2 rfl rfl (by simp) fun h' F' N' => h h' _ _ _ F' N' (mem_but.mpr ⟨h1, Ne.symm (News.ne N h2 h1 fun z => by cases congrArg Obj.cls z)⟩)
end
end
section
open PySem PySem.W PySem.Calls PyProof.Rows PySem.Builtin PySem.Builtin.Str
noncomputable abbrev prog1 : Program := Challenge.rw_wb0072_02.row.prog
/-- a text without defs: `Top` of it says only what the walk's lines read -/
noncomputable def view1 : Program := { main := { body := [.Import [⟨Str.ofString "sys", none, default⟩] default], scope := default, futureAnnotations := false, file := default }, modules := [], parses := [], absent := [] }
noncomputable abbrev loose1 : List Str := [Str.ofString "_sre", Str.ofString "_wall", Str.ofString "ELLIPSIS_MARKER", Str.ofString "_ellipsis_match", Str.ofString "EMPTYSTRING", Str.ofString "_Accumulator", Str.ofString "tspecials", Str.ofString "_name_disallowed_re", Str.ofString "_value_disallowed_re", Str.ofString "_formatparam", Str.ofString "Headers", Str.ofString "_law_word", Str.ofString "_law_piled", Str.ofString "_law_comes_off", Str.ofString "_law_stretch", Str.ofString "_law_period", Str.ofString "law"]
noncomputable abbrev Claim1 (w : World) (mean : ExcName → Option Value) (mg mb : Str → Option Value) := CbClaim prog1 w (Mine.K1 w.params) view1 loose1 mean mg mb
/-- a contract whose end is told by the statement: what the call wants of the state, how it goes on -/
noncomputable abbrev GClaim1 (w : World) (mean : ExcName → Option Value) (mg mb : Str → Option Value) (room : Nat) (f : Addr) (args : List Value) (kw : List (Str × Value)) (pre : Led → Params → Prop) (post : Heap → Addr → Mp → Led → (Value → Heap → Nat → Prop) → Prop) : Prop :=
  ∀ (dp un : Nat) (gd : Option (List Code)) (cn : Str) (cs : Scope) (a : Addr) (ccd : Value) (cl : List (Str × Addr)) (outer : List Env) (A₀ : Around) (base h₀ : Heap) (L : Addr) (m : Mp) (news : Led) (s : Shared) (Q E : Value → Shared → Prop),
    Below A₀ base outer h₀ → Fr h₀ L s.heap m → (Mine.K1 w.params).In h₀ → News h₀ L s.heap news → Top view1 loose1 mean mg mb h₀ → cs.kind = .function →
    pre news w.params → dp + room < recursionLimit → un + 8 * room < cLine →
    post h₀ L m news (fun v h' tk' => Q v { s with heap := h', toks := tk' }) →
      wpAny (model prog1 w) (ktrTop dp un gd cn cs L a ccd cl outer) (call (.ref f) args kw) Q E s

noncomputable abbrev instO (C : Addr) (D : Addr) : Obj := { cls := .ref C, dict := some D, data := .plain }
noncomputable abbrev tupO (vs : List Value) : Obj := { cls := .type "tuple", data := .seq vs.toArray }
structure Row4 where
  a : Addr
  x : Str
  t : Tok
  y : Str
  u : Tok
noncomputable abbrev Row4.ent (r : Row4) : Addr × Obj := (r.a, tupO [.str r.x r.t, .str r.y r.u])
noncomputable def TabAt (C : Addr) (_P : Params) (T TD HL : Addr) (n : Nat) (rows : List Row4) (news : Led) : Prop :=
  (T, instO C TD) ∈ news ∧ (∃ h t, (TD, dictOf [⟨h, .str (Str.ofString "_headers") t, .ref HL⟩] 1) ∈ news) ∧ (HL, listOf (rows.map fun r => Value.ref r.a).toArray n) ∈ news ∧ ∀ r ∈ rows, r.ent ∈ news
/-- an accumulator: its items, its first size -/
noncomputable def AccAt (C : Addr) (P D : Addr) (k : Int) (n : Nat) (rows : List Row4) (news : Led) : Prop :=
  (P, accO C D (rows.map fun r => Value.ref r.a) n) ∈ news ∧ (∃ h t u, (D, sizeO h t k u) ∈ news) ∧ ∀ r ∈ rows, r.ent ∈ news
theorem tup_ne_acc {vs : List Value} {C D : Addr} {us : List Value} {n : Nat} : tupO vs ≠ accO C D us n := fun e => by cases congrArg Obj.cls e
theorem dict_ne_acc {es : List DictEntry} {j : Nat} {C D : Addr} {us : List Value} {n : Nat} : dictOf es j ≠ accO C D us n := fun e => by cases congrArg Obj.cls e
theorem AccAt.grown {C P D : Addr} {k : Int} {n : Nat} {rows : List Row4} {news news' : Led} (H : AccAt C P D k n rows news) (h : ∀ p ∈ news, p ∈ news') : AccAt C P D k n rows news' := by
  obtain ⟨h1, ⟨a, b, c, h2⟩, h3⟩ := H
  exact ⟨h _ h1, ⟨a, b, c, h _ h2⟩, fun r hr => h _ (h3 r hr)⟩
/-- what stands when the accumulator alone is turned -/
theorem AccAt.turned {C P D : Addr} {k : Int} {n n' : Nat} {rows rows' : List Row4} {news : Led} {h₀ h : Heap} {L : Addr} (N : News h₀ L h news) (H : AccAt C P D k n rows news) (hr : ∀ r ∈ rows', r.ent ∈ news) :
    AccAt C P D k n' rows' ((P, accO C D (rows'.map fun r => Value.ref r.a) n') :: but P news) ∧ Kept P news ((P, accO C D (rows'.map fun r => Value.ref r.a) n') :: but P news) := by
  obtain ⟨h1, ⟨a, b, c, h2⟩, h3⟩ := H
  refine ⟨⟨.head _, ⟨a, b, c, .tail _ (mem_but.mpr ⟨h2, News.ne N h2 h1 dict_ne_acc⟩)⟩, fun r hr' => .tail _ (mem_but.mpr ⟨hr r hr', News.ne N (hr r hr') h1 tup_ne_acc⟩)⟩, fun p hp hne => .tail _ (mem_but.mpr ⟨hp, hne⟩)⟩
theorem AccAt.pushed {C P D : Addr} {k : Int} {n : Nat} {rows : List Row4} {news : Led} {h₀ h : Heap} {L a : Addr} {x y : Str} {t u : Tok} (N : News h₀ L h ((a, tupO [.str x t, .str y u]) :: news)) (H : AccAt C P D k n rows news) :
    AccAt C P D k (n + 1) (rows ++ [⟨a, x, t, y, u⟩]) ((P, accO C D ((rows.map fun r => Value.ref r.a) ++ [.ref a]) (n + 1)) :: but P ((a, tupO [.str x t, .str y u]) :: news)) ∧ Kept P news ((P, accO C D ((rows.map fun r => Value.ref r.a) ++ [.ref a]) (n + 1)) :: but P ((a, tupO [.str x t, .str y u]) :: news)) := by
  have H' := H.grown (news' := (a, tupO [.str x t, .str y u]) :: news) fun p hp => .tail _ hp
  have z := H'.turned (n' := n + 1) (rows' := rows ++ [⟨a, x, t, y, u⟩]) N (by
    intro r hr
    rcases List.mem_append.mp hr with hr | hr
    · exact H'.2.2 r hr
    · rw [List.mem_singleton.mp hr]; exact .head _)
  simp only [List.map_append, List.map_cons, List.map_nil] at z
  exact ⟨z.1, fun p hp hne => z.2 p (.tail _ hp) hne⟩
end
section
open PySem PySem.W PySem.Calls PyProof.Rows PySem.Builtin
/-- an object that bears items, of whatever class -/
noncomputable def SeqAt (h : Heap) (a : Addr) (items : Array Value) : Prop := ∃ o n, h.get? a = some o ∧ o.data = .seq items n
theorem SeqAt.ext {h h' : Heap} {a b : Addr} {items : Array Value} (x : SeqAt h a items) (hs : Heap.ExtBut b h h') (hab : a ≠ b) : SeqAt h' a items :=
  let ⟨o, n, ho, r⟩ := x; ⟨o, n, hs a o hab ho, r⟩
theorem SeqAt.mv {h h' : Heap} {a : Addr} {items : Array Value} (x : SeqAt h a items) (e : ∀ o, h.get? a = some o → h'.get? a = some o) : SeqAt h' a items :=
  let ⟨o, n, ho, r⟩ := x; ⟨o, n, e o ho, r⟩
section
variable {prog : Program} {w : World} {A : Around} {E : Value → Shared → Prop} {s : Shared}
theorem next_item {it l : Addr} {i : Nat} {items : Array Value} {x : Value} {Q : Option Value → Shared → Prop} (hit : s.heap.IsListIter it l i) (hl : SeqAt s.heap l items) (hx : items[i]? = some x)
    (hQ : ∀ h', h'.IsListIter it l (i + 1) → Heap.SameBut it s.heap h' → Q (some x) { s with heap := h' }) : wpAny (model prog w) A (pyNext (.ref it)) Q E s := by
  obtain ⟨o, ho, hc, hd⟩ := id hit
  obtain ⟨ol, nl, hol, hdl⟩ := hl
  unfold pyNext
  refine wpAny_bind (wpAny_attempt (wpAny_callSpecial?_slot (name := Str.ofString "__next__") hit.typeIs slot_listiter_next (wpAny_call_entry slot_listiter_next hit.typeIs entry_listiter_next ?_ (args_listiter_next _))))
  show wpAny _ _ (field (.ref it) 0 >>= _) _ _ s
  refine wpAny_bind (wpAny_field ho hd (x := .ref l) rfl ?_)
  show wpAny _ _ (if (Value.ref l == Value.none) = true then _ else _) _ _ s
  rw [if_neg (show ¬ ((Value.ref l == Value.none) = true) from Bool.false_ne_true)]
  show wpAny _ _ (field (.ref it) 1 >>= _) _ _ s
  refine wpAny_bind (wpAny_field ho hd (x := .int i 0) rfl ?_)
  show wpAny _ _ (seqItems? (.ref l) >>= _) _ _ s
  refine wpAny_bind (wpAny_seqItems hol hdl ?_)
  simp only [Int.toNat_natCast, hx]
  refine wpAny_bind (wpAny_setField ho hd (by simp) (wpAny_pure ⟨x, rfl, wpAny_pure (hQ _ ?_ (Heap.SameBut.update ..))⟩))
  exact ⟨_, Heap.get?_update_self _ ho (Obj.isFreed_of_fields (Obj.data_mapFields hd _)), (Obj.cls_mapFields ..).trans hc, by rw [Obj.data_mapFields hd]; simp [rawInt]⟩
theorem next_end {it l : Addr} {i : Nat} {items : Array Value} {Q : Option Value → Shared → Prop} (hh : A.handled = none) (hit : s.heap.IsListIter it l i) (hl : SeqAt s.heap l items) (hx : items[i]? = none)
    (hQ : ∀ h', Heap.ExtBut it s.heap h' → Q none { s with heap := h' }) : wpAny (model prog w) A (pyNext (.ref it)) Q E s := by
  obtain ⟨o, ho, hc, hd⟩ := id hit
  obtain ⟨ol, nl, hol, hdl⟩ := hl
  unfold pyNext
  refine wpAny_bind (wpAny_attempt (wpAny_callSpecial?_slot (name := Str.ofString "__next__") hit.typeIs slot_listiter_next (wpAny_call_entry slot_listiter_next hit.typeIs entry_listiter_next ?_ (args_listiter_next _))))
  show wpAny _ _ (field (.ref it) 0 >>= _) _ _ s
  refine wpAny_bind (wpAny_field ho hd (x := .ref l) rfl ?_)
  show wpAny _ _ (if (Value.ref l == Value.none) = true then _ else _) _ _ s
  rw [if_neg (show ¬ ((Value.ref l == Value.none) = true) from Bool.false_ne_true)]
  show wpAny _ _ (field (.ref it) 1 >>= _) _ _ s
  refine wpAny_bind (wpAny_field ho hd (x := .int i 0) rfl ?_)
  show wpAny _ _ (seqItems? (.ref l) >>= _) _ _ s
  refine wpAny_bind (wpAny_seqItems hol hdl ?_)
  simp only [Int.toNat_natCast, hx]
  refine wpAny_bind (wpAny_rule (wpAny_bind (wpAny_setField ho hd (by simp) ?_)))
  show wpAny _ _ (newExc (.type "StopIteration") [] >>= _) _ _ _
  refine wpAny_bind ?_
  simp only [newExc, newTuple]
  refine wpAny_bind (wpAny_newObj_type ?_ (by size_fits))
  refine wpAny_bind (m := firstArgMember _ _) (wpAny_of_eq (a := Value.none) (by first | rfl | (simp only [firstArgMember]; rfl)) ?_)
  refine wpAny_newObj_type ?_ (by size_fits)
  simp only [raiseNew]
  refine wpAny_bind (wpAny_handled ?_)
  rw [show A.in1.handled = none from hh]
  refine wpAny_bind (wpAny_pure (wpAny_throw ?_))
  refine wpAny_bind (wpAny_isInstance (T := "StopIteration") (b := true) ⟨_, Heap.get?_push_size _ rfl, rfl⟩ isSubtype_stop ?_)
  exact wpAny_pure (hQ _ (((Heap.SameBut.update ..).extBut.push _).push _))
end
/-- a walk over the tuples that an object bears, by a list iterator -/
theorem walksAcc {prog : Program} {w : World} {A : Around} (hh : A.handled = none) (I ax : Addr) (hne : ax ≠ I) (items : Array Value) (Ts : Nat → Addr) (vals : Nat → Array Value)
    (hit : ∀ j, j < items.size → items[j]? = some (.ref (Ts j))) (hTI : ∀ j, j < items.size → Ts j ≠ I) :
    WalksU prog w A I (I :: ax :: (List.range items.size).map Ts) [I] items.size (fun j v => j < items.size ∧ v = vals j)
      (fun j h => h.IsListIter I ax j ∧ SeqAt h ax items ∧ ∀ k, k < items.size → h.IsTuple (Ts k) (vals k))
      (fun j T h => (j < items.size ∧ T = Ts j) ∧ h.IsListIter I ax (j + 1) ∧ SeqAt h ax items ∧ ∀ k, k < items.size → h.IsTuple (Ts k) (vals k)) where
  sub := fun b hb => by simp at hb; simp [hb]
  frame := fun _ _ _ st hk => ⟨st.1.at fun o e => hk I (by simp) o e, st.2.1.mv fun o e => hk ax (by simp) o e,
    fun k hk' => (st.2.2 k hk').at fun o e => hk (Ts k) (List.mem_cons_of_mem _ (List.mem_cons_of_mem _ (List.mem_map.mpr ⟨k, List.mem_range.mpr hk', rfl⟩))) o e⟩
  item := fun i s Q E hi st hQ => by
    refine next_item st.1 st.2.1 (x := .ref (Ts i)) (hit i hi) fun h' hit' hs' => ?_
    have tup : ∀ k, k < items.size → h'.IsTuple (Ts k) (vals k) := fun k hk' => (st.2.2 k hk').extBut hs'.extBut (hTI k hk')
    exact hQ (Ts i) (vals i) h' s.toks ⟨hi, rfl⟩ (tup i hi) ⟨⟨hi, rfl⟩, hit', st.2.1.ext hs'.extBut hne, tup⟩ fun b o hb e => hs'.extBut b o (fun h => hb (by simp [h])) e
  go := fun _ _ _ _ _ s Q _ hm hQ => wpAny_letOwnedTupleGo_listiter hm.2.1 (hQ s.heap hm.2 fun _ _ _ e => e)
  apart := fun j T _ hm hmem => by
    rcases List.mem_cons.mp hmem with e | e
    · exact hTI j hm.1.1 (hm.1.2 ▸ e)
    · cases e
  done := fun s Q E st hQ => next_end hh st.1 st.2.1 (by simp) fun h' he' => hQ h' s.toks fun b o hb e => he' b o (fun h => hb (by simp [h])) e
  self := fun _ _ _ _ st hQ => wpAny_pyIter_listiter st.1 hQ
section
variable {prog : Program} {w : World} {A : Around} {E : Value → Shared → Prop} {s : Shared} {K : Frag} {P C : Addr} {ox : Obj} {od : Option Obj}
theorem kind_iter : builtinKind "list.__iter__" = some .slot := by decide +kernel
theorem split_iter : splitId "list.__iter__" = some ("list", "__iter__") := by decide +kernel
theorem call_iter {Q : Value → Shared → Prop} (hi : Looks (model prog w) s.heap (isInstance (.ref P) (.type "list")) true)
    (h : Q (.ref s.heap.objs.size) { s with heap := s.heap.push { cls := .type "list_iterator", data := .fields #[.ref P, .int 0 0] } }) : wpAny (model prog w) A (call (.builtin "list.__iter__") [.ref P]) Q E s := by
  refine wpAny_call ?_
  refine codeAny_call_builtin slot_list_iter.plain entry_list_iter ?_
  refine check_slot (i := "list.__iter__") (owner := "list") (n := "__iter__") (self := .ref P) (rest := []) (kw := []) kind_iter split_iter hi (args_list_iter _) ?_
  show wpAny _ _ (do ret (← newFields "list_iterator" [.ref P, rawInt 0])) _ _ s
  exact wpAny_bind (wpAny_newObj_type (wpAny_pure h) (by size_fits))
theorem iter_acc {Q : Value → Shared → Prop} (X : K.In s.heap) (I : InstAt s.heap P ox C od) (hs : findIn K (.ref C) "__iter__" = some (some (.builtin "list.__iter__"))) (hi : subIn K (.ref C) (.type "list") = some true)
    (h : Q (.ref s.heap.objs.size) { s with heap := s.heap.push { cls := .type "list_iterator", data := .fields #[.ref P, .int 0 0] } }) : wpAny (model prog w) A (pyIter (.ref P)) Q E s := by
  unfold pyIter
  refine wpAny_bind (wpAny_bind (I.type.here ((looks_findIn X hs).here ?_)))
  show wpAny _ A (callSpecialIfBoundUnlessNone? (.ref P) "__iter__" _ >>= _) Q E s
  refine wpAny_bind ?_
  simp only [callSpecialIfBoundUnlessNone?, bindSpecialIfBound?]
  refine wpAny_holding (wpAny_bind (wpAny_bind (wpAny_bind (I.type.here ((looks_findIn X hs).here ?_)))))
  simp only [slot_list_iter.bind]
  refine wpAny_bind (wpAny_askSetting (wpAny_ite ?_))
  have fin : ∀ (rf : Sem Value) (Q' : Option Value → Shared → Prop), Q' (some (.ref s.heap.objs.size)) { s with heap := s.heap.push { cls := .type "list_iterator", data := .fields #[.ref P, .int 0 0] } } → wpAny (model prog w) A (if (Value.builtin "list.__iter__" == Value.none) = true then (rf >>= fun v => pure (some v)) else (call (.builtin "list.__iter__") [.ref P] >>= fun v => pure (some v))) Q' E s := by
    intro rf Q' hq
    simp only [builtin_beq_none, Bool.false_eq_true, if_false]
    exact wpAny_bind (call_iter (I.type.andThen (looks_subIn X hi)) (wpAny_pure hq))
  split
  · refine wpAny_bind (wpAny_pure (wpAny_pure (fin _ _ ?_)))
    exact wpAny_bind (wpAny_specialOf (T := "list_iterator") ⟨_, Heap.get?_push_size _ rfl, rfl⟩ slot_listiter_next.lookup (wpAny_pure h))
  · refine wpAny_tryCatch (wpAny_bind (wpAny_pure (wpAny_pure (fin _ _ ?_))))
    exact wpAny_bind (wpAny_specialOf (T := "list_iterator") ⟨_, Heap.get?_push_size _ rfl, rfl⟩ slot_listiter_next.lookup (wpAny_pure h))
end
end
section
open PySem PySem.W PySem.Calls PyProof.Rows PySem.Builtin PySem.Builtin.Str
section
variable {prog : Program} {w : World} {A : Around} {E : Value → Shared → Prop} {s : Shared} {env : Env} {h₀ : Heap} {target : Expr} {body : List Stmt} {Q : Flow → Shared → Prop}

/-- a for with any target over an iterator with one object of its own -/
theorem turns_led {cn : String} {I : Addr} {fp : List Addr} {n : Nat} {P : Nat → Value → Prop} {St : Nat → Heap → Prop} {m₀ : Mp} {news : Led} (keep : Led) (J : Nat → Mp → Led → Prop)
    (W : Walks prog w A I fp [I] n P St) (hgo : ∀ i v (s : Shared) (Q : Unit → Shared → Prop) (E : Value → Shared → Prop), St i s.heap → Q () s → wpAny (model prog w) A (letOwnedTupleGo target (.ref I) v) Q E s)
    (hfp : ∀ b ∈ fp, b = I ∨ (∃ q, h₀.get? b = some q) ∨ ∃ q, (b, q) ∈ keep) (hI0 : h₀.get? I = none) (hob : ∀ i h, St i h → ∃ o, h.get? I = some o ∧ o.cls = .type cn)
    (hLf : env.locals ∉ fp) (hnw : ∀ p ∈ news, p.1 ≠ I) (hst : St 0 s.heap) (F : Fr h₀ env.locals s.heap m₀) (N : News h₀ env.locals s.heap news) (hk : ∀ p ∈ keep, p ∈ news) (hj : J 0 m₀ news)
    (turn : ∀ i v m₁ news₁ h tk oI, oI.cls = .type cn → i < n → P i v → J i m₁ news₁ → (∀ p ∈ news₁, p.1 ≠ I) → (∀ p ∈ keep, p ∈ news₁) → Fr h₀ env.locals h m₁ → News h₀ env.locals h ((I, oI) :: news₁) →
      wpAny (model prog w) A (assign target env v) (fun _ s₃ => wpAny (model prog w) A (execs body env) (TPost h₀ env.locals I oI keep (J (i + 1)) { s with heap := h, toks := tk } Q) E s₃) E { s with heap := h, toks := tk })
    (done : ∀ m₁ news₁ h tk, J n m₁ news₁ → (∀ p ∈ keep, p ∈ news₁) → Fr h₀ env.locals h m₁ → News h₀ env.locals h news₁ → Q .next { s with heap := h, toks := tk }) :
    TurnsAt prog w A h₀ env target body Q E (.ref I) s := by
  refine ⟨I, fp, [I], n, _, _, St, m₀, news, (fun i m l => (∀ p ∈ keep, p ∈ l) ∧ J i m l), rfl, KTurns.ofWalks W hgo, hLf, ?_, ?_, hst, F, N, ⟨hk, hj⟩, ?_, ?_⟩
  · intro b hb; rw [List.mem_singleton.mp hb]; exact hI0
  · intro p hp hI; exact hnw p hp (List.mem_singleton.mp hI)
  · rintro i v m₁ news₁ hh' tk' own hin hP ⟨hk₁, hJ⟩ hoff hown hat hall hst' F₁ N₁
    obtain ⟨oI, ho, hoc⟩ := hob _ _ hst'
    have hio : (I, oI) ∈ own := hall I (W.sub I (List.mem_singleton.mpr rfl)) hI0 oI ho
    have hsub : ∀ p ∈ own, p = (I, oI) ∨ p ∈ keep := by
      intro p hp
      have g := (N₁ p (List.mem_append_left _ hp))
      rcases hfp p.1 (hown p hp) with e | ⟨q, hq⟩ | ⟨q, hq⟩
      · left
        have : p.2 = oI := by have := g.1; rw [e] at this; exact Option.some.inj (this.symm.trans ho)
        exact Prod.ext e this
      · have := g.2.2; rw [hq] at this; cases this
      · right
        have h1 := (N₁ _ (List.mem_append_right own (hk₁ _ hq))).1
        have h2 := g.1
        have : p.2 = q := Option.some.inj (h2.symm.trans h1)
        have e : p = (p.1, q) := Prod.ext rfl this
        rw [e]; exact hq
    have N₂ : News h₀ env.locals hh' ((I, oI) :: news₁) := fun p hp => by
      rcases List.mem_cons.mp hp with rfl | hp
      · exact N₁ _ (List.mem_append_left _ hio)
      · exact N₁ _ (List.mem_append_right _ hp)
    refine wpAny_mono (turn i v m₁ news₁ hh' tk' oI hoc hin hP hJ (fun p hp e => hoff p hp (List.mem_singleton.mpr e)) hk₁ F₁ N₂) (fun _ s₂ p => wpAny_mono p (fun f s₃ p => ?_) fun _ _ e => e) fun _ _ e => e
    have fin : TEnd h₀ env.locals I oI keep (J (i + 1)) { s with heap := hh', toks := tk' } s₃ → LoopStepU h₀ env.locals [I] own (fun m l => (∀ p ∈ keep, p ∈ l) ∧ J (i + 1) m l) { s with heap := hh', toks := tk' } .next s₃ := by
      rintro ⟨h', tk, m', news', e, F', N', hoff', hk', hm⟩
      refine ⟨rfl, h', tk, m', news', e, F', fun p hp => ?_, fun p hp hq => hoff' p hp (List.mem_singleton.mp hq), hk', hm⟩
      rcases List.mem_append.mp hp with hp | hp
      · rcases hsub p hp with rfl | hp
        · exact N' _ (.head _)
        · exact N' _ (.tail _ (hk' p hp))
      · exact N' _ (.tail _ hp)
    cases f with
    | ret v => exact .ret p
    | brk => exact .brk p
    | next => exact .next (fin p)
    | cont => exact .cont (fin p)
  · rintro h' tk m' news' F' N' _ ⟨hk', hJ⟩
    exact done m' news' h' tk hJ hk' F' N'

/-- over a list of the ledger -/
theorem turns_list {D : Addr} {k : Nat} {vs : List Value} {m₀ : Mp} {news : Led} (J : Mp → Led → Nat → Mp → Led → Prop)
    (hh : A.handled = none) (hD : (D, listOf vs.toArray k) ∈ news) (F : Fr h₀ env.locals s.heap m₀) (N : News h₀ env.locals s.heap news) (hj : J m₀ news 0 m₀ news)
    (turn : ∀ I i v m₁ news₁ h tk oI, oI.cls = .type "list_iterator" → vs[i]? = some v → J m₀ news i m₁ news₁ → (∀ p ∈ news₁, p.1 ≠ I) → (D, listOf vs.toArray k) ∈ news₁ → Fr h₀ env.locals h m₁ → News h₀ env.locals h ((I, oI) :: news₁) →
      wpAny (model prog w) A (assign target env v) (fun _ s₃ => wpAny (model prog w) A (execs body env) (TPost h₀ env.locals I oI [(D, listOf vs.toArray k)] (J m₀ news (i + 1)) { s with heap := h, toks := tk } Q) E s₃) E { s with heap := h, toks := tk })
    (done : ∀ m₁ news₁ h tk, J m₀ news vs.length m₁ news₁ → (D, listOf vs.toArray k) ∈ news₁ → Fr h₀ env.locals h m₁ → News h₀ env.locals h news₁ → Q .next { s with heap := h, toks := tk }) :
    wpAny (model prog w) A (pyIter (.ref D)) (fun it s₂ => TurnsAt prog w A h₀ env target body Q E it s₂) E s := by
  have hls : s.heap.IsList D vs.toArray := ⟨_, (N _ hD).1, rfl, k, rfl⟩
  have hlt : D < s.heap.objs.size := Heap.lt_size (N _ hD).1
  have hne : D ≠ s.heap.objs.size := Nat.ne_of_lt hlt
  refine wpAny_pyIter_list hls ?_
  have W := Walks.list (prog := prog) (w := w) hh s.heap.objs.size D hne vs.toArray
  have hlen : vs.toArray.size = vs.length := by simp
  rw [hlen] at W
  refine turns_led (cn := "list_iterator") [(D, listOf vs.toArray k)] (J m₀ news) W (fun i v s Q E st q => letGo_listiter st.1 q) ?_ (next_is_new F) ?_ ?_ ?_ ⟨⟨_, Heap.get?_push_size _ rfl, rfl, rfl⟩, hls.at fun o e => Heap.get?_push_of_some _ e⟩ (F.push _) (fun p hp => ⟨Heap.get?_push_of_some _ (N p hp).1, (N p hp).2⟩) ?_ hj ?_ ?_
  · intro b hb
    rcases List.mem_cons.mp hb with e | hb
    · exact .inl e
    · rw [List.mem_singleton.mp hb]; exact .inr (.inr ⟨_, List.mem_singleton.mpr rfl⟩)
  · rintro i h ⟨⟨o, ho, hc, _⟩, _⟩; exact ⟨o, ho, hc⟩
  · intro hm
    rcases List.mem_cons.mp hm with e | hm
    · exact absurd F.ns.lt (e ▸ Nat.lt_irrefl _)
    · exact (N _ hD).2.1 (List.mem_singleton.mp hm).symm
  · intro p hp e; exact absurd (Heap.lt_size (N p hp).1) (e ▸ Nat.lt_irrefl _)
  · intro p hp; rw [List.mem_singleton.mp hp]; exact hD
  · intro i v m₁ news₁ h tk oI hoc hin hP hJ hoff hk F₁ N₁
    exact turn _ i v m₁ news₁ h tk oI hoc (by simpa using hP) hJ hoff (hk _ (List.mem_singleton.mpr rfl)) F₁ N₁
  · intro m₁ news₁ h tk hJ hk F₁ N₁
    exact done m₁ news₁ h tk hJ (hk _ (List.mem_singleton.mpr rfl)) F₁ N₁
/-- over a tuple of the ledger -/
theorem turns_tuple {D : Addr} {o : Obj} {k : Nat} {vs : List Value} {m₀ : Mp} {news : Led} (J : Mp → Led → Nat → Mp → Led → Prop)
    (hh : A.handled = none) (hD : (D, o) ∈ news) (hoc : o.cls = .type "tuple") (hod : o.data = .seq vs.toArray k) (F : Fr h₀ env.locals s.heap m₀) (N : News h₀ env.locals s.heap news) (hj : J m₀ news 0 m₀ news)
    (turn : ∀ I i v m₁ news₁ h tk oI, oI.cls = .type "tuple_iterator" → vs[i]? = some v → J m₀ news i m₁ news₁ → (∀ p ∈ news₁, p.1 ≠ I) → (D, o) ∈ news₁ → Fr h₀ env.locals h m₁ → News h₀ env.locals h ((I, oI) :: news₁) →
      wpAny (model prog w) A (assign target env v) (fun _ s₃ => wpAny (model prog w) A (execs body env) (TPost h₀ env.locals I oI [(D, o)] (J m₀ news (i + 1)) { s with heap := h, toks := tk } Q) E s₃) E { s with heap := h, toks := tk })
    (done : ∀ m₁ news₁ h tk, J m₀ news vs.length m₁ news₁ → (D, o) ∈ news₁ → Fr h₀ env.locals h m₁ → News h₀ env.locals h news₁ → Q .next { s with heap := h, toks := tk }) :
    wpAny (model prog w) A (pyIter (.ref D)) (fun it s₂ => TurnsAt prog w A h₀ env target body Q E it s₂) E s := by
  have hls : s.heap.IsTuple D vs.toArray := ⟨_, (N _ hD).1, hoc, k, hod⟩
  have hlt : D < s.heap.objs.size := Heap.lt_size (N _ hD).1
  have hne : D ≠ s.heap.objs.size := Nat.ne_of_lt hlt
  refine wpAny_pyIter_tuple hls ?_
  have W := Walks.tuple (prog := prog) (w := w) hh s.heap.objs.size D hne vs.toArray
  have hlen : vs.toArray.size = vs.length := by simp
  rw [hlen] at W
  refine turns_led (cn := "tuple_iterator") [(D, o)] (J m₀ news) W (fun i v s Q E st q => letGo_tupleiter st.1 q) ?_ (next_is_new F) ?_ ?_ ?_ ⟨⟨_, Heap.get?_push_size _ rfl, rfl, rfl⟩, hls.at fun o e => Heap.get?_push_of_some _ e⟩ (F.push _) (fun p hp => ⟨Heap.get?_push_of_some _ (N p hp).1, (N p hp).2⟩) ?_ hj ?_ ?_
  · intro b hb
    rcases List.mem_cons.mp hb with e | hb
    · exact .inl e
    · rw [List.mem_singleton.mp hb]; exact .inr (.inr ⟨_, List.mem_singleton.mpr rfl⟩)
  · rintro i h ⟨⟨o, ho, hc, _⟩, _⟩; exact ⟨o, ho, hc⟩
  · intro hm
    rcases List.mem_cons.mp hm with e | hm
    · exact absurd F.ns.lt (e ▸ Nat.lt_irrefl _)
    · exact (N _ hD).2.1 (List.mem_singleton.mp hm).symm
  · intro p hp e; exact absurd (Heap.lt_size (N p hp).1) (e ▸ Nat.lt_irrefl _)
  · intro p hp; rw [List.mem_singleton.mp hp]; exact hD
  · intro i v m₁ news₁ h tk oI hoc hin hP hJ hoff hk F₁ N₁
    exact turn _ i v m₁ news₁ h tk oI hoc (by simpa using hP) hJ hoff (hk _ (List.mem_singleton.mpr rfl)) F₁ N₁
  · intro m₁ news₁ h tk hJ hk F₁ N₁
    exact done m₁ news₁ h tk hJ (hk _ (List.mem_singleton.mpr rfl)) F₁ N₁

theorem letGo_name {x : Str} {px : Pos} {I v : Value} {Q' : Unit → Shared → Prop} (q : Q' () s) : wpAny (model prog w) A (letOwnedTupleGo (.Name x px) I v) Q' E s := by
  unfold letOwnedTupleGo; exact wpAny_pure q
/-- over range(a, b) -/
theorem turns_range {x : Str} {px : Pos} {r : Addr} {a b : Int} {ta tb tc : Tok} {m₀ : Mp} {news : Led} (J : Mp → Led → Nat → Mp → Led → Prop)
    (hh : A.handled = none) (hr : IsRange s.heap r a b 1 ta tb tc) (hlo : -1000 ≤ a) (hhi : b ≤ 1000) (hab : a ≤ b) (F : Fr h₀ env.locals s.heap m₀) (N : News h₀ env.locals s.heap news) (hj : J m₀ news 0 m₀ news)
    (turn : ∀ I i v m₁ news₁ h tk oI, oI.cls = .type "range_iterator" → i < (b - a).toNat → v = a + (i : Int) → (J m₀ news i m₁ news₁) → (∀ p ∈ news₁, p.1 ≠ I) → Fr h₀ env.locals h m₁ → News h₀ env.locals h ((I, oI) :: news₁) →
      ∀ u, wpAny (model prog w) A (assign (.Name x px) env (.int v u)) (fun _ s₃ => wpAny (model prog w) A (execs body env) (TPost h₀ env.locals I oI [] (J m₀ news (i + 1)) { s with heap := h, toks := tk } Q) E s₃) E { s with heap := h, toks := tk })
    (done : ∀ m₁ news₁ h tk, J m₀ news (b - a).toNat m₁ news₁ → Fr h₀ env.locals h m₁ → News h₀ env.locals h news₁ → Q .next { s with heap := h, toks := tk }) :
    wpAny (model prog w) A (pyIter (.ref r)) (fun it s₂ => TurnsAt prog w A h₀ env (.Name x px) body Q E it s₂) E s := by
  have hsz : Builtin.Range.rangeSize a b 1 = ((b - a).toNat : Int) := by rw [rangeSize_one]; split <;> omega
  refine wpAny_pyIter_range hr (small_one ?_ ?_ ?_ ?_) ?_
  all_goals try omega
  rw [hsz]
  have W := Walks.range (prog := prog) (w := w) (A := A) hh s.heap.objs.size a 1 (b - a).toNat
  refine turns_led [] (J m₀ news) W (fun i v s Q E st q => letGo_name q) (fun b hb => .inl (List.mem_singleton.mp hb)) (next_is_new F) (fun i h st => ⟨_, st, rfl⟩) ?_ ?_ ?_ (F.push _) (fun p hp => ⟨Heap.get?_push_of_some _ (N p hp).1, (N p hp).2⟩) (fun p hp => nomatch hp) hj ?_ ?_
  · intro hm; exact absurd F.ns.lt (List.mem_singleton.mp hm ▸ Nat.lt_irrefl _)
  · intro p hp e; exact absurd (Heap.lt_size (N p hp).1) (e ▸ Nat.lt_irrefl _)
  · have e1 : (a + ((0 : Nat) : Int) * 1) = a := by simp
    have e2 : (((b - a).toNat : Int) - ((0 : Nat) : Int)) = ((b - a).toNat : Int) := by simp
    rw [e1, e2]
    exact Heap.get?_push_size _ rfl
  · rintro i v m₁ news₁ h tk oI hoc hin ⟨u, rfl⟩ hJ hoff hk F₁ N₁
    exact turn _ i _ m₁ news₁ h tk oI hoc hin (by omega) hJ hoff F₁ N₁ u
  · intro m₁ news₁ h tk hJ hk F₁ N₁
    exact done m₁ news₁ h tk hJ F₁ N₁
end
/-- locals with some names open -/
noncomputable def over (names : List Str) (u m₀ : Mp) : Mp := fun z => names.foldr (fun a r => if z = a then u z else r) (m₀ z)
theorem eq_over {names : List Str} {m m₀ : Mp} (h : ∀ z, z ∉ names → m z = m₀ z) : m = over names m m₀ := by
  funext z
  unfold over
  induction names with
  | nil => exact h z (by simp)
  | cons a r ih =>
    simp only [List.foldr_cons]
    by_cases e : z = a
    · simp [e]
    · rw [if_neg e]
      by_cases hr : z ∈ r
      · clear ih h
        induction r with
        | nil => cases hr
        | cons b q ihq =>
          simp only [List.foldr_cons]
          by_cases e2 : z = b
          · simp [e2]
          · rw [if_neg e2]
            rcases List.mem_cons.mp hr with rfl | hr
            · exact absurd rfl e2
            · exact ihq hr
      · have := h z (by simp [e, hr])
        rw [this]
        clear ih h this
        induction r with
        | nil => rfl
        | cons b q ihq =>
          simp only [List.foldr_cons]
          rw [if_neg (fun e2 => hr (by simp [e2]))]
          exact ihq (fun h => hr (by simp [h]))
theorem eq_at {x : Str} {v : Value} {m m' : Mp} (h : m x = some v) (e : m = m') : m = fun z => if z = x then some v else m' z := by
  funext z
  by_cases hz : z = x
  · rw [if_pos hz, hz, h]
  · rw [if_neg hz, e]
theorem units_under_make (A : Around) (C : Addr) (vals : List Value) : (A.under (.builtin "type.__call__" ⟨.ref C :: vals, []⟩)).units = A.units + 1 := by
  first | rfl | simp [Around.under, Code.cUnits, Code.frames, Code.isFrame]
end
section
open PySem PySem.W PySem.Calls PyProof.Rows PySem.Builtin PySem.Builtin.Str
noncomputable abbrev mk (l : List Nat) : Str := ⟨l.toArray⟩
theorem mk_append (a b : List Nat) : mk a ++ mk b = mk (a ++ b) := Str.ext' (by rw [Str.cps_append]; simp)
theorem mk_len (a : List Nat) : (mk a).length = a.length := by show a.toArray.size = _; simp
theorem dots_mk : Str.ofString "..." = mk [46, 46, 46] := by decide +kernel
theorem at_iff (x : Str) (y : List Nat) (hi i : Nat) : StrLaws.At x (mk y) hi i ↔ i + y.length ≤ hi ∧ (x.cps.toList.drop i).take y.length = y := by
  unfold StrLaws.At
  rw [StrLaws.subAt_eq, mk_len]
  simp
theorem at_dot {x : Str} {hi i : Nat} (h : StrLaws.At x (mk [46, 46, 46]) hi i) : x.cps.toList[i]? = some 46 := by
  have := congrArg (·[0]?) ((at_iff _ _ _ _).mp h).2
  simpa using this
theorem sub_mk (x : Str) (a c : Nat) : strSub x a c = mk ((x.cps.toList.drop a).take (c - a)) := by
  refine Str.ext' (Array.toList_inj.mp ?_)
  rw [StrLaws.strSub_toList]
theorem x_len (x : Str) : x.cps.toList.length = x.length := by simp [Str.length]
theorem parts_pieces (x : Str) : ∀ (ps : List (List Nat)) (last : List Nat) (a f : Nat) (cuts : List Nat), (∀ p ∈ ps, 46 ∉ p) → 46 ∉ last → x.cps.toList.drop a = ps.flatMap (· ++ [46, 46, 46]) ++ last → a ≤ x.length →
    StrLaws.ChainG x (mk [46, 46, 46]) x.length a cuts f → (∀ k, f ≤ k → ¬ StrLaws.At x (mk [46, 46, 46]) x.length k) → StrLaws.partsFrom x 3 a cuts = ps.map mk ++ [mk last]
  | [], last, a, f, [], _, _, hd, ha, _, _ => by
    show [strSub x a x.length] = _
    rw [sub_mk, hd, List.take_of_length_le]
    · rfl
    · have := congrArg List.length hd
      rw [List.length_drop, x_len] at this
      omega
  | [], last, a, f, c :: r, _, hl, hd, _, hc, _ => by
    exfalso
    have h := at_dot hc.2.1
    have e : (x.cps.toList.drop a)[c - a]? = some 46 := by
      rw [List.getElem?_drop, show a + (c - a) = c from by have := hc.1; omega]; exact h
    rw [hd] at e
    exact hl (by simpa using List.mem_of_getElem? e)
  | p :: ps, last, a, f, cuts, hp, hl, hd, ha, hc, hn => by
    have hd' : x.cps.toList.drop a = p ++ ([46, 46, 46] ++ (ps.flatMap (· ++ [46, 46, 46]) ++ last)) := by rw [hd]; simp
    have hlen : x.length - a = p.length + (3 + ((ps.flatMap (· ++ [46, 46, 46]) ++ last).length)) := by
      have := congrArg List.length hd'
      rw [List.length_drop, x_len, List.length_append, List.length_append] at this
      exact this
    have hdrop : x.cps.toList.drop (a + p.length) = [46, 46, 46] ++ (ps.flatMap (· ++ [46, 46, 46]) ++ last) := by
      rw [← List.drop_drop, hd', List.drop_left]
    have hA : StrLaws.At x (mk [46, 46, 46]) x.length (a + p.length) := (at_iff _ _ _ _).mpr ⟨by simp; omega, by rw [hdrop]; rfl⟩
    have hb : ∀ k, a ≤ k → k < a + p.length → ¬ StrLaws.At x (mk [46, 46, 46]) x.length k := fun k h1 h2 h => by
      have e : (x.cps.toList.drop a)[k - a]? = some 46 := by
        rw [List.getElem?_drop, show a + (k - a) = k from by omega]; exact at_dot h
      rw [hd', List.getElem?_append_left (by omega)] at e
      exact hp p (.head _) (List.mem_of_getElem? e)
    match cuts, hc with
    | [], hc =>
      have e : f = a := hc
      exact absurd hA (hn _ (by omega))
    | c :: r, hc =>
      obtain ⟨h1, h2, h3, h4⟩ := hc
      have e : c = a + p.length := by
        by_cases q1 : c < a + p.length
        · exact absurd h2 (hb c h1 q1)
        · by_cases q2 : a + p.length < c
          · exact absurd hA (h3 _ (by omega) q2)
          · omega
      subst e
      show strSub x a (a + p.length) :: StrLaws.partsFrom x 3 (a + p.length + 3) r = _
      rw [parts_pieces x ps last (a + p.length + 3) f r (fun q hq => hp q (.tail _ hq)) hl (by rw [← List.drop_drop, hdrop]; rfl) (by omega) h4 hn, sub_mk, hd']
      simp
theorem split_pieces (ps : List (List Nat)) (last : List Nat) (hp : ∀ p ∈ ps, 46 ∉ p) (hl : 46 ∉ last) (hne : ps ≠ []) :
    (occurrences (mk (ps.flatMap (· ++ [46, 46, 46]) ++ last)) (mk [46, 46, 46]) 0 (mk (ps.flatMap (· ++ [46, 46, 46]) ++ last)).length 1).isEmpty = false ∧
    Txt.split (mk (ps.flatMap (· ++ [46, 46, 46]) ++ last)) (mk [46, 46, 46]) = ps.map mk ++ [mk last] := by
  generalize hx : mk (ps.flatMap (· ++ [46, 46, 46]) ++ last) = x
  have hd : x.cps.toList = ps.flatMap (· ++ [46, 46, 46]) ++ last := by rw [← hx]
  obtain ⟨p, ps', rfl⟩ := List.exists_cons_of_ne_nil hne
  have hd' : x.cps.toList = p ++ ([46, 46, 46] ++ (ps'.flatMap (· ++ [46, 46, 46]) ++ last)) := by rw [hd]; simp
  have hlen : x.length = p.length + (3 + ((ps'.flatMap (· ++ [46, 46, 46]) ++ last).length)) := by
    have := congrArg List.length hd'
    rw [x_len, List.length_append, List.length_append] at this
    exact this
  have hA : StrLaws.At x (mk [46, 46, 46]) x.length p.length := (at_iff _ _ _ _).mpr ⟨by simp; omega, by rw [hd', List.drop_left]; rfl⟩
  have h1 := (StrLaws.found_iff x (mk [46, 46, 46])).mpr ⟨p.length, hA.1, hA.2⟩
  obtain ⟨f, hG, hn⟩ := StrLaws.occ_tight x (mk [46, 46, 46]) (by decide)
  have key := parts_pieces x (p :: ps') last 0 f _ hp hl (by rw [List.drop_zero]; exact hd) (Nat.zero_le _) hG hn
  refine ⟨by simpa using h1, ?_⟩
  unfold Txt.split
  rw [if_neg, if_neg]
  · rw [StrLaws.partsBetween_eq]; exact key
  · intro he
    have : occurrences x (mk [46, 46, 46]) 0 x.length (x.length + 1) = [] := by simpa using he
    rw [this] at hG
    have e : f = 0 := hG
    exact hn p.length (by omega) hA
  · simp only [Bool.or_eq_true, decide_eq_true_eq, not_or, Nat.not_lt]
    refine ⟨by show 3 ≤ x.length; omega, ?_⟩
    have e : Builtin.Str.strKind (mk [46, 46, 46]) = 1 := by decide +kernel
    rw [e]
    unfold Builtin.Str.strKind
    split
    · exact Nat.le_refl _
    · split <;> decide
theorem fromIdx (n i : Nat) : fromIndex n (i : Int) = i := by unfold fromIndex; split <;> omega
theorem find4_nil (x : Str) (sp ep : Nat) (h : sp ≤ ep) (he : ep ≤ x.length) : find4 x (mk []) sp ep = sp := by
  unfold find4
  rw [fromIdx, fromIdx, Nat.min_eq_left he, StrLaws.occ_eq]
  have hA : StrLaws.At x (mk []) ep sp := (at_iff _ _ _ _).mpr ⟨by simpa using h, by simp⟩
  rcases StrLaws.occ_first x (mk []) ep 1 (Nat.le_refl 1) (List.range' sp (ep + 1 - sp)) sp (fun i hi => by have := List.mem_range'_1.mp hi; omega) with ⟨h0, hn⟩ | ⟨pre, a, post, e, h0, ha, hn⟩
  · exact absurd hA (hn sp (by rw [List.mem_range'_1]; omega))
  · have hs := StrLaws.range'_split_from e
    have : a = sp := by
      by_cases q : sp < a
      · exact absurd hA (hn sp (hs.2 sp (Nat.le_refl _) q))
      · omega
    subst this
    generalize (forIn (List.range' a (ep + 1 - a)) ((#[] : Array Nat), a) (StrLaws.occBody x (mk []) ep 1)).run.fst = arr at h0
    have h1 : arr.toList[0]? = some a := by simpa using h0
    cases hL : arr.toList with
    | nil => rw [hL] at h1; cases h1
    | cons b t => rw [hL] at h1; simp at h1; rw [h1]
end
/-- where the walk is to stop -/
theorem stopHere {P : Prop} (h : id P) : P := h
local macro_rules | `(tactic| k_mem) => `(tactic| (first | with_reducible assumption | assumption))
local macro_rules | `(tactic| k_all) => `(tactic| first | exact lt_ne (by (first | with_reducible assumption | assumption)) | exact allLt_ne (by (first | with_reducible assumption | assumption)) | exact lt_ne1 (by (first | with_reducible assumption | assumption)) | exact lt_ne2 (by (first | with_reducible assumption | assumption)))
local macro_rules | `(tactic| k_inst) => `(tactic| (refine' InstAt.acc ?aN ?a1 ?a2; (case aN => k_asm); (case a1 => k_mem); (case a2 => k_mem)))
local macro_rules | `(tactic| walk_at "gclaim") => `(tactic| ((try (case gB => k_asm)); (try (case gF => k_asm)); (try (case gX => k_asm)); (try (case gN => k_asm)); (try (case gT => k_asm)); (try (case gk => first | exact rfl | (first | with_reducible assumption | assumption))); (try (case gd => ktr_room)); (try (case gu => first | ktr_units | ((simp only [units_deeper, units_under_make]); ktr_units)))))
local macro_rules | `(tactic| k_all) => `(tactic| (first | with_reducible assumption | assumption))
section
open PySem PySem.W PySem.Calls PyProof.Rows PySem.Builtin PySem.Builtin.Str
section
set_option maxHeartbeats 1000000 in
theorem conv_ok (w : World) (mean) (mg mb) (x : Str) (t : Tok) (o : Value) (b : Bool) (hx : Clean x) :
    GClaim1 w mean mg mb 2 174 [o, .str x t] [(Str.ofString "name", .bool b)] (fun _ _ => True) (fun h₀ L m news K => ∀ h' tk', Fr h₀ L h' m → News h₀ L h' news → K (.str x t) h' tk') := by
  unfold GClaim1 prog1
  k_fill
  intros; rename_i hpre hdp hun hret
  dsimp only at hret
  have P48 : PatIn (Mine.K1 w.params) 139 := ⟨_, _, 138, _, by k_is, rfl, rfl, rfl, by k_is, .inl (by decide +kernel)⟩
  have P53 : PatIn (Mine.K1 w.params) 144 := ⟨_, _, 143, _, by k_is, rfl, rfl, rfl, by k_is, .inr (by decide +kernel)⟩
  refine wpAny_call ?_
  k_dflt (first | (refine' code_def ?k1 ?k2 ?k3 ?k4 ?k5 ?kA ?kF ?kK ?k6 ?k7 ?k8 ?k9 ?kB ?_ ?c2 ?c3 ?c4 ?c5; (case kA => exact rfl); (case kF => exact rfl); (case kK => (first | with_reducible assumption | assumption)); (case k1 => k_asm); (case k2 => k_asm); (case k3 => k_asm); (case k4 => k_asm); (case k5 => k_asm); (case k6 => k_is); (case k7 => k_is); (case k8 => ktr_room); (case k9 => exact binds_K (by k_in) rfl (by k_is) rfl rfl rfl); (case c5 => decide); (case kB => exact locs rfl); (case c2 => exact rfl); (case c3 => exact rfl); (case c4 => exact rfl); k_whole; intro g' L' h' FG' F' N' B' X' T'; (try dsimp only); (try k_lift B'); (try k_fold)) | (refine' ks_code_super ?k1 ?k2 ?k3 ?k4 ?k5 ?kA ?kF ?kK ?k6 ?k7 ?k8 ?k9 ?kB ?_ ?c1 ?c2 ?c3 ?c4; (case kA => exact rfl); (case kF => exact rfl); (case kK => first | exact rfl | (first | with_reducible assumption | assumption)); (case k1 => k_asm); (case k2 => k_asm); (case k3 => k_asm); (case k4 => k_asm); (case k5 => k_asm); (case k6 => k_is); (case k7 => k_is); (case k8 => ktr_room); (case k9 => first | exact BindsTo.of_eq rfl | exact binds_K (by k_in) rfl (by k_is) rfl rfl rfl); (case kB => exact locs rfl); (case c1 => decide); (case c2 => exact rfl); (case c3 => exact rfl); (case c4 => exact rfl); intro g' L' h' FG' F' N' B' X' T' lc1; (try k_lt lc1); (try dsimp only); (try k_lift B')) | (refine' code_defC ?k1 ?k2 ?k3 ?k4 ?k5 ?kA ?kF ?kK ?k6 ?k7 ?k8 ?k9 ?kB ?kD ?_ ?c2 ?c3 ?c4; (case kA => exact rfl); (case kF => exact rfl); (case kK => first | exact rfl | (first | with_reducible assumption | assumption)); (case k1 => k_asm); (case k2 => k_asm); (case k3 => k_asm); (case k4 => k_asm); (case k5 => k_asm); (case k6 => k_is); (case k7 => k_is); (case k8 => ktr_room); (case k9 => first | exact BindsTo.of_eq rfl | exact binds_K (by k_in) rfl (by k_is) rfl rfl rfl | fail "k_enter: no rule for these arguments"); (case kB => exact rfl); (case kD => decide +kernel); (case c2 => exact rfl); (case c3 => exact rfl); (case c4 => exact rfl); k_whole; intro g' L' h' tk' cells' FG' F' N' Y' B' X' T' lc1; (try k_lt lc1); k_cells Y'; (try simp only [List.cons_append, List.nil_append] at N'); (try dsimp only); (try k_lift B'); (try k_fold)) | cell_enter)
  repeat' (first | (k_unfold; (try dsimp only)) | (k_end; wrow_close) | (with_reducible (first | (k_here; (with_reducible show wpAny _ _ (call (Value.builtin "re.Pattern.search") _ _) _ _ _); k_dflt (refine' re_search_K ?F_2 ?X_2 ?P_2 ?x_2 ?_; (case F_2 => k_asm); (case X_2 => k_asm); (case P_2 => (first | with_reducible assumption | assumption)); (case x_2 => (first | with_reducible assumption | assumption)))) | (k_here; (with_reducible show wpAny _ _ (getMethod (Value.ref _) (Str.ofString "search") _) _ _ _); k_dflt (refine' re_method_K ?F_1 ?X_1 ?P_1 ?_; (case F_1 => k_asm); (case X_1 => k_asm); (case P_1 => (first | with_reducible assumption | assumption)))))) | walk1 | (dsimp only; first | (with_reducible (first | (k_here; (with_reducible show wpAny _ _ (call (Value.builtin "re.Pattern.search") _ _) _ _ _); k_dflt (refine' re_search_K ?F_2 ?X_2 ?P_2 ?x_2 ?_; (case F_2 => k_asm); (case X_2 => k_asm); (case P_2 => (first | with_reducible assumption | assumption)); (case x_2 => (first | with_reducible assumption | assumption)))) | (k_here; (with_reducible show wpAny _ _ (getMethod (Value.ref _) (Str.ofString "search") _) _ _ _); k_dflt (refine' re_method_K ?F_1 ?X_1 ?P_1 ?_; (case F_1 => k_asm); (case X_1 => k_asm); (case P_1 => (first | with_reducible assumption | assumption)))))) | walk1) | (leave1; try dsimp only) | fail "no step")
  all_goals exact hret _ _ (by k_asm) (by k_asm)
end
end
section
local macro_rules | `(tactic| k_all) => `(tactic| first | exact lt_ne (by (first | with_reducible assumption | assumption)) | exact allLt_ne (by (first | with_reducible assumption | assumption)))
open PySem PySem.W PySem.Calls PyProof.Rows PySem.Builtin PySem.Builtin.Str

set_option maxHeartbeats 4000000 in
theorem em_ok (w : World) (mean) (mg mb) (news) (want got : Str) (t1 t2 : Tok) : Claim1 w mean mg mb 45 news [] (want.length ≤ 1000 ∧ got.length ≤ 1000) [.str want t1, .str got t2] (fun _ => .bool (em want got)) := by
  unfold Claim1 prog1
  k_fill
  dsimp only [CbClaim, CbLists, CbRet]; intros; rename_i hpre hdp hun hret
  obtain ⟨hp1, hp2⟩ := hpre
  refine wpAny_call ?_
  k_dflt ktr_enter
  repeat' (first | (k_unfold; (try dsimp only)) | (k_end; wrow_close) | (with_reducible (first | (k_here; (with_reducible show wpAny _ _ (exec (Stmt.For (Expr.Name _ _) (Expr.Name _ _) _ _ _) _) _ _ _); (rename Fr _ _ _ _ => lF'); k_dflt (refine' For_invVF lF' ?k1_7 ?k2_7 ?_; (case k1_7 => exact rfl); (case k2_7 => exact rfl)); k_whole) | (k_here; (with_reducible show wpAny _ _ (delItem _ (Value.int (-1) _)) _ _ _); k_dflt (refine' led_delL ?F_6 ?N_6 ?U_6 ?e_6 ?z_6 ?_; (case F_6 => k_asm); (case N_6 => k_asm); (case U_6 => k_upd); (case e_6 => first | exact snoc_cs | rfl); (case z_6 => (simp only [strValues, List.length_map, List.length_cons, List.length_append, List.length_nil, sizeLine_eq]; omega)); intro h' F' N')) | (k_here; (with_reducible show wpAny _ _ (delItem _ (Value.int 0 _)) _ _ _); k_dflt (refine' led_del0 ?F_5 ?N_5 ?U_5 ?e_5 ?z_5 ?_; (case F_5 => k_asm); (case N_5 => k_asm); (case U_5 => k_upd); (case e_5 => rfl); (case z_5 => (simp only [strValues, List.length_map, List.length_cons, List.length_append, List.length_nil, sizeLine_eq]; omega)); intro h' F' N')) | (k_here; (with_reducible show wpAny _ _ (call (Value.builtin "len") [Value.ref _]) _ _ _); k_dflt (refine' len_r ?N_4 ?m_4 ?x_4 ?z_4 ?_; (case N_4 => k_asm); (case m_4 => k_mem); (case x_4 => (simp only [List.length_cons, List.length_append, List.length_nil, Nat.zero_add]; rfl)); (case z_4 => (simp only [strValues, List.length_map, sizeLine_eq]; omega)); intro _ _)) | (k_here; (with_reducible show wpAny _ _ (truthy (Value.str _ _)) _ _ _); k_dflt (refine truth_str (by omega) ?_; intro _)) | (k_here; (with_reducible show wpAny _ _ (subscriptTail (Expr.Name _ _) (Expr.UnaryOp _ _ _) (Value.ref _) (Value.int _ _)) _ _ _); k_dflt (refine' led_itemL ?N_2 ?m_2 ?x_2 ?_; (case N_2 => k_asm); (case m_2 => k_mem); (case x_2 => first | exact last_s | exact last_cs))) | (k_here; (with_reducible show wpAny _ _ (subscriptTail (Expr.Name _ _) (Expr.Constant _ _ _) (Value.ref _) (Value.int _ _)) _ _ _); k_dflt (refine' led_item0 ?N_1 ?m_1 ?x_1 ?_; (case N_1 => k_asm); (case m_1 => k_mem); (case x_1 => rfl))) | (k_here; (with_reducible show wpAny _ _ (call (Value.builtin "str.split") [Value.str _ _, Value.str _ _]) _ _ _); k_dflt ((rename_i hocc); refine' KSpl.split1 ?F_0 ?N_0 ?y_0 ?_ ?z_0; (case F_0 => k_asm); (case N_0 => k_asm); (case y_0 => decide); (case z_0 => (rw [sizeLine_eq]; omega)); intro D l h' k e a F' N' lc1; (clear a); obtain ⟨a, ta, mid, b, tb, hs, hem, hla, hlb, hlm, hlp⟩ := split_shape _ l e hocc; (rw [hs] at N'); (clear hs); (try k_lt lc1))))) | walk1 | (dsimp only; first | (with_reducible (first | (k_here; (with_reducible show wpAny _ _ (exec (Stmt.For (Expr.Name _ _) (Expr.Name _ _) _ _ _) _) _ _ _); (rename Fr _ _ _ _ => lF'); k_dflt (refine' For_invVF lF' ?k1_7 ?k2_7 ?_; (case k1_7 => exact rfl); (case k2_7 => exact rfl)); k_whole) | (k_here; (with_reducible show wpAny _ _ (delItem _ (Value.int (-1) _)) _ _ _); k_dflt (refine' led_delL ?F_6 ?N_6 ?U_6 ?e_6 ?z_6 ?_; (case F_6 => k_asm); (case N_6 => k_asm); (case U_6 => k_upd); (case e_6 => first | exact snoc_cs | rfl); (case z_6 => (simp only [strValues, List.length_map, List.length_cons, List.length_append, List.length_nil, sizeLine_eq]; omega)); intro h' F' N')) | (k_here; (with_reducible show wpAny _ _ (delItem _ (Value.int 0 _)) _ _ _); k_dflt (refine' led_del0 ?F_5 ?N_5 ?U_5 ?e_5 ?z_5 ?_; (case F_5 => k_asm); (case N_5 => k_asm); (case U_5 => k_upd); (case e_5 => rfl); (case z_5 => (simp only [strValues, List.length_map, List.length_cons, List.length_append, List.length_nil, sizeLine_eq]; omega)); intro h' F' N')) | (k_here; (with_reducible show wpAny _ _ (call (Value.builtin "len") [Value.ref _]) _ _ _); k_dflt (refine' len_r ?N_4 ?m_4 ?x_4 ?z_4 ?_; (case N_4 => k_asm); (case m_4 => k_mem); (case x_4 => (simp only [List.length_cons, List.length_append, List.length_nil, Nat.zero_add]; rfl)); (case z_4 => (simp only [strValues, List.length_map, sizeLine_eq]; omega)); intro _ _)) | (k_here; (with_reducible show wpAny _ _ (truthy (Value.str _ _)) _ _ _); k_dflt (refine truth_str (by omega) ?_; intro _)) | (k_here; (with_reducible show wpAny _ _ (subscriptTail (Expr.Name _ _) (Expr.UnaryOp _ _ _) (Value.ref _) (Value.int _ _)) _ _ _); k_dflt (refine' led_itemL ?N_2 ?m_2 ?x_2 ?_; (case N_2 => k_asm); (case m_2 => k_mem); (case x_2 => first | exact last_s | exact last_cs))) | (k_here; (with_reducible show wpAny _ _ (subscriptTail (Expr.Name _ _) (Expr.Constant _ _ _) (Value.ref _) (Value.int _ _)) _ _ _); k_dflt (refine' led_item0 ?N_1 ?m_1 ?x_1 ?_; (case N_1 => k_asm); (case m_1 => k_mem); (case x_1 => rfl))) | (k_here; (with_reducible show wpAny _ _ (call (Value.builtin "str.split") [Value.str _ _, Value.str _ _]) _ _ _); k_dflt ((rename_i hocc); refine' KSpl.split1 ?F_0 ?N_0 ?y_0 ?_ ?z_0; (case F_0 => k_asm); (case N_0 => k_asm); (case y_0 => decide); (case z_0 => (rw [sizeLine_eq]; omega)); intro D l h' k e a F' N' lc1; (clear a); obtain ⟨a, ta, mid, b, tb, hs, hem, hla, hlb, hlm, hlp⟩ := split_shape _ l e hocc; (rw [hs] at N'); (clear hs); (try k_lt lc1))))) | walk1) | (leave1; try dsimp only) | fail "no step")
  all_goals try (
    rename Fr _ _ _ _ => FA
    refine Fr.foldc FA ?_
    clear FA
    intro mA FA
    k_dflt (refine' em_loop ?hh ?hv ?hD ?F ?N ?g ?e ?h0 ?hl ?turn ?done)
    case hh => exact rfl
    case F => k_asm
    case N => k_asm
    case hD => k_mem
    case hv => first | exact sv0 | exact sv1 | exact sv2 | exact rfl
    case g => with_unfolding_all rfl
    case e => with_unfolding_all rfl
    case h0 => with_unfolding_all rfl
    case hl =>
      rename (∀ p ∈ (_ : List (Str × Tok)), Str.length p.1 ≤ Str.length want) => hlp
      intro p hp
      (try simp only [List.mem_cons, List.mem_append, List.not_mem_nil, or_false] at hp)
      first
      | (rcases hp with rfl | hp | rfl <;> (try dsimp only) <;> first | omega | (have := hlp _ hp; omega))
      | (rcases hp with rfl | hp <;> (try dsimp only) <;> first | omega | (have := hlp _ hp; omega))
      | (rcases hp with hp | rfl <;> (try dsimp only) <;> first | omega | (have := hlp _ hp; omega))
      | (have := hlp _ hp; omega)
    case turn =>
      intro I oI x t rest sp tsp u h tk hlx hoff hem2 F' N'
      repeat' (first | (k_unfold; (try dsimp only)) | (k_end; wrow_close) | (with_reducible (first | (k_here; (with_reducible show wpAny _ _ (call (Value.builtin "str.find") _ _) _ _ _); k_dflt (refine find4_r ?_)) | (k_here; (with_reducible show TPost _ _ _ _ _ _ _ _ _ _); dsimp only [TPost]))) | walk1 | (dsimp only; first | (with_reducible (first | (k_here; (with_reducible show wpAny _ _ (call (Value.builtin "str.find") _ _) _ _ _); k_dflt (refine find4_r ?_)) | (k_here; (with_reducible show TPost _ _ _ _ _ _ _ _ _ _); dsimp only [TPost]))) | walk1) | (leave1; try dsimp only) | fail "no step")
      · rename (∀ g, em want g = _) => hem
        refine cb_retB hret ?_ (by k_asm) (by first | k_asm | (refine' cb_drop ?cbN ?cbS; (case cbN => assumption); (case cbS => (intro p hp; first | exact .tail _ hp | exact .tail _ (.tail _ hp) | exact .tail _ (.tail _ (.tail _ hp)) | exact .tail _ (.tail _ (.tail _ (.tail _ hp)))))))
        refine ((hem _).trans (Eq.trans ?_ (hem2.trans (if_pos (by assumption))))).symm
        first
        | with_reducible exact em_L0 (by assumption) (by assumption)
        | with_reducible exact em_L1 (by assumption) (by assumption) (by assumption) (by assumption)
        | with_reducible exact em_L2 (by assumption) (by assumption) (by assumption) (by assumption)
        | with_reducible exact em_L3 (by assumption) (by assumption) (by assumption) (by assumption) (by assumption)
        | exact em_L0 (by assumption) (by assumption)
        | exact em_L1 (by assumption) (by assumption) (by assumption) (by assumption)
        | exact em_L2 (by assumption) (by assumption) (by assumption) (by assumption)
        | exact em_L3 (by assumption) (by assumption) (by assumption) (by assumption) (by assumption)
      · refine ⟨_, _, _, _, rfl, by k_asm, by k_asm, hoff, ?_, rfl, ?_, ⟨_, by with_unfolding_all rfl⟩, ?_⟩
        · intro p hp; rw [List.mem_singleton.mp hp]; k_mem
        · assumption
        · intro z h1 h2; simp [h1, h2]
    case done =>
      intro m' h tk hem2 F' N'
      repeat' (first | (k_unfold; (try dsimp only)) | (k_end; wrow_close) | walk1 | (dsimp only; first | walk1) | (leave1; try dsimp only) | fail "no step")
      rename (∀ g, em want g = _) => hem
      refine cb_retB hret ?_ (by k_asm) (by first | k_asm | (refine' cb_drop ?cbN ?cbS; (case cbN => assumption); (case cbS => (intro p hp; first | exact .tail _ hp | exact .tail _ (.tail _ hp) | exact .tail _ (.tail _ (.tail _ hp)) | exact .tail _ (.tail _ (.tail _ (.tail _ hp)))))))
      refine ((hem _).trans (Eq.trans ?_ hem2)).symm
      first
      | with_reducible exact em_L0 (by assumption) (by assumption)
      | with_reducible exact em_L1 (by assumption) (by assumption) (by assumption) (by assumption)
      | with_reducible exact em_L2 (by assumption) (by assumption) (by assumption) (by assumption)
      | with_reducible exact em_L3 (by assumption) (by assumption) (by assumption) (by assumption) (by assumption)
      | exact em_L0 (by assumption) (by assumption)
      | exact em_L1 (by assumption) (by assumption) (by assumption) (by assumption)
      | exact em_L2 (by assumption) (by assumption) (by assumption) (by assumption)
      | exact em_L3 (by assumption) (by assumption) (by assumption) (by assumption) (by assumption))
  · refine cb_retB hret ?_ (by k_asm) (by k_asm)
    unfold em
    rw [if_pos (by assumption)]
  all_goals (
    rename (∀ g, em want g = _) => hem
    refine cb_retB hret ?_ (by k_asm) (by first | k_asm | (refine' cb_drop ?cbN ?cbS; (case cbN => assumption); (case cbS => (intro p hp; first | exact .tail _ hp | exact .tail _ (.tail _ hp) | exact .tail _ (.tail _ (.tail _ hp)) | exact .tail _ (.tail _ (.tail _ (.tail _ hp)))))))
    refine ((hem _).trans ?_).symm
    first
    | with_reducible exact em_c1 (by assumption) (by assumption)
    | with_reducible exact em_c2 (by assumption) (by assumption) (by assumption)
    | with_reducible exact em_c3 (by assumption) (by assumption) (by assumption) (by assumption)
    | with_reducible exact em_c4 (by assumption) (by assumption) (by assumption) (by assumption)
    | with_reducible exact em_c5 (by assumption) (by assumption) (by assumption) (by assumption)
    | with_reducible exact em_c6 (by assumption) (by assumption) (by assumption) (by assumption) (by assumption)
    | exact em_c1 (by assumption) (by assumption)
    | exact em_c2 (by assumption) (by assumption) (by assumption)
    | exact em_c3 (by assumption) (by assumption) (by assumption) (by assumption)
    | exact em_c4 (by assumption) (by assumption) (by assumption) (by assumption)
    | exact em_c5 (by assumption) (by assumption) (by assumption) (by assumption)
    | exact em_c6 (by assumption) (by assumption) (by assumption) (by assumption) (by assumption))
end
section
open PySem PySem.W PySem.Calls PyProof.Rows PySem.Builtin
/-- a code object's table -/
noncomputable abbrev tabO (ps : Array Value) : Obj := { cls := .none, data := .fields ps }
noncomputable def CodeK (K : Frag) (c Pt : Addr) : Prop := ∃ o vs file tf flags tg inF text tt, K.lookup c = some o ∧ o.cls = .type "code" ∧ o.data = .fields vs ∧ vs[11]? = some (.ref Pt) ∧ vs.getD 11 .none = .ref Pt ∧ vs.getD 18 .none = .str file tf ∧ vs.getD 7 .none = .int flags tg ∧ vs.getD 9 .none = .bool inF ∧ vs.getD 10 .none = .int text tt
section
variable {prog : Program} {w : World} {A : Around} {E : Value → Shared → Prop} {s : Shared} {K : Frag} {h₀ : Heap} {L P C D c Pt : Addr} {m : Mp} {news : Led} {od : Obj} {n : Nat} {ps : Array Value} {p : Program} {loose : List Str} {mean : ExcName → Option Value} {mg mb : Mp}
theorem passing_all (k : Nat) : passing (fun _ => true) k 0 = List.range k := by unfold passing; simp
theorem WalksS_mono {I : Addr} {fp wr : List Addr} {G : Array GenState → Array GenState → Prop} {n : Nat} {P P' : Nat → Value → Prop} {St : Nat → Shared → Prop} (W : WalksS prog w A I fp wr G n P St) (h : ∀ i v, P i v → P' i v) : WalksS prog w A I fp wr G n P' St where
  sub := W.sub
  grefl := W.grefl
  gtrans := W.gtrans
  frame := W.frame
  item := fun i s Q E hi st hQ => W.item i s Q E hi st fun v s' hp => hQ v s' (h _ _ hp)
  done := W.done
  self := W.self
theorem codeK_at {h : Heap} (H : CodeK K c Pt) (X : K.In h) (ht : h.get? Pt = some (tabO ps)) (ok : TriplesOk ps.toList) (hne : c ≠ Pt) : h.IsCode c Pt ps ∧ h.TableAt c Pt ps := by
  obtain ⟨o, vs, file, tf, flags, tg, inF, text, tt, h1, h2, h3, h4, h5, h6, h7, h8, h9⟩ := H
  exact ⟨⟨o, vs, file, tf, flags, tg, inF, text, tt, _, X _ _ h1, h3, h5, h6, h7, h8, h9, ht, rfl, ok, hne⟩, ⟨⟨o, vs, X _ _ h1, h2, h3, h4⟩, ht⟩⟩
theorem gen_acc {env : Env} {elt iter : Expr} {xa xb : Str} {pa pb pt : Pos} {kt : Nat} {scope : Scope} {cl : List (Str × Addr)} {pos : Pos} {rows : List Row4} {Fv : Row4 → Value → Prop} {Q : Value → Shared → Prop}
    (F : Fr h₀ L s.heap m) (X₀ : K.In h₀) (T : Top p loose mean mg mb h₀) (N : News h₀ L s.heap news) (h1 : (P, accO C D (rows.map fun r => Value.ref r.a) n) ∈ news) (h2 : (D, od) ∈ news) (h3 : ∀ r ∈ rows, r.ent ∈ news)
    (ht : (Pt, tabO ps) ∈ news) (hc : CodeK K c Pt) (ok : TriplesOk ps.toList) (hnf : codeAmong pos ps.toList = none) (G : AllBare s.gens) (hcode : env.code = .ref c) (hglob : env.globals = mainGlobals)
    (hs : findIn K (.ref C) "__iter__" = some (some (.builtin "list.__iter__"))) (hi : subIn K (.ref C) (.type "list") = some true)
    (hh : A.handled = none) (hco : scope.isCoroutine = false) (hclos : closureFor scope env = pure cl) (hcell : ∀ y ∈ scope.names, y.2 ≠ .cell) (h0 : scope.names.lookup (".0" : Str) = some NameKind.local)
    (hxa : scope.names.lookup xa = some .local) (hxb : scope.names.lookup xb = some .local) (hab : xa ≠ xb) (hkind : scope.kind = .function) (hroom : A.depth < recursionLimit)
    (hit : ∀ Q', Q' (.ref P) s → wpAny (model prog w) A (eval iter env) Q' E s)
    (helt : ∀ (c' Cc : Addr) (A' : Around) E' (r : Row4) (t : Shared) m₂, A'.handled = none → r ∈ rows → Fr h₀ Cc t.heap m₂ → m₂ xa = some (.str r.x r.t) → m₂ xb = some (.str r.y r.u) →
      wpAny (model prog w) A' (eval elt (genEnv scope cl Cc (.ref c') builtinsNs env)) (fun y s₃ => Fv r y ∧ Keeps t s₃) E' t)
    (h : ∀ a s₅ c', Fr h₀ L s₅.heap m → News h₀ L s₅.heap ((Pt, tabO (ps ++ #[rawInt pos.line, rawInt pos.col, .ref c'])) :: but Pt news) → AllBare s₅.gens → s₅.os = s.os → s₅.drawn = s.drawn →
      Gen prog w A (s.heap.objs.size - 1) a rows.length (fun j y => ∃ r, rows[j]? = some r ∧ Fv r y) s₅ → Q (.ref a) s₅)
    (hsf : ∀ x, genFold iter env x = pure x) :
    wpAny (model prog w) A (eval (.GeneratorExp elt [⟨.Tuple [.Name xa pa, .Name xb pb] kt pt, iter, [], 0⟩] scope pos) env) Q E s := by
  have X : K.In s.heap := X₀.keeps F.keep
  have I := InstAt.acc N h1 h2
  obtain ⟨bm, ob, M⟩ := bmod_of_top T
  have hcPt : c ≠ Pt := fun e => by
    obtain ⟨o, _, _, _, _, _, _, _, _, hk, _⟩ := hc
    have := X₀ _ _ hk
    rw [e, (N _ ht).2.2] at this; cases this
  have hlim : s.heap.NoLimit := T.nolimit.keeps F.keep
  have hcs : cStatics ≠ Pt := fun e => by
    obtain ⟨_, hns, _⟩ := T.nolimit
    obtain ⟨o, es, ep, ho, hd, _⟩ := hns
    rw [e, (N _ ht).2.2] at ho; cases ho
  have hlt : ∀ q ∈ news, q.1 < s.heap.objs.size := fun q hq => Heap.lt_size (N q hq).1
  have hPI : P ≠ s.heap.objs.size := Nat.ne_of_lt (hlt _ h1)
  have hL : L < s.heap.objs.size := F.ns.lt
  let Ts : Nat → Addr := fun j => ((rows[j]?).map (·.a)).getD 0
  let vals : Nat → Array Value := fun j => ((rows[j]?).map fun r => #[Value.str r.x r.t, Value.str r.y r.u]).getD #[.none, .none]
  have hsz : ((rows.map fun r => Value.ref r.a).toArray).size = rows.length := by simp
  have hTs : ∀ j, j < rows.length → ∃ r, r ∈ rows ∧ rows[j]? = some r ∧ Ts j = r.a ∧ vals j = #[.str r.x r.t, .str r.y r.u] := fun j hj => by
    refine ⟨rows[j], List.getElem_mem hj, List.getElem?_eq_getElem hj, ?_, ?_⟩
    · show ((rows[j]?).map (·.a)).getD 0 = _
      rw [List.getElem?_eq_getElem hj]; rfl
    · show ((rows[j]?).map _).getD _ = _
      rw [List.getElem?_eq_getElem hj]; rfl
  have F2 := F.push { cls := .type "list_iterator", data := .fields #[.ref P, .int 0 0] }
  have N2 : News h₀ L (s.heap.push { cls := .type "list_iterator", data := .fields #[.ref P, .int 0 0] }) news := N.grown fun _ _ e => Heap.get?_push_of_some _ e
  have hsz2 : (s.heap.push { cls := .type "list_iterator", data := .fields #[.ref P, .int 0 0] }).objs.size = s.heap.objs.size + 1 := Heap.size_push ..
  have cod := codeK_at hc (X₀.keeps F2.keep) (N2 _ ht).1 ok hcPt
  refine wpAny_GeneratorExp_walksQTD hh hco hclos hcell h0 hxa hxb hab hkind hroom (hit _ (iter_acc X I hs hi ?_)) hsf
  refine ⟨hlim.push _, wpAny_genexprCodeX hcode cod.1 cod.2 hnf fun c' h₃ tk₃ hx₃ hge hlt₃ hcode₃ _ htab₃ _ => ?_⟩
  have hszz : s.heap.objs.size + 1 ≤ h₃.objs.size := by rw [← hsz2]; exact Nat.le_trans hge (Nat.le_of_lt hlt₃)
  have hPtn : ∀ b o, h₀.get? b = some o → b ≠ Pt := fun b o e e' => by rw [e', (N _ ht).2.2] at e; cases e
  have F3 : Fr h₀ L h₃ m := ⟨F2.ns.extBut hx₃ (Ne.symm (N _ ht).2.1), fun b o e => hx₃ b o (hPtn b o e) (F2.keep b o e), F.above⟩
  have N3 : News h₀ L h₃ ((Pt, tabO (ps ++ #[rawInt pos.line, rawInt pos.col, .ref c'])) :: but Pt news) := fun q hq => by
    rcases List.mem_cons.mp hq with rfl | hq
    · exact ⟨htab₃.2, (N _ ht).2⟩
    · have z := mem_but.mp hq
      exact ⟨hx₃ _ _ z.2 (N2 _ z.1).1, (N2 _ z.1).2⟩
  have M3 : BMod h₃ env.globals mg bm ob := hglob ▸ M.keeps F3.keep
  refine wpAny_builtinsFor M3.ns M3.name M3.ne M3.obj M3.cls M3.dict M3.data ?_
  have hPP : P ≠ Pt := News.ne N h1 ht fun e => by cases congrArg Obj.cls e
  refine ⟨s.heap.objs.size, _, [s.heap.objs.size], _, _, _, _, fun _ => true, fun i y => ∃ r, rows[i]? = some r ∧ Fv r y, rfl,
    fun A' hA => walksAcc hA s.heap.objs.size P hPI (rows.map fun r => Value.ref r.a).toArray Ts vals (fun j hj => ?g1) (fun j hj => ?g2), ?g3, ?g4, ?g5, ?g6, ?g7, fun href hhref => ⟨?g8, ?g9⟩, ?g10⟩
  case g1 =>
    have hj' : j < rows.length := hsz ▸ hj
    obtain ⟨r, _, e, e2, _⟩ := hTs j hj'
    rw [e2]
    simp [e]
  case g2 =>
    have hj' : j < rows.length := hsz ▸ hj
    obtain ⟨r, hr, e, e2, _⟩ := hTs j hj'
    rw [e2]
    exact Nat.ne_of_lt (hlt _ (h3 r hr))
  case g3 =>
    rintro i v ⟨hi', rfl⟩
    obtain ⟨r, _, _, _, e3⟩ := hTs i (hsz ▸ hi')
    exact ⟨_, _, e3⟩
  case g4 =>
   refine ⟨?_, ?_, ?_⟩
   · exact ⟨_, hx₃ _ _ (Ne.symm (Nat.ne_of_lt (hlt _ ht))) (Heap.get?_push_size _ rfl), rfl, rfl⟩
   · exact ⟨_, _, (N3 _ (.tail _ (mem_but.mpr ⟨h1, hPP⟩))).1, rfl⟩
   · intro k hk
     obtain ⟨r, hr, e, e2, e3⟩ := hTs k (hsz ▸ hk)
     rw [e2, e3]
     exact ⟨_, (N3 _ (.tail _ (mem_but.mpr ⟨h3 r hr, News.ne N (h3 r hr) ht fun z => by cases congrArg Obj.cls z⟩))).1, rfl, _, rfl⟩
  case g5 =>
    intro b hb
    rcases List.mem_cons.mp hb with rfl | hb
    · exact hszz
    · rcases List.mem_cons.mp hb with rfl | hb
      · exact Nat.lt_of_lt_of_le (hlt _ h1) (Nat.le_of_succ_le hszz)
      · obtain ⟨k, hk, rfl⟩ := List.mem_map.mp hb
        obtain ⟨r, hr, e, e2, e3⟩ := hTs k (hsz ▸ List.mem_range.mp hk)
        rw [e2]
        exact Nat.lt_of_lt_of_le (hlt _ (h3 r hr)) (Nat.le_of_succ_le hszz)
  case g6 =>
    exact T.nolimit.keeps F3.keep
  case g7 =>
    intro hm
    obtain ⟨_, hn, _⟩ := hlim
    rcases List.mem_cons.mp hm with e | e
    · exact absurd (e ▸ hn.lt) (Nat.lt_irrefl _)
    · cases e
  case g8 =>
    intro A' E' i va vb t m₂ hA hD hU hP hn hma hmb hkp
    exact wpAny_pure ⟨rfl, _, _, rfl, fun _ _ e => e⟩
  case g9 =>
    intro A' E' i va vb t m₂ hA hD hU hP _ hn hma hmb hkp
    obtain ⟨hi', hv⟩ := hP
    obtain ⟨r, hr, e, e2, e3⟩ := hTs i (hsz ▸ hi')
    have ev : (#[va, vb] : Array Value) = #[.str r.x r.t, .str r.y r.u] := hv.trans e3
    obtain ⟨rfl, rfl⟩ : va = .str r.x r.t ∧ vb = .str r.y r.u := by simpa using congrArg Array.toList ev
    refine wpAny_mono (helt c' h₃.objs.size A' E' r t m₂ hA hr ⟨hn, fun b o e => ?_, ?_⟩ hma hmb) (fun y s₃ hy => ⟨⟨r, e, hy.1⟩, hy.2⟩) fun _ _ z => z
    · have e3' := F3.keep b o e
      refine hkp b (List.mem_range.mpr (Heap.lt_size e3')) (fun hm => ?_) o (hhref b o e3')
      rcases List.mem_cons.mp hm with e' | e'
      · exact absurd (e' ▸ (Nat.lt_of_lt_of_le (Heap.lt_size e) (Nat.le_trans F.above (Nat.le_of_lt hL)))) (Nat.lt_irrefl _)
      · cases e'
    · exact Nat.le_trans F.above (Nat.le_of_lt (Nat.lt_of_lt_of_le hL (Nat.le_of_succ_le hszz)))
  case g10 =>
    intro a h₅ tk gs hgb hag hsz₅ hk₅ W hat
    have W2 := WalksS_mono (P' := fun j y => ∃ r, rows[j]? = some r ∧ Fv r y) W (fun j y hj => by
      obtain ⟨i, e, hr⟩ := hj
      rw [passing_all] at e
      have : i = j := by
        obtain ⟨hl, e'⟩ := List.getElem?_eq_some_iff.mp e
        rw [List.getElem_range] at e'
        exact e'.symm
      exact this ▸ hr)
    have hlen : (passing (fun _ => true) ((rows.map fun r => Value.ref r.a).toArray).size 0).length = rows.length := by rw [passing_all, List.length_range, hsz]
    rw [hlen] at W2
    refine h a _ c' (F3.keeps hk₅) (N3.grown fun _ _ e => hk₅ _ _ e) (G.push hgb) rfl rfl ⟨_, _, _, _, W2, hat, fun i s' st => st.1.typeIs, List.mem_cons_self, ?_, ?_⟩
    · intro b hb
      show b < h₅.objs.size
      rw [hsz₅]
      rcases List.mem_cons.mp hb with rfl | hb
      · exact Nat.lt_succ_self _
      · rcases List.mem_cons.mp hb with rfl | hb
        · exact Nat.lt_succ_of_lt hag
        · exact Nat.lt_succ_of_lt (Nat.lt_trans (List.mem_range.mp hb) hag)
    · intro b hb
      rcases List.mem_cons.mp hb with rfl | hb
      · show s.heap.objs.size - 1 < h₃.objs.size
        omega
      · rcases List.mem_cons.mp hb with rfl | hb
        · exact Nat.sub_lt (Nat.zero_lt_of_lt hL) Nat.one_pos
        · cases hb
end
end
section
open PySem PySem.W PySem.Calls PyProof.Rows PySem.Builtin
section
variable {prog : Program} {w : World} {A : Around} {E : Value → Shared → Prop} {s : Shared} {h₀ : Heap} {L a Kb : Addr} {m : Mp} {news : Led} {n : Nat}
noncomputable def shSt (St : Nat → Shared → Prop) : Nat → Shared → Prop
  | 0, _ => False
  | i + 1, s => St i s
noncomputable def shP (P : Nat → Value → Prop) : Nat → Value → Prop
  | 0, _ => False
  | i + 1, v => P i v
noncomputable def shV (k : Int) (val : Nat → Int) : Nat → Int
  | 0 => k
  | i + 1 => val i
theorem shV_sum (k : Int) (val : Nat → Int) : ∀ n, preSum (shV k val) (n + 1) = k + preSum val n
  | 0 => by show (0 : Int) + k = k + 0; omega
  | n + 1 => by
    show preSum (shV k val) (n + 1) + val n = k + (preSum val n + val n)
    rw [shV_sum k val n]; omega
theorem WalksS_shift {I : Addr} {fp wr : List Addr} {G : Array GenState → Array GenState → Prop} {P : Nat → Value → Prop} {St : Nat → Shared → Prop} (W : WalksS prog w A I fp wr G n P St) : WalksS prog w A I fp wr G (n + 1) (shP P) (shSt St) where
  sub := W.sub
  grefl := W.grefl
  gtrans := W.gtrans
  frame := fun i s h' tk hst ht hk => match i, hst with
    | i + 1, hst => W.frame i s h' tk hst ht hk
  item := fun i s Q E hi hst hQ => match i, hst, hi, hQ with
    | i + 1, hst, hi, hQ => W.item i s Q E (by omega) hst fun v s' hp hs hm => hQ v s' hp hs hm
  done := fun s Q E hst hQ => W.done s Q E hst hQ
  self := fun i s Q E hst hQ => match i, hst with
    | i + 1, hst => W.self i s Q E hst hQ
theorem News.grownB {h₀ h h' : Heap} {L : Addr} {news : Led} (N : News h₀ L h news) (hk : ∀ q ∈ news, h'.get? q.1 = some q.2) : News h₀ L h' news := fun q hq => ⟨hk q hq, (N q hq).2⟩
theorem args_sum2 (a b : Value) : argsOk "sum" ⟨[a, b], []⟩ := by unfold argsOk; kernel_rfl
theorem call_sum_start {I : Addr} {fp wr : List Addr} {G : Array GenState → Array GenState → Prop} {P : Nat → Value → Prop} {St : Nat → Shared → Prop} {k : Int} {tk : Tok} {val : Nat → Int} {Q : Value → Shared → Prop}
    (W : WalksS prog w A.in1 I fp wr G n P St) (hst : St 0 s) (hfp : ∀ b ∈ fp, b < s.heap.objs.size) (hval : ∀ i v, P i v → ∃ t, v = .int (val i) t)
    (hQ : ∀ s' t', Moved wr G s s' → Q (.int (k + preSum val n) t') s') : wpAny (model prog w) A (call (.builtin "sum") [.ref I, .int k tk]) Q E s := by
  refine call_function_tree F.kind_sum F.plain_sum F.entry_sum (args_sum2 _ _) ?_
  unfold Builtin.«sum»
  simp only [List.length_cons, List.length_nil]
  rw [if_neg (by decide)]
  refine wpAny_bind (wpAny_of_eq (show Builtin.Builtins.bindParams "sum" ["start"] 0 ⟨[.int k tk], []⟩ = pure [some (.int k tk)] from rfl) ?_)
  refine wpAny_bind (W.self 0 _ _ _ hst ?_)
  dsimp only
  have W' := WalksS_shift W
  have hval' : ∀ i v, shP P i v → ∃ t, v = .int (shV k val i) t := fun i v => match i with
    | 0 => fun h => h.elim
    | i + 1 => hval i v
  have hSf : s.heap.objs.size ∉ fp := fun hm => Nat.lt_irrefl _ (hfp _ hm)
  have e1 : preSum (shV k val) 1 = k := by show (0 : Int) + k = k; omega
  split
  · refine wpAny_bind (wpAny_rule (wpAny_bind (wpAny_mkInt (wpAny_bind (wpAny_pure ?_)))))
    simp only [List.forIn_cons, List.forIn_nil]
    refine wpAny_bind (wpAny_bind (wpAny_bind (wpAny_isInstance (T := "int") (b := false) (typeIs_int _ _ _) PySem.sub_int_str ?_)))
    simp only [Bool.false_eq_true, if_false]
    refine wpAny_pure (wpAny_bind (wpAny_bind (wpAny_isInstance (T := "int") (b := false) (typeIs_int _ _ _) PySem.sub_int_bytes ?_)))
    simp only [Bool.false_eq_true, if_false]
    refine wpAny_pure (wpAny_bind (wpAny_bind (wpAny_isInstance (T := "int") (b := false) (typeIs_int _ _ _) PySem.sub_int_bytearray ?_)))
    simp only [Bool.false_eq_true, if_false]
    refine wpAny_pure (wpAny_pure ?_)
    refine wpAny_bind (wpAny_newObj_type ?_)
    refine wpAny_pure ⟨plainId_quiet F.plain_sum_loop _, codeAny_sum_loopAnyS W' (shV k val) hval' s.heap.objs.size hSf n 1 _ s.toks 0 0 (.inl rfl) (by omega) (by omega)
      (W.frame 0 s _ _ hst (by first | exact Nat.le_refl _ | exact Nat.le_succ _ | omega) fun b _ o e => Heap.get?_push_of_some _ e) ((Heap.get?_push_size _ rfl).trans (by rw [e1])) fun s' t' hm => ?_⟩
    rw [shV_sum]
    exact hQ s' t' (hm.drop_new (by first | exact Nat.le_refl _ | exact Nat.le_succ _ | omega))
  · refine wpAny_bind (wpAny_pure ?_)
    simp only [List.forIn_cons, List.forIn_nil]
    refine wpAny_bind (wpAny_bind (wpAny_bind (wpAny_isInstance (T := "int") (b := false) (typeIs_int _ _ _) PySem.sub_int_str ?_)))
    simp only [Bool.false_eq_true, if_false]
    refine wpAny_pure (wpAny_bind (wpAny_bind (wpAny_isInstance (T := "int") (b := false) (typeIs_int _ _ _) PySem.sub_int_bytes ?_)))
    simp only [Bool.false_eq_true, if_false]
    refine wpAny_pure (wpAny_bind (wpAny_bind (wpAny_isInstance (T := "int") (b := false) (typeIs_int _ _ _) PySem.sub_int_bytearray ?_)))
    simp only [Bool.false_eq_true, if_false]
    refine wpAny_pure (wpAny_pure ?_)
    refine wpAny_bind (wpAny_newObj_type ?_)
    refine wpAny_pure ⟨plainId_quiet F.plain_sum_loop _, codeAny_sum_loopAnyS W' (shV k val) hval' s.heap.objs.size hSf n 1 _ tk 0 2 (.inr rfl) (by omega) (by omega)
      (W.frame 0 s _ _ hst (by first | exact Nat.le_refl _ | exact Nat.le_succ _ | omega) fun b _ o e => Heap.get?_push_of_some _ e) ((Heap.get?_push_size _ rfl).trans (by rw [e1])) fun s' t' hm => ?_⟩
    rw [shV_sum]
    exact hQ s' t' (hm.drop_new (by first | exact Nat.le_refl _ | exact Nat.le_succ _ | omega))

theorem sum_gen {F : Nat → Value → Prop} {k : Int} {tk : Tok} {val : Nat → Int} {Q : Value → Shared → Prop} (Fh : Fr h₀ L s.heap m) (N : News h₀ L s.heap news) (hb : ∀ q ∈ news, q.1 ≤ Kb) (hLK : L ≤ Kb) (G : AllBare s.gens) (X : Gen prog w A Kb a n F s)
    (hval : ∀ j v, F j v → ∃ t, v = .int (val j) t)
    (hQ : ∀ s' t', Fr h₀ L s'.heap m → News h₀ L s'.heap news → AllBare s'.gens → s'.os = s.os → s'.drawn = s.drawn → Q (.int (k + preSum val n) t') s') : wpAny (model prog w) A (call (.builtin "sum") [.ref a, .int k tk]) Q E s := by
  obtain ⟨fp, wr, g, St, W, hst, _, _, hfp, hwr⟩ := X
  exact call_sum_start W.in4_1 hst hfp hval fun s' t' hm => hQ s' t' (Fh.moved hm fun b hb => Nat.lt_of_le_of_lt hLK (hwr b hb))
    (News.grownB N fun q hq => hm.heap _ _ (fun hmem => Nat.lt_irrefl _ (Nat.lt_of_lt_of_le (hwr _ hmem) (hb q hq))) (N q hq).1) (G.movedS hm) hm.os hm.drawn
theorem elt_len {E : Value → Shared → Prop} {scope : Scope} {cl : List (Str × Addr)} {Cc c' : Addr} {env : Env} {fa fb : Str} {p1 p2 p3 p4 p5 p6 p7 : Pos} {x y : Str} {t u : Tok} {m₂ mg mb : Mp} {p : Program} {loose : List Str} {mean : ExcName → Option Value} {t₀ : Shared}
    (F₂ : Fr h₀ Cc t₀.heap m₂) (T : Top p loose mean mg mb h₀) (ma : m₂ fa = some (.str x t)) (mb' : m₂ fb = some (.str y u)) (hx : x.length ≤ 100000) (hy : y.length ≤ 100000)
    (hlen : mg "len" = none) (hg : env.globals = mainGlobals) (hk : scope.kind = .function)
    (ka : (genEnv scope cl Cc (.ref c') builtinsNs env).kindOf fa = some .local) (kb : (genEnv scope cl Cc (.ref c') builtinsNs env).kindOf fb = some .local) (kl : (genEnv scope cl Cc (.ref c') builtinsNs env).kindOf "len" = some .globalImplicit)
    (da : (fa == ("__debug__" : Str)) = false) (db : (fb == ("__debug__" : Str)) = false) :
    wpAny (model prog w) A (eval (.BinOp (.Call (.Name "len" p1) [.Name fa p2] [] p3) .Add (.Call (.Name "len" p4) [.Name fb p5] [] p6) p7) (genEnv scope cl Cc (.ref c') builtinsNs env)) (fun y' s₃ => (∃ t, y' = .int (x.length + y.length) t) ∧ Keeps t₀ s₃) E t₀ := by
  have lenName : ∀ {pp : Pos} {s' : Shared} {Q : Value → Shared → Prop}, (∀ b o, t₀.heap.get? b = some o → s'.heap.get? b = some o) → Q (.builtin "len") s' → wpAny (model prog w) A (eval (.Name "len" pp) (genEnv scope cl Cc (.ref c') builtinsNs env)) Q E s' := by
    intro pp s' Q hkk hq
    refine Name_function_global hk kl (loadGlobal_builtin (env := genEnv scope cl Cc (.ref c') builtinsNs env) (show s'.heap.Ns env.globals mg from hg ▸ T.g.keeps fun b o e => hkk b o (F₂.keep b o e)) hlen (T.b.keeps fun b o e => hkk b o (F₂.keep b o e)) ((T.builtins "len" (by decide)).trans (by boot_fast)) hq) (by decide)
  refine wpAny_BinOp ?_
  refine Call_Name1 (lenName (fun _ _ e => e) (callWith_builtin1 (ldVarG F₂ ma ?_ hk ka da))) (by rfl)
  refine len_str (by omega) ?_
  refine Call_Name1 (lenName (fun _ _ e => e) (callWith_builtin1 (ldVarG (s := { t₀ with toks := t₀.toks + 1 + 1 }) F₂ mb' ?_ hk kb db))) (by rfl)
  refine len_str (by omega) ?_
  exact wpAny_add_int ⟨⟨_, rfl⟩, _, _, rfl, fun _ _ e => e⟩
theorem Gen_later {F : Nat → Value → Prop} {tk : Nat} (X : Gen prog w A Kb a n F s) (h : s.toks ≤ tk) : Gen prog w A Kb a n F { s with toks := tk } := by
  obtain ⟨fp, wr, g, St, W, hst, hT, ha, hfp, hwr⟩ := X
  exact ⟨fp, wr, g, St, W, W.frame 0 s s.heap tk hst h (fun _ _ _ e => e), hT, ha, hfp, hwr⟩
theorem preSum_rows (rows : List Row4) (f : Row4 → Int) : ∀ n, preSum (fun j => ((rows[j]?).map f).getD 0) n = ((rows.take n).map f).sum
  | 0 => rfl
  | n + 1 => by
    show preSum _ n + ((rows[n]?).map f).getD 0 = _
    rw [preSum_rows rows f n, List.take_add_one, List.map_append, List.sum_append]
    cases rows[n]? with
    | none => simp
    | some r => simp
end
end
section
open PySem PySem.W PySem.Calls PyProof.Rows PySem.Builtin
section
variable {prog : Program} {w : World} {A : Around} {s : Shared} {h₀ : Heap}
theorem elt_join {E : Value → Shared → Prop} {scope : Scope} {cl : List (Str × Addr)} {Cc c' : Addr} {env : Env} {fa fb fe : Str} {p1 p2 p3 p4 p5 p6 : Pos} {kt : Nat} {x y : Str} {t u te : Tok} {m₂ mg mb : Mp} {p : Program} {loose : List Str} {mean : ExcName → Option Value} {t₀ : Shared}
    (F₂ : Fr h₀ Cc t₀.heap m₂) (T : Top p loose mean mg mb h₀) (ma : m₂ fa = some (.str x t)) (mb' : m₂ fb = some (.str y u)) (hx : x.length ≤ 100000) (hy : y.length ≤ 100000)
    (hE : mg fe = some (.str "" te)) (hg : env.globals = mainGlobals) (hk : scope.kind = .function)
    (ka : (genEnv scope cl Cc (.ref c') builtinsNs env).kindOf fa = some .local) (kb : (genEnv scope cl Cc (.ref c') builtinsNs env).kindOf fb = some .local) (ke : (genEnv scope cl Cc (.ref c') builtinsNs env).kindOf fe = some .globalImplicit)
    (da : (fa == ("__debug__" : Str)) = false) (db : (fb == ("__debug__" : Str)) = false) (de : (fe == ("__debug__" : Str)) = false) (hline : (p2.endLine == p6.line) = true) :
    wpAny (model prog w) A (eval (.Call (.Attribute (.Name fe p1) "join" p2) [.Tuple [.Name fa p3, .Name fb p4] kt p5] [] p6) (genEnv scope cl Cc (.ref c') builtinsNs env)) (fun y' s₃ => (∃ t, y' = .str (Txt.join "" [x, y]) t) ∧ Keeps t₀ s₃) E t₀ := by
  refine Call_method1 (by rfl) (by rfl) hline ?_
  refine Name_function_global hk ke (loadGlobal_global (env := genEnv scope cl Cc (.ref c') builtinsNs env) (show t₀.heap.Ns env.globals mg from hg ▸ T.g.keeps fun b o e => F₂.keep b o e) hE ?_) de
  refine ⟨"str", "str.join", PySem.F.plainAttrs_str, PySem.F.slot_str_join, PySem.F.type_str_join, typeIs_str _ _ _, (fun _ e => nomatch e), ?_⟩
  refine callWith_builtin_kwB rfl rfl ?_
  refine evalArgs_plain (spliced_cons ?_)
  refine wpAny_Tuple_spliced ?_
  refine spliced_cons (ldVarG F₂ ma ?_ hk ka da)
  refine spliced_cons (ldVarG F₂ mb' ?_ hk kb db)
  refine spliced_nil ⟨by have := sizeLine_eq; simp; omega, ?_⟩
  refine spliced_nil ?_
  refine join_tuple (ys := [x, y]) (D := t₀.heap.objs.size) (items := #[.str x t, .str y u]) ⟨_, Heap.get?_push_size _ rfl, rfl, _, rfl⟩ (.cons _ _ (.cons _ _ .nil)) ?_ fun t' k => ?_
  · have e0 : (Str.ofString "").length = 0 := by rfl
    simp [e0]; omega
  · exact ⟨⟨_, rfl⟩, _, _, rfl, fun b o e => Heap.get?_push_of_some _ e⟩
theorem join_gen' {L a Kb : Addr} {m : Mp} {news : Led} {n : Nat} {E : Value → Shared → Prop} {F : Nat → Value → Prop} {sep : Str} {t : Tok} {tx : Nat → Str} {Q : Value → Shared → Prop} (Fh : Fr h₀ L s.heap m) (N : News h₀ L s.heap news) (hb : ∀ q ∈ news, q.1 ≤ Kb) (hLK : L ≤ Kb) (G : AllBare s.gens) (X : Gen prog w A Kb a n F s)
    (htx : ∀ j v, F j v → ∃ u, v = .str (tx j) u) (hok : JoinOk sep ((List.range n).map tx) = true) (hz : n ≤ 1000)
    (hQ : ∀ s' t', Fr h₀ L s'.heap m → News h₀ L s'.heap news → AllBare s'.gens → s'.os = s.os → Q (.str (Txt.join sep ((List.range n).map tx)) t') s') : wpAny (model prog w) A (call (.builtin "str.join") [.str sep t, .ref a]) Q E s :=
  join_rowsK Fh G X hLK tx htx hok (fun s' t' F' G' hos hk => hQ s' t' F' (News.grownB N fun q hq => hk _ _ (hb q hq) (N q hq).1) G' hos) (by have := sizeLine_eq; omega)
theorem range_rows (rows : List Row4) (f : Row4 → Str) : (List.range rows.length).map (fun j => ((rows[j]?).map f).getD "") = rows.map f := by
  apply List.ext_getElem
  · simp
  · intro i h1 h2
    simp at h1 h2
    simp [h1]
end
end
section
open PySem PySem.W PySem.Calls PyProof.Rows PySem.Builtin
theorem join2 (x y : Str) : Txt.join "" [x, y] = x ++ y := by
  show PySem.Builtin.Str.glued _ _ = _
  rw [StrLaws.glued_eq_join]
  exact congrArg (· ++ y) (Str.append_right_empty (x := x) (y := Str.ofString "") (by rfl))
theorem len_join2 (x y : Str) : (Txt.join "" [x, y]).length = x.length + y.length := by
  rw [join2]
  show (x.cps ++ y.cps).size = _
  rw [Array.size_append]
  rfl
theorem joinOk_rows (rows : List Row4) (hr : rows.length ≤ 900) (hz : ∀ r ∈ rows, r.x.length ≤ 1000 ∧ r.y.length ≤ 1000) : JoinOk "" (rows.map fun r => Txt.join "" [r.x, r.y]) = true := by
  refine joinOk_of ?_
  have e0 : (Str.ofString "").length = 0 := by rfl
  have h : ∀ l : List Row4, (∀ r ∈ l, r.x.length ≤ 1000 ∧ r.y.length ≤ 1000) → ((l.map fun r => Txt.join "" [r.x, r.y]).map (·.length)).sum ≤ 2000 * l.length := by
    intro l
    induction l with
    | nil => intro _; simp
    | cons r rs ih =>
      intro hl
      have h1 := ih fun q hq => hl q (.tail _ hq)
      have h2 := hl r (.head _)
      simp only [List.map_cons, List.sum_cons, List.length_cons, len_join2]
      omega
  have := h rows hz
  rw [e0]
  omega
end
section
open PySem PySem.W PySem.Calls PyProof.Rows PySem.Builtin
section
variable {prog : Program} {w : World} {A : Around} {E : Value → Shared → Prop} {s : Shared} {h₀ : Heap} {L : Addr} {news : Led}
theorem led_join {D : Addr} {k : Nat} {items : Array Value} {ys : List Str} {x : Str} {t : Tok} {Q : Value → Shared → Prop} (N : News h₀ L s.heap news) (hm : (D, listOf items k) ∈ news) (hi : StrsAre items.toList ys) (hok : (ys.map (·.length)).sum + ys.length * x.length ≤ 16777216)
    (h : ∀ t' k, Q (.str (Txt.join x ys) t') { s with toks := k }) : wpAny (model prog w) A (call (.builtin "str.join") [.str x t, .ref D]) Q E s :=
  join_list ⟨_, (N _ hm).1, rfl, _, rfl⟩ hi hok h
theorem join1 (s x : Str) : Txt.join s [x] = x := by
  show PySem.Builtin.Str.glued _ _ = _
  rw [StrLaws.glued_eq_join]
  rfl
theorem led_append {m : Mp} {D : Addr} {vs : List Value} {n : Nat} {x : Value} {Q : Value → Shared → Prop} (F : Fr h₀ L s.heap m) (N : News h₀ L s.heap news) (hm : (D, listOf vs.toArray n) ∈ news) (hz : vs.length ≤ 1000)
    (h : ∀ h', Fr h₀ L h' m → News h₀ L h' ((D, listOf (vs ++ [x]).toArray (n + 1)) :: but D news) → Q .none { s with heap := h' }) : wpAny (model prog w) A (call (.builtin "list.append") [.ref D, x]) Q E s := by
  refine append_K F (News.head N hm) Upd.but (fun h' F' N' => h h' F' ?_) ?_
  · rw [List.push_toArray] at N'; exact N'
  · have := sizeLine_eq; simp; omega
end
end
section
open PySem PySem.W PySem.Calls PyProof.Rows PySem.Builtin PySem.Builtin.Str
section
variable {prog : Program} {w : World} {A : Around} {E : Value → Shared → Prop} {s : Shared} {env : Env} {h₀ : Heap} {body : List Stmt} {Q : Flow → Shared → Prop}
/-- the end of a turn of a loop over enumerate -/
noncomputable def TEnd2 (h₀ : Heap) (L : Addr) (I : Addr) (oE oI : Obj) (J : Mp → Led → Prop) (s₁ s₂ : Shared) : Prop :=
  ∃ h' tk m' news', s₂ = { s₁ with heap := h', toks := tk } ∧ Fr h₀ L h' m' ∧ News h₀ L h' ((I + 1, oE) :: (I, oI) :: news') ∧ (∀ p ∈ news', p.1 ≠ I + 1 ∧ p.1 ≠ I) ∧ J m' news'
noncomputable def TPost2 (h₀ : Heap) (L : Addr) (I : Addr) (oE oI : Obj) (J : Mp → Led → Prop) (s₁ : Shared) (Q : Flow → Shared → Prop) (f : Flow) (s₂ : Shared) : Prop :=
  match f with
  | .ret v => Q (.ret v) s₂
  | .brk => Q .next s₂
  | _ => TEnd2 h₀ L I oE oI J s₁ s₂
theorem turns_enum {elts : List Expr} {k : Nat} {pos : Pos} {l : Addr} {vs : List Value} {n : Nat} {m₀ : Mp} {news : Led} (J : Mp → Led → Nat → Mp → Led → Prop)
    (hh : A.handled = none) (F : Fr h₀ env.locals s.heap m₀) (N : News h₀ env.locals s.heap news) (hm : (l, listOf vs.toArray n) ∈ news) (hj : J m₀ news 0 m₀ news)
    (turn : ∀ I i v T t m₁ news₁ h tk oE oI, vs[i]? = some v → J m₀ news i m₁ news₁ → (l, listOf vs.toArray n) ∈ news₁ → (∀ p ∈ news, p.1 < I) → IsTup h T #[.int (i : Int) t, v] → Fr h₀ env.locals h m₁ → oE.cls = .type "enumerate" → oI.cls = .type "list_iterator" →
      (∀ p ∈ news₁, p.1 ≠ I + 1 ∧ p.1 ≠ I) → News h₀ env.locals h ((I + 1, oE) :: (I, oI) :: news₁) →
      wpAny (model prog w) A (assign (.Tuple elts k pos) env (.ref T)) (fun _ s₃ => wpAny (model prog w) A (execs body env) (TPost2 h₀ env.locals I oE oI (fun m' l' => (l, listOf vs.toArray n) ∈ l' ∧ J m₀ news (i + 1) m' l') { s with heap := h, toks := tk } Q) E s₃) E { s with heap := h, toks := tk })
    (done : ∀ m₁ news₁ h tk, J m₀ news vs.length m₁ news₁ → (l, listOf vs.toArray n) ∈ news₁ → Fr h₀ env.locals h m₁ → News h₀ env.locals h news₁ → Q .next { s with heap := h, toks := tk }) :
    wpAny (model prog w) A (call (.type "enumerate") [.ref l]) (fun xv s₁ => wpAny (model prog w) A (pyIter xv) (fun it s₂ => TurnsAt prog w A h₀ env (.Tuple elts k pos) body Q E it s₂) E s₁) E s := by
  refine ktu_enum (xs := enumItems 0 vs) hh F N hm rfl rfl rfl fun I hI => ?_
  have key : ∀ (j i : Nat) m₁ news₁, i + j = vs.length → J m₀ news i m₁ news₁ → (l, listOf vs.toArray n) ∈ news₁ → (∀ p ∈ news₁, p.1 ≠ I + 1 ∧ p.1 ≠ I) →
      ItemsRest prog w A E h₀ env (.Tuple elts k pos) body Q s [(I + 1, "enumerate"), (I, "list_iterator")] [(l, listOf vs.toArray n)] (enumItems i (vs.drop i)) m₁ news₁ := by
    intro j
    induction j with
    | zero =>
      intro i m₁ news₁ hi hj' hl _
      have e : i = vs.length := by omega
      subst e
      rw [List.drop_length]
      intro h tk F₁ N₁
      exact done m₁ news₁ h tk hj' hl F₁ N₁
    | succ j ih =>
      intro i m₁ news₁ hi hj' hl hoff
      have hlt : i < vs.length := by omega
      rw [List.drop_eq_getElem_cons hlt]
      refine ItemsRest.pair fun T t h tk hT F₁ => ?_
      intro oE hE oI hI' N₁
      refine wpAny_mono (turn I i vs[i] T t m₁ news₁ h tk oE oI (List.getElem?_eq_getElem hlt) hj' hl hI hT F₁ hE hI' hoff N₁) (fun _ s₂ p => wpAny_mono p (fun f s₃ p => ?_) fun _ _ e => e) fun _ _ e => e
      have fin : TEnd2 h₀ env.locals I oE oI (fun m' l' => (l, listOf vs.toArray n) ∈ l' ∧ J m₀ news (i + 1) m' l') { s with heap := h, toks := tk } s₃ → UnrEndW h₀ env.locals { s with heap := h, toks := tk } [(I + 1, oE), (I, oI)] (fun m' n' => SubL [(l, listOf vs.toArray n)] n' ∧ ItemsRest prog w A E h₀ env (.Tuple elts k pos) body Q s [(I + 1, "enumerate"), (I, "list_iterator")] [(l, listOf vs.toArray n)] (enumItems (i + 1) (vs.drop (i + 1))) m' n') s₃ := by
        rintro ⟨h', tk', m', news', e, F', N', ho, hk, hj2⟩
        refine ⟨h', tk', m', news', e, F', N', fun p hp q hq => ?_, And.intro hk trivial, ih (i + 1) m' news' (by omega) hj2 hk ho⟩
        rcases List.mem_cons.mp hq with rfl | hq
        · exact (ho p hp).1
        · rw [List.mem_singleton.mp hq]; exact (ho p hp).2
      cases f with
      | ret v => exact p
      | brk => exact p
      | next => exact fin p
      | cont => exact fin p
  exact key vs.length 0 m₀ news (by omega) hj hm fun p hp => ⟨Nat.ne_of_lt (Nat.lt_succ_of_lt (hI p hp)), Nat.ne_of_lt (hI p hp)⟩
end
section
variable {prog : Program} {w : World} {A : Around} {E : Value → Shared → Prop} {s : Shared} {h₀ : Heap} {L D : Addr} {m : Mp} {news : Led} {vs : List Value} {ns : List Int} {n : Nat} {k x : Int} {t u : Tok}
theorem led_seti {Q : Unit → Shared → Prop} (F : Fr h₀ L s.heap m) (N : News h₀ L s.heap news) (hm : (D, listOf vs.toArray n) ∈ news) (hi : IntsAre vs ns) (h0 : 0 ≤ k) (h1 : k < ns.length) (hfit : k < 2 ^ 63)
    (h : ∀ h', Fr h₀ L h' m → News h₀ L h' ((D, listOf (vs.set k.toNat (.int x u)).toArray n) :: but D news) → IntsAre (vs.set k.toNat (.int x u)) (ns.set k.toNat x) → Q () { s with heap := h' }) :
    wpAny (model prog w) A (setItem (.ref D) (.int k t) (.int x u)) Q E s :=
  ksa_set F (News.head N hm) Upd.but hi h0 h1 hfit fun h' F' N' hi' _ _ => h h' F' N' hi'
theorem intsAre_get {i : Nat} {v : Value} (h : IntsAre vs ns) (hv : vs[i]? = some v) : ∃ k t, v = .int k t ∧ ns[i]? = some k := by
  induction h generalizing i with
  | nil => simp at hv
  | cons => 
    cases i with
    | zero => simp at hv; exact ⟨_, _, hv.symm, rfl⟩
    | succ i => rename_i ih; exact ih (by simpa using hv)
end
theorem News.drop2 {h₀ h : Heap} {L NL : Addr} {o : Obj} {q1 q2 : Addr × Obj} {news : Led} (N : News h₀ L h ((NL, o) :: but NL (q1 :: q2 :: news))) (h1 : q1.1 ≠ NL) (h2 : q2.1 ≠ NL) : News h₀ L h (q1 :: q2 :: (NL, o) :: but NL news) := fun p hp => by
  rcases List.mem_cons.mp hp with rfl | hp
  · exact N _ (.tail _ (mem_but.mpr ⟨.head _, h1⟩))
  · rcases List.mem_cons.mp hp with rfl | hp
    · exact N _ (.tail _ (mem_but.mpr ⟨.tail _ (.head _), h2⟩))
    · rcases List.mem_cons.mp hp with rfl | hp
      · exact N _ (.head _)
      · exact N _ (.tail _ (mem_but.mpr ⟨.tail _ (.tail _ (mem_but.mp hp).1), (mem_but.mp hp).2⟩))
end
section
local macro_rules | `(tactic| walk_at "gclaim") => `(tactic| ((try (case gB => k_asm)); (try (case gF => k_asm)); (try (case gX => k_asm)); (try (case gN => k_asm)); (try (case gT => k_asm)); (try (case gk => first | exact rfl | (first | with_reducible assumption | assumption))); (try (case gd => ktr_room)); (try (case gu => ktr_units))))
open PySem PySem.W PySem.Calls PyProof.Rows PySem.Builtin PySem.Builtin.Str
noncomputable def getAll (name : Str) (rows : List Row4) : List Str := (rows.filter fun r => Txt.lower r.x == Txt.lower name).map (·.y)
set_option maxHeartbeats 1000000 in
theorem get_all_ok (w : World) (mean) (mg mb) (name : Str) (t : Tok) (T TD HL : Addr) (n : Nat) (rows : List Row4) (hn : name.length ≤ 100) (hcl : Clean (Txt.lower name)) (hr : rows.length ≤ 1000) (hx : ∀ r ∈ rows, r.x.length ≤ 100) :
    GClaim1 w mean mg mb 4 212 [.ref T, .str name t] [] (fun news P => TabAt 273 P T TD HL n rows news) (fun h₀ L m news K => ∀ D l k h' tk', l.map (·.1) = getAll name rows → Fr h₀ L h' m → News h₀ L h' ((D, listOf (strValues l).toArray k) :: news) → (∀ p ∈ news, p.1 ≠ D) → K (.ref D) h' tk') := by
  unfold GClaim1 prog1
  k_fill
  intros; rename_i hpre hdp hun hret
  dsimp only at hpre hret
  obtain ⟨hm1, ⟨hh, ht, hm2⟩, hm3, hm4⟩ := hpre
  refine wpAny_call ?_
  k_dflt (first | (refine' code_def ?k1 ?k2 ?k3 ?k4 ?k5 ?kA ?kF ?kK ?k6 ?k7 ?k8 ?k9 ?kB ?_ ?c2 ?c3 ?c4 ?c5; (case kA => exact rfl); (case kF => exact rfl); (case kK => (first | with_reducible assumption | assumption)); (case k1 => k_asm); (case k2 => k_asm); (case k3 => k_asm); (case k4 => k_asm); (case k5 => k_asm); (case k6 => k_is); (case k7 => k_is); (case k8 => ktr_room); (case k9 => exact binds_K (by k_in) rfl (by k_is) rfl rfl rfl); (case c5 => decide); (case kB => exact locs rfl); (case c2 => exact rfl); (case c3 => exact rfl); (case c4 => exact rfl); k_whole; intro g' L' h' FG' F' N' B' X' T'; (try dsimp only); (try k_lift B'); (try k_fold)) | (refine' ks_code_super ?k1 ?k2 ?k3 ?k4 ?k5 ?kA ?kF ?kK ?k6 ?k7 ?k8 ?k9 ?kB ?_ ?c1 ?c2 ?c3 ?c4; (case kA => exact rfl); (case kF => exact rfl); (case kK => first | exact rfl | (first | with_reducible assumption | assumption)); (case k1 => k_asm); (case k2 => k_asm); (case k3 => k_asm); (case k4 => k_asm); (case k5 => k_asm); (case k6 => k_is); (case k7 => k_is); (case k8 => ktr_room); (case k9 => first | exact BindsTo.of_eq rfl | exact binds_K (by k_in) rfl (by k_is) rfl rfl rfl); (case kB => exact locs rfl); (case c1 => decide); (case c2 => exact rfl); (case c3 => exact rfl); (case c4 => exact rfl); intro g' L' h' FG' F' N' B' X' T' lc1; (try k_lt lc1); (try dsimp only); (try k_lift B')) | (refine' code_defC ?k1 ?k2 ?k3 ?k4 ?k5 ?kA ?kF ?kK ?k6 ?k7 ?k8 ?k9 ?kB ?kD ?_ ?c2 ?c3 ?c4; (case kA => exact rfl); (case kF => exact rfl); (case kK => first | exact rfl | (first | with_reducible assumption | assumption)); (case k1 => k_asm); (case k2 => k_asm); (case k3 => k_asm); (case k4 => k_asm); (case k5 => k_asm); (case k6 => k_is); (case k7 => k_is); (case k8 => ktr_room); (case k9 => first | exact BindsTo.of_eq rfl | exact binds_K (by k_in) rfl (by k_is) rfl rfl rfl | fail "k_enter: no rule for these arguments"); (case kB => exact rfl); (case kD => decide +kernel); (case c2 => exact rfl); (case c3 => exact rfl); (case c4 => exact rfl); k_whole; intro g' L' h' tk' cells' FG' F' N' Y' B' X' T' lc1; (try k_lt lc1); k_cells Y'; (try simp only [List.cons_append, List.nil_append] at N'); (try dsimp only); (try k_lift B'); (try k_fold)) | cell_enter)
  repeat' (first | (k_unfold; (try dsimp only)) | (k_end; wrow_close) | (with_reducible (first | (k_here; (with_reducible show LCt.CompSrcT _ _ _ _ _ _ _ _ _ _ _ _ _ _ _); refine stopHere ?_) | (k_here; (with_reducible show wpAny _ _ (eval (Expr.ListComp _ _ _ _) _) _ _ _); lct_look; k_dflt (refine LCt.ListComp_T (F₀ := by k_asm) (by with_unfolding_all rfl) (by decide) (by rfl) (by decide) (by rfl) ?_)) | (k_here; (with_reducible show wpAny _ _ (call (Value.ref 174) _ _) _ _ _); k_dflt (refine' (conv_ok _ _ _ _ _ _ _ _ ?ghx_1) _ _ _ _ _ _ _ _ _ _ _ _ _ _ _ _ _ _ ?gB ?gF ?gX ?gN ?gT ?gk ?gp_1 ?gd ?gu ?_; walk_at "gclaim"; (case gp_1 => trivial); (case ghx_1 => (first | with_reducible assumption | assumption)); intro h' tk' F' N'; (try dsimp only); (try k_fold))))) | walk1 | (dsimp only; first | (with_reducible (first | (k_here; (with_reducible show LCt.CompSrcT _ _ _ _ _ _ _ _ _ _ _ _ _ _ _); refine stopHere ?_) | (k_here; (with_reducible show wpAny _ _ (eval (Expr.ListComp _ _ _ _) _) _ _ _); lct_look; k_dflt (refine LCt.ListComp_T (F₀ := by k_asm) (by with_unfolding_all rfl) (by decide) (by rfl) (by decide) (by rfl) ?_)) | (k_here; (with_reducible show wpAny _ _ (call (Value.ref 174) _ _) _ _ _); k_dflt (refine' (conv_ok _ _ _ _ _ _ _ _ ?ghx_1) _ _ _ _ _ _ _ _ _ _ _ _ _ _ _ _ _ _ ?gB ?gF ?gX ?gN ?gT ?gk ?gp_1 ?gd ?gu ?_; walk_at "gclaim"; (case gp_1 => trivial); (case ghx_1 => (first | with_reducible assumption | assumption)); intro h' tk' F' N'; (try dsimp only); (try k_fold))))) | walk1) | (leave1; try dsimp only) | fail "no step")
  · show LCt.CompSrcT _ _ _ _ _ _ _ _ _ _ _ _ _ _ _
    k_dflt (refine' LCt.CompSrcT.ledger ?hh ?F ?N ?hm ?hz ?_)
    case hh => rfl
    case F => k_asm
    case N => k_asm
    case hm => k_mem
    case hz => simp [sizeLine_eq]; omega
    intro g0
    refine lct_rest (items := rows) (fun r v => v = .ref r.a) (fun r => Txt.lower r.x == Txt.lower name) (fun r t => .str r.y t) ?hn ?hP ?hS ?turn ?fin
    case hn => simp
    case hP => intro i v hi hv; simp only [List.getElem?_toArray, List.getElem?_map, Option.map_eq_some_iff] at hv; obtain ⟨r, h1, h2⟩ := hv; exact ⟨r, h1, h2.symm⟩
    case hS => exact .inr ⟨_, by k_mem, rfl, _, rfl⟩
    case turn =>
      intro r v I oI C oC D m₂ ys h tk E' hr' hv hC hx' F' N' off ne
      subst hv
      have hmr := hm4 r hr'
      have hlx := hx r hr'
      dsimp only
      repeat' (first | (k_unfold; (try dsimp only)) | (k_end; wrow_close) | walk1 | (dsimp only; first | walk1) | (leave1; try dsimp only) | fail "no step")
      · exact LCg.CompEnd.intro (by k_asm) (by k_asm) _ (fun p hp => hp) off (.inr ⟨_, by k_mem, rfl, _, rfl⟩) (LcEl.mk (by assumption) rfl rfl)
      · exact LCg.CompEnd.intro (by k_asm) (by k_asm) _ (fun p hp => hp) off (.inr ⟨_, by k_mem, rfl, _, rfl⟩) (LcNo.mk (by assumption) rfl)
    case fin => 
      intro ys hO
      dsimp only
      obtain ⟨l, rfl, hl⟩ := hO.strs
      repeat' (first | (k_unfold; (try dsimp only)) | (k_end; wrow_close) | walk1 | (dsimp only; first | walk1) | (leave1; try dsimp only) | fail "no step")
      refine hret _ l _ _ _ hl (by k_asm) (by refine cb_drop (by k_asm) ?_; intro p hp; rcases List.mem_cons.mp hp with rfl | hp; exact .head _; exact .tail _ (.tail _ hp)) ?_
      rename (_ ∧ LCg.Off1 _ _) => hlt
      exact off1_ne hlt.2
end
section
open PySem PySem.W PySem.Calls PyProof.Rows PySem.Builtin PySem.Builtin.Str
/-- a turn's end taken as any that holds where the turn's does -/
theorem gen_turn {prog : Program} {w : World} {A : Around} {E : Value → Shared → Prop} {s : Shared} {t : Sem Unit} {u : Sem Flow} {Post : Flow → Shared → Prop}
    (h : ∀ R : Flow → Shared → Prop, (∀ f s₂, Post f s₂ → R f s₂) → wpAny (model prog w) A t (fun _ s₃ => wpAny (model prog w) A u R E s₃) E s) : wpAny (model prog w) A t (fun _ s₃ => wpAny (model prog w) A u Post E s₃) E s := h _ fun _ _ p => p
theorem gen_post {α : Type} {prog : Program} {w : World} {A : Around} {E : Value → Shared → Prop} {s : Shared} {t : Sem α} {Post : α → Shared → Prop}
    (h : ∀ R : α → Shared → Prop, (∀ f s₂, Post f s₂ → R f s₂) → wpAny (model prog w) A t R E s) : wpAny (model prog w) A t Post E s := h _ fun _ _ p => p
/-- a function's body with an end of its own and no error -/
theorem gen_fn {α : Type} {prog : Program} {w : World} {A : Around} {E : Value → Shared → Prop} {s : Shared} {t : Sem α} {Post : α → Shared → Prop}
    (h : ∀ R : α → Shared → Prop, (∀ f s₂, Post f s₂ → R f s₂) → wpAny (model prog w) A t R (fun _ _ => False) s) : wpAny (model prog w) A t Post E s := wpAny_mono (h Post fun _ _ p => p) (fun _ _ p => p) fun _ _ e => e.elim
/-- a while loop: its turns and what comes behind it, apart -/
theorem While_two {prog : Program} {w : World} {A : Around} {E : Value → Shared → Prop} {Q : Flow → Shared → Prop} {s : Shared} {env : Env} {h₀ : Heap} {L : Addr} {test : Expr} {body : List Stmt} {pos : Pos} {m : Str → Option Value} {news : List (Addr × Obj)} (J : Nat → (Str → Option Value) → List (Addr × Obj) → Prop) (D : (Str → Option Value) → List (Addr × Obj) → Prop) {n₀ : Nat}
    (F : Fr h₀ L s.heap m) (N : News h₀ L s.heap news) (hJ : J n₀ m news)
    (turn : ∀ n m₁ news₁ h₁ tk₁, Fr h₀ L h₁ m₁ → News h₀ L h₁ news₁ → J n m₁ news₁ → ∀ (R : Flow → Shared → Prop) (RD : Shared → Prop), (∀ f s', WhileStep h₀ L { s with heap := h₁, toks := tk₁ } J n f s' → R f s') → (∀ h tk m' l, Fr h₀ L h m' → News h₀ L h l → D m' l → RD { s with heap := h, toks := tk }) →
      wpAny (model prog w) A (isTrue test env (eval test env)) (fun b s₂ =>
        if b = true then wpAny (model prog w) A (execs body env) R E s₂ else RD s₂) E { s with heap := h₁, toks := tk₁ })
    (done : ∀ m₁ news₁ h tk, D m₁ news₁ → Fr h₀ L h m₁ → News h₀ L h news₁ → Q .next { s with heap := h, toks := tk })
    (hE : PassesOwn (model prog w) A env E := by passes_own) :
    wpAny (model prog w) A (exec (.While test body [] pos) env) Q E s :=
  While_inv J F N hJ (fun n m₁ news₁ h₁ tk₁ F₁ N₁ J₁ => turn n m₁ news₁ h₁ tk₁ F₁ N₁ J₁ _ _ (fun f s' p => by
    obtain ⟨rfl, h', tk, m', news', n', rfl, F', N', hn, J'⟩ := p
    exact ⟨rfl, h', tk, m', news', n', rfl, F', N', hn, J'⟩) fun h tk m' l F' N' d => done m' l h tk d F' N') hE
/-- a while loop whose turn's end is any that holds where the turn's does -/
theorem While_gen {prog : Program} {w : World} {A : Around} {E : Value → Shared → Prop} {Q : Flow → Shared → Prop} {s : Shared} {env : Env} {h₀ : Heap} {L : Addr} {test : Expr} {body : List Stmt} {pos : Pos} {m : Str → Option Value} {news : List (Addr × Obj)} (J : Nat → (Str → Option Value) → List (Addr × Obj) → Prop) {n₀ : Nat}
    (F : Fr h₀ L s.heap m) (N : News h₀ L s.heap news) (hJ : J n₀ m news)
    (turn : ∀ n m₁ news₁ h₁ tk₁, Fr h₀ L h₁ m₁ → News h₀ L h₁ news₁ → J n m₁ news₁ → ∀ (R : Flow → Shared → Prop), (∀ f s', WhileStep h₀ L { s with heap := h₁, toks := tk₁ } J n f s' → R f s') →
      wpAny (model prog w) A (isTrue test env (eval test env)) (fun b s₂ =>
        if b = true then wpAny (model prog w) A (execs body env) R E s₂ else Q .next s₂) E { s with heap := h₁, toks := tk₁ })
    (hE : PassesOwn (model prog w) A env E := by passes_own) :
    wpAny (model prog w) A (exec (.While test body [] pos) env) Q E s :=
  While_inv J F N hJ (fun n m₁ news₁ h₁ tk₁ F₁ N₁ J₁ => turn n m₁ news₁ h₁ tk₁ F₁ N₁ J₁ _ fun f s' p => by
    obtain ⟨rfl, h', tk, m', news', n', rfl, F', N', hn, J'⟩ := p
    exact ⟨rfl, h', tk, m', news', n', rfl, F', N', hn, J'⟩) hE
end
section
open PySem PySem.W PySem.Calls PyProof.Rows PySem.Builtin PySem.Builtin.Str
section
variable {prog : Program} {w : World} {A : Around} {E : Value → Shared → Prop} {s : Shared} {K : Frag} {h₀ : Heap} {L P C D c Pt : Addr} {m : Mp} {news : Led} {od : Obj} {n : Nat} {ps : Array Value} {p : Program} {loose : List Str} {mean : ExcName → Option Value} {mg mb : Mp}
theorem gen_acc2 {c₀ : Addr} {env : Env} {elt iter : Expr} {xa xb : Str} {pa pb pt : Pos} {kt : Nat} {scope : Scope} {cl : List (Str × Addr)} {pos : Pos} {rows : List Row4} {Fv : Row4 → Value → Prop} {Q : Value → Shared → Prop}
    (F : Fr h₀ L s.heap m) (X₀ : K.In h₀) (T : Top p loose mean mg mb h₀) (N : News h₀ L s.heap news) (h1 : (P, accO C D (rows.map fun r => Value.ref r.a) n) ∈ news) (h2 : (D, od) ∈ news) (h3 : ∀ r ∈ rows, r.ent ∈ news)
    (ht : (Pt, tabO ps) ∈ news) (hc : CodeK K c Pt) (ok : TriplesOk ps.toList) (hnf : codeAmong pos ps.toList = some (.ref c₀)) (G : AllBare s.gens) (hcode : env.code = .ref c) (hglob : env.globals = mainGlobals)
    (hs : findIn K (.ref C) "__iter__" = some (some (.builtin "list.__iter__"))) (hi : subIn K (.ref C) (.type "list") = some true)
    (hh : A.handled = none) (hco : scope.isCoroutine = false) (hclos : closureFor scope env = pure cl) (hcell : ∀ y ∈ scope.names, y.2 ≠ .cell) (h0 : scope.names.lookup (".0" : Str) = some NameKind.local)
    (hxa : scope.names.lookup xa = some .local) (hxb : scope.names.lookup xb = some .local) (hab : xa ≠ xb) (hkind : scope.kind = .function) (hroom : A.depth < recursionLimit)
    (hit : ∀ Q', Q' (.ref P) s → wpAny (model prog w) A (eval iter env) Q' E s)
    (helt : ∀ (c' Cc : Addr) (A' : Around) E' (r : Row4) (t : Shared) m₂, A'.handled = none → r ∈ rows → Fr h₀ Cc t.heap m₂ → m₂ xa = some (.str r.x r.t) → m₂ xb = some (.str r.y r.u) →
      wpAny (model prog w) A' (eval elt (genEnv scope cl Cc (.ref c') builtinsNs env)) (fun y s₃ => Fv r y ∧ Keeps t s₃) E' t)
    (h : ∀ a s₅, Fr h₀ L s₅.heap m → News h₀ L s₅.heap news → AllBare s₅.gens → s₅.os = s.os → s₅.drawn = s.drawn →
      Gen prog w A (s.heap.objs.size - 1) a rows.length (fun j y => ∃ r, rows[j]? = some r ∧ Fv r y) s₅ → Q (.ref a) s₅)
    (hsf : ∀ x, genFold iter env x = pure x) :
    wpAny (model prog w) A (eval (.GeneratorExp elt [⟨.Tuple [.Name xa pa, .Name xb pb] kt pt, iter, [], 0⟩] scope pos) env) Q E s := by
  have X : K.In s.heap := X₀.keeps F.keep
  have I := InstAt.acc N h1 h2
  obtain ⟨bm, ob, M⟩ := bmod_of_top T
  have hcPt : c ≠ Pt := fun e => by
    obtain ⟨o, _, _, _, _, _, _, _, _, hk, _⟩ := hc
    have := X₀ _ _ hk
    rw [e, (N _ ht).2.2] at this; cases this
  have hlim : s.heap.NoLimit := T.nolimit.keeps F.keep
  have hcs : cStatics ≠ Pt := fun e => by
    obtain ⟨_, hns, _⟩ := T.nolimit
    obtain ⟨o, es, ep, ho, hd, _⟩ := hns
    rw [e, (N _ ht).2.2] at ho; cases ho
  have hlt : ∀ q ∈ news, q.1 < s.heap.objs.size := fun q hq => Heap.lt_size (N q hq).1
  have hPI : P ≠ s.heap.objs.size := Nat.ne_of_lt (hlt _ h1)
  have hL : L < s.heap.objs.size := F.ns.lt
  let Ts : Nat → Addr := fun j => ((rows[j]?).map (·.a)).getD 0
  let vals : Nat → Array Value := fun j => ((rows[j]?).map fun r => #[Value.str r.x r.t, Value.str r.y r.u]).getD #[.none, .none]
  have hsz : ((rows.map fun r => Value.ref r.a).toArray).size = rows.length := by simp
  have hTs : ∀ j, j < rows.length → ∃ r, r ∈ rows ∧ rows[j]? = some r ∧ Ts j = r.a ∧ vals j = #[.str r.x r.t, .str r.y r.u] := fun j hj => by
    refine ⟨rows[j], List.getElem_mem hj, List.getElem?_eq_getElem hj, ?_, ?_⟩
    · show ((rows[j]?).map (·.a)).getD 0 = _
      rw [List.getElem?_eq_getElem hj]; rfl
    · show ((rows[j]?).map _).getD _ = _
      rw [List.getElem?_eq_getElem hj]; rfl
  have F2 := F.push { cls := .type "list_iterator", data := .fields #[.ref P, .int 0 0] }
  have N2 : News h₀ L (s.heap.push { cls := .type "list_iterator", data := .fields #[.ref P, .int 0 0] }) news := N.grown fun _ _ e => Heap.get?_push_of_some _ e
  have hsz2 : (s.heap.push { cls := .type "list_iterator", data := .fields #[.ref P, .int 0 0] }).objs.size = s.heap.objs.size + 1 := Heap.size_push ..
  have cod := codeK_at hc (X₀.keeps F2.keep) (N2 _ ht).1 ok hcPt
  refine wpAny_GeneratorExp_walksQTD hh hco hclos hcell h0 hxa hxb hab hkind hroom (hit _ (iter_acc X I hs hi ?_)) hsf
  refine ⟨hlim.push _, wpAny_genexprCode_hit hcode cod.1 hnf ?_⟩
  have hszz : s.heap.objs.size + 1 ≤ (s.heap.push { cls := .type "list_iterator", data := .fields #[.ref P, .int 0 0] }).objs.size := by rw [hsz2]; exact Nat.le_refl _
  have F3 := F2
  have N3 := N2
  have M3 : BMod (s.heap.push { cls := .type "list_iterator", data := .fields #[.ref P, .int 0 0] }) env.globals mg bm ob := hglob ▸ M.keeps F3.keep
  refine wpAny_builtinsFor M3.ns M3.name M3.ne M3.obj M3.cls M3.dict M3.data ?_
  have hPP : P ≠ Pt := News.ne N h1 ht fun e => by cases congrArg Obj.cls e
  refine ⟨s.heap.objs.size, _, [s.heap.objs.size], _, _, _, _, fun _ => true, fun i y => ∃ r, rows[i]? = some r ∧ Fv r y, rfl,
    fun A' hA => walksAcc hA s.heap.objs.size P hPI (rows.map fun r => Value.ref r.a).toArray Ts vals (fun j hj => ?g1) (fun j hj => ?g2), ?g3, ?g4, ?g5, ?g6, ?g7, fun href hhref => ⟨?g8, ?g9⟩, ?g10⟩
  case g1 =>
    have hj' : j < rows.length := hsz ▸ hj
    obtain ⟨r, _, e, e2, _⟩ := hTs j hj'
    rw [e2]
    simp [e]
  case g2 =>
    have hj' : j < rows.length := hsz ▸ hj
    obtain ⟨r, hr, e, e2, _⟩ := hTs j hj'
    rw [e2]
    exact Nat.ne_of_lt (hlt _ (h3 r hr))
  case g3 =>
    rintro i v ⟨hi', rfl⟩
    obtain ⟨r, _, _, _, e3⟩ := hTs i (hsz ▸ hi')
    exact ⟨_, _, e3⟩
  case g4 =>
   refine ⟨?_, ?_, ?_⟩
   · exact ⟨_, Heap.get?_push_size _ rfl, rfl, rfl⟩
   · exact ⟨_, _, (N3 _ h1).1, rfl⟩
   · intro k hk
     obtain ⟨r, hr, e, e2, e3⟩ := hTs k (hsz ▸ hk)
     rw [e2, e3]
     exact ⟨_, (N3 _ (h3 r hr)).1, rfl, _, rfl⟩
  case g5 =>
    intro b hb
    rcases List.mem_cons.mp hb with rfl | hb
    · exact hszz
    · rcases List.mem_cons.mp hb with rfl | hb
      · exact Nat.lt_of_lt_of_le (hlt _ h1) (Nat.le_of_succ_le hszz)
      · obtain ⟨k, hk, rfl⟩ := List.mem_map.mp hb
        obtain ⟨r, hr, e, e2, e3⟩ := hTs k (hsz ▸ List.mem_range.mp hk)
        rw [e2]
        exact Nat.lt_of_lt_of_le (hlt _ (h3 r hr)) (Nat.le_of_succ_le hszz)
  case g6 =>
    exact T.nolimit.keeps F3.keep
  case g7 =>
    intro hm
    obtain ⟨_, hn, _⟩ := hlim
    rcases List.mem_cons.mp hm with e | e
    · exact absurd (e ▸ hn.lt) (Nat.lt_irrefl _)
    · cases e
  case g8 =>
    intro A' E' i va vb t m₂ hA hD hU hP hn hma hmb hkp
    exact wpAny_pure ⟨rfl, _, _, rfl, fun _ _ e => e⟩
  case g9 =>
    intro A' E' i va vb t m₂ hA hD hU hP _ hn hma hmb hkp
    obtain ⟨hi', hv⟩ := hP
    obtain ⟨r, hr, e, e2, e3⟩ := hTs i (hsz ▸ hi')
    have ev : (#[va, vb] : Array Value) = #[.str r.x r.t, .str r.y r.u] := hv.trans e3
    obtain ⟨rfl, rfl⟩ : va = .str r.x r.t ∧ vb = .str r.y r.u := by simpa using congrArg Array.toList ev
    refine wpAny_mono (helt c₀ (s.heap.push { cls := .type "list_iterator", data := .fields #[.ref P, .int 0 0] }).objs.size A' E' r t m₂ hA hr ⟨hn, fun b o e => ?_, ?_⟩ hma hmb) (fun y s₃ hy => ⟨⟨r, e, hy.1⟩, hy.2⟩) fun _ _ z => z
    · have e3' := F3.keep b o e
      refine hkp b (List.mem_range.mpr (Heap.lt_size e3')) (fun hm => ?_) o (hhref b o e3')
      rcases List.mem_cons.mp hm with e' | e'
      · exact absurd (e' ▸ (Nat.lt_of_lt_of_le (Heap.lt_size e) (Nat.le_trans F.above (Nat.le_of_lt hL)))) (Nat.lt_irrefl _)
      · cases e'
    · exact Nat.le_trans F.above (Nat.le_of_lt (Nat.lt_of_lt_of_le hL (Nat.le_of_succ_le hszz)))
  case g10 =>
    intro a h₅ tk gs hgb hag hsz₅ hk₅ W hat
    have W2 := WalksS_mono (P' := fun j y => ∃ r, rows[j]? = some r ∧ Fv r y) W (fun j y hj => by
      obtain ⟨i, e, hr⟩ := hj
      rw [passing_all] at e
      have : i = j := by
        obtain ⟨hl, e'⟩ := List.getElem?_eq_some_iff.mp e
        rw [List.getElem_range] at e'
        exact e'.symm
      exact this ▸ hr)
    have hlen : (passing (fun _ => true) ((rows.map fun r => Value.ref r.a).toArray).size 0).length = rows.length := by rw [passing_all, List.length_range, hsz]
    rw [hlen] at W2
    refine h a _ (F3.keeps hk₅) (N3.grown fun _ _ e => hk₅ _ _ e) (G.push hgb) rfl rfl ⟨_, _, _, _, W2, hat, fun i s' st => st.1.typeIs, List.mem_cons_self, ?_, ?_⟩
    · intro b hb
      show b < h₅.objs.size
      rw [hsz₅]
      rcases List.mem_cons.mp hb with rfl | hb
      · exact Nat.lt_succ_self _
      · rcases List.mem_cons.mp hb with rfl | hb
        · exact Nat.lt_succ_of_lt hag
        · exact Nat.lt_succ_of_lt (Nat.lt_trans (List.mem_range.mp hb) hag)
    · intro b hb
      rcases List.mem_cons.mp hb with rfl | hb
      · show s.heap.objs.size - 1 < (s.heap.push { cls := .type "list_iterator", data := .fields #[.ref P, .int 0 0] }).objs.size
        omega
      · rcases List.mem_cons.mp hb with rfl | hb
        · exact Nat.sub_lt (Nat.zero_lt_of_lt hL) Nat.one_pos
        · cases hb
end
end
section
open PySem PySem.W PySem.Calls PyProof.Rows PySem.Builtin PySem.Builtin.Str
set_option maxHeartbeats 1000000 in
theorem push_ok (w : World) (mean) (mg mb) (x y : Str) (t u : Tok) (P D : Addr) (k : Int) (n : Nat) (rows : List Row4) (hr : rows.length ≤ 1000) :
    GClaim1 w mean mg mb 2 69 [.ref P, .str x t, .str y u] [] (fun news _ => AccAt 125 P D k n rows news) (fun h₀ L m news K => ∀ a n' news' h' tk', AccAt 125 P D k n' (rows ++ [⟨a, x, t, y, u⟩]) news' → Kept P news news' → Fr h₀ L h' m → News h₀ L h' news' → K .none h' tk') := by
  unfold GClaim1 prog1
  k_fill
  intros; rename_i hpre hdp hun hret
  dsimp only at hpre hret
  obtain ⟨hm1, ⟨hh, ht, hu, hm2⟩, hm3⟩ := hpre
  refine wpAny_call ?_
  k_dflt (first | (refine' code_def ?k1 ?k2 ?k3 ?k4 ?k5 ?kA ?kF ?kK ?k6 ?k7 ?k8 ?k9 ?kB ?_ ?c2 ?c3 ?c4 ?c5; (case kA => exact rfl); (case kF => exact rfl); (case kK => (first | with_reducible assumption | assumption)); (case k1 => k_asm); (case k2 => k_asm); (case k3 => k_asm); (case k4 => k_asm); (case k5 => k_asm); (case k6 => k_is); (case k7 => k_is); (case k8 => ktr_room); (case k9 => exact binds_K (by k_in) rfl (by k_is) rfl rfl rfl); (case c5 => decide); (case kB => exact locs rfl); (case c2 => exact rfl); (case c3 => exact rfl); (case c4 => exact rfl); k_whole; intro g' L' h' FG' F' N' B' X' T'; (try dsimp only); (try k_lift B'); (try k_fold)) | (refine' ks_code_super ?k1 ?k2 ?k3 ?k4 ?k5 ?kA ?kF ?kK ?k6 ?k7 ?k8 ?k9 ?kB ?_ ?c1 ?c2 ?c3 ?c4; (case kA => exact rfl); (case kF => exact rfl); (case kK => first | exact rfl | (first | with_reducible assumption | assumption)); (case k1 => k_asm); (case k2 => k_asm); (case k3 => k_asm); (case k4 => k_asm); (case k5 => k_asm); (case k6 => k_is); (case k7 => k_is); (case k8 => ktr_room); (case k9 => first | exact BindsTo.of_eq rfl | exact binds_K (by k_in) rfl (by k_is) rfl rfl rfl); (case kB => exact locs rfl); (case c1 => decide); (case c2 => exact rfl); (case c3 => exact rfl); (case c4 => exact rfl); intro g' L' h' FG' F' N' B' X' T' lc1; (try k_lt lc1); (try dsimp only); (try k_lift B')) | (refine' code_defC ?k1 ?k2 ?k3 ?k4 ?k5 ?kA ?kF ?kK ?k6 ?k7 ?k8 ?k9 ?kB ?kD ?_ ?c2 ?c3 ?c4; (case kA => exact rfl); (case kF => exact rfl); (case kK => first | exact rfl | (first | with_reducible assumption | assumption)); (case k1 => k_asm); (case k2 => k_asm); (case k3 => k_asm); (case k4 => k_asm); (case k5 => k_asm); (case k6 => k_is); (case k7 => k_is); (case k8 => ktr_room); (case k9 => first | exact BindsTo.of_eq rfl | exact binds_K (by k_in) rfl (by k_is) rfl rfl rfl | fail "k_enter: no rule for these arguments"); (case kB => exact rfl); (case kD => decide +kernel); (case c2 => exact rfl); (case c3 => exact rfl); (case c4 => exact rfl); k_whole; intro g' L' h' tk' cells' FG' F' N' Y' B' X' T' lc1; (try k_lt lc1); k_cells Y'; (try simp only [List.cons_append, List.nil_append] at N'); (try dsimp only); (try k_lift B'); (try k_fold)) | cell_enter)
  repeat' (first | (k_unfold; (try dsimp only)) | (k_end; wrow_close) | (with_reducible (first | (k_here; (with_reducible show wpAny _ _ (call (Value.builtin "list.append") [Value.ref _, _] _) _ _ _); k_dflt (refine' acc_append ?aF_2 ?aX_2 ?aN_2 ?a1_2 ?a2_2 ?ai_2 ?az_2 ?_; (case aF_2 => k_asm); (case aX_2 => k_asm); (case aN_2 => k_asm); (case a1_2 => k_mem); (case a2_2 => k_mem); (case ai_2 => k_is); (case az_2 => (simp only [List.length_map]; omega)); intro h' F' N')) | (k_here; (with_reducible show wpAny _ _ (getMethod (Value.ref _) _ _) _ _ _); k_dflt (refine' acc_method_K ?aF_1 ?aX_1 ?aN_1 ?a1_1 ?a2_1 ?ag_1 ?ak_1 ?af_1 ?aq_1 ?ar_1 ?aw_1 ?_; (case aF_1 => k_asm); (case aX_1 => k_asm); (case aN_1 => k_asm); (case a1_1 => k_mem); (case a2_1 => k_mem); (case ag_1 => k_is); (case ak_1 => k_is); (case af_1 => k_is); (case aq_1 => k_is); (case ar_1 => decide +kernel); (case aw_1 => rfl))))) | walk1 | (dsimp only; first | (with_reducible (first | (k_here; (with_reducible show wpAny _ _ (call (Value.builtin "list.append") [Value.ref _, _] _) _ _ _); k_dflt (refine' acc_append ?aF_2 ?aX_2 ?aN_2 ?a1_2 ?a2_2 ?ai_2 ?az_2 ?_; (case aF_2 => k_asm); (case aX_2 => k_asm); (case aN_2 => k_asm); (case a1_2 => k_mem); (case a2_2 => k_mem); (case ai_2 => k_is); (case az_2 => (simp only [List.length_map]; omega)); intro h' F' N')) | (k_here; (with_reducible show wpAny _ _ (getMethod (Value.ref _) _ _) _ _ _); k_dflt (refine' acc_method_K ?aF_1 ?aX_1 ?aN_1 ?a1_1 ?a2_1 ?ag_1 ?ak_1 ?af_1 ?aq_1 ?ar_1 ?aw_1 ?_; (case aF_1 => k_asm); (case aX_1 => k_asm); (case aN_1 => k_asm); (case a1_1 => k_mem); (case a2_1 => k_mem); (case ag_1 => k_is); (case ak_1 => k_is); (case af_1 => k_is); (case aq_1 => k_is); (case ar_1 => decide +kernel); (case aw_1 => rfl))))) | walk1) | (leave1; try dsimp only) | fail "no step")
  have z := AccAt.pushed (by assumption) (show AccAt _ _ _ _ _ _ _ from ⟨hm1, ⟨hh, ht, hu, hm2⟩, hm3⟩)
  exact hret _ _ _ _ _ z.1 z.2 (by k_asm) (by k_asm)
end
section
local macro_rules | `(tactic| walk_at "gclaim") => `(tactic| ((try (case gB => k_asm)); (try (case gF => k_asm)); (try (case gX => k_asm)); (try (case gN => k_asm)); (try (case gT => k_asm)); (try (case gk => first | exact rfl | (first | with_reducible assumption | assumption))); (try (case gd => ktr_room)); (try (case gu => ktr_units))))
open PySem PySem.W PySem.Calls PyProof.Rows PySem.Builtin PySem.Builtin.Str
set_option maxHeartbeats 1000000 in
theorem count_ok (w : World) (mean) (mg mb) (P D : Addr) (k : Int) (n : Nat) (rows : List Row4) (hr : rows.length ≤ 1000) :
    GClaim1 w mean mg mb 3 122 [.ref P] [] (fun news _ => AccAt 125 P D k n rows news) (fun h₀ L m news K => ∀ t h' tk', Fr h₀ L h' m → News h₀ L h' news → K (.int rows.length t) h' tk') := by
  unfold GClaim1 prog1
  k_fill
  intros; rename_i hpre hdp hun hret
  dsimp only at hpre hret
  obtain ⟨hm1, ⟨hh, ht, hu, hm2⟩, hm3⟩ := hpre
  refine wpAny_call ?_
  k_dflt (first | (refine' code_def ?k1 ?k2 ?k3 ?k4 ?k5 ?kA ?kF ?kK ?k6 ?k7 ?k8 ?k9 ?kB ?_ ?c2 ?c3 ?c4 ?c5; (case kA => exact rfl); (case kF => exact rfl); (case kK => (first | with_reducible assumption | assumption)); (case k1 => k_asm); (case k2 => k_asm); (case k3 => k_asm); (case k4 => k_asm); (case k5 => k_asm); (case k6 => k_is); (case k7 => k_is); (case k8 => ktr_room); (case k9 => exact binds_K (by k_in) rfl (by k_is) rfl rfl rfl); (case c5 => decide); (case kB => exact locs rfl); (case c2 => exact rfl); (case c3 => exact rfl); (case c4 => exact rfl); k_whole; intro g' L' h' FG' F' N' B' X' T'; (try dsimp only); (try k_lift B'); (try k_fold)) | (refine' ks_code_super ?k1 ?k2 ?k3 ?k4 ?k5 ?kA ?kF ?kK ?k6 ?k7 ?k8 ?k9 ?kB ?_ ?c1 ?c2 ?c3 ?c4; (case kA => exact rfl); (case kF => exact rfl); (case kK => first | exact rfl | (first | with_reducible assumption | assumption)); (case k1 => k_asm); (case k2 => k_asm); (case k3 => k_asm); (case k4 => k_asm); (case k5 => k_asm); (case k6 => k_is); (case k7 => k_is); (case k8 => ktr_room); (case k9 => first | exact BindsTo.of_eq rfl | exact binds_K (by k_in) rfl (by k_is) rfl rfl rfl); (case kB => exact locs rfl); (case c1 => decide); (case c2 => exact rfl); (case c3 => exact rfl); (case c4 => exact rfl); intro g' L' h' FG' F' N' B' X' T' lc1; (try k_lt lc1); (try dsimp only); (try k_lift B')) | (refine' code_defC ?k1 ?k2 ?k3 ?k4 ?k5 ?kA ?kF ?kK ?k6 ?k7 ?k8 ?k9 ?kB ?kD ?_ ?c2 ?c3 ?c4; (case kA => exact rfl); (case kF => exact rfl); (case kK => first | exact rfl | (first | with_reducible assumption | assumption)); (case k1 => k_asm); (case k2 => k_asm); (case k3 => k_asm); (case k4 => k_asm); (case k5 => k_asm); (case k6 => k_is); (case k7 => k_is); (case k8 => ktr_room); (case k9 => first | exact BindsTo.of_eq rfl | exact binds_K (by k_in) rfl (by k_is) rfl rfl rfl | fail "k_enter: no rule for these arguments"); (case kB => exact rfl); (case kD => decide +kernel); (case c2 => exact rfl); (case c3 => exact rfl); (case c4 => exact rfl); k_whole; intro g' L' h' tk' cells' FG' F' N' Y' B' X' T' lc1; (try k_lt lc1); k_cells Y'; (try simp only [List.cons_append, List.nil_append] at N'); (try dsimp only); (try k_lift B'); (try k_fold)) | cell_enter)
  repeat' (first | (k_unfold; (try dsimp only)) | (k_end; wrow_close) | (with_reducible (first | (k_here; (with_reducible show wpAny _ _ (call (Value.ref _) []) _ _ _); k_dflt (refine' call_len ?aN_7 ?a1_7 ?a2_7 ?_; (case aN_7 => k_asm); (case a1_7 => k_mem); (case a2_7 => k_mem); intro _ _)) | (k_here; (with_reducible show wpAny _ _ (callWith _ (Value.ref _) _ _ _) _ _ _); k_dflt (first | (refine' callWith_wrap ?aN_6 ?a1_6 ?_; (case aN_6 => k_asm); (case a1_6 => k_mem)) | (refine' callWith_bnd ?aN_6 ?a1_6 ?_; (case aN_6 => k_asm); (case a1_6 => k_mem)))) | (k_here; (with_reducible show wpAny _ _ (getMethod (Value.ref _) (Str.ofString "__len__") _) _ _ _); k_dflt (refine' sup_len ?aF_3 ?aX_3 ?aN_3 ?aS_3 ?a1_3 ?a2_3 ?ao_3 ?ai_3 ?am_3 ?_; (case aF_3 => k_asm); (case aX_3 => k_asm); (case aN_3 => k_asm); (case aS_3 => k_mem); (case a1_3 => k_mem); (case a2_3 => k_mem); (case ao_3 => k_is); (case ai_3 => k_is); (case am_3 => ks_is)); intro q' h' F' N' lc1; (try k_lt lc1)))) | walk1 | (dsimp only; first | (with_reducible (first | (k_here; (with_reducible show wpAny _ _ (call (Value.ref _) []) _ _ _); k_dflt (refine' call_len ?aN_7 ?a1_7 ?a2_7 ?_; (case aN_7 => k_asm); (case a1_7 => k_mem); (case a2_7 => k_mem); intro _ _)) | (k_here; (with_reducible show wpAny _ _ (callWith _ (Value.ref _) _ _ _) _ _ _); k_dflt (first | (refine' callWith_wrap ?aN_6 ?a1_6 ?_; (case aN_6 => k_asm); (case a1_6 => k_mem)) | (refine' callWith_bnd ?aN_6 ?a1_6 ?_; (case aN_6 => k_asm); (case a1_6 => k_mem)))) | (k_here; (with_reducible show wpAny _ _ (getMethod (Value.ref _) (Str.ofString "__len__") _) _ _ _); k_dflt (refine' sup_len ?aF_3 ?aX_3 ?aN_3 ?aS_3 ?a1_3 ?a2_3 ?ao_3 ?ai_3 ?am_3 ?_; (case aF_3 => k_asm); (case aX_3 => k_asm); (case aN_3 => k_asm); (case aS_3 => k_mem); (case a1_3 => k_mem); (case a2_3 => k_mem); (case ao_3 => k_is); (case ai_3 => k_is); (case am_3 => ks_is)); intro q' h' F' N' lc1; (try k_lt lc1)))) | walk1) | (leave1; try dsimp only) | fail "no step")
  simp only [List.length_map]
  exact hret _ _ _ (by k_asm) (by refine cb_drop (by k_asm) ?_; intro p hp; exact .tail _ (.tail _ hp))
section
set_option maxHeartbeats 1000000 in
theorem pop_nil (w : World) (mean) (mg mb) (P D : Addr) (k : Int) (n : Nat) :
    GClaim1 w mean mg mb 6 85 [.ref P] [] (fun news _ => AccAt 125 P D k n [] news) (fun h₀ L m news K => ∀ q h' tk' t u, Fr h₀ L h' m → News h₀ L h' ((q, tupO [.str (Str.ofString "") t, .str (Str.ofString "") u]) :: news) → (∀ p ∈ news, p.1 < q) → K (.ref q) h' tk') := by
  unfold GClaim1 prog1
  k_fill
  intros; rename_i hpre hdp hun hret
  dsimp only at hpre hret
  have hacc := hpre
  obtain ⟨hm1, ⟨hh, ht, hu, hm2⟩, hm3⟩ := hpre
  refine wpAny_call ?_
  k_dflt (first | (refine' code_def ?k1 ?k2 ?k3 ?k4 ?k5 ?kA ?kF ?kK ?k6 ?k7 ?k8 ?k9 ?kB ?_ ?c2 ?c3 ?c4 ?c5; (case kA => exact rfl); (case kF => exact rfl); (case kK => (first | with_reducible assumption | assumption)); (case k1 => k_asm); (case k2 => k_asm); (case k3 => k_asm); (case k4 => k_asm); (case k5 => k_asm); (case k6 => k_is); (case k7 => k_is); (case k8 => ktr_room); (case k9 => exact binds_K (by k_in) rfl (by k_is) rfl rfl rfl); (case c5 => decide); (case kB => exact locs rfl); (case c2 => exact rfl); (case c3 => exact rfl); (case c4 => exact rfl); k_whole; intro g' L' h' FG' F' N' B' X' T'; (try dsimp only); (try k_lift B'); (try k_fold)) | (refine' ks_code_super ?k1 ?k2 ?k3 ?k4 ?k5 ?kA ?kF ?kK ?k6 ?k7 ?k8 ?k9 ?kB ?_ ?c1 ?c2 ?c3 ?c4; (case kA => exact rfl); (case kF => exact rfl); (case kK => first | exact rfl | (first | with_reducible assumption | assumption)); (case k1 => k_asm); (case k2 => k_asm); (case k3 => k_asm); (case k4 => k_asm); (case k5 => k_asm); (case k6 => k_is); (case k7 => k_is); (case k8 => ktr_room); (case k9 => first | exact BindsTo.of_eq rfl | exact binds_K (by k_in) rfl (by k_is) rfl rfl rfl); (case kB => exact locs rfl); (case c1 => decide); (case c2 => exact rfl); (case c3 => exact rfl); (case c4 => exact rfl); intro g' L' h' FG' F' N' B' X' T' lc1; (try k_lt lc1); (try dsimp only); (try k_lift B')) | (refine' code_defC ?k1 ?k2 ?k3 ?k4 ?k5 ?kA ?kF ?kK ?k6 ?k7 ?k8 ?k9 ?kB ?kD ?_ ?c2 ?c3 ?c4; (case kA => exact rfl); (case kF => exact rfl); (case kK => first | exact rfl | (first | with_reducible assumption | assumption)); (case k1 => k_asm); (case k2 => k_asm); (case k3 => k_asm); (case k4 => k_asm); (case k5 => k_asm); (case k6 => k_is); (case k7 => k_is); (case k8 => ktr_room); (case k9 => first | exact BindsTo.of_eq rfl | exact binds_K (by k_in) rfl (by k_is) rfl rfl rfl | fail "k_enter: no rule for these arguments"); (case kB => exact rfl); (case kD => decide +kernel); (case c2 => exact rfl); (case c3 => exact rfl); (case c4 => exact rfl); k_whole; intro g' L' h' tk' cells' FG' F' N' Y' B' X' T' lc1; (try k_lt lc1); k_cells Y'; (try simp only [List.cons_append, List.nil_append] at N'); (try dsimp only); (try k_lift B'); (try k_fold)) | cell_enter)
  repeat' (first | (k_unfold; (try dsimp only)) | (k_end; wrow_close) | (with_reducible (first | (k_here; (with_reducible show wpAny _ _ (call (Value.ref 122) _ _) _ _ _); k_dflt (refine' (count_ok _ _ _ _ _ _ _ _ _ ?ghr_13) _ _ _ _ _ _ _ _ _ _ _ _ _ _ _ _ _ _ ?gB ?gF ?gX ?gN ?gT ?gk ?gp_13 ?gd ?gu ?_; walk_at "gclaim"; (case gp_13 => (first | with_reducible assumption | assumption)); (case ghr_13 => (simp only [List.length_append, List.length_cons, List.length_nil]; omega)); intro t' h' tk' F' N'; (try dsimp only); (try k_fold))) | (k_here; (with_reducible show wpAny _ _ (getMethod (Value.ref _) _ _) _ _ _); k_dflt (refine' acc_method_K ?aF_1 ?aX_1 ?aN_1 ?a1_1 ?a2_1 ?ag_1 ?ak_1 ?af_1 ?aq_1 ?ar_1 ?aw_1 ?_; (case aF_1 => k_asm); (case aX_1 => k_asm); (case aN_1 => k_asm); (case a1_1 => k_mem); (case a2_1 => k_mem); (case ag_1 => k_is); (case ak_1 => k_is); (case af_1 => k_is); (case aq_1 => k_is); (case ar_1 => decide +kernel); (case aw_1 => rfl))))) | walk1 | (dsimp only; first | (with_reducible (first | (k_here; (with_reducible show wpAny _ _ (call (Value.ref 122) _ _) _ _ _); k_dflt (refine' (count_ok _ _ _ _ _ _ _ _ _ ?ghr_13) _ _ _ _ _ _ _ _ _ _ _ _ _ _ _ _ _ _ ?gB ?gF ?gX ?gN ?gT ?gk ?gp_13 ?gd ?gu ?_; walk_at "gclaim"; (case gp_13 => (first | with_reducible assumption | assumption)); (case ghr_13 => (simp only [List.length_append, List.length_cons, List.length_nil]; omega)); intro t' h' tk' F' N'; (try dsimp only); (try k_fold))) | (k_here; (with_reducible show wpAny _ _ (getMethod (Value.ref _) _ _) _ _ _); k_dflt (refine' acc_method_K ?aF_1 ?aX_1 ?aN_1 ?a1_1 ?a2_1 ?ag_1 ?ak_1 ?af_1 ?aq_1 ?ar_1 ?aw_1 ?_; (case aF_1 => k_asm); (case aX_1 => k_asm); (case aN_1 => k_asm); (case a1_1 => k_mem); (case a2_1 => k_mem); (case ag_1 => k_is); (case ak_1 => k_is); (case af_1 => k_is); (case aq_1 => k_is); (case ar_1 => decide +kernel); (case aw_1 => rfl))))) | walk1) | (leave1; try dsimp only) | fail "no step")
  exact hret _ _ _ _ _ (by k_asm) (by k_asm) (by first | assumption | (intro p hp; rename AllLt _ _ => hal; exact allLt_mem hal p hp))
end
end
section
local macro_rules | `(tactic| walk_at "gclaim") => `(tactic| ((try (case gB => k_asm)); (try (case gF => k_asm)); (try (case gX => k_asm)); (try (case gN => k_asm)); (try (case gT => k_asm)); (try (case gk => first | exact rfl | (first | with_reducible assumption | assumption))); (try (case gd => ktr_room)); (try (case gu => ktr_units))))
local macro_rules | `(tactic| walk_at "wpAt") => `(tactic| (k_here; k_dflt (ks_step "eval Call"; refine ks_wpAt_MethodCall ?_)))
local macro_rules | `(tactic| walk_at "wpAt") => `(tactic| (k_here; k_dflt (dsimp only)))
open PySem PySem.W PySem.Calls PyProof.Rows PySem.Builtin PySem.Builtin.Str
section
set_option maxHeartbeats 1000000 in
theorem pop_snoc (w : World) (mean) (mg mb) (P D : Addr) (k : Int) (n : Nat) (rows : List Row4) (r : Row4) (hr : rows.length ≤ 900) :
    GClaim1 w mean mg mb 6 85 [.ref P] [] (fun news _ => AccAt 125 P D k n (rows ++ [r]) news) (fun h₀ L m news K => ∀ news' h' tk', Fr h₀ L h' m → News h₀ L h' news' → AccAt 125 P D k (n + 1) rows news' → Kept P news news' → K (.ref r.a) h' tk') := by
  unfold GClaim1 prog1
  k_fill
  intros; rename_i hpre hdp hun hret
  dsimp only at hpre hret
  have hacc := hpre
  obtain ⟨hm1, ⟨hh, ht, hu, hm2⟩, hm3⟩ := hpre
  rw [List.map_append, List.map_cons, List.map_nil] at hm1
  refine wpAny_call ?_
  k_dflt (first | (refine' code_def ?k1 ?k2 ?k3 ?k4 ?k5 ?kA ?kF ?kK ?k6 ?k7 ?k8 ?k9 ?kB ?_ ?c2 ?c3 ?c4 ?c5; (case kA => exact rfl); (case kF => exact rfl); (case kK => (first | with_reducible assumption | assumption)); (case k1 => k_asm); (case k2 => k_asm); (case k3 => k_asm); (case k4 => k_asm); (case k5 => k_asm); (case k6 => k_is); (case k7 => k_is); (case k8 => ktr_room); (case k9 => exact binds_K (by k_in) rfl (by k_is) rfl rfl rfl); (case c5 => decide); (case kB => exact locs rfl); (case c2 => exact rfl); (case c3 => exact rfl); (case c4 => exact rfl); k_whole; intro g' L' h' FG' F' N' B' X' T'; (try dsimp only); (try k_lift B'); (try k_fold)) | (refine' ks_code_super ?k1 ?k2 ?k3 ?k4 ?k5 ?kA ?kF ?kK ?k6 ?k7 ?k8 ?k9 ?kB ?_ ?c1 ?c2 ?c3 ?c4; (case kA => exact rfl); (case kF => exact rfl); (case kK => first | exact rfl | (first | with_reducible assumption | assumption)); (case k1 => k_asm); (case k2 => k_asm); (case k3 => k_asm); (case k4 => k_asm); (case k5 => k_asm); (case k6 => k_is); (case k7 => k_is); (case k8 => ktr_room); (case k9 => first | exact BindsTo.of_eq rfl | exact binds_K (by k_in) rfl (by k_is) rfl rfl rfl); (case kB => exact locs rfl); (case c1 => decide); (case c2 => exact rfl); (case c3 => exact rfl); (case c4 => exact rfl); intro g' L' h' FG' F' N' B' X' T' lc1; (try k_lt lc1); (try dsimp only); (try k_lift B')) | (refine' code_defC ?k1 ?k2 ?k3 ?k4 ?k5 ?kA ?kF ?kK ?k6 ?k7 ?k8 ?k9 ?kB ?kD ?_ ?c2 ?c3 ?c4; (case kA => exact rfl); (case kF => exact rfl); (case kK => first | exact rfl | (first | with_reducible assumption | assumption)); (case k1 => k_asm); (case k2 => k_asm); (case k3 => k_asm); (case k4 => k_asm); (case k5 => k_asm); (case k6 => k_is); (case k7 => k_is); (case k8 => ktr_room); (case k9 => first | exact BindsTo.of_eq rfl | exact binds_K (by k_in) rfl (by k_is) rfl rfl rfl | fail "k_enter: no rule for these arguments"); (case kB => exact rfl); (case kD => decide +kernel); (case c2 => exact rfl); (case c3 => exact rfl); (case c4 => exact rfl); k_whole; intro g' L' h' tk' cells' FG' F' N' Y' B' X' T' lc1; (try k_lt lc1); k_cells Y'; (try simp only [List.cons_append, List.nil_append] at N'); (try dsimp only); (try k_lift B'); (try k_fold)) | cell_enter)
  repeat' (first | (k_unfold; (try dsimp only)) | (k_end; wrow_close) | (with_reducible (first | (k_here; (with_reducible show wpAny _ _ (call (Value.ref 122) _ _) _ _ _); k_dflt (refine' (count_ok _ _ _ _ _ _ _ _ _ ?ghr_13) _ _ _ _ _ _ _ _ _ _ _ _ _ _ _ _ _ _ ?gB ?gF ?gX ?gN ?gT ?gk ?gp_13 ?gd ?gu ?_; walk_at "gclaim"; (case gp_13 => (first | with_reducible assumption | assumption)); (case ghr_13 => (simp only [List.length_append, List.length_cons, List.length_nil]; omega)); intro t' h' tk' F' N'; (try dsimp only); (try k_fold))) | (k_here; (with_reducible show wpAny _ _ (call (Value.ref _) []) _ _ _); k_dflt (refine' call_pop ?aF_9 ?aX_9 ?aN_9 ?aq_9 ?a1_9 ?a2_9 ?az_9 ?ai_9 ?ac_9 ?at_9 ?ak_9 ?_; (case aF_9 => k_asm); (case aX_9 => k_asm); (case aN_9 => k_asm); (case aq_9 => k_mem); (case a1_9 => k_mem); (case a2_9 => k_mem); (case az_9 => (simp only [List.length_map]; omega)); (case ai_9 => k_is); (case ac_9 => k_is); (case at_9 => k_is); (case ak_9 => kernel_rfl)); intro h' F' N') | (k_here; (with_reducible show wpAny _ _ (callWith _ (Value.ref _) _ _ _) _ _ _); k_dflt (first | (refine' callWith_wrap ?aN_6 ?a1_6 ?_; (case aN_6 => k_asm); (case a1_6 => k_mem)) | (refine' callWith_bnd ?aN_6 ?a1_6 ?_; (case aN_6 => k_asm); (case a1_6 => k_mem)))) | (k_here; (with_reducible show wpAny _ _ (getMethod (Value.ref _) (Str.ofString "pop") _) _ _ _); k_dflt (refine' sup_pop ?aF_5 ?aX_5 ?aN_5 ?aS_5 ?a1_5 ?a2_5 ?ao_5 ?ai_5 ?am_5 ?_; (case aF_5 => k_asm); (case aX_5 => k_asm); (case aN_5 => k_asm); (case aS_5 => k_mem); (case a1_5 => k_mem); (case a2_5 => k_mem); (case ao_5 => k_is); (case ai_5 => k_is); (case am_5 => ks_is)); intro q' h' F' N' lc1; (try k_lt lc1)) | (k_here; (with_reducible show wpAny _ _ (getMethod (Value.ref _) _ _) _ _ _); k_dflt (refine' acc_method_K ?aF_1 ?aX_1 ?aN_1 ?a1_1 ?a2_1 ?ag_1 ?ak_1 ?af_1 ?aq_1 ?ar_1 ?aw_1 ?_; (case aF_1 => k_asm); (case aX_1 => k_asm); (case aN_1 => k_asm); (case a1_1 => k_mem); (case a2_1 => k_mem); (case ag_1 => k_is); (case ak_1 => k_is); (case af_1 => k_is); (case aq_1 => k_is); (case ar_1 => decide +kernel); (case aw_1 => rfl))))) | walk1 | (dsimp only; first | (with_reducible (first | (k_here; (with_reducible show wpAny _ _ (call (Value.ref 122) _ _) _ _ _); k_dflt (refine' (count_ok _ _ _ _ _ _ _ _ _ ?ghr_13) _ _ _ _ _ _ _ _ _ _ _ _ _ _ _ _ _ _ ?gB ?gF ?gX ?gN ?gT ?gk ?gp_13 ?gd ?gu ?_; walk_at "gclaim"; (case gp_13 => (first | with_reducible assumption | assumption)); (case ghr_13 => (simp only [List.length_append, List.length_cons, List.length_nil]; omega)); intro t' h' tk' F' N'; (try dsimp only); (try k_fold))) | (k_here; (with_reducible show wpAny _ _ (call (Value.ref _) []) _ _ _); k_dflt (refine' call_pop ?aF_9 ?aX_9 ?aN_9 ?aq_9 ?a1_9 ?a2_9 ?az_9 ?ai_9 ?ac_9 ?at_9 ?ak_9 ?_; (case aF_9 => k_asm); (case aX_9 => k_asm); (case aN_9 => k_asm); (case aq_9 => k_mem); (case a1_9 => k_mem); (case a2_9 => k_mem); (case az_9 => (simp only [List.length_map]; omega)); (case ai_9 => k_is); (case ac_9 => k_is); (case at_9 => k_is); (case ak_9 => kernel_rfl)); intro h' F' N') | (k_here; (with_reducible show wpAny _ _ (callWith _ (Value.ref _) _ _ _) _ _ _); k_dflt (first | (refine' callWith_wrap ?aN_6 ?a1_6 ?_; (case aN_6 => k_asm); (case a1_6 => k_mem)) | (refine' callWith_bnd ?aN_6 ?a1_6 ?_; (case aN_6 => k_asm); (case a1_6 => k_mem)))) | (k_here; (with_reducible show wpAny _ _ (getMethod (Value.ref _) (Str.ofString "pop") _) _ _ _); k_dflt (refine' sup_pop ?aF_5 ?aX_5 ?aN_5 ?aS_5 ?a1_5 ?a2_5 ?ao_5 ?ai_5 ?am_5 ?_; (case aF_5 => k_asm); (case aX_5 => k_asm); (case aN_5 => k_asm); (case aS_5 => k_mem); (case a1_5 => k_mem); (case a2_5 => k_mem); (case ao_5 => k_is); (case ai_5 => k_is); (case am_5 => ks_is)); intro q' h' F' N' lc1; (try k_lt lc1)) | (k_here; (with_reducible show wpAny _ _ (getMethod (Value.ref _) _ _) _ _ _); k_dflt (refine' acc_method_K ?aF_1 ?aX_1 ?aN_1 ?a1_1 ?a2_1 ?ag_1 ?ak_1 ?af_1 ?aq_1 ?ar_1 ?aw_1 ?_; (case aF_1 => k_asm); (case aX_1 => k_asm); (case aN_1 => k_asm); (case a1_1 => k_mem); (case a2_1 => k_mem); (case ag_1 => k_is); (case ak_1 => k_is); (case af_1 => k_is); (case aq_1 => k_is); (case ar_1 => decide +kernel); (case aw_1 => rfl))))) | walk1) | (leave1; try dsimp only) | fail "no step")
  · exfalso; rename (_ : Int) = 0 => hz; simp only [List.length_append, List.length_map, List.length_cons, List.length_nil] at hz; omega
  · refine hret _ _ _ (by k_asm) (by k_asm) ?_ (fun p hp hne => .tail _ (mem_but.mpr ⟨.tail _ (.tail _ hp), hne⟩))
    refine' (AccAt.turned (h₀ := ?_) (L := ?_) (h := ?_) ?tN (hacc.grown fun p hp => .tail _ (.tail _ hp)) (fun r' hr' => .tail _ (.tail _ (hm3 r' (List.mem_append.mpr (.inl hr')))))).1
    rotate_right; assumption
end
end
section
open PySem PySem.W PySem.Calls PyProof.Rows PySem.Builtin PySem.Builtin.Str
/-- a contract whose end may stand in any state (generators made on the way) -/
noncomputable abbrev GClaimS (w : World) (mean : ExcName → Option Value) (mg mb : Str → Option Value) (room : Nat) (f : Addr) (args : List Value) (kw : List (Str × Value)) (pre : Led → Params → Prop) (post : Heap → Addr → Mp → Led → Shared → (Value → Shared → Prop) → Prop) : Prop :=
  ∀ (dp un : Nat) (gd : Option (List Code)) (cn : Str) (cs : Scope) (a : Addr) (ccd : Value) (cl : List (Str × Addr)) (outer : List Env) (A₀ : Around) (base h₀ : Heap) (L : Addr) (m : Mp) (news : Led) (s : Shared) (Q E : Value → Shared → Prop),
    Below A₀ base outer h₀ → Fr h₀ L s.heap m → (Mine.K1 w.params).In h₀ → News h₀ L s.heap news → Top view1 loose1 mean mg mb h₀ → cs.kind = .function →
    pre news w.params → AllBare s.gens → dp + room < recursionLimit → un + 8 * room < cLine →
    post h₀ L m news s Q →
      wpAny (model prog1 w) (ktrTop dp un gd cn cs L a ccd cl outer) (call (.ref f) args kw) Q E s
theorem sum_cast (rows : List Row4) (f : Row4 → Nat) : (rows.map fun r => ((f r : Nat) : Int)).sum = (((rows.map f).sum : Nat) : Int) := by
  induction rows with
  | nil => rfl
  | cons r rs ih => simp only [List.map_cons, List.sum_cons, ih, Int.natCast_add]
noncomputable def lenR (rows : List Row4) : Nat := (rows.map fun r => r.x.length + r.y.length).sum
section
end
end
section
open PySem PySem.W PySem.Calls PyProof.Rows PySem.Builtin PySem.Builtin.Str
noncomputable def strR (rows : List Row4) : Str := Txt.join "" (rows.map fun r => Txt.join "" [r.x, r.y])
section
end
end
section
open PySem PySem.W PySem.Calls PyProof.Rows PySem.Builtin PySem.Builtin.Str
set_option maxHeartbeats 1000000 in
theorem acc_new (w : World) (mean) (mg mb) (k : Int) (t : Tok) :
    GClaim1 w mean mg mb 6 125 [.int k t] [] (fun news _ => True) (fun h₀ L m news K => ∀ P D n h' tk', Fr h₀ L h' m → (∃ news', News h₀ L h' news' ∧ AccAt 125 P D k n [] news' ∧ ∀ p ∈ news, p ∈ news') → K (.ref P) h' tk') := by
  unfold GClaim1 prog1
  k_fill
  intros; rename_i hpre hdp hun hret
  try dsimp only at hpre
  try dsimp only at hret
  (refine' call_acc ?aF ?aX ?aN ?am ?ai ?af ?_; (case aF => k_asm); (case aX => k_asm); (case aN => k_asm); (case am => kernel_rfl); (case ai => k_is); (case af => k_is); intro x' d' h' F' N' l1 l2; (try k_lt l1); (try k_lt2 l2); k_dflt (first | (refine' code_def ?k1 ?k2 ?k3 ?k4 ?k5 ?kA ?kF ?kK ?k6 ?k7 ?k8 ?k9 ?kB ?_ ?c2 ?c3 ?c4 ?c5; (case kA => exact rfl); (case kF => exact rfl); (case kK => (first | with_reducible assumption | assumption)); (case k1 => k_asm); (case k2 => k_asm); (case k3 => k_asm); (case k4 => k_asm); (case k5 => k_asm); (case k6 => k_is); (case k7 => k_is); (case k8 => ktr_room); (case k9 => exact binds_K (by k_in) rfl (by k_is) rfl rfl rfl); (case c5 => decide); (case kB => exact locs rfl); (case c2 => exact rfl); (case c3 => exact rfl); (case c4 => exact rfl); k_whole; intro g' L' h' FG' F' N' B' X' T'; (try dsimp only); (try k_lift B'); (try k_fold)) | (refine' ks_code_super ?k1 ?k2 ?k3 ?k4 ?k5 ?kA ?kF ?kK ?k6 ?k7 ?k8 ?k9 ?kB ?_ ?c1 ?c2 ?c3 ?c4; (case kA => exact rfl); (case kF => exact rfl); (case kK => first | exact rfl | (first | with_reducible assumption | assumption)); (case k1 => k_asm); (case k2 => k_asm); (case k3 => k_asm); (case k4 => k_asm); (case k5 => k_asm); (case k6 => k_is); (case k7 => k_is); (case k8 => ktr_room); (case k9 => first | exact BindsTo.of_eq rfl | exact binds_K (by k_in) rfl (by k_is) rfl rfl rfl); (case kB => exact locs rfl); (case c1 => decide); (case c2 => exact rfl); (case c3 => exact rfl); (case c4 => exact rfl); intro g' L' h' FG' F' N' B' X' T' lc1; (try k_lt lc1); (try dsimp only); (try k_lift B')) | (refine' code_defC ?k1 ?k2 ?k3 ?k4 ?k5 ?kA ?kF ?kK ?k6 ?k7 ?k8 ?k9 ?kB ?kD ?_ ?c2 ?c3 ?c4; (case kA => exact rfl); (case kF => exact rfl); (case kK => first | exact rfl | (first | with_reducible assumption | assumption)); (case k1 => k_asm); (case k2 => k_asm); (case k3 => k_asm); (case k4 => k_asm); (case k5 => k_asm); (case k6 => k_is); (case k7 => k_is); (case k8 => ktr_room); (case k9 => first | exact BindsTo.of_eq rfl | exact binds_K (by k_in) rfl (by k_is) rfl rfl rfl | fail "k_enter: no rule for these arguments"); (case kB => exact rfl); (case kD => decide +kernel); (case c2 => exact rfl); (case c3 => exact rfl); (case c4 => exact rfl); k_whole; intro g' L' h' tk' cells' FG' F' N' Y' B' X' T' lc1; (try k_lt lc1); k_cells Y'; (try simp only [List.cons_append, List.nil_append] at N'); (try dsimp only); (try k_lift B'); (try k_fold)) | cell_enter))
  repeat' (first | (k_unfold; (try dsimp only)) | (k_end; wrow_close) | (with_reducible (first | (k_here; (first | with_reducible show PySem.wpAt _ _ _ _ _ _ _ | with_reducible show PyProof.Rows.wpAt _ _ _ _ _ _ _); k_dflt (dsimp only)) | (k_here; (first | with_reducible show PySem.wpAt _ _ _ _ _ _ _ | with_reducible show PyProof.Rows.wpAt _ _ _ _ _ _ _); k_dflt (ks_step "exec Expr"; refine ks_wpAt_Expr_any ?_)) | (k_here; (first | with_reducible show PySem.wpAt _ _ _ _ _ _ _ | with_reducible show PyProof.Rows.wpAt _ _ _ _ _ _ _); k_dflt (ks_step "eval Call"; refine ks_wpAt_MethodCall ?_)) | (k_here; (with_reducible show wpAny _ _ (setAttr (Value.ref _) _ _) _ _ _); k_dflt (refine' acc_set ?aF_13 ?aX_13 ?aN_13 ?a1_13 ?a2_13 ?ag_13 ?ap_13 ?at_13 ?ah_13 ?_; (case aF_13 => k_asm); (case aX_13 => k_asm); (case aN_13 => k_asm); (case a1_13 => k_mem); (case a2_13 => k_mem); (case ag_13 => k_is); (case ap_13 => kernel_rfl); (case at_13 => k_is); (case ah_13 => kernel_rfl)); intro h' hsh' tk' k' F' N' hK') | (k_here; (with_reducible show wpAny _ _ (call (Value.ref _) []) _ _ _); k_dflt (refine' call_init ?aF_8 ?aN_8 ?a1_8 ?a2_8 ?_; (case aF_8 => k_asm); (case aN_8 => k_asm); (case a1_8 => k_mem); (case a2_8 => k_mem)); intro h' F' N') | (k_here; (with_reducible show wpAny _ _ (callWith _ (Value.ref _) _ _ _) _ _ _); k_dflt (first | (refine' callWith_wrap ?aN_6 ?a1_6 ?_; (case aN_6 => k_asm); (case a1_6 => k_mem)) | (refine' callWith_bnd ?aN_6 ?a1_6 ?_; (case aN_6 => k_asm); (case a1_6 => k_mem)))) | (k_here; (with_reducible show wpAny _ _ (getMethod (Value.ref _) (Str.ofString "__init__") _) _ _ _); k_dflt (refine' sup_init ?aF_4 ?aX_4 ?aN_4 ?aS_4 ?a1_4 ?a2_4 ?ao_4 ?ai_4 ?am_4 ?_; (case aF_4 => k_asm); (case aX_4 => k_asm); (case aN_4 => k_asm); (case aS_4 => k_mem); (case a1_4 => k_mem); (case a2_4 => k_mem); (case ao_4 => k_is); (case ai_4 => k_is); (case am_4 => ks_is)); intro q' h' F' N' lc1; (try k_lt lc1)))) | walk1 | (dsimp only; first | (with_reducible (first | (k_here; (first | with_reducible show PySem.wpAt _ _ _ _ _ _ _ | with_reducible show PyProof.Rows.wpAt _ _ _ _ _ _ _); k_dflt (dsimp only)) | (k_here; (first | with_reducible show PySem.wpAt _ _ _ _ _ _ _ | with_reducible show PyProof.Rows.wpAt _ _ _ _ _ _ _); k_dflt (ks_step "exec Expr"; refine ks_wpAt_Expr_any ?_)) | (k_here; (first | with_reducible show PySem.wpAt _ _ _ _ _ _ _ | with_reducible show PyProof.Rows.wpAt _ _ _ _ _ _ _); k_dflt (ks_step "eval Call"; refine ks_wpAt_MethodCall ?_)) | (k_here; (with_reducible show wpAny _ _ (setAttr (Value.ref _) _ _) _ _ _); k_dflt (refine' acc_set ?aF_13 ?aX_13 ?aN_13 ?a1_13 ?a2_13 ?ag_13 ?ap_13 ?at_13 ?ah_13 ?_; (case aF_13 => k_asm); (case aX_13 => k_asm); (case aN_13 => k_asm); (case a1_13 => k_mem); (case a2_13 => k_mem); (case ag_13 => k_is); (case ap_13 => kernel_rfl); (case at_13 => k_is); (case ah_13 => kernel_rfl)); intro h' hsh' tk' k' F' N' hK') | (k_here; (with_reducible show wpAny _ _ (call (Value.ref _) []) _ _ _); k_dflt (refine' call_init ?aF_8 ?aN_8 ?a1_8 ?a2_8 ?_; (case aF_8 => k_asm); (case aN_8 => k_asm); (case a1_8 => k_mem); (case a2_8 => k_mem)); intro h' F' N') | (k_here; (with_reducible show wpAny _ _ (callWith _ (Value.ref _) _ _ _) _ _ _); k_dflt (first | (refine' callWith_wrap ?aN_6 ?a1_6 ?_; (case aN_6 => k_asm); (case a1_6 => k_mem)) | (refine' callWith_bnd ?aN_6 ?a1_6 ?_; (case aN_6 => k_asm); (case a1_6 => k_mem)))) | (k_here; (with_reducible show wpAny _ _ (getMethod (Value.ref _) (Str.ofString "__init__") _) _ _ _); k_dflt (refine' sup_init ?aF_4 ?aX_4 ?aN_4 ?aS_4 ?a1_4 ?a2_4 ?ao_4 ?ai_4 ?am_4 ?_; (case aF_4 => k_asm); (case aX_4 => k_asm); (case aN_4 => k_asm); (case aS_4 => k_mem); (case a1_4 => k_mem); (case a2_4 => k_mem); (case ao_4 => k_is); (case ai_4 => k_is); (case am_4 => ks_is)); intro q' h' F' N' lc1; (try k_lt lc1)))) | walk1) | (leave1; try dsimp only) | fail "no step")
  refine hret _ _ _ _ _ (by k_asm) ⟨_, by k_asm, ⟨.head _, ⟨_, _, _, .tail _ (mem_but.mpr ⟨.tail _ (.tail _ (.head _)), Nat.ne_of_lt l2⟩)⟩, fun r hr => nomatch hr⟩, fun p hp => .tail _ (mem_but.mpr ⟨.tail _ (.tail _ (.tail _ (mem_but.mpr ⟨.tail _ (.tail _ hp), Nat.ne_of_lt (l1 p hp)⟩))), Nat.ne_of_lt (Nat.lt_trans (l1 p hp) l2)⟩)⟩
end
section
open PySem PySem.W PySem.Calls PyProof.Rows PySem.Builtin PySem.Builtin.Str
section
set_option maxHeartbeats 1000000 in
theorem tab_nil (w : World) (mean) (mg mb) :
    GClaim1 w mean mg mb 6 273 [] [] (fun _ _ => True) (fun h₀ L m news K => ∀ T TD HL n h' tk', Fr h₀ L h' m → (∃ news', News h₀ L h' news' ∧ TabAt 273 w.params T TD HL n [] news' ∧ ∀ p ∈ news, p ∈ news') → K (.ref T) h' tk') := by
  unfold GClaim1 prog1
  k_fill
  intros; rename_i hpre hdp hun hret
  try dsimp only at hpre
  try dsimp only at hret
  (refine' call_cls ?k1 ?k2 ?k3 ?k4 ?k5 ?k6 ?_; (case k1 => k_asm); (case k2 => k_asm); (case k3 => k_asm); (case k4 => k_is); (case k5 => k_is); (case k6 => k_is); intro x' d' h' F' N' l1 l2; (try k_lt l1); (try k_lt2 l2); k_dflt (first | (refine' code_def ?k1 ?k2 ?k3 ?k4 ?k5 ?kA ?kF ?kK ?k6 ?k7 ?k8 ?k9 ?kB ?_ ?c2 ?c3 ?c4 ?c5; (case kA => exact rfl); (case kF => exact rfl); (case kK => (first | with_reducible assumption | assumption)); (case k1 => k_asm); (case k2 => k_asm); (case k3 => k_asm); (case k4 => k_asm); (case k5 => k_asm); (case k6 => k_is); (case k7 => k_is); (case k8 => ktr_room); (case k9 => exact binds_K (by k_in) rfl (by k_is) rfl rfl rfl); (case c5 => decide); (case kB => exact locs rfl); (case c2 => exact rfl); (case c3 => exact rfl); (case c4 => exact rfl); k_whole; intro g' L' h' FG' F' N' B' X' T'; (try dsimp only); (try k_lift B'); (try k_fold)) | (refine' ks_code_super ?k1 ?k2 ?k3 ?k4 ?k5 ?kA ?kF ?kK ?k6 ?k7 ?k8 ?k9 ?kB ?_ ?c1 ?c2 ?c3 ?c4; (case kA => exact rfl); (case kF => exact rfl); (case kK => first | exact rfl | (first | with_reducible assumption | assumption)); (case k1 => k_asm); (case k2 => k_asm); (case k3 => k_asm); (case k4 => k_asm); (case k5 => k_asm); (case k6 => k_is); (case k7 => k_is); (case k8 => ktr_room); (case k9 => first | exact BindsTo.of_eq rfl | exact binds_K (by k_in) rfl (by k_is) rfl rfl rfl); (case kB => exact locs rfl); (case c1 => decide); (case c2 => exact rfl); (case c3 => exact rfl); (case c4 => exact rfl); intro g' L' h' FG' F' N' B' X' T' lc1; (try k_lt lc1); (try dsimp only); (try k_lift B')) | (refine' code_defC ?k1 ?k2 ?k3 ?k4 ?k5 ?kA ?kF ?kK ?k6 ?k7 ?k8 ?k9 ?kB ?kD ?_ ?c2 ?c3 ?c4; (case kA => exact rfl); (case kF => exact rfl); (case kK => first | exact rfl | (first | with_reducible assumption | assumption)); (case k1 => k_asm); (case k2 => k_asm); (case k3 => k_asm); (case k4 => k_asm); (case k5 => k_asm); (case k6 => k_is); (case k7 => k_is); (case k8 => ktr_room); (case k9 => first | exact BindsTo.of_eq rfl | exact binds_K (by k_in) rfl (by k_is) rfl rfl rfl | fail "k_enter: no rule for these arguments"); (case kB => exact rfl); (case kD => decide +kernel); (case c2 => exact rfl); (case c3 => exact rfl); (case c4 => exact rfl); k_whole; intro g' L' h' tk' cells' FG' F' N' Y' B' X' T' lc1; (try k_lt lc1); k_cells Y'; (try simp only [List.cons_append, List.nil_append] at N'); (try dsimp only); (try k_lift B'); (try k_fold)) | cell_enter))
  repeat' (first | (k_unfold; (try dsimp only)) | (k_end; wrow_close) | (with_reducible (first | (k_here; (with_reducible show wpAny _ _ (pyIter (Value.ref _)) (fun it s₂ => TurnsAt _ _ _ _ _ _ _ _ _ it s₂) _ _); k_dflt (refine stopHere ?_)) | (k_here; (with_reducible show wpAny _ _ (exec (Stmt.For (Expr.Tuple _ _ _) (Expr.Name _ _) _ _ _) _) _ _ _); (rename Fr _ _ _ _ => lF'); k_dflt (with_unfolding_all refine' For_turns lF' ?_; k_whole)))) | walk1 | (dsimp only; first | (with_reducible (first | (k_here; (with_reducible show wpAny _ _ (pyIter (Value.ref _)) (fun it s₂ => TurnsAt _ _ _ _ _ _ _ _ _ it s₂) _ _); k_dflt (refine stopHere ?_)) | (k_here; (with_reducible show wpAny _ _ (exec (Stmt.For (Expr.Tuple _ _ _) (Expr.Name _ _) _ _ _) _) _ _ _); (rename Fr _ _ _ _ => lF'); k_dflt (with_unfolding_all refine' For_turns lF' ?_; k_whole)))) | walk1) | (leave1; try dsimp only) | fail "no step")
  show wpAny _ _ _ _ _ _
  refine' turns_list (fun m₀ l₀ i m l => (∀ z, z ∉ [Str.ofString "k", Str.ofString "v"] → m z = m₀ z) ∧ l = l₀) ?hh (vs := []) ?hD ?hF ?hN ⟨fun _ _ => rfl, rfl⟩ ?turn ?done
  case hh => rfl
  case hF => k_asm
  case hN => k_asm
  case hD => exact .head _
  case turn =>
    rintro I i v m₁ news₁ h tk oI hcI hv
    exact absurd hv (by simp)
  case done =>
    rintro m₁ news₁ h tk ⟨hz, rfl⟩ hD F N
    rw [eq_over hz] at F
    try dsimp only [over, List.foldr] at F
    repeat' (first | (k_unfold; (try dsimp only)) | (k_end; wrow_close) | walk1 | (dsimp only; first | walk1) | (leave1; try dsimp only) | fail "no step")
    refine hret _ _ _ _ _ _ (by k_asm) ⟨_, by k_asm, ⟨.tail _ (.head _), ⟨_, _, .tail _ (.tail _ (.head _))⟩, .head _, fun r hr => nomatch hr⟩, fun p hp => .tail _ (.tail _ (.tail _ hp))⟩
end
end
section
open PySem PySem.W PySem.Calls PyProof.Rows PySem.Builtin PySem.Builtin.Str
theorem up4 {HL : Addr} {o : Obj} {q1 q2 q3 q4 : Addr × Obj} {news : Led} : Kept HL news ((HL, o) :: but HL (q1 :: q2 :: q3 :: q4 :: news)) := fun p hp hne => List.mem_cons_of_mem _ (mem_but.mpr ⟨.tail _ (.tail _ (.tail _ (.tail _ hp))), hne⟩)
theorem tup_ne_list {vs : List Value} {us : Array Value} {n : Nat} : tupO vs ≠ listOf us n := fun z => absurd (Value.type.inj (congrArg Obj.cls z)) (by decide)
theorem tab_pushed {C T TD HL a : Addr} {n : Nat} {P : Params} {rows : List Row4} {x y : Str} {t u ht : Tok} {hh : Int} {q2 q3 q4 : Addr × Obj} {news : Led} {h₀ h : Heap} {L : Addr} (N0 : News h₀ L h news) (hm1 : (T, instO C TD) ∈ news) (hm2 : (TD, dictOf [⟨hh, .str (Str.ofString "_headers") ht, .ref HL⟩] 1) ∈ news) (hm3 : (HL, listOf (rows.map fun r => Value.ref r.a).toArray n) ∈ news) (hm4 : ∀ r ∈ rows, r.ent ∈ news) (hlt : HL < a) :
    TabAt C P T TD HL (n + 1) (rows ++ [⟨a, x, t, y, u⟩]) ((HL, listOf (rows.map (fun (r : Row4) => Value.ref r.a) ++ [Value.ref a]).toArray (n + 1)) :: but HL ((a, { cls := .type "tuple", data := .seq #[.str x t, .str y u] }) :: q2 :: q3 :: q4 :: news)) := by
  refine ⟨up4 _ hm1 (News.ne N0 hm1 hm3 fun z => by cases congrArg Obj.cls z), ⟨hh, ht, up4 _ hm2 (News.ne N0 hm2 hm3 fun z => by cases congrArg Obj.data z)⟩, ?_, ?_⟩
  · rw [List.map_append]; exact .head _
  · intro r hr'
    rcases List.mem_append.mp hr' with hr' | hr'
    · exact up4 _ (hm4 r hr') (News.ne N0 (hm4 r hr') hm3 tup_ne_list)
    · rw [List.mem_singleton.mp hr']
      exact .tail _ (mem_but.mpr ⟨.head _, Nat.ne_of_gt hlt⟩)
section
set_option maxHeartbeats 1000000 in
theorem add_ok (w : World) (mean) (mg mb) (T TD HL : Addr) (n : Nat) (rows : List Row4) (x y : Str) (t u : Tok) (hx : Clean x) (hy : Clean y) (hyl : y.length ≤ 1000) (hr : rows.length ≤ 900) :
    GClaim1 w mean mg mb 6 270 [.ref T, .str x t, .str y u] [] (fun news P => TabAt 273 P T TD HL n rows news) (fun h₀ L m news K => ∀ a u' n' news' h' tk', Fr h₀ L h' m → News h₀ L h' news' → TabAt 273 w.params T TD HL n' (rows ++ [⟨a, x, t, y, u'⟩]) news' → Kept HL news news' → K .none h' tk') := by
  unfold GClaim1 prog1
  k_fill
  intros; rename_i hN0 hT0 hk0 hpre hdp hun hret
  try dsimp only at hpre
  try dsimp only at hret
  obtain ⟨hm1, ⟨hh, ht, hm2⟩, hm3, hm4⟩ := hpre
  refine wpAny_call ?_
  (refine' kp_more ?k1 ?k2 ?k3 ?k4 ?k5 ?kA ?kF ?kK ?k6 ?k7 ?k8 ?kX ?kM ?kN ?kD ?kR ?kP ?kT ?kB ?_ ?c2 ?c3 ?c4 ?c5; (case kA => exact rfl); (case kF => exact rfl); (case kK => assumption); (case k1 => k_asm); (case k2 => k_asm); (case k3 => k_asm); (case k4 => k_asm); (case k5 => k_asm); (case k6 => k_is); (case k7 => k_is); (case k8 => ktr_room); (case kX => kp_lit); (case kM => exact rfl); (case kN => exact rfl); (case kD => kp_flats); (case kR => exact rfl); (case kP => exact rfl); (case kT => exact fun _ => rfl); (case kB => exact fun _ => locs rfl); (case c5 => decide); (case c2 => exact rfl); (case c3 => exact rfl); (case c4 => exact rfl); k_whole; intro D' o' g' L' h' tk' l1 lo' hs' fs' FG' F' N' B' X' T'; (try k_lt l1); (try dsimp only); (try k_lift B'); (try k_fold))
  repeat' (first | (k_unfold; (try dsimp only)) | (k_end; wrow_close) | (with_reducible (first | (k_here; (with_reducible show wpAny _ _ (call (Value.builtin "list.append") [Value.ref _, Value.ref _]) _ _ _); k_dflt (refine' led_append ?aF_3 ?aN_3 ?am_3 ?az_3 ?_; (case aF_3 => k_asm); (case aN_3 => k_asm); (case am_3 => k_mem); (case az_3 => (simp only [List.length_map, List.length_append, List.length_cons, List.length_nil]; omega)); intro h' F' N')) | (k_here; (with_reducible show wpAny _ _ (call (Value.builtin "str.join") [Value.str _ _, Value.ref _]) _ _ _); k_dflt (refine' led_join (ys := [_]) ?jN_2 ?jm_2 ?ji_2 ?jo_2 ?_; (case jN_2 => k_asm); (case jm_2 => k_mem); (case ji_2 => exact .cons _ _ .nil); (case jo_2 => (have e2 : (Str.ofString "; ").length = 2 := by rfl); simp [e2]; omega); rw [join1]; intro t' k')) | (k_here; (with_reducible show wpAny _ _ (call (Value.ref 174) _ _) _ _ _); k_dflt (refine' (conv_ok _ _ _ _ _ _ _ _ ?ghx_1) _ _ _ _ _ _ _ _ _ _ _ _ _ _ _ _ _ _ ?gB ?gF ?gX ?gN ?gT ?gk ?gp_1 ?gd ?gu ?_; walk_at "gclaim"; (case gp_1 => trivial); (case ghx_1 => (first | with_reducible assumption | assumption)); intro h' tk' F' N'; (try dsimp only); (try k_fold))))) | walk1 | (dsimp only; first | (with_reducible (first | (k_here; (with_reducible show wpAny _ _ (call (Value.builtin "list.append") [Value.ref _, Value.ref _]) _ _ _); k_dflt (refine' led_append ?aF_3 ?aN_3 ?am_3 ?az_3 ?_; (case aF_3 => k_asm); (case aN_3 => k_asm); (case am_3 => k_mem); (case az_3 => (simp only [List.length_map, List.length_append, List.length_cons, List.length_nil]; omega)); intro h' F' N')) | (k_here; (with_reducible show wpAny _ _ (call (Value.builtin "str.join") [Value.str _ _, Value.ref _]) _ _ _); k_dflt (refine' led_join (ys := [_]) ?jN_2 ?jm_2 ?ji_2 ?jo_2 ?_; (case jN_2 => k_asm); (case jm_2 => k_mem); (case ji_2 => exact .cons _ _ .nil); (case jo_2 => (have e2 : (Str.ofString "; ").length = 2 := by rfl); simp [e2]; omega); rw [join1]; intro t' k')) | (k_here; (with_reducible show wpAny _ _ (call (Value.ref 174) _ _) _ _ _); k_dflt (refine' (conv_ok _ _ _ _ _ _ _ _ ?ghx_1) _ _ _ _ _ _ _ _ _ _ _ _ _ _ _ _ _ _ ?gB ?gF ?gX ?gN ?gT ?gk ?gp_1 ?gd ?gu ?_; walk_at "gclaim"; (case gp_1 => trivial); (case ghx_1 => (first | with_reducible assumption | assumption)); intro h' tk' F' N'; (try dsimp only); (try k_fold))))) | walk1) | (leave1; try dsimp only) | fail "no step")
  rename (_ ∧ _ ∧ _ ∧ AllLt _ _) => hq
  have hlt := allLt_mem hq.2.2.2 _ hm3
  exact hret _ _ _ _ _ _ (by k_asm) (by k_asm) (tab_pushed hN0 hm1 hm2 hm3 hm4 hlt) up4
end
end
section
open PySem PySem.W PySem.Calls PyProof.Rows PySem.Builtin
theorem str_ext {x y : Str} (h : x.cps.toList = y.cps.toList) : x = y := by
  cases x; cases y
  congr 1
  exact Array.toList_inj.mp h
theorem cps_append (x y : Str) : (x ++ y).cps.toList = x.cps.toList ++ y.cps.toList := by
  show (x.cps ++ y.cps).toList = _
  simp
theorem sjoin_toList : ∀ l : List Str, (Str.join (Str.ofString "") l).cps.toList = l.flatMap (·.cps.toList)
  | [] => rfl
  | [x] => by simp [Str.join]
  | x :: y :: r => by
    show (x ++ Str.ofString "" ++ Str.join (Str.ofString "") (y :: r)).cps.toList = _
    rw [cps_append, cps_append, sjoin_toList (y :: r)]
    simp only [List.flatMap_cons]
    have : (Str.ofString "").cps.toList = [] := by rfl
    rw [this, List.append_nil]
theorem join_flat (l : List Str) : Txt.join (Str.ofString "") l = ⟨(l.flatMap (·.cps.toList)).toArray⟩ := by
  show PySem.Builtin.Str.glued _ _ = _
  rw [StrLaws.glued_eq_join]
  refine str_ext ?_
  rw [sjoin_toList]
theorem join_signs (l : List Nat) : Txt.join (Str.ofString "") (l.map fun c => (⟨#[c]⟩ : Str)) = ⟨l.toArray⟩ := by
  rw [join_flat]
  congr 1
  induction l with
  | nil => rfl
  | cons a r ih => 
    have ih' := congrArg Array.toList ih
    simp only [] at ih'
    simp only [List.map_cons, List.flatMap_cons]
    rw [show ([a] ++ List.flatMap _ _ : List Nat) = a :: r from congrArg (a :: ·) ih']
end
section
open PySem PySem.W PySem.Calls PyProof.Rows PySem.Builtin PySem.Builtin.Str
/-- a contract that also reads the base -/
noncomputable abbrev GClaimH (w : World) (mean : ExcName → Option Value) (mg mb : Str → Option Value) (room : Nat) (f : Addr) (args : List Value) (kw : List (Str × Value)) (pre : Heap → Led → Params → Prop) (post : Heap → Addr → Mp → Led → (Value → Heap → Nat → Prop) → Prop) : Prop :=
  ∀ (dp un : Nat) (gd : Option (List Code)) (cn : Str) (cs : Scope) (a : Addr) (ccd : Value) (cl : List (Str × Addr)) (outer : List Env) (A₀ : Around) (base h₀ : Heap) (L : Addr) (m : Mp) (news : Led) (s : Shared) (Q E : Value → Shared → Prop),
    Below A₀ base outer h₀ → Fr h₀ L s.heap m → (Mine.K1 w.params).In h₀ → News h₀ L s.heap news → Top view1 loose1 mean mg mb h₀ → cs.kind = .function →
    pre h₀ news w.params → dp + room < recursionLimit → un + 8 * room < cLine →
    post h₀ L m news (fun v h' tk' => Q v { s with heap := h', toks := tk' }) →
      wpAny (model prog1 w) (ktrTop dp un gd cn cs L a ccd cl outer) (call (.ref f) args kw) Q E s
/-- the letter of a number: a or A -/
noncomputable def letA (z : Int) : Nat := [97, 65].getD (z.fmod 2).toNat 0
theorem fmod2 (z : Int) : 0 ≤ z.fmod 2 ∧ z.fmod 2 ≤ 1 := by rw [Int.fmod_eq_emod_of_nonneg _ (by decide)]; omega
theorem mod2_cases (z : Int) : z.fmod 2 = 0 ∨ z.fmod 2 = 1 := by have := fmod2 z; omega
theorem item_letA (z : Int) : Txt.item (Str.ofString "aA") (z.fmod 2) = ⟨#[letA z]⟩ := by
  unfold letA
  rcases mod2_cases z with h | h <;> rw [h] <;> decide +kernel
/-- the numbers behind the script's first ones -/
noncomputable def bump (zs : List Int) (i : Nat) : List Int → List Int
  | [] => zs
  | x :: r => bump (zs.set (i % 8) (zs.getD (i % 8) 0 + x.fmod 2)) (i + 1) r
noncomputable def bits0 : List Int := [0, 0, 0, 1, 0, 0, 1, 0]
noncomputable def bitsS (ns : List Int) : List Int := bump bits0 0 (ns.take 16)
noncomputable def wordS (tn : Int) (zs : List Int) : List Nat := zs.map fun z => letA (z + tn)
theorem bump_snoc : ∀ (l : List Int) (zs : List Int) (i : Nat) (x : Int), bump zs i (l ++ [x]) = (bump zs i l).set ((i + l.length) % 8) ((bump zs i l).getD ((i + l.length) % 8) 0 + x.fmod 2)
  | [], zs, i, x => by simp [bump]
  | y :: r, zs, i, x => by
    rw [List.cons_append, bump, bump, bump_snoc r, List.length_cons, show i + 1 + r.length = i + (r.length + 1) by omega]
theorem bump_len : ∀ (l : List Int) (zs : List Int) (i : Nat), (bump zs i l).length = zs.length
  | [], _, _ => rfl
  | _ :: r, zs, i => by rw [bump, bump_len r, List.length_set]
theorem map_letA (tn : Int) (zs : List Int) : zs.map (fun z => Txt.item (Str.ofString "aA") ((z + tn).fmod 2)) = (wordS tn zs).map fun c => (⟨#[c]⟩ : Str) := by
  unfold wordS
  rw [List.map_map]
  exact List.map_congr_left fun z _ => item_letA (z + tn)
theorem strsAre_values : ∀ l : List (Str × Tok), StrsAre (strValues l) (l.map (·.1))
  | [] => .nil
  | p :: r => .cons p.1 p.2 (strsAre_values r)
theorem join_small (zs : List Int) (f : Int → Str) (hf : ∀ z, (f z).length = 1) (h : zs.length ≤ 1000) : (List.map ((fun x : Str => x.length) ∘ f) zs).sum + zs.length * (Str.ofString "").length ≤ 16777216 := by
  have e0 : (Str.ofString "").length = 0 := by rfl
  rw [e0]
  have : (List.map ((fun x : Str => x.length) ∘ f) zs).sum ≤ zs.length := by
    clear h
    induction zs with
    | nil => simp
    | cons a r ih =>
      simp only [List.map_cons, List.sum_cons, List.length_cons, Function.comp_apply]
      have := hf a
      omega
  omega
section
set_option maxHeartbeats 1000000 in
theorem word_ok (w : World) (mean) (mg mb) (LS : Addr) (vs : List Value) (ns : List Int) (tn : Int) (tt : Tok) (hi : IntsAre vs ns) (hn : ns.length ≤ 63) :
    GClaimH w mean mg mb 6 282 [.ref LS, .int tn tt] [] (fun h _ _ => h.IsList LS vs.toArray) (fun h₀ L m news K => ∀ t h' tk', Fr h₀ L h' m → News h₀ L h' news → K (.str ⟨(wordS tn (bitsS ns)).toArray⟩ t) h' tk') := by
  unfold GClaimH prog1
  k_fill
  intro dp un gd cn cs a ccd cl outer A₀ base h₀ L m news s Q E hB hF hX hN hT hk hpre hdp hun hret
  try dsimp only at hpre
  try dsimp only at hret
  have hss := sizeLine_eq
  refine wpAny_call ?_
  k_dflt (first | (refine' code_def ?k1 ?k2 ?k3 ?k4 ?k5 ?kA ?kF ?kK ?k6 ?k7 ?k8 ?k9 ?kB ?_ ?c2 ?c3 ?c4 ?c5; (case kA => exact rfl); (case kF => exact rfl); (case kK => (first | with_reducible assumption | assumption)); (case k1 => k_asm); (case k2 => k_asm); (case k3 => k_asm); (case k4 => k_asm); (case k5 => k_asm); (case k6 => k_is); (case k7 => k_is); (case k8 => ktr_room); (case k9 => exact binds_K (by k_in) rfl (by k_is) rfl rfl rfl); (case c5 => decide); (case kB => exact locs rfl); (case c2 => exact rfl); (case c3 => exact rfl); (case c4 => exact rfl); k_whole; intro g' L' h' FG' F' N' B' X' T'; (try dsimp only); (try k_lift B'); (try k_fold)) | (refine' ks_code_super ?k1 ?k2 ?k3 ?k4 ?k5 ?kA ?kF ?kK ?k6 ?k7 ?k8 ?k9 ?kB ?_ ?c1 ?c2 ?c3 ?c4; (case kA => exact rfl); (case kF => exact rfl); (case kK => first | exact rfl | (first | with_reducible assumption | assumption)); (case k1 => k_asm); (case k2 => k_asm); (case k3 => k_asm); (case k4 => k_asm); (case k5 => k_asm); (case k6 => k_is); (case k7 => k_is); (case k8 => ktr_room); (case k9 => first | exact BindsTo.of_eq rfl | exact binds_K (by k_in) rfl (by k_is) rfl rfl rfl); (case kB => exact locs rfl); (case c1 => decide); (case c2 => exact rfl); (case c3 => exact rfl); (case c4 => exact rfl); intro g' L' h' FG' F' N' B' X' T' lc1; (try k_lt lc1); (try dsimp only); (try k_lift B')) | (refine' code_defC ?k1 ?k2 ?k3 ?k4 ?k5 ?kA ?kF ?kK ?k6 ?k7 ?k8 ?k9 ?kB ?kD ?_ ?c2 ?c3 ?c4; (case kA => exact rfl); (case kF => exact rfl); (case kK => first | exact rfl | (first | with_reducible assumption | assumption)); (case k1 => k_asm); (case k2 => k_asm); (case k3 => k_asm); (case k4 => k_asm); (case k5 => k_asm); (case k6 => k_is); (case k7 => k_is); (case k8 => ktr_room); (case k9 => first | exact BindsTo.of_eq rfl | exact binds_K (by k_in) rfl (by k_is) rfl rfl rfl | fail "k_enter: no rule for these arguments"); (case kB => exact rfl); (case kD => decide +kernel); (case c2 => exact rfl); (case c3 => exact rfl); (case c4 => exact rfl); k_whole; intro g' L' h' tk' cells' FG' F' N' Y' B' X' T' lc1; (try k_lt lc1); k_cells Y'; (try simp only [List.cons_append, List.nil_append] at N'); (try dsimp only); (try k_lift B'); (try k_fold)) | cell_enter)
  rename Fr h₀ L _ m => FG
  have hpre' := hpre.at fun o e => FG.keep LS o e
  repeat' (first | (k_unfold; (try dsimp only)) | (k_end; wrow_close) | (with_reducible (first | (k_here; (with_reducible show wpAny _ _ (call (Value.type _) [Value.ref _]) (fun xv s₁ => wpAny _ _ (pyIter xv) (fun it s₂ => TurnsAt _ _ _ _ _ _ _ _ _ it s₂) _ s₁) _ _); k_dflt (refine stopHere ?_)) | (k_here; (with_reducible show wpAny _ _ (exec (Stmt.For (Expr.Tuple _ _ _) (Expr.Call _ _ _ _) _ _ _) _) _ _ _); (rename Fr _ _ _ _ => lF'); k_dflt (with_unfolding_all refine' For_turns lF' ?_; k_whole)))) | walk1 | (dsimp only; first | (with_reducible (first | (k_here; (with_reducible show wpAny _ _ (call (Value.type _) [Value.ref _]) (fun xv s₁ => wpAny _ _ (pyIter xv) (fun it s₂ => TurnsAt _ _ _ _ _ _ _ _ _ it s₂) _ s₁) _ _); k_dflt (refine stopHere ?_)) | (k_here; (with_reducible show wpAny _ _ (exec (Stmt.For (Expr.Tuple _ _ _) (Expr.Call _ _ _ _) _ _ _) _) _ _ _); (rename Fr _ _ _ _ => lF'); k_dflt (with_unfolding_all refine' For_turns lF' ?_; k_whole)))) | walk1) | (leave1; try dsimp only) | fail "no step")
  show wpAny _ _ _ _ _ _
  rename (_ < _ ∧ AllLt _ _) => hD0
  rename (_ < _ ∧ _ < _ ∧ AllLt _ _) => hDl
  rename Fr _ _ _ _ => FA
  refine Fr.foldc FA ?_
  clear FA
  intro mA FA
  refine' turns_enum (fun m₀ l₀ i m l => (∀ z, z ∉ [Str.ofString "place", Str.ofString "x"] → m z = m₀ z) ∧ ∃ NL ws, m₀ (Str.ofString "bits") = some (.ref NL) ∧ IntsAre ws (bump bits0 0 ((ns.take 16).take i)) ∧ (NL, listOf ws.toArray 0) ∈ l ∧ Kept NL l₀ l) ?hh ?hF ?hN ?hm ?hj ?turn ?done
  case hh => rfl
  case hF => k_asm
  case hN => k_asm
  case hm => k_mem
  case hj => exact ⟨fun _ _ => rfl, _, _, rfl, .cons _ _ (.cons _ _ (.cons _ _ (.cons _ _ (.cons _ _ (.cons _ _ (.cons _ _ (.cons _ _ .nil))))))), by k_mem, fun p hp _ => hp⟩
  case turn =>
    rintro I i v T t m₁ news₁ h tk oE oI hv ⟨hz, NL, ws, hnum, hzi, hNL, hkept⟩ hD hlt hT F hcE hcI hoff N
    rename IntsAre _ (ns.take _) => hI2
    obtain ⟨k, tkx, rfl, hkx⟩ := intsAre_get hI2 hv
    cases Value.ref.inj (Option.some.inj hnum)
    have hzl : (bump bits0 0 ((ns.take 16).take i)).length = 8 := bump_len _ _ _
    have hs1 : bump bits0 0 ((ns.take 16).take (i + 1)) = (bump bits0 0 ((ns.take 16).take i)).set (((i : Int)).fmod 8).toNat ((bump bits0 0 ((ns.take 16).take i)).getD (((i : Int)).fmod 8).toNat 0 + k.fmod 2) := by
      have h1 : i < (ns.take 16).length := (List.getElem?_eq_some_iff.mp hkx).1
      have h2 : ((i : Int)).fmod 8 = ((i % 8 : Nat) : Int) := by rw [Int.fmod_eq_emod_of_nonneg _ (by decide)]; rfl
      rw [List.take_succ, hkx, Option.toList_some, bump_snoc, List.length_take_of_le (Nat.le_of_lt h1), h2, Nat.zero_add]
      rfl
    generalize hzs : bump bits0 0 ((ns.take 16).take i) = zs at hzi hzl hs1
    have hf0 : ((i : Int)).fmod 8 = ((i % 8 : Nat) : Int) := by rw [Int.fmod_eq_emod_of_nonneg _ (by decide)]; rfl
    have hf1 : 0 ≤ ((i : Int)).fmod 8 := by omega
    have hf2 : ((i : Int)).fmod 8 < zs.length := by omega
    have hf3 : ((i : Int)).fmod 8 < 2 ^ 63 := by omega
    rw [eq_over hz] at F
    try dsimp only [over, List.foldr] at F
    repeat' (first | (k_unfold; (try dsimp only)) | (k_end; wrow_close) | (with_reducible (first | (k_here; (with_reducible show wpAny _ _ (setItem (Value.ref _) (Value.int _ _) (Value.int _ _)) _ _ _); k_dflt (refine' led_seti ?k1_15 ?k2_15 ?k3_15 ?k4_15 ?k5_15 ?k6_15 ?k7_15 ?_; (case k1_15 => k_asm); (case k2_15 => k_asm); (case k3_15 => k_mem); (case k4_15 => with_reducible assumption); (case k5_15 => (first | with_reducible assumption | assumption)); (case k6_15 => (first | with_reducible assumption | assumption)); (case k7_15 => (first | with_reducible assumption | assumption)); k_whole); intro h' F' N' hi') | (k_here; (with_reducible show wpAny _ _ (getItem (Value.ref _) (Value.int _ _)) _ _ _); k_dflt (refine' ksa_get ?k1_14 ?k2_14 ?k3_14 ?k4_14 ?k5_14 ?k6_14 ?_; (case k1_14 => k_asm); (case k2_14 => k_mem); (case k3_14 => with_reducible assumption); (case k4_14 => (first | with_reducible assumption | assumption)); (case k5_14 => (first | with_reducible assumption | assumption)); (case k6_14 => (first | with_reducible assumption | assumption)); k_whole); intro _))) | walk1 | (dsimp only; first | (with_reducible (first | (k_here; (with_reducible show wpAny _ _ (setItem (Value.ref _) (Value.int _ _) (Value.int _ _)) _ _ _); k_dflt (refine' led_seti ?k1_15 ?k2_15 ?k3_15 ?k4_15 ?k5_15 ?k6_15 ?k7_15 ?_; (case k1_15 => k_asm); (case k2_15 => k_asm); (case k3_15 => k_mem); (case k4_15 => with_reducible assumption); (case k5_15 => (first | with_reducible assumption | assumption)); (case k6_15 => (first | with_reducible assumption | assumption)); (case k7_15 => (first | with_reducible assumption | assumption)); k_whole); intro h' F' N' hi') | (k_here; (with_reducible show wpAny _ _ (getItem (Value.ref _) (Value.int _ _)) _ _ _); k_dflt (refine' ksa_get ?k1_14 ?k2_14 ?k3_14 ?k4_14 ?k5_14 ?k6_14 ?_; (case k1_14 => k_asm); (case k2_14 => k_mem); (case k3_14 => with_reducible assumption); (case k4_14 => (first | with_reducible assumption | assumption)); (case k5_14 => (first | with_reducible assumption | assumption)); (case k6_14 => (first | with_reducible assumption | assumption)); k_whole); intro _))) | walk1) | (leave1; try dsimp only) | fail "no step")
    rename News _ _ _ ((_, _) :: but _ _) => N9
    refine ⟨_, _, _, _, rfl, by k_asm, News.drop2 N9 (fun e => (hoff _ hNL).1 e.symm) (fun e => (hoff _ hNL).2 e.symm), ?_, ?_, ?_, _, _, rfl, hs1 ▸ (by assumption), .head _, ?_⟩
    · intro p hp
      rcases List.mem_cons.mp hp with rfl | hp
      · have z := hoff _ hNL; exact z
      · exact hoff _ (mem_but.mp hp).1
    · exact .tail _ (mem_but.mpr ⟨hD, Nat.ne_of_gt hDl.1⟩)
    · intro z h1; simp at h1; simp [over, h1]
    · intro p hp hne
      exact .tail _ (mem_but.mpr ⟨hkept p hp hne, hne⟩)
  case done =>
    rintro m₁ news₁ h tk ⟨hz, NL, ws, hnum, hzi, hNL, hkept⟩ hD F N
    cases Value.ref.inj (Option.some.inj hnum)
    rw [eq_over hz] at F
    try dsimp only [over, List.foldr] at F
    rename IntsAre _ (ns.take _) => hI2
    have hfull : (ns.take 16).take _ = ns.take 16 := List.take_of_length_le (Nat.le_of_eq hI2.length.symm)
    rw [hfull] at hzi
    have hzl : (bitsS ns).length = 8 := bump_len _ _ _
    change IntsAre ws (bitsS ns) at hzi
    generalize bitsS ns = zs at hzi hzl hret
    have hcell := hkept _ (.tail _ (.tail _ (.head _))) (Nat.ne_of_lt hD0.1)
    repeat' (first | (k_unfold; (try dsimp only)) | (k_end; wrow_close) | (with_reducible (first | (k_here; (with_reducible show LCg.CompSrc _ _ _ _ _ _ _ _ _ _ _ _ _ _); refine stopHere ?_) | (k_here; (with_reducible show wpAny _ _ (eval (Expr.ListComp _ [{ target := _, iter := _, ifs := [], is_async := _ }] _ _) _) _ _ _); k_dflt (refine LCg.ListComp_U (F₀ := by k_asm) (by with_unfolding_all rfl) (by decide) (by rfl) (by decide) (by rfl) ?_)))) | walk1 | (dsimp only; first | (with_reducible (first | (k_here; (with_reducible show LCg.CompSrc _ _ _ _ _ _ _ _ _ _ _ _ _ _); refine stopHere ?_) | (k_here; (with_reducible show wpAny _ _ (eval (Expr.ListComp _ [{ target := _, iter := _, ifs := [], is_async := _ }] _ _) _) _ _ _); k_dflt (refine LCg.ListComp_U (F₀ := by k_asm) (by with_unfolding_all rfl) (by decide) (by rfl) (by decide) (by rfl) ?_)))) | walk1) | (leave1; try dsimp only) | fail "no step")
    show LCg.CompSrc _ _ _ _ _ _ _ _ _ _ _ _ _ _
    k_dflt (refine' LCg.CompSrc.ledger ?hh ?F ?N ?hm ?hz ?_)
    case hh => rfl
    case F => k_asm
    case N => k_asm
    case hm => k_mem
    case hz => have := hzi.length; simp [sizeLine_eq]; omega
    intro g0
    refine lcu_rest (items := zs) (fun z v => ∃ t, v = .int z t) (fun z t => .str (Txt.item (Str.ofString "aA") ((z + tn).fmod 2)) t) ?hn ?hP ?hS ?turn ?fin
    case hn => have := hzi.length; simp; omega
    case hP =>
      intro i v hi hv
      obtain ⟨k, t, rfl, hk⟩ := intsAre_get hzi (by simpa using hv)
      exact ⟨k, hk, t, rfl⟩
    case hS => exact .inr ⟨_, by k_mem, rfl, _, rfl⟩
    case turn =>
      rintro z v I oI C oC D m₂ ys h tk E' hz' ⟨t, rfl⟩ hC hx' F' N' off ne
      dsimp only
      have hf1 := (fmod2 (z + tn)).1
      have hf2 : (z + tn).fmod 2 < 2 := by have := (fmod2 (z + tn)).2; omega
      repeat' (first | (k_unfold; (try dsimp only)) | (k_end; wrow_close) | walk1 | (dsimp only; first | walk1) | (leave1; try dsimp only) | fail "no step")
      refine LCg.CompEnd.intro (by k_asm) (by k_asm) _ (fun p hp => hp) off (.inr ⟨_, by k_mem, rfl, _, rfl⟩) (LcEl.mk rfl rfl rfl)
    case fin =>
      intro ys hO
      dsimp only
      obtain ⟨l, rfl, hl⟩ := hO.strs
      repeat' (first | (k_unfold; (try dsimp only)) | (k_end; wrow_close) | (with_reducible (first | (k_here; (with_reducible show wpAny _ _ (call (Value.builtin "str.join") [Value.str _ _, Value.ref _]) _ _ _); k_dflt (refine' led_join ?jN_16 ?jm_16 ?ji_16 ?jo_16 ?_; (case jN_16 => k_asm); (case jm_16 => k_mem); (case ji_16 => exact strsAre_values _); (case jo_16 => (rename (List.map _ _ = List.map _ _) => hl9; rw [hl9]; simp only [List.map_map, List.length_map]; exact join_small _ _ (fun z => by rw [item_letA]; rfl) (by omega))); intro t' k')))) | walk1 | (dsimp only; first | (with_reducible (first | (k_here; (with_reducible show wpAny _ _ (call (Value.builtin "str.join") [Value.str _ _, Value.ref _]) _ _ _); k_dflt (refine' led_join ?jN_16 ?jm_16 ?ji_16 ?jo_16 ?_; (case jN_16 => k_asm); (case jm_16 => k_mem); (case ji_16 => exact strsAre_values _); (case jo_16 => (rename (List.map _ _ = List.map _ _) => hl9; rw [hl9]; simp only [List.map_map, List.length_map]; exact join_small _ _ (fun z => by rw [item_letA]; rfl) (by omega))); intro t' k')))) | walk1) | (leave1; try dsimp only) | fail "no step")
      have e9 : Txt.join (Str.ofString "") (List.map (fun x => x.fst) l) = ⟨(wordS tn zs).toArray⟩ := by
        rw [hl, map_letA]; exact join_signs _
      rw [e9]
      refine hret _ _ _ (by k_asm) ?_
      refine cb_drop (by k_asm) ?_
      intro p hp
      exact .tail _ (hkept p (.tail _ (.tail _ (.tail _ hp))) (Nat.ne_of_lt (allLt_mem hD0.2 p hp)))
end
end
section
open PySem PySem.W PySem.Calls PyProof.Rows PySem.Builtin PySem.Builtin.Str
section
variable {prog : Program} {w : World} {A : Around} {E : Value → Shared → Prop} {s : Shared} {env : Env} {h₀ : Heap} {x : Str} {body : List Stmt} {Q : Flow → Shared → Prop}
/-- over range(7, -1, -1) -/
theorem turns_down {x : Str} {px : Pos} {r : Addr} {ta tb tc : Tok} {m₀ : Mp} {news : Led} (J : Mp → Led → Nat → Mp → Led → Prop)
    (hh : A.handled = none) (hr : IsRange s.heap r 7 (-1) (-1) ta tb tc) (F : Fr h₀ env.locals s.heap m₀) (N : News h₀ env.locals s.heap news) (hj : J m₀ news 0 m₀ news)
    (turn : ∀ I (i : Nat) v m₁ news₁ h tk oI, oI.cls = .type "range_iterator" → i < 8 → v = 7 - (i : Int) → (J m₀ news i m₁ news₁) → (∀ p ∈ news₁, p.1 ≠ I) → Fr h₀ env.locals h m₁ → News h₀ env.locals h ((I, oI) :: news₁) →
      ∀ u, wpAny (model prog w) A (assign (.Name x px) env (.int v u)) (fun _ s₃ => wpAny (model prog w) A (execs body env) (TPost h₀ env.locals I oI [] (J m₀ news (i + 1)) { s with heap := h, toks := tk } Q) E s₃) E { s with heap := h, toks := tk })
    (done : ∀ m₁ news₁ h tk, J m₀ news 8 m₁ news₁ → Fr h₀ env.locals h m₁ → News h₀ env.locals h news₁ → Q .next { s with heap := h, toks := tk }) :
    wpAny (model prog w) A (pyIter (.ref r)) (fun it s₂ => TurnsAt prog w A h₀ env (.Name x px) body Q E it s₂) E s := by
  have hsz : Builtin.Range.rangeSize 7 (-1) (-1) = ((8 : Nat) : Int) := by decide
  refine wpAny_pyIter_range hr (by decide) ?_
  rw [hsz]
  have W := Walks.range (prog := prog) (w := w) (A := A) hh s.heap.objs.size 7 (-1) 8
  refine turns_led [] (J m₀ news) W (fun i v s Q E st q => letGo_name q) (fun b hb => .inl (List.mem_singleton.mp hb)) (next_is_new F) (fun i h st => ⟨_, st, rfl⟩) ?_ ?_ ?_ (F.push _) (fun p hp => ⟨Heap.get?_push_of_some _ (N p hp).1, (N p hp).2⟩) (fun p hp => nomatch hp) hj ?_ ?_
  · intro hm; exact absurd F.ns.lt (List.mem_singleton.mp hm ▸ Nat.lt_irrefl _)
  · intro p hp e; exact absurd (Heap.lt_size (N p hp).1) (e ▸ Nat.lt_irrefl _)
  · exact Heap.get?_push_size _ rfl
  · rintro i v m₁ news₁ h tk oI hoc hin ⟨u, rfl⟩ hJ hoff hk F₁ N₁
    exact turn _ i (7 + (i : Int) * (-1)) m₁ news₁ h tk oI hoc hin (by omega) hJ hoff F₁ N₁ u
  · intro m₁ news₁ h tk hJ hk F₁ N₁
    exact done m₁ news₁ h tk hJ F₁ N₁
end
noncomputable def mkS (l : List Nat) : Str := ⟨l.toArray⟩
noncomputable abbrev spc (p : Nat) : Str := Txt.mul (Str.ofString " ") (p : Int)
theorem spc_len {g : Nat} (h : g ≤ 7) : (spc g).length ≤ 8 := (by decide +kernel : ∀ g < 8, (spc g).length ≤ 8) g (Nat.lt_succ_of_le h)
/-- a head takes in what comes off the pile -/
noncomputable def pull : List (Nat × List Nat) → List Nat → List Nat × List (Nat × List Nat)
  | [], h => (h, [])
  | (g, t) :: r, h => if h < t then pull r (h ++ t) else (h, (g, t) :: r)
/-- the pile (its top first) and the heads after the word's last i letters -/
noncomputable def piledN (ws : List Nat) : Nat → List (Nat × List Nat) × List (List Nat)
  | 0 => ([], [])
  | i + 1 => let r := pull (piledN ws i).1 [ws.getD (7 - i) 0]; ((7 - i, r.1) :: r.2, r.1 :: (piledN ws i).2)
noncomputable def RowsOf (rows : List Row4) (st : List (Nat × List Nat)) : Prop := rows.map (fun r => (r.x, r.y)) = st.reverse.map fun e => (spc e.1, mkS e.2)
noncomputable def total (st : List (Nat × List Nat)) : Nat := (st.map fun e => e.2.length).sum
theorem RowsOf.nil {rows : List Row4} (h : RowsOf rows []) : rows = [] := by
  unfold RowsOf at h; simpa using h
theorem RowsOf.cons {rows : List Row4} {g : Nat} {t : List Nat} {st : List (Nat × List Nat)} (h : RowsOf rows ((g, t) :: st)) : ∃ rows' r, rows = rows' ++ [r] ∧ r.x = spc g ∧ r.y = mkS t ∧ RowsOf rows' st := by
  unfold RowsOf at h
  rw [List.reverse_cons, List.map_append] at h
  have hne : rows ≠ [] := by rintro rfl; simp at h
  obtain ⟨rows', r, rfl⟩ : ∃ a b, rows = a ++ [b] := ⟨rows.dropLast, rows.getLast hne, (List.dropLast_concat_getLast hne).symm⟩
  rw [List.map_append] at h
  have h2 := List.append_inj' h rfl
  have h3 := h2.2
  simp at h3
  exact ⟨rows', r, rfl, h3.1, h3.2, h2.1⟩
theorem RowsOf.push {rows : List Row4} {st : List (Nat × List Nat)} {g : Nat} {l : List Nat} {a : Addr} {x y : Str} {t u : Tok} (h : RowsOf rows st) (hx : x = spc g) (hy : y = mkS l) : RowsOf (rows ++ [⟨a, x, t, y, u⟩]) ((g, l) :: st) := by
  unfold RowsOf at h ⊢
  rw [List.map_append, List.reverse_cons, List.map_append, h, hx, hy]; rfl
theorem RowsOf.len {rows : List Row4} {st : List (Nat × List Nat)} (h : RowsOf rows st) : rows.length = st.length := by
  have := congrArg List.length h
  simpa using this
noncomputable def NE (st : List (Nat × List Nat)) : Prop := ∀ e ∈ st, e.2 ≠ []
noncomputable def hd (st : List (Nat × List Nat)) : Nat × List Nat := st.headD (0, [])
/-- the pile with what was taken off it laid back -/
noncomputable def cur (g : Nat) (t : List Nat) (st : List (Nat × List Nat)) : List (Nat × List Nat) := if t = [] then st else (g, t) :: st
theorem cur_hd : ∀ {st : List (Nat × List Nat)}, NE st → cur (hd st).1 (hd st).2 st.tail = st
  | [], _ => rfl
  | (g, t) :: r, h => by
    show (if t = [] then r else (g, t) :: r) = _
    rw [if_neg (h _ (.head _))]
theorem hd_nil : ∀ {st : List (Nat × List Nat)}, NE st → (hd st).2 = [] → st.tail = []
  | [], _, _ => rfl
  | (g, t) :: r, h, e => absurd e (h _ (.head _))
theorem not_lt_nil (h : List Nat) : ¬ h < [] := by intro e; cases e
theorem pull_stop {g : Nat} {t h : List Nat} {st : List (Nat × List Nat)} (hn : t = [] → st = []) (hlt : ¬ h < t) : pull (cur g t st) h = (h, cur g t st) := by
  unfold cur
  split
  · rename_i e; rw [hn e]; rfl
  · rw [pull, if_neg hlt]
theorem pull_go {g : Nat} {t h : List Nat} {st : List (Nat × List Nat)} (hlt : h < t) : pull (cur g t st) h = pull st (h ++ t) := by
  unfold cur
  rw [if_neg (fun e => by subst e; exact not_lt_nil h hlt), pull, if_pos hlt]
theorem pull_inv : ∀ (st : List (Nat × List Nat)) (h : List Nat), NE st → h ≠ [] → (pull st h).1 ≠ [] ∧ NE (pull st h).2 ∧ (pull st h).1.length + total (pull st h).2 = h.length + total st ∧ (pull st h).2.length ≤ st.length
  | [], h, _, hh => by
    show h ≠ [] ∧ NE [] ∧ h.length + total [] = h.length + total [] ∧ _
    exact ⟨hh, (fun e he => by cases he), rfl, Nat.le_refl _⟩
  | (g, t) :: r, h, hn, hh => by
    rw [pull]
    split
    · obtain ⟨a, b, c, d⟩ := pull_inv r (h ++ t) (fun e he => hn e (.tail _ he)) (by simp [hh])
      refine ⟨a, b, ?_, Nat.le_succ_of_le d⟩
      rw [c, List.length_append]
      simp [total]; omega
    · exact ⟨hh, hn, rfl, Nat.le_refl _⟩
theorem piled_inv (ws : List Nat) : ∀ i, NE (piledN ws i).1 ∧ total (piledN ws i).1 = i ∧ (piledN ws i).1.length ≤ i
  | 0 => ⟨(fun e he => by cases he), rfl, Nat.le_refl _⟩
  | i + 1 => by
    obtain ⟨a, b, c⟩ := piled_inv ws i
    obtain ⟨x, y, z, u⟩ := pull_inv (piledN ws i).1 [ws.getD (7 - i) 0] a (by simp)
    refine ⟨?_, ?_, ?_⟩
    · intro e he
      rcases List.mem_cons.mp he with rfl | he
      · exact x
      · exact y e he
    · show ((pull (piledN ws i).1 [ws.getD (7 - i) 0]).1.length + total (pull (piledN ws i).1 [ws.getD (7 - i) 0]).2) = i + 1
      rw [z, b]; simp; omega
    · exact Nat.succ_le_succ (Nat.le_trans u c)
theorem ne_tail {st : List (Nat × List Nat)} (h : NE st) : NE st.tail := fun e he => h e (List.mem_of_mem_tail he)
theorem hd_len : ∀ {st : List (Nat × List Nat)}, (hd st).2.length + total st.tail = total st
  | [] => rfl
  | (g, t) :: r => by simp [hd, total]
theorem piled_hlen (ws : List Nat) : ∀ i, (piledN ws i).2.length = i
  | 0 => rfl
  | i + 1 => congrArg (· + 1) (piled_hlen ws i)
theorem list_ne_acc {us : Array Value} {j : Nat} {C D : Addr} {vs : List Value} {n : Nat} : listOf us j ≠ accO C D vs n := fun e => by cases congrArg Obj.cls e
theorem dict_ne_cls {es : List DictEntry} {n : Nat} {o : Obj} {c : String} (h : o.cls = .type c) (hc : "dict" ≠ c) : dictOf es n ≠ o := fun e => hc (Value.type.inj ((congrArg Obj.cls e).trans h))
theorem tup_ne_cls {vs : List Value} {o : Obj} {c : String} (h : o.cls = .type c) (hc : "tuple" ≠ c) : tupO vs ≠ o := fun e => hc (Value.type.inj ((congrArg Obj.cls e).trans h))
theorem acc_ne_cls {C D : Addr} {vs : List Value} {n : Nat} {o : Obj} {c : String} (h : o.cls = .type c) : accO C D vs n ≠ o := fun e => by have := (congrArg Obj.cls e).trans h; cases this
/-- the accumulator without an iterator -/
theorem AccAt.but {C P D I : Addr} {k : Int} {n : Nat} {rows : List Row4} {news : Led} {oI : Obj} {h₀ h : Heap} {L : Addr} {c : String} (H : AccAt C P D k n rows news) (N : News h₀ L h news) (hI : (I, oI) ∈ news) (hc : oI.cls = .type c) (h1 : "dict" ≠ c) (h2 : "tuple" ≠ c) : AccAt C P D k n rows (but I news) := by
  obtain ⟨a1, ⟨x, y, z, a2⟩, a3⟩ := H
  exact ⟨mem_but.mpr ⟨a1, News.ne N a1 hI (acc_ne_cls hc)⟩, ⟨x, y, z, mem_but.mpr ⟨a2, News.ne N a2 hI (dict_ne_cls hc h1)⟩⟩, fun r hr => mem_but.mpr ⟨a3 r hr, News.ne N (a3 r hr) hI (tup_ne_cls hc h2)⟩⟩
/-- a turn's end where the accumulator alone was turned -/
theorem kept_turn {P I : Addr} {oI : Obj} {l₀ news₁ news' : Led} (hK : Kept P l₀ news₁) (hK' : Kept P ((I, oI) :: news₁) news') (hoff : ∀ p ∈ news₁, p.1 ≠ I) : Kept P l₀ (but I news') := fun p hp hne =>
  mem_but.mpr ⟨hK' p (.tail _ (hK p hp hne)) hne, hoff p (hK p hp hne)⟩
theorem mkS_app (a b : List Nat) : mkS a ++ mkS b = mkS (a ++ b) := by
  show (⟨a.toArray ++ b.toArray⟩ : Str) = ⟨(a ++ b).toArray⟩
  rw [List.append_toArray]
theorem var_lt : ∀ {st : List (Nat × List Nat)}, (if (hd st).2 = [] then 0 else st.tail.length + 1) < st.length + 1
  | [] => by decide
  | (g, t) :: r => by
    split
    · omega
    · simp
theorem mkS_nil : ∀ {tx : List Nat}, (mkS tx != Str.ofString "") = false → tx = []
  | [], _ => rfl
  | a :: r, h => by
    have h1 : mkS (a :: r) = Str.ofString "" := by simpa [bne] using h
    have h2 : (mkS (a :: r)).length = (Str.ofString "").length := by rw [h1]
    have h3 : (mkS (a :: r)).length = r.length + 1 := by show (a :: r).toArray.size = _; simp
    have h4 : (Str.ofString "").length = 0 := by rfl
    omega
end
section
open PySem PySem.W PySem.Calls PyProof.Rows PySem.Builtin PySem.Builtin.Str
theorem pop_any (w : World) (mean) (mg mb) (P D : Addr) (k : Int) (n : Nat) (rows : List Row4) (st : List (Nat × List Nat)) (hR : RowsOf rows st) (hr : st.length ≤ 900) :
    GClaim1 w mean mg mb 6 85 [.ref P] [] (fun news _ => AccAt 125 P D k n rows news) (fun h₀ L m news K => ∀ q x y t u n' rows' news' h' tk', Fr h₀ L h' m → News h₀ L h' news' → (q, tupO [.str x t, .str y u]) ∈ news' → x = spc (hd st).1 → y = mkS (hd st).2 → AccAt 125 P D k n' rows' news' → RowsOf rows' st.tail → Kept P news news' → K (.ref q) h' tk') := by
  intro dp un gd cn cs a ccd cl outer A₀ base h₀ L m news s Q E hB hF hX hN hT hk hpre hdp hun hret
  match st, hR, hr with
  | [], hR, _ =>
    obtain rfl := hR.nil
    refine pop_nil w mean mg mb P D k n dp un gd cn cs a ccd cl outer A₀ base h₀ L m news s Q E hB hF hX hN hT hk hpre hdp hun fun q h' tk' t u F N _ => ?_
    exact hret q _ _ t u n [] _ h' tk' F N (.head _) (by decide +kernel) (by decide +kernel) (hpre.grown fun p hp => .tail _ hp) hR fun p hp _ => .tail _ hp
  | (g, tx) :: st', hR, hr =>
    obtain ⟨rows', r, rfl, hx, hy, hR'⟩ := hR.cons
    have hl := hR'.len
    refine pop_snoc w mean mg mb P D k n rows' r (by simp at hr; omega) dp un gd cn cs a ccd cl outer A₀ base h₀ L m news s Q E hB hF hX hN hT hk hpre hdp hun fun news' h' tk' F N hA hK => ?_
    have hent := hpre.2.2 r (by simp)
    exact hret r.a r.x r.y r.t r.u _ rows' news' h' tk' F N (hK _ hent (News.ne hN hent hpre.1 tup_ne_acc)) hx hy hA hR' hK
noncomputable def PilJ (ws : List Nat) (P D : Addr) (k : Int) (m₀ : Mp) (l₀ : Led) (i : Nat) (m : Mp) (l : Led) : Prop :=
  (∀ z, z ∉ [Str.ofString "place", Str.ofString "head", Str.ofString "gap", Str.ofString "top", Str.ofString "heads"] → m z = m₀ z) ∧ ∃ HL hk hs n' rows, m (Str.ofString "heads") = some (.ref HL) ∧ (HL, listOf (strValues hs).toArray hk) ∈ l ∧ hs.map (·.1) = (piledN ws i).2.map mkS ∧ AccAt 125 P D k n' rows l ∧ RowsOf rows (piledN ws i).1 ∧ Kept P l₀ l
section
set_option maxHeartbeats 2000000 in
theorem piled_ok (w : World) (mean) (mg mb) (ws : List Nat) (hws : ws.length = 8) (t : Tok) (P D : Addr) (k : Int) (n : Nat) :
    GClaim1 w mean mg mb 8 289 [.str ⟨ws.toArray⟩ t, .ref P] [] (fun news _ => AccAt 125 P D k n [] news) (fun h₀ L m news K => ∀ HL hk hs n' rows news' h' tk', Fr h₀ L h' m → News h₀ L h' news' → (HL, listOf (strValues hs).toArray hk) ∈ news' → hs.map (·.1) = (piledN ws 8).2.map mkS → AccAt 125 P D k n' rows news' → RowsOf rows (piledN ws 8).1 → Kept P news news' → K (.ref HL) h' tk') := by
  unfold GClaim1 prog1
  k_fill
  intro dp un gd cn cs a ccd cl outer A₀ base h₀ L m news s Q E hB hF hX hN hT hk hpre hdp hun hret
  try dsimp only at hpre
  try dsimp only at hret
  have hss := sizeLine_eq
  refine wpAny_call ?_
  k_dflt (first | (refine' code_def ?k1 ?k2 ?k3 ?k4 ?k5 ?kA ?kF ?kK ?k6 ?k7 ?k8 ?k9 ?kB ?_ ?c2 ?c3 ?c4 ?c5; (case kA => exact rfl); (case kF => exact rfl); (case kK => (first | with_reducible assumption | assumption)); (case k1 => k_asm); (case k2 => k_asm); (case k3 => k_asm); (case k4 => k_asm); (case k5 => k_asm); (case k6 => k_is); (case k7 => k_is); (case k8 => ktr_room); (case k9 => exact binds_K (by k_in) rfl (by k_is) rfl rfl rfl); (case c5 => decide); (case kB => exact locs rfl); (case c2 => exact rfl); (case c3 => exact rfl); (case c4 => exact rfl); k_whole; intro g' L' h' FG' F' N' B' X' T'; (try dsimp only); (try k_lift B'); (try k_fold)) | (refine' ks_code_super ?k1 ?k2 ?k3 ?k4 ?k5 ?kA ?kF ?kK ?k6 ?k7 ?k8 ?k9 ?kB ?_ ?c1 ?c2 ?c3 ?c4; (case kA => exact rfl); (case kF => exact rfl); (case kK => first | exact rfl | (first | with_reducible assumption | assumption)); (case k1 => k_asm); (case k2 => k_asm); (case k3 => k_asm); (case k4 => k_asm); (case k5 => k_asm); (case k6 => k_is); (case k7 => k_is); (case k8 => ktr_room); (case k9 => first | exact BindsTo.of_eq rfl | exact binds_K (by k_in) rfl (by k_is) rfl rfl rfl); (case kB => exact locs rfl); (case c1 => decide); (case c2 => exact rfl); (case c3 => exact rfl); (case c4 => exact rfl); intro g' L' h' FG' F' N' B' X' T' lc1; (try k_lt lc1); (try dsimp only); (try k_lift B')) | (refine' code_defC ?k1 ?k2 ?k3 ?k4 ?k5 ?kA ?kF ?kK ?k6 ?k7 ?k8 ?k9 ?kB ?kD ?_ ?c2 ?c3 ?c4; (case kA => exact rfl); (case kF => exact rfl); (case kK => first | exact rfl | (first | with_reducible assumption | assumption)); (case k1 => k_asm); (case k2 => k_asm); (case k3 => k_asm); (case k4 => k_asm); (case k5 => k_asm); (case k6 => k_is); (case k7 => k_is); (case k8 => ktr_room); (case k9 => first | exact BindsTo.of_eq rfl | exact binds_K (by k_in) rfl (by k_is) rfl rfl rfl | fail "k_enter: no rule for these arguments"); (case kB => exact rfl); (case kD => decide +kernel); (case c2 => exact rfl); (case c3 => exact rfl); (case c4 => exact rfl); k_whole; intro g' L' h' tk' cells' FG' F' N' Y' B' X' T' lc1; (try k_lt lc1); k_cells Y'; (try simp only [List.cons_append, List.nil_append] at N'); (try dsimp only); (try k_lift B'); (try k_fold)) | cell_enter)
  refine gen_fn fun RF hRF => ?_
  repeat' (first | (k_unfold; (try dsimp only)) | (k_end; wrow_close) | (with_reducible (first | (k_here; (with_reducible show wpAny _ _ (pyIter (Value.ref _)) (fun it s₂ => TurnsAt _ _ _ _ _ _ _ _ _ it s₂) _ _); k_dflt (refine stopHere ?_)) | (k_here; (with_reducible show wpAny _ _ (exec (Stmt.For (Expr.Name _ _) (Expr.Call _ _ _ _) _ _ _) _) _ _ _); (rename Fr _ _ _ _ => lF'); k_dflt (with_unfolding_all refine' For_turns lF' ?_; k_whole)))) | walk1 | (dsimp only; first | (with_reducible (first | (k_here; (with_reducible show wpAny _ _ (pyIter (Value.ref _)) (fun it s₂ => TurnsAt _ _ _ _ _ _ _ _ _ it s₂) _ _); k_dflt (refine stopHere ?_)) | (k_here; (with_reducible show wpAny _ _ (exec (Stmt.For (Expr.Name _ _) (Expr.Call _ _ _ _) _ _ _) _) _ _ _); (rename Fr _ _ _ _ => lF'); k_dflt (with_unfolding_all refine' For_turns lF' ?_; k_whole)))) | walk1) | (leave1; try dsimp only) | fail "no step")
  show wpAny _ _ _ _ _ _
  rename Fr _ _ _ _ => FA
  refine Fr.foldc FA ?_
  clear FA
  intro mA FA
  refine' turns_down (PilJ ws P D k) ?hh ?hr ?hF ?hN ?hj ?turn ?done
  case hh => rfl
  case hr => assumption
  case hF => k_asm
  case hN => k_asm
  case hj => exact ⟨fun _ _ => rfl, _, _, [], _, _, rfl, .head _, rfl, hpre.grown (fun p hp => .tail _ hp), rfl, fun p hp _ => hp⟩
  case turn =>
    rintro I i v m₁ news₁ h tk oI hcI hi hv ⟨hz, HL, hk1, hs, n1, rows, hmh, hHL, hhs, hA, hR, hK⟩ hoff F N u
    refine gen_turn fun RT hRT => ?_
    rw [eq_at hmh (eq_over hz)] at F
    try dsimp only [over, List.foldr] at F
    obtain ⟨hne, htot, hlen⟩ := piled_inv ws i
    have hwl : ((⟨ws.toArray⟩ : Str).length : Int) = 8 := by show ((ws.toArray.size : Nat) : Int) = 8; simp [hws]
    have hit : Txt.item ⟨ws.toArray⟩ v = mkS [ws.getD (7 - i) 0] := by
      have : v = ((7 - i : Nat) : Int) := by omega
      rw [this, W.item_meets (by constructor; omega; show ((7 - i : Nat) : Int) < (ws.toArray.size : Nat); simp [hws]; omega)]
      simp [mkS]
    have hv0 : 0 ≤ v := by omega
    have hv8 : v < ((⟨ws.toArray⟩ : Str).length : Int) := by omega
    have hstep : (piledN ws (i + 1)) = ((7 - i, (pull (piledN ws i).1 [ws.getD (7 - i) 0]).1) :: (pull (piledN ws i).1 [ws.getD (7 - i) 0]).2, (pull (piledN ws i).1 [ws.getD (7 - i) 0]).1 :: (piledN ws i).2) := rfl
    generalize (piledN ws i).1 = st at hne htot hlen hR hstep
    have hst9 : st.length ≤ 900 := by omega
    have hsl : hs.length ≤ 8 := by have h1 := congrArg List.length hhs; rw [List.length_map, List.length_map, piled_hlen] at h1; omega
    have hHP : HL ≠ P := News.ne N (.tail _ hHL) (.tail _ hA.1) list_ne_acc
    obtain ⟨gm1, ⟨gh, gt, gu, gm2⟩, gm3⟩ := id hA
    have hIP : I ≠ P := fun e => hoff _ gm1 e.symm
    have hv' : v = ((7 - i : Nat) : Int) := by omega
    repeat' (first | (k_unfold; (try dsimp only)) | (k_end; wrow_close) | (with_reducible (first | (k_here; (with_reducible show wpAny _ _ (call (Value.ref 85) _ _) _ _ _); k_dflt (refine' (pop_any _ _ _ _ _ _ _ _ _ _ ?gh1_13 ?gh2_13) _ _ _ _ _ _ _ _ _ _ _ _ _ _ _ _ _ _ ?gB ?gF ?gX ?gN ?gT ?gk ?gp_13 ?gd ?gu ?_; walk_at "gclaim"; (case gp_13 => (refine AccAt.grown (by (first | with_reducible assumption | assumption)) ?_; intro p hp; repeat (first | exact hp | refine .tail _ ?_))); (case gh1_13 => with_reducible assumption); (case gh2_13 => (first | with_reducible assumption | assumption)); intro q' x' y' t' u' n' rows' news' h' tk' F' N' hq' hx' hy' hA' hR' hK'; (try dsimp only); (try k_fold))) | (k_here; (with_reducible show wpAny _ _ (exec (Stmt.While _ _ [] _) _) _ _ _); k_dflt (refine stopHere ?_)) | (k_here; (with_reducible show wpAny _ _ (getMethod (Value.ref _) _ _) _ _ _); k_dflt (refine' acc_method_K ?aF_1 ?aX_1 ?aN_1 ?a1_1 ?a2_1 ?ag_1 ?ak_1 ?af_1 ?aq_1 ?ar_1 ?aw_1 ?_; (case aF_1 => k_asm); (case aX_1 => k_asm); (case aN_1 => k_asm); (case a1_1 => k_mem); (case a2_1 => k_mem); (case ag_1 => k_is); (case ak_1 => k_is); (case af_1 => k_is); (case aq_1 => k_is); (case ar_1 => decide +kernel); (case aw_1 => rfl))))) | walk1 | (dsimp only; first | (with_reducible (first | (k_here; (with_reducible show wpAny _ _ (call (Value.ref 85) _ _) _ _ _); k_dflt (refine' (pop_any _ _ _ _ _ _ _ _ _ _ ?gh1_13 ?gh2_13) _ _ _ _ _ _ _ _ _ _ _ _ _ _ _ _ _ _ ?gB ?gF ?gX ?gN ?gT ?gk ?gp_13 ?gd ?gu ?_; walk_at "gclaim"; (case gp_13 => (refine AccAt.grown (by (first | with_reducible assumption | assumption)) ?_; intro p hp; repeat (first | exact hp | refine .tail _ ?_))); (case gh1_13 => with_reducible assumption); (case gh2_13 => (first | with_reducible assumption | assumption)); intro q' x' y' t' u' n' rows' news' h' tk' F' N' hq' hx' hy' hA' hR' hK'; (try dsimp only); (try k_fold))) | (k_here; (with_reducible show wpAny _ _ (exec (Stmt.While _ _ [] _) _) _ _ _); k_dflt (refine stopHere ?_)) | (k_here; (with_reducible show wpAny _ _ (getMethod (Value.ref _) _ _) _ _ _); k_dflt (refine' acc_method_K ?aF_1 ?aX_1 ?aN_1 ?a1_1 ?a2_1 ?ag_1 ?ak_1 ?af_1 ?aq_1 ?ar_1 ?aw_1 ?_; (case aF_1 => k_asm); (case aX_1 => k_asm); (case aN_1 => k_asm); (case a1_1 => k_mem); (case a2_1 => k_mem); (case ag_1 => k_is); (case ak_1 => k_is); (case af_1 => k_is); (case aq_1 => k_is); (case ar_1 => decide +kernel); (case aw_1 => rfl))))) | walk1) | (leave1; try dsimp only) | fail "no step")
    show wpAny _ _ _ _ _ _
    rename (_ = spc _) => hx5
    rename (_ = mkS (hd st).2) => hy5
    rename AccAt _ _ _ _ _ _ _ => hA5
    rename RowsOf _ _ => hR5
    rename Kept _ _ _ => hK5
    rename News _ _ _ _ => N5
    rename Fr _ _ _ _ => F5
    rw [hit, hx5, hy5] at F5
    clear hA hR
    refine Fr.foldc F5 ?_
    clear F5
    intro mB F5
    refine While_gen (fun nn m l => (∀ z, z ∉ [Str.ofString "head", Str.ofString "gap", Str.ofString "top"] → m z = mB z) ∧ ∃ hd1 g tx st2 th tg tt n2 rows2, m (Str.ofString "head") = some (.str (mkS hd1) th) ∧ m (Str.ofString "gap") = some (.str (spc g) tg) ∧ m (Str.ofString "top") = some (.str (mkS tx) tt) ∧
      (tx = [] → st2 = []) ∧ NE st2 ∧ pull (cur g tx st2) hd1 = pull st [ws.getD (7 - i) 0] ∧ hd1.length + tx.length + total st2 ≤ 8 ∧ st2.length ≤ 8 ∧ AccAt 125 P D k n2 rows2 l ∧ RowsOf rows2 st2 ∧ Kept P ((I, oI) :: news₁) l ∧ nn = (if tx = [] then 0 else st2.length + 1)) F5 N5 ⟨fun _ _ => rfl, _, _, _, _, _, _, _, _, _, rfl, rfl, rfl, hd_nil hne, ne_tail hne, congrArg (fun z => pull z _) (cur_hd hne), ?size, ?len, hA5, hR5, hK5, rfl⟩ ?wturn
    case size => have := hd_len (st := st); simp only [List.length_cons, List.length_nil]; omega
    case len => rw [List.length_tail]; omega
    case wturn =>
      rintro nn m₂ news₂ h₂ tk₂ F2 N2 ⟨hz2, hd1, g, tx, st2, th, tg, tt, n2, rows2, hmd, hmg, hmt, htx, hne2, hpl, hsz, hl2, hA2, hR2, hK2, hnn⟩ RW hRW
      rw [eq_at hmd (eq_at hmg (eq_at hmt (eq_over hz2)))] at F2
      try dsimp only [over, List.foldr] at F2
      have hs2 : st2.length ≤ 900 := by omega
      have hr2 := hR2.len
      have hr8 : rows2.length ≤ 1000 := by omega
      have hH2 := hK2 _ (.tail _ hHL) hHP
      obtain ⟨gm1, ⟨gh, gt, gu, gm2⟩, gm3⟩ := id hA2
      have hlh : (mkS hd1).length = hd1.length := by show hd1.toArray.size = _; simp
      have hlt : (mkS tx).length = tx.length := by show tx.toArray.size = _; simp
      repeat' (first | (k_unfold; (try dsimp only)) | (k_end; wrow_close) | (with_reducible (first | (k_here; (with_reducible show wpAny _ _ (binaryOp _ (Value.ref _) (Value.ref _)) _ _ _); k_dflt (refine' kmk_add_lit ?F_15 ?N_15 ?a_15 ?b_15 ?e_15 ?_ ?z_15; (case F_15 => k_asm); (case N_15 => k_asm); (case a_15 => exact News.isList (by k_asm) (by k_mem)); (case b_15 => exact News.isList (by k_asm) (by k_mem)); (case e_15 => rfl); (case z_15 => (simp only [strValues, List.size_toArray, List.length_map, List.length_append, List.length_cons, List.length_nil, sizeLine_eq]; omega))); intro D' h' F' N' lc1; (try k_lt lc1)) | (k_here; (with_reducible show wpAny _ _ (call (Value.ref 69) _ _) _ _ _); k_dflt (refine' (push_ok _ _ _ _ _ _ _ _ _ _ _ _ _ ?ghr_14) _ _ _ _ _ _ _ _ _ _ _ _ _ _ _ _ _ _ ?gB ?gF ?gX ?gN ?gT ?gk ?gp_14 ?gd ?gu ?_; walk_at "gclaim"; (case gp_14 => (refine AccAt.grown (by (first | with_reducible assumption | assumption)) ?_; intro p hp; repeat (first | exact hp | refine .tail _ ?_))); (case ghr_14 => first | (first | with_reducible assumption | assumption) | (simp only [List.length_append, List.length_cons, List.length_nil]; omega)); intro a n' news' h' tk' hA' hK' F' N'; (have hA8 := hA'.1); (obtain ⟨_, _, _, hA7⟩ := hA'.2.1); (try (have hH9 := hK' _ (show (_, listOf (strValues _).toArray _) ∈ _ from (by (first | with_reducible assumption | assumption))) (by (first | with_reducible assumption | assumption)))); (try dsimp only); (try k_fold))) | (k_here; (with_reducible show wpAny _ _ (call (Value.ref 85) _ _) _ _ _); k_dflt (refine' (pop_any _ _ _ _ _ _ _ _ _ _ ?gh1_13 ?gh2_13) _ _ _ _ _ _ _ _ _ _ _ _ _ _ _ _ _ _ ?gB ?gF ?gX ?gN ?gT ?gk ?gp_13 ?gd ?gu ?_; walk_at "gclaim"; (case gp_13 => (refine AccAt.grown (by (first | with_reducible assumption | assumption)) ?_; intro p hp; repeat (first | exact hp | refine .tail _ ?_))); (case gh1_13 => with_reducible assumption); (case gh2_13 => (first | with_reducible assumption | assumption)); intro q' x' y' t' u' n' rows' news' h' tk' F' N' hq' hx' hy' hA' hR' hK'; (try dsimp only); (try k_fold))) | (k_here; (with_reducible show wpAny _ _ (getMethod (Value.ref _) _ _) _ _ _); k_dflt (refine' acc_method_K ?aF_1 ?aX_1 ?aN_1 ?a1_1 ?a2_1 ?ag_1 ?ak_1 ?af_1 ?aq_1 ?ar_1 ?aw_1 ?_; (case aF_1 => k_asm); (case aX_1 => k_asm); (case aN_1 => k_asm); (case a1_1 => k_mem); (case a2_1 => k_mem); (case ag_1 => k_is); (case ak_1 => k_is); (case af_1 => k_is); (case aq_1 => k_is); (case ar_1 => decide +kernel); (case aw_1 => rfl))))) | walk1 | (dsimp only; first | (with_reducible (first | (k_here; (with_reducible show wpAny _ _ (binaryOp _ (Value.ref _) (Value.ref _)) _ _ _); k_dflt (refine' kmk_add_lit ?F_15 ?N_15 ?a_15 ?b_15 ?e_15 ?_ ?z_15; (case F_15 => k_asm); (case N_15 => k_asm); (case a_15 => exact News.isList (by k_asm) (by k_mem)); (case b_15 => exact News.isList (by k_asm) (by k_mem)); (case e_15 => rfl); (case z_15 => (simp only [strValues, List.size_toArray, List.length_map, List.length_append, List.length_cons, List.length_nil, sizeLine_eq]; omega))); intro D' h' F' N' lc1; (try k_lt lc1)) | (k_here; (with_reducible show wpAny _ _ (call (Value.ref 69) _ _) _ _ _); k_dflt (refine' (push_ok _ _ _ _ _ _ _ _ _ _ _ _ _ ?ghr_14) _ _ _ _ _ _ _ _ _ _ _ _ _ _ _ _ _ _ ?gB ?gF ?gX ?gN ?gT ?gk ?gp_14 ?gd ?gu ?_; walk_at "gclaim"; (case gp_14 => (refine AccAt.grown (by (first | with_reducible assumption | assumption)) ?_; intro p hp; repeat (first | exact hp | refine .tail _ ?_))); (case ghr_14 => first | (first | with_reducible assumption | assumption) | (simp only [List.length_append, List.length_cons, List.length_nil]; omega)); intro a n' news' h' tk' hA' hK' F' N'; (have hA8 := hA'.1); (obtain ⟨_, _, _, hA7⟩ := hA'.2.1); (try (have hH9 := hK' _ (show (_, listOf (strValues _).toArray _) ∈ _ from (by (first | with_reducible assumption | assumption))) (by (first | with_reducible assumption | assumption)))); (try dsimp only); (try k_fold))) | (k_here; (with_reducible show wpAny _ _ (call (Value.ref 85) _ _) _ _ _); k_dflt (refine' (pop_any _ _ _ _ _ _ _ _ _ _ ?gh1_13 ?gh2_13) _ _ _ _ _ _ _ _ _ _ _ _ _ _ _ _ _ _ ?gB ?gF ?gX ?gN ?gT ?gk ?gp_13 ?gd ?gu ?_; walk_at "gclaim"; (case gp_13 => (refine AccAt.grown (by (first | with_reducible assumption | assumption)) ?_; intro p hp; repeat (first | exact hp | refine .tail _ ?_))); (case gh1_13 => with_reducible assumption); (case gh2_13 => (first | with_reducible assumption | assumption)); intro q' x' y' t' u' n' rows' news' h' tk' F' N' hq' hx' hy' hA' hR' hK'; (try dsimp only); (try k_fold))) | (k_here; (with_reducible show wpAny _ _ (getMethod (Value.ref _) _ _) _ _ _); k_dflt (refine' acc_method_K ?aF_1 ?aX_1 ?aN_1 ?a1_1 ?a2_1 ?ag_1 ?ak_1 ?af_1 ?aq_1 ?ar_1 ?aw_1 ?_; (case aF_1 => k_asm); (case aX_1 => k_asm); (case aN_1 => k_asm); (case a1_1 => k_mem); (case a2_1 => k_mem); (case ag_1 => k_is); (case ak_1 => k_is); (case af_1 => k_is); (case aq_1 => k_is); (case ar_1 => decide +kernel); (case aw_1 => rfl))))) | walk1) | (leave1; try dsimp only) | fail "no step")
      · rename (_ < _) => hl0
        have hl9 : hd1 < tx := by simpa [mkS] using hl0
        have htx0 : tx ≠ [] := fun e => by subst e; exact not_lt_nil _ hl9
        rename (_ = spc (hd st2).1) => hx6
        rename (_ = mkS (hd st2).2) => hy6
        rename AccAt _ _ _ _ _ _ _ => hA6
        rename RowsOf _ _ => hR6
        rename Kept _ _ _ => hK6
        subst hx6
        subst hy6
        rename Fr _ _ _ _ => F9
        rw [mkS_app] at F9
        refine hRW _ _ (WhileStep.intro (n' := if (hd st2).2 = [] then 0 else st2.tail.length + 1) (by k_asm) (by k_asm) ?_ ⟨?_, hd1 ++ tx, (hd st2).1, (hd st2).2, st2.tail, _, _, _, _, _, rfl, rfl, rfl, hd_nil hne2, ne_tail hne2, ?_, ?_, ?_, hA6, hR6, fun p hp hne => hK6 p (hK2 p hp hne) hne, rfl⟩)
        · rw [hnn, if_neg htx0]; exact var_lt
        · intro z h1; simp at h1; simp [over, h1]
        · rw [cur_hd hne2]; exact (pull_go hl9).symm.trans hpl
        · have := hd_len (st := st2); rw [List.length_append]; omega
        · rw [List.length_tail]; omega
      · rename (¬ _ < _) => hl0
        have hl9 : ¬ hd1 < tx := by simpa [mkS] using hl0
        rename ((mkS tx != Str.ofString "") = true) => hne9
        have htx0 : tx ≠ [] := by rintro rfl; exact absurd hne9 (by decide)
        rename AccAt _ _ _ _ _ _ _ => hA6
        rename Kept P _ _ => hK7
        rename Kept P news₂ _ => hK6
        have hall : ∀ p ∈ (I, oI) :: news₁, p.1 ≠ P → p ∈ _ := fun p hp hne => hK7 p (hK6 p (hK2 p hp hne) hne) hne
        rename News _ _ _ _ => N9
        rename (_ < _ ∧ AllLt _ _) => hD9
        rename (∀ p : Addr × Obj, p ∈ _ → p.1 < _) => hl7
        have hI7 := hall _ (.head _) hIP
        have hIl := hl7 _ hI7
        have hp9 := hpl.symm.trans (pull_stop htx hl9)
        refine hRT _ _ ?_
        dsimp only [TPost]
        refine ⟨_, _, _, but I _, rfl, by k_asm, News.head N9 (.tail _ (.tail _ hI7)), fun p hp => (mem_but.mp hp).2, fun p hp => (nomatch hp), ?_, _, 0, (mkS hd1, th) :: hs, _, _, rfl, mem_but.mpr ⟨List.mem_cons.mpr (.inl (by simp [strValues])), Nat.ne_of_gt (Nat.lt_trans hIl hD9.1)⟩, ?_, (hA6.grown (fun p hp => .tail _ (.tail _ hp))).but N9 (.tail _ (.tail _ hI7)) hcI (by decide) (by decide), ?_, fun p hp hne => mem_but.mpr ⟨.tail _ (.tail _ (hall p (.tail _ (hK p hp hne)) hne)), hoff p (hK p hp hne)⟩⟩
        · intro z h1; simp at h1; simp [over, h1, mB]
        · rw [hstep, hp9]; simp [hhs]
        · rw [hstep, hp9, show cur g tx st2 = (g, tx) :: st2 from if_neg htx0]
          exact (hR2.push rfl rfl).push (by rw [hv']) rfl
      · rename (¬ _ < _) => hl0
        have hl9 : ¬ hd1 < tx := by simpa [mkS] using hl0
        rename ((mkS tx != Str.ofString "") = false) => hne9
        have htx0 : tx = [] := mkS_nil hne9
        rename AccAt _ _ _ _ _ _ _ => hA6
        rename Kept P news₂ _ => hK6
        have hall : ∀ p ∈ (I, oI) :: news₁, p.1 ≠ P → p ∈ _ := fun p hp hne => hK6 p (hK2 p hp hne) hne
        rename News _ _ _ _ => N9
        rename (_ < _ ∧ AllLt _ _) => hD9
        rename (∀ p : Addr × Obj, p ∈ _ → p.1 < _) => hl7
        have hI7 := hall _ (.head _) hIP
        have hIl := hl7 _ hI7
        have hp9 := hpl.symm.trans (pull_stop htx hl9)
        refine hRT _ _ ?_
        dsimp only [TPost]
        refine ⟨_, _, _, but I _, rfl, by k_asm, News.head N9 (.tail _ (.tail _ hI7)), fun p hp => (mem_but.mp hp).2, fun p hp => (nomatch hp), ?_, _, 0, (mkS hd1, th) :: hs, _, _, rfl, mem_but.mpr ⟨List.mem_cons.mpr (.inl (by simp [strValues])), Nat.ne_of_gt (Nat.lt_trans hIl hD9.1)⟩, ?_, (hA6.grown (fun p hp => .tail _ (.tail _ hp))).but N9 (.tail _ (.tail _ hI7)) hcI (by decide) (by decide), ?_, fun p hp hne => mem_but.mpr ⟨.tail _ (.tail _ (hall p (.tail _ (hK p hp hne)) hne)), hoff p (hK p hp hne)⟩⟩
        · intro z h1; simp at h1; simp [over, h1, mB]
        · rw [hstep, hp9]; simp [hhs]
        · rw [hstep, hp9, show cur g tx st2 = st2 from if_pos htx0]
          exact hR2.push (by rw [hv']) rfl
  case done =>
    rintro m₁ news₁ h tk ⟨hz, HL, hk1, hs, n1, rows, hmh, hHL, hhs, hA, hR, hK⟩ F N
    rw [eq_at hmh (eq_over hz)] at F
    try dsimp only [over, List.foldr] at F
    repeat' (first | (k_unfold; (try dsimp only)) | (k_end; wrow_close) | walk1 | (dsimp only; first | walk1) | (leave1; try dsimp only) | fail "no step")
    refine hRF _ _ ?_
    repeat' (first | (k_unfold; (try dsimp only)) | (k_end; wrow_close) | walk1 | (dsimp only; first | walk1) | (leave1; try dsimp only) | fail "no step")
    exact hret HL hk1 hs n1 rows news₁ h tk (by k_asm) (by k_asm) hHL hhs hA hR (fun p hp hne => hK p (.tail _ hp) hne)
end
end
section
open PySem PySem.W PySem.Calls PyProof.Rows PySem.Builtin PySem.Builtin.Str
noncomputable def lenT (c' : Addr) : Array Value := #[rawInt 55, rawInt 19, .ref c']
section
set_option maxHeartbeats 1000000 in
theorem len_okA (w : World) (mean) (mg mb) (P D : Addr) (k : Int) (n : Nat) (rows : List Row4) (hr : rows.length ≤ 900) (hz : ∀ r ∈ rows, r.x.length ≤ 1000 ∧ r.y.length ≤ 1000) :
    GClaimS w mean mg mb 6 92 [.ref P] [] (fun news _ => AccAt 125 P D k n rows news ∧ (87, tabO #[]) ∈ news) (fun h₀ L m news s K => ∀ s' t c', s'.os = s.os → AllBare s'.gens → Fr h₀ L s'.heap m → News h₀ L s'.heap ((87, tabO (lenT c')) :: but 87 news) → K (.int (k + lenR rows) t) s') := by
  unfold GClaimS prog1
  k_fill
  intros; rename_i hpre hG hdp hun hret
  rename News _ _ _ _ => N₀
  rename Frag.In _ _ => X0
  rename Top _ _ _ _ _ _ => T0
  have hlen := mg_none_of (n := Str.ofString "len") X0 T0.g (by k_is)
  try dsimp only at hpre
  try dsimp only at hret
  obtain ⟨hacc, htab⟩ := hpre
  have hacc' := hacc
  obtain ⟨hm1, ⟨hh, ht, hu, hm2⟩, hm3⟩ := hacc'
  have hc : CodeK (Mine.K1 w.params) 91 87 := ⟨_, _, _, _, _, _, _, _, _, by k_is, rfl, rfl, rfl, rfl, rfl, rfl, rfl, rfl⟩
  refine wpAny_call ?_
  k_dflt (first | (refine' code_def ?k1 ?k2 ?k3 ?k4 ?k5 ?kA ?kF ?kK ?k6 ?k7 ?k8 ?k9 ?kB ?_ ?c2 ?c3 ?c4 ?c5; (case kA => exact rfl); (case kF => exact rfl); (case kK => (first | with_reducible assumption | assumption)); (case k1 => k_asm); (case k2 => k_asm); (case k3 => k_asm); (case k4 => k_asm); (case k5 => k_asm); (case k6 => k_is); (case k7 => k_is); (case k8 => ktr_room); (case k9 => exact binds_K (by k_in) rfl (by k_is) rfl rfl rfl); (case c5 => decide); (case kB => exact locs rfl); (case c2 => exact rfl); (case c3 => exact rfl); (case c4 => exact rfl); k_whole; intro g' L' h' FG' F' N' B' X' T'; (try dsimp only); (try k_lift B'); (try k_fold)) | (refine' ks_code_super ?k1 ?k2 ?k3 ?k4 ?k5 ?kA ?kF ?kK ?k6 ?k7 ?k8 ?k9 ?kB ?_ ?c1 ?c2 ?c3 ?c4; (case kA => exact rfl); (case kF => exact rfl); (case kK => first | exact rfl | (first | with_reducible assumption | assumption)); (case k1 => k_asm); (case k2 => k_asm); (case k3 => k_asm); (case k4 => k_asm); (case k5 => k_asm); (case k6 => k_is); (case k7 => k_is); (case k8 => ktr_room); (case k9 => first | exact BindsTo.of_eq rfl | exact binds_K (by k_in) rfl (by k_is) rfl rfl rfl); (case kB => exact locs rfl); (case c1 => decide); (case c2 => exact rfl); (case c3 => exact rfl); (case c4 => exact rfl); intro g' L' h' FG' F' N' B' X' T' lc1; (try k_lt lc1); (try dsimp only); (try k_lift B')) | (refine' code_defC ?k1 ?k2 ?k3 ?k4 ?k5 ?kA ?kF ?kK ?k6 ?k7 ?k8 ?k9 ?kB ?kD ?_ ?c2 ?c3 ?c4; (case kA => exact rfl); (case kF => exact rfl); (case kK => first | exact rfl | (first | with_reducible assumption | assumption)); (case k1 => k_asm); (case k2 => k_asm); (case k3 => k_asm); (case k4 => k_asm); (case k5 => k_asm); (case k6 => k_is); (case k7 => k_is); (case k8 => ktr_room); (case k9 => first | exact BindsTo.of_eq rfl | exact binds_K (by k_in) rfl (by k_is) rfl rfl rfl | fail "k_enter: no rule for these arguments"); (case kB => exact rfl); (case kD => decide +kernel); (case c2 => exact rfl); (case c3 => exact rfl); (case c4 => exact rfl); k_whole; intro g' L' h' tk' cells' FG' F' N' Y' B' X' T' lc1; (try k_lt lc1); k_cells Y'; (try simp only [List.cons_append, List.nil_append] at N'); (try dsimp only); (try k_lift B'); (try k_fold)) | cell_enter)
  repeat' (first | (k_unfold; (try dsimp only)) | (k_end; wrow_close) | (with_reducible (first | (k_here; (with_reducible show wpAny _ _ (eval (Expr.GeneratorExp _ _ _ _) _) _ _ _); k_dflt (refine stopHere ?_)))) | walk1 | (dsimp only; first | (with_reducible (first | (k_here; (with_reducible show wpAny _ _ (eval (Expr.GeneratorExp _ _ _ _) _) _ _ _); k_dflt (refine stopHere ?_)))) | walk1) | (leave1; try dsimp only) | fail "no step")
  show wpAny _ _ _ _ _ _
  rename News _ _ _ _ => N₁
  rename Fr _ _ _ _ => F₁
  refine' gen_acc (rows := rows) (K := Mine.K1 w.params) (c := 91) (Pt := 87) (ps := #[]) (Fv := fun r y => ∃ t, y = .int (r.x.length + r.y.length) t) ?qF ?qX ?qT ?qN hm1 hm2 hm3 htab hc ?qok ?qnf hG ?qcode ?qglob ?qs ?qi ?qh ?qco ?qcl ?qcell ?q0 ?qxa ?qxb ?qab ?qk ?qroom ?qit ?qelt ?qgo ?qsf
  case qF => k_asm
  case qX => k_asm
  case qT => k_asm
  case qN => k_asm
  case qok => trivial
  case qnf => rfl
  case qcode => rfl
  case qglob => rfl
  case qs => k_is
  case qi => k_is
  case qh => rfl
  case qco => rfl
  case qcl => rfl
  case qcell => decide
  case q0 => rfl
  case qxa => rfl
  case qxb => rfl
  case qab => decide
  case qk => rfl
  case qroom => ktr_room
  case qsf => intro _; rfl
  case qit =>
    intro Q' hq
    repeat' (first | (k_unfold; (try dsimp only)) | (k_end; wrow_close) | walk1 | (dsimp only; first | walk1) | (leave1; try dsimp only) | fail "no step")
    exact hq
  case qelt =>
    intro c' Cc A' E' r t m₂ hh hr' F₂ ma mb'
    exact elt_len F₂ (by assumption) ma mb' (by have := hz r hr'; omega) (by have := hz r hr'; omega) hlen rfl rfl rfl rfl rfl (by decide) (by decide)
  intro ga s₅ c' F₅ N₅ G₅ hos hdr X₅
  have hP1 := (mem_but (D := 87)).mpr ⟨hm1, News.ne N₀ hm1 htab fun z => by cases congrArg Obj.cls z⟩
  have hP2 := (mem_but (D := 87)).mpr ⟨hm2, News.ne N₀ hm2 htab fun z => by cases congrArg Obj.cls z⟩
  repeat' (first | (k_unfold; (try dsimp only)) | (k_end; wrow_close) | (with_reducible (first | (k_here; (with_reducible show wpAny _ _ (getAttr (Value.ref _) _ _) _ _ _); k_dflt (refine' acc_get_K ?aF_12 ?aX_12 ?aN_12 ?a1_12 ?a2_12 ?ag_12 ?ak_12 ?ai_12 ?af_12 ?ah_12 ?_; (case aF_12 => k_asm); (case aX_12 => k_asm); (case aN_12 => k_asm); (case a1_12 => k_mem); (case a2_12 => k_mem); (case ag_12 => k_is); (case ak_12 => k_is); (case ai_12 => k_is); (case af_12 => exact (by rfl)); (case ah_12 => first | rfl | k_handed))))) | walk1 | (dsimp only; first | (with_reducible (first | (k_here; (with_reducible show wpAny _ _ (getAttr (Value.ref _) _ _) _ _ _); k_dflt (refine' acc_get_K ?aF_12 ?aX_12 ?aN_12 ?a1_12 ?a2_12 ?ag_12 ?ak_12 ?ai_12 ?af_12 ?ah_12 ?_; (case aF_12 => k_asm); (case aX_12 => k_asm); (case aN_12 => k_asm); (case a1_12 => k_mem); (case a2_12 => k_mem); (case ag_12 => k_is); (case ak_12 => k_is); (case ai_12 => k_is); (case af_12 => exact (by rfl)); (case ah_12 => first | rfl | k_handed))))) | walk1) | (leave1; try dsimp only) | fail "no step")
  refine sum_gen (n := rows.length) (val := fun j => ((rows[j]?).map fun r => ((r.x.length + r.y.length : Nat) : Int)).getD 0) (by k_asm) (by k_asm) (fun q hq => ?_) (Nat.le_sub_one_of_lt F₁.ns.lt) G₅ (Gen_later X₅ (Nat.le_succ _)) (fun j v hv => ?_) fun s₆ t₆ F₆ N₆ G₆ hos₆ hdr₆ => ?_
  · refine Nat.le_sub_one_of_lt ?_
    rcases List.mem_cons.mp hq with rfl | hq
    · exact Heap.lt_size (N₁ _ htab).1
    · exact Heap.lt_size (N₁ _ (mem_but.mp hq).1).1
  · obtain ⟨r, hr1, t, rfl⟩ := hv
    exact ⟨t, by simp [hr1]⟩
  rw [preSum_rows, List.take_length]
  repeat' (first | (k_unfold; (try dsimp only)) | (k_end; wrow_close) | walk1 | (dsimp only; first | walk1) | (leave1; try dsimp only) | fail "no step")
  rw [sum_cast rows fun r => r.x.length + r.y.length]
  exact hret s₆ t₆ c' (hos₆.trans hos) G₆ (by k_asm) (by have N7 : News _ _ _ ((87, tabO (#[] ++ #[rawInt 55, rawInt 19, .ref c'])) :: _) := (by k_asm); simpa [lenT] using N7)
end
section
set_option maxHeartbeats 1000000 in
theorem len_okB (w : World) (mean) (mg mb) (P D : Addr) (k : Int) (n : Nat) (rows : List Row4) (c₀ : Addr) (hr : rows.length ≤ 900) (hz : ∀ r ∈ rows, r.x.length ≤ 1000 ∧ r.y.length ≤ 1000) :
    GClaimS w mean mg mb 6 92 [.ref P] [] (fun news _ => AccAt 125 P D k n rows news ∧ (87, tabO (lenT c₀)) ∈ news) (fun h₀ L m news s K => ∀ s' t, s'.os = s.os → AllBare s'.gens → Fr h₀ L s'.heap m → News h₀ L s'.heap news → K (.int (k + lenR rows) t) s') := by
  unfold GClaimS prog1
  k_fill
  intros; rename_i hpre hG hdp hun hret
  rename News _ _ _ _ => N₀
  rename Frag.In _ _ => X0
  rename Top _ _ _ _ _ _ => T0
  have hlen := mg_none_of (n := Str.ofString "len") X0 T0.g (by k_is)
  try dsimp only at hpre
  try dsimp only at hret
  obtain ⟨hacc, htab⟩ := hpre
  have hacc' := hacc
  obtain ⟨hm1, ⟨hh, ht, hu, hm2⟩, hm3⟩ := hacc'
  have hc : CodeK (Mine.K1 w.params) 91 87 := ⟨_, _, _, _, _, _, _, _, _, by k_is, rfl, rfl, rfl, rfl, rfl, rfl, rfl, rfl⟩
  refine wpAny_call ?_
  k_dflt (first | (refine' code_def ?k1 ?k2 ?k3 ?k4 ?k5 ?kA ?kF ?kK ?k6 ?k7 ?k8 ?k9 ?kB ?_ ?c2 ?c3 ?c4 ?c5; (case kA => exact rfl); (case kF => exact rfl); (case kK => (first | with_reducible assumption | assumption)); (case k1 => k_asm); (case k2 => k_asm); (case k3 => k_asm); (case k4 => k_asm); (case k5 => k_asm); (case k6 => k_is); (case k7 => k_is); (case k8 => ktr_room); (case k9 => exact binds_K (by k_in) rfl (by k_is) rfl rfl rfl); (case c5 => decide); (case kB => exact locs rfl); (case c2 => exact rfl); (case c3 => exact rfl); (case c4 => exact rfl); k_whole; intro g' L' h' FG' F' N' B' X' T'; (try dsimp only); (try k_lift B'); (try k_fold)) | (refine' ks_code_super ?k1 ?k2 ?k3 ?k4 ?k5 ?kA ?kF ?kK ?k6 ?k7 ?k8 ?k9 ?kB ?_ ?c1 ?c2 ?c3 ?c4; (case kA => exact rfl); (case kF => exact rfl); (case kK => first | exact rfl | (first | with_reducible assumption | assumption)); (case k1 => k_asm); (case k2 => k_asm); (case k3 => k_asm); (case k4 => k_asm); (case k5 => k_asm); (case k6 => k_is); (case k7 => k_is); (case k8 => ktr_room); (case k9 => first | exact BindsTo.of_eq rfl | exact binds_K (by k_in) rfl (by k_is) rfl rfl rfl); (case kB => exact locs rfl); (case c1 => decide); (case c2 => exact rfl); (case c3 => exact rfl); (case c4 => exact rfl); intro g' L' h' FG' F' N' B' X' T' lc1; (try k_lt lc1); (try dsimp only); (try k_lift B')) | (refine' code_defC ?k1 ?k2 ?k3 ?k4 ?k5 ?kA ?kF ?kK ?k6 ?k7 ?k8 ?k9 ?kB ?kD ?_ ?c2 ?c3 ?c4; (case kA => exact rfl); (case kF => exact rfl); (case kK => first | exact rfl | (first | with_reducible assumption | assumption)); (case k1 => k_asm); (case k2 => k_asm); (case k3 => k_asm); (case k4 => k_asm); (case k5 => k_asm); (case k6 => k_is); (case k7 => k_is); (case k8 => ktr_room); (case k9 => first | exact BindsTo.of_eq rfl | exact binds_K (by k_in) rfl (by k_is) rfl rfl rfl | fail "k_enter: no rule for these arguments"); (case kB => exact rfl); (case kD => decide +kernel); (case c2 => exact rfl); (case c3 => exact rfl); (case c4 => exact rfl); k_whole; intro g' L' h' tk' cells' FG' F' N' Y' B' X' T' lc1; (try k_lt lc1); k_cells Y'; (try simp only [List.cons_append, List.nil_append] at N'); (try dsimp only); (try k_lift B'); (try k_fold)) | cell_enter)
  repeat' (first | (k_unfold; (try dsimp only)) | (k_end; wrow_close) | (with_reducible (first | (k_here; (with_reducible show wpAny _ _ (eval (Expr.GeneratorExp _ _ _ _) _) _ _ _); k_dflt (refine stopHere ?_)))) | walk1 | (dsimp only; first | (with_reducible (first | (k_here; (with_reducible show wpAny _ _ (eval (Expr.GeneratorExp _ _ _ _) _) _ _ _); k_dflt (refine stopHere ?_)))) | walk1) | (leave1; try dsimp only) | fail "no step")
  show wpAny _ _ _ _ _ _
  rename News _ _ _ _ => N₁
  rename Fr _ _ _ _ => F₁
  refine' gen_acc2 (c₀ := c₀) (rows := rows) (K := Mine.K1 w.params) (c := 91) (Pt := 87) (ps := lenT c₀) (Fv := fun r y => ∃ t, y = .int (r.x.length + r.y.length) t) ?qF ?qX ?qT ?qN hm1 hm2 hm3 htab hc ?qok ?qnf hG ?qcode ?qglob ?qs ?qi ?qh ?qco ?qcl ?qcell ?q0 ?qxa ?qxb ?qab ?qk ?qroom ?qit ?qelt ?qgo ?qsf
  case qF => k_asm
  case qX => k_asm
  case qT => k_asm
  case qN => k_asm
  case qok => trivial
  case qnf => rfl
  case qcode => rfl
  case qglob => rfl
  case qs => k_is
  case qi => k_is
  case qh => rfl
  case qco => rfl
  case qcl => rfl
  case qcell => decide
  case q0 => rfl
  case qxa => rfl
  case qxb => rfl
  case qab => decide
  case qk => rfl
  case qroom => ktr_room
  case qsf => intro _; rfl
  case qit =>
    intro Q' hq
    repeat' (first | (k_unfold; (try dsimp only)) | (k_end; wrow_close) | walk1 | (dsimp only; first | walk1) | (leave1; try dsimp only) | fail "no step")
    exact hq
  case qelt =>
    intro c' Cc A' E' r t m₂ hh hr' F₂ ma mb'
    exact elt_len F₂ (by assumption) ma mb' (by have := hz r hr'; omega) (by have := hz r hr'; omega) hlen rfl rfl rfl rfl rfl (by decide) (by decide)
  intro ga s₅ F₅ N₅ G₅ hos hdr X₅
  repeat' (first | (k_unfold; (try dsimp only)) | (k_end; wrow_close) | (with_reducible (first | (k_here; (with_reducible show wpAny _ _ (getAttr (Value.ref _) _ _) _ _ _); k_dflt (refine' acc_get_K ?aF_12 ?aX_12 ?aN_12 ?a1_12 ?a2_12 ?ag_12 ?ak_12 ?ai_12 ?af_12 ?ah_12 ?_; (case aF_12 => k_asm); (case aX_12 => k_asm); (case aN_12 => k_asm); (case a1_12 => k_mem); (case a2_12 => k_mem); (case ag_12 => k_is); (case ak_12 => k_is); (case ai_12 => k_is); (case af_12 => exact (by rfl)); (case ah_12 => first | rfl | k_handed))))) | walk1 | (dsimp only; first | (with_reducible (first | (k_here; (with_reducible show wpAny _ _ (getAttr (Value.ref _) _ _) _ _ _); k_dflt (refine' acc_get_K ?aF_12 ?aX_12 ?aN_12 ?a1_12 ?a2_12 ?ag_12 ?ak_12 ?ai_12 ?af_12 ?ah_12 ?_; (case aF_12 => k_asm); (case aX_12 => k_asm); (case aN_12 => k_asm); (case a1_12 => k_mem); (case a2_12 => k_mem); (case ag_12 => k_is); (case ak_12 => k_is); (case ai_12 => k_is); (case af_12 => exact (by rfl)); (case ah_12 => first | rfl | k_handed))))) | walk1) | (leave1; try dsimp only) | fail "no step")
  refine sum_gen (n := rows.length) (val := fun j => ((rows[j]?).map fun r => ((r.x.length + r.y.length : Nat) : Int)).getD 0) (by k_asm) (by k_asm) (fun q hq => ?_) (Nat.le_sub_one_of_lt F₁.ns.lt) G₅ (Gen_later X₅ (Nat.le_succ _)) (fun j v hv => ?_) fun s₆ t₆ F₆ N₆ G₆ hos₆ hdr₆ => ?_
  · refine Nat.le_sub_one_of_lt ?_
    exact Heap.lt_size (N₁ _ hq).1
  · obtain ⟨r, hr1, t, rfl⟩ := hv
    exact ⟨t, by simp [hr1]⟩
  rw [preSum_rows, List.take_length]
  repeat' (first | (k_unfold; (try dsimp only)) | (k_end; wrow_close) | walk1 | (dsimp only; first | walk1) | (leave1; try dsimp only) | fail "no step")
  rw [sum_cast rows fun r => r.x.length + r.y.length]
  exact hret s₆ t₆ (hos₆.trans hos) G₆ (by k_asm) (by k_asm)
end
end
section
open PySem PySem.W PySem.Calls PyProof.Rows PySem.Builtin PySem.Builtin.Str
noncomputable def strT (c' : Addr) : Array Value := #[rawInt 58, rawInt 32, .ref c']
section
set_option maxHeartbeats 1000000 in
theorem str_okA (w : World) (mean) (mg mb) (P D : Addr) (k : Int) (n : Nat) (rows : List Row4) (hr : rows.length ≤ 900) (hz : ∀ r ∈ rows, r.x.length ≤ 1000 ∧ r.y.length ≤ 1000) :
    GClaimS w mean mg mb 6 99 [.ref P] [] (fun news _ => AccAt 125 P D k n rows news ∧ (94, tabO #[]) ∈ news) (fun h₀ L m news s K => ∀ s' t c', s'.os = s.os → AllBare s'.gens → Fr h₀ L s'.heap m → News h₀ L s'.heap ((94, tabO (strT c')) :: but 94 news) → K (.str (strR rows) t) s') := by
  unfold GClaimS prog1
  k_fill
  intros; rename_i hpre hG hdp hun hret
  rename News _ _ _ _ => N₀
  rename Frag.In _ _ => X0
  rename Top _ _ _ _ _ _ => T0
  have hE := mg_of (n := Str.ofString "EMPTYSTRING") X0 T0.g (by k_is)
  try dsimp only at hpre
  try dsimp only at hret
  obtain ⟨hacc, htab⟩ := hpre
  have hacc' := hacc
  obtain ⟨hm1, ⟨hh, ht, hu, hm2⟩, hm3⟩ := hacc'
  have hc : CodeK (Mine.K1 w.params) 98 94 := ⟨_, _, _, _, _, _, _, _, _, by k_is, rfl, rfl, rfl, rfl, rfl, rfl, rfl, rfl⟩
  refine wpAny_call ?_
  k_dflt (first | (refine' code_def ?k1 ?k2 ?k3 ?k4 ?k5 ?kA ?kF ?kK ?k6 ?k7 ?k8 ?k9 ?kB ?_ ?c2 ?c3 ?c4 ?c5; (case kA => exact rfl); (case kF => exact rfl); (case kK => (first | with_reducible assumption | assumption)); (case k1 => k_asm); (case k2 => k_asm); (case k3 => k_asm); (case k4 => k_asm); (case k5 => k_asm); (case k6 => k_is); (case k7 => k_is); (case k8 => ktr_room); (case k9 => exact binds_K (by k_in) rfl (by k_is) rfl rfl rfl); (case c5 => decide); (case kB => exact locs rfl); (case c2 => exact rfl); (case c3 => exact rfl); (case c4 => exact rfl); k_whole; intro g' L' h' FG' F' N' B' X' T'; (try dsimp only); (try k_lift B'); (try k_fold)) | (refine' ks_code_super ?k1 ?k2 ?k3 ?k4 ?k5 ?kA ?kF ?kK ?k6 ?k7 ?k8 ?k9 ?kB ?_ ?c1 ?c2 ?c3 ?c4; (case kA => exact rfl); (case kF => exact rfl); (case kK => first | exact rfl | (first | with_reducible assumption | assumption)); (case k1 => k_asm); (case k2 => k_asm); (case k3 => k_asm); (case k4 => k_asm); (case k5 => k_asm); (case k6 => k_is); (case k7 => k_is); (case k8 => ktr_room); (case k9 => first | exact BindsTo.of_eq rfl | exact binds_K (by k_in) rfl (by k_is) rfl rfl rfl); (case kB => exact locs rfl); (case c1 => decide); (case c2 => exact rfl); (case c3 => exact rfl); (case c4 => exact rfl); intro g' L' h' FG' F' N' B' X' T' lc1; (try k_lt lc1); (try dsimp only); (try k_lift B')) | (refine' code_defC ?k1 ?k2 ?k3 ?k4 ?k5 ?kA ?kF ?kK ?k6 ?k7 ?k8 ?k9 ?kB ?kD ?_ ?c2 ?c3 ?c4; (case kA => exact rfl); (case kF => exact rfl); (case kK => first | exact rfl | (first | with_reducible assumption | assumption)); (case k1 => k_asm); (case k2 => k_asm); (case k3 => k_asm); (case k4 => k_asm); (case k5 => k_asm); (case k6 => k_is); (case k7 => k_is); (case k8 => ktr_room); (case k9 => first | exact BindsTo.of_eq rfl | exact binds_K (by k_in) rfl (by k_is) rfl rfl rfl | fail "k_enter: no rule for these arguments"); (case kB => exact rfl); (case kD => decide +kernel); (case c2 => exact rfl); (case c3 => exact rfl); (case c4 => exact rfl); k_whole; intro g' L' h' tk' cells' FG' F' N' Y' B' X' T' lc1; (try k_lt lc1); k_cells Y'; (try simp only [List.cons_append, List.nil_append] at N'); (try dsimp only); (try k_lift B'); (try k_fold)) | cell_enter)
  repeat' (first | (k_unfold; (try dsimp only)) | (k_end; wrow_close) | (with_reducible (first | (k_here; (with_reducible show wpAny _ _ (eval (Expr.GeneratorExp _ _ _ _) _) _ _ _); k_dflt (refine stopHere ?_)))) | walk1 | (dsimp only; first | (with_reducible (first | (k_here; (with_reducible show wpAny _ _ (eval (Expr.GeneratorExp _ _ _ _) _) _ _ _); k_dflt (refine stopHere ?_)))) | walk1) | (leave1; try dsimp only) | fail "no step")
  show wpAny _ _ _ _ _ _
  rename News _ _ _ _ => N₁
  rename Fr _ _ _ _ => F₁
  refine' gen_acc (rows := rows) (K := Mine.K1 w.params) (c := 98) (Pt := 94) (ps := #[]) (Fv := fun r y => ∃ t, y = .str (Txt.join "" [r.x, r.y]) t) ?qF ?qX ?qT ?qN hm1 hm2 hm3 htab hc ?qok ?qnf hG ?qcode ?qglob ?qs ?qi ?qh ?qco ?qcl ?qcell ?q0 ?qxa ?qxb ?qab ?qk ?qroom ?qit ?qelt ?qgo ?qsf
  case qF => k_asm
  case qX => k_asm
  case qT => k_asm
  case qN => k_asm
  case qok => trivial
  case qnf => rfl
  case qcode => rfl
  case qglob => rfl
  case qs => k_is
  case qi => k_is
  case qh => rfl
  case qco => rfl
  case qcl => rfl
  case qcell => decide
  case q0 => rfl
  case qxa => rfl
  case qxb => rfl
  case qab => decide
  case qk => rfl
  case qroom => ktr_room
  case qsf => intro _; rfl
  case qit =>
    intro Q' hq
    repeat' (first | (k_unfold; (try dsimp only)) | (k_end; wrow_close) | walk1 | (dsimp only; first | walk1) | (leave1; try dsimp only) | fail "no step")
    exact hq
  case qelt =>
    intro c' Cc A' E' r t m₂ hh hr' F₂ ma mb'
    exact elt_join F₂ (by assumption) ma mb' (by have := hz r hr'; omega) (by have := hz r hr'; omega) hE rfl rfl rfl rfl rfl (by decide) (by decide) (by decide) (by decide)
  intro ga s₅ c' F₅ N₅ G₅ hos hdr X₅
  have hP1 := (mem_but (D := 94)).mpr ⟨hm1, News.ne N₀ hm1 htab fun z => by cases congrArg Obj.cls z⟩
  have hP2 := (mem_but (D := 94)).mpr ⟨hm2, News.ne N₀ hm2 htab fun z => by cases congrArg Obj.cls z⟩
  repeat' (first | (k_unfold; (try dsimp only)) | (k_end; wrow_close) | walk1 | (dsimp only; first | walk1) | (leave1; try dsimp only) | fail "no step")
  refine join_gen' (n := rows.length) (tx := fun j => ((rows[j]?).map fun r => Txt.join "" [r.x, r.y]).getD "") (by k_asm) (by k_asm) (fun q hq => ?_) (Nat.le_sub_one_of_lt F₁.ns.lt) G₅ X₅ (fun j v hv => ?_) ?_ (by omega) fun s₆ t₆ F₆ N₆ G₆ hos₆ => ?_
  · refine Nat.le_sub_one_of_lt ?_
    rcases List.mem_cons.mp hq with rfl | hq
    · exact Heap.lt_size (N₁ _ htab).1
    · exact Heap.lt_size (N₁ _ (mem_but.mp hq).1).1
  · obtain ⟨r, hr1, t, rfl⟩ := hv
    exact ⟨t, by simp [hr1]⟩
  · rw [range_rows]
    exact joinOk_rows rows hr hz
  rw [range_rows]
  repeat' (first | (k_unfold; (try dsimp only)) | (k_end; wrow_close) | walk1 | (dsimp only; first | walk1) | (leave1; try dsimp only) | fail "no step")
  exact hret s₆ t₆ c' (hos₆.trans hos) G₆ (by k_asm) (by have N7 : News _ _ _ ((94, tabO (#[] ++ #[rawInt 58, rawInt 32, .ref c'])) :: _) := (by k_asm); simpa [strT] using N7)
end
section
set_option maxHeartbeats 1000000 in
theorem str_okB (w : World) (mean) (mg mb) (P D : Addr) (k : Int) (n : Nat) (rows : List Row4) (c₀ : Addr) (hr : rows.length ≤ 900) (hz : ∀ r ∈ rows, r.x.length ≤ 1000 ∧ r.y.length ≤ 1000) :
    GClaimS w mean mg mb 6 99 [.ref P] [] (fun news _ => AccAt 125 P D k n rows news ∧ (94, tabO (strT c₀)) ∈ news) (fun h₀ L m news s K => ∀ s' t, s'.os = s.os → AllBare s'.gens → Fr h₀ L s'.heap m → News h₀ L s'.heap news → K (.str (strR rows) t) s') := by
  unfold GClaimS prog1
  k_fill
  intros; rename_i hpre hG hdp hun hret
  rename News _ _ _ _ => N₀
  rename Frag.In _ _ => X0
  rename Top _ _ _ _ _ _ => T0
  have hE := mg_of (n := Str.ofString "EMPTYSTRING") X0 T0.g (by k_is)
  try dsimp only at hpre
  try dsimp only at hret
  obtain ⟨hacc, htab⟩ := hpre
  have hacc' := hacc
  obtain ⟨hm1, ⟨hh, ht, hu, hm2⟩, hm3⟩ := hacc'
  have hc : CodeK (Mine.K1 w.params) 98 94 := ⟨_, _, _, _, _, _, _, _, _, by k_is, rfl, rfl, rfl, rfl, rfl, rfl, rfl, rfl⟩
  refine wpAny_call ?_
  k_dflt (first | (refine' code_def ?k1 ?k2 ?k3 ?k4 ?k5 ?kA ?kF ?kK ?k6 ?k7 ?k8 ?k9 ?kB ?_ ?c2 ?c3 ?c4 ?c5; (case kA => exact rfl); (case kF => exact rfl); (case kK => (first | with_reducible assumption | assumption)); (case k1 => k_asm); (case k2 => k_asm); (case k3 => k_asm); (case k4 => k_asm); (case k5 => k_asm); (case k6 => k_is); (case k7 => k_is); (case k8 => ktr_room); (case k9 => exact binds_K (by k_in) rfl (by k_is) rfl rfl rfl); (case c5 => decide); (case kB => exact locs rfl); (case c2 => exact rfl); (case c3 => exact rfl); (case c4 => exact rfl); k_whole; intro g' L' h' FG' F' N' B' X' T'; (try dsimp only); (try k_lift B'); (try k_fold)) | (refine' ks_code_super ?k1 ?k2 ?k3 ?k4 ?k5 ?kA ?kF ?kK ?k6 ?k7 ?k8 ?k9 ?kB ?_ ?c1 ?c2 ?c3 ?c4; (case kA => exact rfl); (case kF => exact rfl); (case kK => first | exact rfl | (first | with_reducible assumption | assumption)); (case k1 => k_asm); (case k2 => k_asm); (case k3 => k_asm); (case k4 => k_asm); (case k5 => k_asm); (case k6 => k_is); (case k7 => k_is); (case k8 => ktr_room); (case k9 => first | exact BindsTo.of_eq rfl | exact binds_K (by k_in) rfl (by k_is) rfl rfl rfl); (case kB => exact locs rfl); (case c1 => decide); (case c2 => exact rfl); (case c3 => exact rfl); (case c4 => exact rfl); intro g' L' h' FG' F' N' B' X' T' lc1; (try k_lt lc1); (try dsimp only); (try k_lift B')) | (refine' code_defC ?k1 ?k2 ?k3 ?k4 ?k5 ?kA ?kF ?kK ?k6 ?k7 ?k8 ?k9 ?kB ?kD ?_ ?c2 ?c3 ?c4; (case kA => exact rfl); (case kF => exact rfl); (case kK => first | exact rfl | (first | with_reducible assumption | assumption)); (case k1 => k_asm); (case k2 => k_asm); (case k3 => k_asm); (case k4 => k_asm); (case k5 => k_asm); (case k6 => k_is); (case k7 => k_is); (case k8 => ktr_room); (case k9 => first | exact BindsTo.of_eq rfl | exact binds_K (by k_in) rfl (by k_is) rfl rfl rfl | fail "k_enter: no rule for these arguments"); (case kB => exact rfl); (case kD => decide +kernel); (case c2 => exact rfl); (case c3 => exact rfl); (case c4 => exact rfl); k_whole; intro g' L' h' tk' cells' FG' F' N' Y' B' X' T' lc1; (try k_lt lc1); k_cells Y'; (try simp only [List.cons_append, List.nil_append] at N'); (try dsimp only); (try k_lift B'); (try k_fold)) | cell_enter)
  repeat' (first | (k_unfold; (try dsimp only)) | (k_end; wrow_close) | (with_reducible (first | (k_here; (with_reducible show wpAny _ _ (eval (Expr.GeneratorExp _ _ _ _) _) _ _ _); k_dflt (refine stopHere ?_)))) | walk1 | (dsimp only; first | (with_reducible (first | (k_here; (with_reducible show wpAny _ _ (eval (Expr.GeneratorExp _ _ _ _) _) _ _ _); k_dflt (refine stopHere ?_)))) | walk1) | (leave1; try dsimp only) | fail "no step")
  show wpAny _ _ _ _ _ _
  rename News _ _ _ _ => N₁
  rename Fr _ _ _ _ => F₁
  refine' gen_acc2 (c₀ := c₀) (rows := rows) (K := Mine.K1 w.params) (c := 98) (Pt := 94) (ps := strT c₀) (Fv := fun r y => ∃ t, y = .str (Txt.join "" [r.x, r.y]) t) ?qF ?qX ?qT ?qN hm1 hm2 hm3 htab hc ?qok ?qnf hG ?qcode ?qglob ?qs ?qi ?qh ?qco ?qcl ?qcell ?q0 ?qxa ?qxb ?qab ?qk ?qroom ?qit ?qelt ?qgo ?qsf
  case qF => k_asm
  case qX => k_asm
  case qT => k_asm
  case qN => k_asm
  case qok => trivial
  case qnf => rfl
  case qcode => rfl
  case qglob => rfl
  case qs => k_is
  case qi => k_is
  case qh => rfl
  case qco => rfl
  case qcl => rfl
  case qcell => decide
  case q0 => rfl
  case qxa => rfl
  case qxb => rfl
  case qab => decide
  case qk => rfl
  case qroom => ktr_room
  case qsf => intro _; rfl
  case qit =>
    intro Q' hq
    repeat' (first | (k_unfold; (try dsimp only)) | (k_end; wrow_close) | walk1 | (dsimp only; first | walk1) | (leave1; try dsimp only) | fail "no step")
    exact hq
  case qelt =>
    intro c' Cc A' E' r t m₂ hh hr' F₂ ma mb'
    exact elt_join F₂ (by assumption) ma mb' (by have := hz r hr'; omega) (by have := hz r hr'; omega) hE rfl rfl rfl rfl rfl (by decide) (by decide) (by decide) (by decide)
  intro ga s₅ F₅ N₅ G₅ hos hdr X₅
  repeat' (first | (k_unfold; (try dsimp only)) | (k_end; wrow_close) | walk1 | (dsimp only; first | walk1) | (leave1; try dsimp only) | fail "no step")
  refine join_gen' (n := rows.length) (tx := fun j => ((rows[j]?).map fun r => Txt.join "" [r.x, r.y]).getD "") (by k_asm) (by k_asm) (fun q hq => ?_) (Nat.le_sub_one_of_lt F₁.ns.lt) G₅ X₅ (fun j v hv => ?_) ?_ (by omega) fun s₆ t₆ F₆ N₆ G₆ hos₆ => ?_
  · refine Nat.le_sub_one_of_lt ?_
    exact Heap.lt_size (N₁ _ hq).1
  · obtain ⟨r, hr1, t, rfl⟩ := hv
    exact ⟨t, by simp [hr1]⟩
  · rw [range_rows]
    exact joinOk_rows rows hr hz
  rw [range_rows]
  repeat' (first | (k_unfold; (try dsimp only)) | (k_end; wrow_close) | walk1 | (dsimp only; first | walk1) | (leave1; try dsimp only) | fail "no step")
  exact hret s₆ t₆ (hos₆.trans hos) G₆ (by k_asm) (by k_asm)
end
end
section
open PySem PySem.W PySem.Calls PyProof.Rows PySem.Builtin PySem.Builtin.Str
noncomputable def StrTab (ps : Array Value) : Prop := ps = #[] ∨ ∃ c, ps = strT c
noncomputable def LenTab (ps : Array Value) : Prop := ps = #[] ∨ ∃ c, ps = lenT c
theorem acc_off {P D Pt : Addr} {k : Int} {n : Nat} {rows : List Row4} {ps ps' : Array Value} {news : Led} {h₀ h : Heap} {L : Addr} (N : News h₀ L h news) (H : AccAt 125 P D k n rows news) (ht : (Pt, tabO ps) ∈ news) : AccAt 125 P D k n rows ((Pt, tabO ps') :: but Pt news) := by
  obtain ⟨h1, ⟨a, b, c, h2⟩, h3⟩ := H
  exact ⟨.tail _ (mem_but.mpr ⟨h1, News.ne N h1 ht fun z => by cases congrArg Obj.cls z⟩), ⟨a, b, c, .tail _ (mem_but.mpr ⟨h2, News.ne N h2 ht fun z => by cases congrArg Obj.cls z⟩)⟩, fun r hr => .tail _ (mem_but.mpr ⟨h3 r hr, News.ne N (h3 r hr) ht fun z => by cases congrArg Obj.cls z⟩)⟩
theorem str_okU (w : World) (mean) (mg mb) (P D : Addr) (k : Int) (n : Nat) (rows : List Row4) (ps : Array Value) (hps : StrTab ps) (hr : rows.length ≤ 900) (hz : ∀ r ∈ rows, r.x.length ≤ 1000 ∧ r.y.length ≤ 1000) :
    GClaimS w mean mg mb 6 99 [.ref P] [] (fun news _ => AccAt 125 P D k n rows news ∧ (94, tabO ps) ∈ news) (fun h₀ L m news s K => ∀ s' t c' news', s'.os = s.os → AllBare s'.gens → Fr h₀ L s'.heap m → News h₀ L s'.heap news' → (94, tabO (strT c')) ∈ news' → AccAt 125 P D k n rows news' → (∀ p ∈ news, p.1 ≠ 94 → p ∈ news') → K (.str (strR rows) t) s') := by
  unfold GClaimS
  intro dp un gd cn cs a ccd cl outer A₀ base h₀ L m news s Q E hB hF hX hN hT hk hpre hG hdp hun hret
  rcases hps with rfl | ⟨c, rfl⟩
  · exact str_okA w mean mg mb P D k n rows hr hz dp un gd cn cs a ccd cl outer A₀ base h₀ L m news s Q E hB hF hX hN hT hk hpre hG hdp hun fun s' t c' h1 h2 F N => hret s' t c' _ h1 h2 F N (.head _) (acc_off hN hpre.1 hpre.2) fun p hp hne => .tail _ (mem_but.mpr ⟨hp, hne⟩)
  · exact str_okB w mean mg mb P D k n rows c hr hz dp un gd cn cs a ccd cl outer A₀ base h₀ L m news s Q E hB hF hX hN hT hk hpre hG hdp hun fun s' t h1 h2 F N => hret s' t c _ h1 h2 F N hpre.2 hpre.1 fun p hp _ => hp
theorem len_okU (w : World) (mean) (mg mb) (P D : Addr) (k : Int) (n : Nat) (rows : List Row4) (ps : Array Value) (hps : LenTab ps) (hr : rows.length ≤ 900) (hz : ∀ r ∈ rows, r.x.length ≤ 1000 ∧ r.y.length ≤ 1000) :
    GClaimS w mean mg mb 6 92 [.ref P] [] (fun news _ => AccAt 125 P D k n rows news ∧ (87, tabO ps) ∈ news) (fun h₀ L m news s K => ∀ s' t c' news', s'.os = s.os → AllBare s'.gens → Fr h₀ L s'.heap m → News h₀ L s'.heap news' → (87, tabO (lenT c')) ∈ news' → AccAt 125 P D k n rows news' → (∀ p ∈ news, p.1 ≠ 87 → p ∈ news') → K (.int (k + lenR rows) t) s') := by
  unfold GClaimS
  intro dp un gd cn cs a ccd cl outer A₀ base h₀ L m news s Q E hB hF hX hN hT hk hpre hG hdp hun hret
  rcases hps with rfl | ⟨c, rfl⟩
  · exact len_okA w mean mg mb P D k n rows hr hz dp un gd cn cs a ccd cl outer A₀ base h₀ L m news s Q E hB hF hX hN hT hk hpre hG hdp hun fun s' t c' h1 h2 F N => hret s' t c' _ h1 h2 F N (.head _) (acc_off hN hpre.1 hpre.2) fun p hp hne => .tail _ (mem_but.mpr ⟨hp, hne⟩)
  · exact len_okB w mean mg mb P D k n rows c hr hz dp un gd cn cs a ccd cl outer A₀ base h₀ L m news s Q E hB hF hX hN hT hk hpre hG hdp hun fun s' t h1 h2 F N => hret s' t c _ h1 h2 F N hpre.2 hpre.1 fun p hp _ => hp
end
section
open PySem PySem.W PySem.Calls PyProof.Rows PySem.Builtin PySem.Builtin.Str
/-- how far a stretch goes on ahead -/
noncomputable def firstS (ws : List Nat) (sz : Nat) : Nat → Nat
  | 0 => 0
  | f + 1 => if ws.getD f 0 = ws.getD (f + sz) 0 then firstS ws sz f else f + 1
/-- and behind -/
noncomputable def lastS (ws : List Nat) (sz : Nat) : Nat → Nat → Nat
  | 0, l => l
  | d + 1, l => if ws.getD l 0 = ws.getD (l - sz) 0 then lastS ws sz d (l + 1) else l
theorem item_mk {ws : List Nat} (hws : ws.length = 8) {j : Nat} {v : Int} (hv : v = (j : Int)) (hj : j < 8) : Txt.item ⟨ws.toArray⟩ v = mkS [ws.getD j 0] := by
  rw [hv, W.item_meets (by constructor; omega; show (j : Int) < (ws.toArray.size : Nat); simp [hws]; omega)]
  simp [mkS]
theorem mk1_inj {a b : Nat} : mkS [a] = mkS [b] ↔ a = b := by
  constructor
  · intro h
    have h2 := congrArg (fun s : Str => s.cps.toList) h
    simpa [mkS] using h2
  · rintro rfl; rfl
section
set_option maxHeartbeats 2000000 in
theorem stretch_ok (w : World) (mean) (mg mb) (ws : List Nat) (hws : ws.length = 8) (t tp ts : Tok) (p sz : Nat) (hp : p < 8) (hs1 : 1 ≤ sz) (hs2 : p + sz ≤ 8) :
    GClaim1 w mean mg mb 6 301 [.str ⟨ws.toArray⟩ t, .int (p : Int) tp, .int (sz : Int) ts] [] (fun _ _ => True) (fun h₀ L m news K => ∀ q ta tb h' tk', Fr h₀ L h' m → News h₀ L h' ((q, tupO [.int (firstS ws sz p : Int) ta, .int (lastS ws sz (8 - (p + sz)) (p + sz) : Int) tb]) :: news) → (∀ x ∈ news, x.1 < q) → K (.ref q) h' tk') := by
  unfold GClaim1 prog1
  k_fill
  intro dp un gd cn cs a ccd cl outer A₀ base h₀ L m news s Q E hB hF hX hN hT hk hpre hdp hun hret
  try dsimp only at hpre
  try dsimp only at hret
  have hss := sizeLine_eq
  refine wpAny_call ?_
  k_dflt (first | (refine' code_def ?k1 ?k2 ?k3 ?k4 ?k5 ?kA ?kF ?kK ?k6 ?k7 ?k8 ?k9 ?kB ?_ ?c2 ?c3 ?c4 ?c5; (case kA => exact rfl); (case kF => exact rfl); (case kK => (first | with_reducible assumption | assumption)); (case k1 => k_asm); (case k2 => k_asm); (case k3 => k_asm); (case k4 => k_asm); (case k5 => k_asm); (case k6 => k_is); (case k7 => k_is); (case k8 => ktr_room); (case k9 => exact binds_K (by k_in) rfl (by k_is) rfl rfl rfl); (case c5 => decide); (case kB => exact locs rfl); (case c2 => exact rfl); (case c3 => exact rfl); (case c4 => exact rfl); k_whole; intro g' L' h' FG' F' N' B' X' T'; (try dsimp only); (try k_lift B'); (try k_fold)) | (refine' ks_code_super ?k1 ?k2 ?k3 ?k4 ?k5 ?kA ?kF ?kK ?k6 ?k7 ?k8 ?k9 ?kB ?_ ?c1 ?c2 ?c3 ?c4; (case kA => exact rfl); (case kF => exact rfl); (case kK => first | exact rfl | (first | with_reducible assumption | assumption)); (case k1 => k_asm); (case k2 => k_asm); (case k3 => k_asm); (case k4 => k_asm); (case k5 => k_asm); (case k6 => k_is); (case k7 => k_is); (case k8 => ktr_room); (case k9 => first | exact BindsTo.of_eq rfl | exact binds_K (by k_in) rfl (by k_is) rfl rfl rfl); (case kB => exact locs rfl); (case c1 => decide); (case c2 => exact rfl); (case c3 => exact rfl); (case c4 => exact rfl); intro g' L' h' FG' F' N' B' X' T' lc1; (try k_lt lc1); (try dsimp only); (try k_lift B')) | (refine' code_defC ?k1 ?k2 ?k3 ?k4 ?k5 ?kA ?kF ?kK ?k6 ?k7 ?k8 ?k9 ?kB ?kD ?_ ?c2 ?c3 ?c4; (case kA => exact rfl); (case kF => exact rfl); (case kK => first | exact rfl | (first | with_reducible assumption | assumption)); (case k1 => k_asm); (case k2 => k_asm); (case k3 => k_asm); (case k4 => k_asm); (case k5 => k_asm); (case k6 => k_is); (case k7 => k_is); (case k8 => ktr_room); (case k9 => first | exact BindsTo.of_eq rfl | exact binds_K (by k_in) rfl (by k_is) rfl rfl rfl | fail "k_enter: no rule for these arguments"); (case kB => exact rfl); (case kD => decide +kernel); (case c2 => exact rfl); (case c3 => exact rfl); (case c4 => exact rfl); k_whole; intro g' L' h' tk' cells' FG' F' N' Y' B' X' T' lc1; (try k_lt lc1); k_cells Y'; (try simp only [List.cons_append, List.nil_append] at N'); (try dsimp only); (try k_lift B'); (try k_fold)) | cell_enter)
  refine gen_fn fun RF hRF => ?_
  repeat' (first | (k_unfold; (try dsimp only)) | (k_end; wrow_close) | (with_reducible (first | (k_here; (with_reducible show wpAny _ _ (exec (Stmt.While _ _ [] _) _) _ _ _); k_dflt (refine stopHere ?_)))) | walk1 | (dsimp only; first | (with_reducible (first | (k_here; (with_reducible show wpAny _ _ (exec (Stmt.While _ _ [] _) _) _ _ _); k_dflt (refine stopHere ?_)))) | walk1) | (leave1; try dsimp only) | fail "no step")
  show wpAny _ _ _ _ _ _
  have hwl : ((⟨ws.toArray⟩ : Str).length : Int) = 8 := by show ((ws.toArray.size : Nat) : Int) = 8; simp [hws]
  rename News _ _ _ _ => N5
  rename Fr _ _ _ _ => F5
  refine Fr.foldc F5 ?_
  clear F5
  intro mB F5
  refine While_two (fun nn m l => (∀ z, z ∉ [Str.ofString "first"] → m z = mB z) ∧ ∃ (f : Nat) (tf : Tok), m (Str.ofString "first") = some (.int (f : Int) tf) ∧ f ≤ p ∧ firstS ws sz f = firstS ws sz p ∧ nn = f ∧ l = news) (fun m l => (∀ z, z ∉ [Str.ofString "first"] → m z = mB z) ∧ ∃ (tf : Tok), m (Str.ofString "first") = some (.int (firstS ws sz p : Int) tf) ∧ l = news) F5 N5 ⟨fun _ _ => rfl, p, _, rfl, Nat.le_refl _, rfl, rfl, rfl⟩ ?wturn ?wdone
  case wturn =>
    rintro nn m₂ news₂ h₂ tk₂ F2 N2 ⟨hz2, f, tf, hmf, hfp, hff, hnn, rfl⟩ RW RD hRW hRD
    rw [eq_at hmf (eq_over hz2)] at F2
    try dsimp only [over, List.foldr] at F2
    have i0 : 1 ≤ f → (0 : Int) ≤ (f : Int) - 1 := by omega
    have i1 : (f : Int) - 1 < ((⟨ws.toArray⟩ : Str).length : Int) := by omega
    have i2 : (0 : Int) ≤ (f : Int) - 1 + (sz : Int) := by omega
    have i3 : (f : Int) - 1 + (sz : Int) < ((⟨ws.toArray⟩ : Str).length : Int) := by omega
    repeat' (first | (k_unfold; (try dsimp only)) | (k_end; wrow_close) | walk1 | (dsimp only; first | walk1) | (leave1; try dsimp only) | fail "no step")
    · rename ((_ == _) = true) => he
      obtain ⟨f', rfl⟩ : ∃ f', f = f' + 1 := ⟨f - 1, by omega⟩
      rw [item_mk hws (j := f') (by omega) (by omega), item_mk hws (j := f' + sz) (by omega) (by omega)] at he
      have he2 : ws.getD f' 0 = ws.getD (f' + sz) 0 := mk1_inj.mp (by simpa using he)
      have e1 : (((f' + 1 : Nat)) : Int) - 1 = ((f' : Nat) : Int) := by omega
      rename Fr _ _ _ _ => F9
      rw [e1] at F9
      refine hRW _ _ (WhileStep.intro (n' := f') (by k_asm) (by k_asm) (by omega) ⟨?_, f', _, rfl, by omega, ?_, rfl, rfl⟩)
      · intro z h1; simp at h1; simp [over, h1]
      · rw [← hff, firstS, if_pos he2]
    all_goals
      have hF : firstS ws sz p = f := by
        first
        | (rename ((_ == _) = false) => he
           obtain ⟨f', rfl⟩ : ∃ f', f = f' + 1 := ⟨f - 1, by omega⟩
           rw [item_mk hws (j := f') (by omega) (by omega), item_mk hws (j := f' + sz) (by omega) (by omega)] at he
           rw [← hff, firstS, if_neg (fun e => by rw [e] at he; simp at he)])
        | (obtain rfl : f = 0 := by omega
           exact hff.symm)
      refine hRD _ _ _ _ (by k_asm) (by k_asm) ⟨?_, _, by rw [hF]; rfl, rfl⟩
      intro z h1; simp at h1; simp [over, h1]
  rintro m₂ news₂ h₂ tk₂ ⟨hz2, tf, hmf, rfl⟩ F2 N2
  rw [eq_at hmf (eq_over hz2)] at F2
  try dsimp only [over, List.foldr] at F2
  repeat' (first | (k_unfold; (try dsimp only)) | (k_end; wrow_close) | (with_reducible (first | (k_here; (with_reducible show wpAny _ _ (exec (Stmt.While _ _ [] _) _) _ _ _); k_dflt (refine stopHere ?_)))) | walk1 | (dsimp only; first | (with_reducible (first | (k_here; (with_reducible show wpAny _ _ (exec (Stmt.While _ _ [] _) _) _ _ _); k_dflt (refine stopHere ?_)))) | walk1) | (leave1; try dsimp only) | fail "no step")
  show wpAny _ _ _ _ _ _
  rename News _ _ _ _ => N6
  rename Fr _ _ _ _ => F6
  have e2 : (p : Int) + (sz : Int) = ((p + sz : Nat) : Int) := by omega
  rw [e2] at F6
  refine Fr.foldc F6 ?_
  clear F6
  intro mC F6
  refine While_two (fun nn m l => (∀ z, z ∉ [Str.ofString "last"] → m z = mC z) ∧ ∃ (d q : Nat) (tf : Tok), m (Str.ofString "last") = some (.int (q : Int) tf) ∧ p + sz ≤ q ∧ d + q = 8 ∧ lastS ws sz d q = lastS ws sz (8 - (p + sz)) (p + sz) ∧ nn = d ∧ l = news₂) (fun m l => (∀ z, z ∉ [Str.ofString "last"] → m z = mC z) ∧ ∃ (tf : Tok), m (Str.ofString "last") = some (.int (lastS ws sz (8 - (p + sz)) (p + sz) : Int) tf) ∧ l = news₂) F6 N6 ⟨fun _ _ => rfl, 8 - (p + sz), p + sz, _, rfl, Nat.le_refl _, by omega, rfl, rfl, rfl⟩ ?wturn2 ?wdone2
  case wturn2 =>
    rintro nn' m₃ news₃ h₃ tk₃ F3 N3 ⟨hz3, d, q, tl, hml, hq1, hq2, hll, hnn', rfl⟩ RW RD hRW hRD
    rw [eq_at hml (eq_over hz3)] at F3
    try dsimp only [over, List.foldr] at F3
    have j0 : (0 : Int) ≤ (q : Int) := by omega
    have j1 : 1 ≤ d → (q : Int) < ((⟨ws.toArray⟩ : Str).length : Int) := by omega
    have j2 : (0 : Int) ≤ (q : Int) - (sz : Int) := by omega
    have j3 : (q : Int) - (sz : Int) < ((⟨ws.toArray⟩ : Str).length : Int) := by omega
    repeat' (first | (k_unfold; (try dsimp only)) | (k_end; wrow_close) | walk1 | (dsimp only; first | walk1) | (leave1; try dsimp only) | fail "no step")
    · rename ((_ == _) = true) => he
      obtain ⟨d', rfl⟩ : ∃ d', d = d' + 1 := ⟨d - 1, by omega⟩
      rw [item_mk hws (j := q) rfl (by omega), item_mk hws (j := q - sz) (by omega) (by omega)] at he
      have he2 : ws.getD q 0 = ws.getD (q - sz) 0 := mk1_inj.mp (by simpa using he)
      have e1 : (q : Int) + 1 = ((q + 1 : Nat) : Int) := by omega
      rename Fr _ _ _ _ => F9
      rw [e1] at F9
      refine hRW _ _ (WhileStep.intro (n' := d') (by k_asm) (by k_asm) (by omega) ⟨?_, d', q + 1, _, rfl, by omega, by omega, ?_, rfl, rfl⟩)
      · intro z h1; simp at h1; simp [over, h1]
      · rw [← hll, lastS, if_pos he2]
    · rename ((_ == _) = false) => he
      obtain ⟨d', rfl⟩ : ∃ d', d = d' + 1 := ⟨d - 1, by omega⟩
      rw [item_mk hws (j := q) rfl (by omega), item_mk hws (j := q - sz) (by omega) (by omega)] at he
      have hL : lastS ws sz (8 - (p + sz)) (p + sz) = q := by
        rw [← hll, lastS, if_neg (fun e => by rw [e] at he; simp at he)]
      refine hRD _ _ _ _ (by k_asm) (by k_asm) ⟨?_, _, by rw [hL]; rfl, rfl⟩
      intro z h1; simp at h1; simp [over, h1]
    · obtain rfl : d = 0 := by omega
      have hL : lastS ws sz (8 - (p + sz)) (p + sz) = q := hll.symm
      refine hRD _ _ _ _ (by k_asm) (by k_asm) ⟨?_, _, by rw [hL]; rfl, rfl⟩
      intro z h1; simp at h1; simp [over, h1]
  rintro m₃ news₃ h₃ tk₃ ⟨hz3, tl, hml, rfl⟩ F3 N3
  rw [eq_at hml (eq_over hz3)] at F3
  try dsimp only [over, List.foldr] at F3
  repeat' (first | (k_unfold; (try dsimp only)) | (k_end; wrow_close) | walk1 | (dsimp only; first | walk1) | (leave1; try dsimp only) | fail "no step")
  refine hRF _ _ ?_
  repeat' (first | (k_unfold; (try dsimp only)) | (k_end; wrow_close) | walk1 | (dsimp only; first | walk1) | (leave1; try dsimp only) | fail "no step")
  exact hret _ _ _ _ _ (by k_asm) (by k_asm) (by assumption)
end
end
section
open PySem PySem.W PySem.Calls PyProof.Rows PySem.Builtin PySem.Builtin.Str
theorem len_app (x y : Str) : (x ++ y).length = x.length + y.length := by
  show (x.cps ++ y.cps).size = _
  rw [Array.size_append]; rfl
theorem beq_t_f {b : Bool} (h : (b == true) = false) : b = false := by cases b <;> simp_all
theorem em_call (w : World) (mean) (mg mb) (want got : Str) (t1 t2 : Tok) (h1 : want.length ≤ 1000) (h2 : got.length ≤ 1000) :
    GClaim1 w mean mg mb 1 45 [.str want t1, .str got t2] [] (fun _ _ => True) (fun h₀ L m news K => ∀ h' tk', Fr h₀ L h' m → News h₀ L h' news → K (.bool (em want got)) h' tk') := by
  unfold GClaim1
  intro dp un gd cn cs a ccd cl outer A₀ base h₀ L m news s Q E hB hF hX hN hT hk hpre hdp hun hret
  have H := em_ok w mean mg mb news want got t1 t2 dp un gd cn cs a ccd cl outer A₀ base h₀ L m s Q E hB hF hX hN hT hk
  dsimp only [CbLists] at H
  exact H ⟨h1, h2⟩ hdp hun fun t h' tk' F N => hret h' tk' F N
theorem slice_from (l : List Nat) (i : Nat) (h : i ≤ l.length) : Txt.slice ⟨l.toArray⟩ (some (i : Int)) none = ⟨(l.drop i).toArray⟩ := by
  rw [slice_from_eq (b := (l.length : Int)) (by omega) (by show (i : Int) ≤ (l.toArray.size : Nat); simp; omega) (by show _ = ((l.toArray.size : Nat) : Int); simp)]
  congr 2
  simp only [Int.toNat_natCast]
  rw [List.take_of_length_le]
  simp
theorem slice_mid (l : List Nat) (i j : Nat) (h : i ≤ j) (h2 : j ≤ l.length) : Txt.slice ⟨l.toArray⟩ (some (i : Int)) (some (j : Int)) = ⟨((l.drop i).take (j - i)).toArray⟩ := by
  have := eq_of_beq (slice_closes (x := ⟨l.toArray⟩) (i := (i : Int)) (j := (j : Int)) ⟨by omega, by omega, by simp; omega⟩)
  rw [this]
  congr 2
  simp only [Int.toNat_natCast]
  first | done | (congr 1; omega) | omega
theorem len_slice_le (x : Str) (a b : Option Int) : (Txt.slice x a b).length ≤ x.length := Txt.slice_le x a b
theorem slice_to_neg (l : List Nat) (k : Nat) (h1 : 1 ≤ k) (h2 : k ≤ l.length) : Txt.slice ⟨l.toArray⟩ none (some (-(k : Int))) = mkS (l.take (l.length - k)) := by
  have := eq_of_beq (slice_closes_to_neg (x := ⟨l.toArray⟩) (j := -(k : Int)) (k := (l.length : Int) - k) (by omega) (by show -((l.toArray.size : Nat) : Int) ≤ _; simp; omega) (by show _ = _ + ((l.toArray.size : Nat) : Int); simp; omega))
  rw [this]
  show (⟨((l.toArray.toList.drop 0).take ((l.length : Int) - k - 0).toNat).toArray⟩ : Str) = ⟨(l.take (l.length - k)).toArray⟩
  have e : ((l.length : Int) - k - 0).toNat = l.length - k := by omega
  rw [e]; simp
noncomputable def wantS (b : Bool) (tx : List Nat) (sz : Nat) : Str := if b then Str.ofString "..." ++ mkS (tx.take (tx.length - sz)) else mkS (tx.drop sz) ++ Str.ofString "..."
/-- the first size that the text takes as its period -/
noncomputable def perS (b : Bool) (tx : List Nat) : Nat → Nat → Nat
  | 0, s => s
  | d + 1, s => if em (wantS b tx s) (mkS tx) = true then s else perS b tx d (s + 1)
section
set_option maxHeartbeats 2000000 in
theorem period_ok (w : World) (mean) (mg mb) (tx : List Nat) (h1 : 1 ≤ tx.length) (h8 : tx.length ≤ 8) (b : Bool) (t tt : Tok) :
    GClaim1 w mean mg mb 8 308 [.str ⟨tx.toArray⟩ t, .int (if b then 1 else 0) tt] [] (fun _ _ => True) (fun h₀ L m news K => ∀ tk h' tk', Fr h₀ L h' m → News h₀ L h' news → K (.int (perS b tx (tx.length - 1) 1 : Int) tk) h' tk') := by
  unfold GClaim1 prog1
  k_fill
  intro dp un gd cn cs a ccd cl outer A₀ base h₀ L m news s Q E hB hF hX hN hT hk hpre hdp hun hret
  try dsimp only at hpre
  try dsimp only at hret
  have hss := sizeLine_eq
  have hwl : (⟨tx.toArray⟩ : Str).length = tx.length := by show tx.toArray.size = _; simp
  refine wpAny_call ?_
  k_dflt (first | (refine' code_def ?k1 ?k2 ?k3 ?k4 ?k5 ?kA ?kF ?kK ?k6 ?k7 ?k8 ?k9 ?kB ?_ ?c2 ?c3 ?c4 ?c5; (case kA => exact rfl); (case kF => exact rfl); (case kK => (first | with_reducible assumption | assumption)); (case k1 => k_asm); (case k2 => k_asm); (case k3 => k_asm); (case k4 => k_asm); (case k5 => k_asm); (case k6 => k_is); (case k7 => k_is); (case k8 => ktr_room); (case k9 => exact binds_K (by k_in) rfl (by k_is) rfl rfl rfl); (case c5 => decide); (case kB => exact locs rfl); (case c2 => exact rfl); (case c3 => exact rfl); (case c4 => exact rfl); k_whole; intro g' L' h' FG' F' N' B' X' T'; (try dsimp only); (try k_lift B'); (try k_fold)) | (refine' ks_code_super ?k1 ?k2 ?k3 ?k4 ?k5 ?kA ?kF ?kK ?k6 ?k7 ?k8 ?k9 ?kB ?_ ?c1 ?c2 ?c3 ?c4; (case kA => exact rfl); (case kF => exact rfl); (case kK => first | exact rfl | (first | with_reducible assumption | assumption)); (case k1 => k_asm); (case k2 => k_asm); (case k3 => k_asm); (case k4 => k_asm); (case k5 => k_asm); (case k6 => k_is); (case k7 => k_is); (case k8 => ktr_room); (case k9 => first | exact BindsTo.of_eq rfl | exact binds_K (by k_in) rfl (by k_is) rfl rfl rfl); (case kB => exact locs rfl); (case c1 => decide); (case c2 => exact rfl); (case c3 => exact rfl); (case c4 => exact rfl); intro g' L' h' FG' F' N' B' X' T' lc1; (try k_lt lc1); (try dsimp only); (try k_lift B')) | (refine' code_defC ?k1 ?k2 ?k3 ?k4 ?k5 ?kA ?kF ?kK ?k6 ?k7 ?k8 ?k9 ?kB ?kD ?_ ?c2 ?c3 ?c4; (case kA => exact rfl); (case kF => exact rfl); (case kK => first | exact rfl | (first | with_reducible assumption | assumption)); (case k1 => k_asm); (case k2 => k_asm); (case k3 => k_asm); (case k4 => k_asm); (case k5 => k_asm); (case k6 => k_is); (case k7 => k_is); (case k8 => ktr_room); (case k9 => first | exact BindsTo.of_eq rfl | exact binds_K (by k_in) rfl (by k_is) rfl rfl rfl | fail "k_enter: no rule for these arguments"); (case kB => exact rfl); (case kD => decide +kernel); (case c2 => exact rfl); (case c3 => exact rfl); (case c4 => exact rfl); k_whole; intro g' L' h' tk' cells' FG' F' N' Y' B' X' T' lc1; (try k_lt lc1); k_cells Y'; (try simp only [List.cons_append, List.nil_append] at N'); (try dsimp only); (try k_lift B'); (try k_fold)) | cell_enter)
  repeat' (first | (k_unfold; (try dsimp only)) | (k_end; wrow_close) | (with_reducible (first | (k_here; (with_reducible show wpAny _ _ (pyIter (Value.ref _)) (fun it s₂ => TurnsAt _ _ _ _ _ _ _ _ _ it s₂) _ _); k_dflt (refine stopHere ?_)) | (k_here; (with_reducible show wpAny _ _ (exec (Stmt.For (Expr.Name _ _) (Expr.Call _ _ _ _) _ _ _) _) _ _ _); (rename Fr _ _ _ _ => lF'); k_dflt (with_unfolding_all refine' For_turns lF' ?_; k_whole)))) | walk1 | (dsimp only; first | (with_reducible (first | (k_here; (with_reducible show wpAny _ _ (pyIter (Value.ref _)) (fun it s₂ => TurnsAt _ _ _ _ _ _ _ _ _ it s₂) _ _); k_dflt (refine stopHere ?_)) | (k_here; (with_reducible show wpAny _ _ (exec (Stmt.For (Expr.Name _ _) (Expr.Call _ _ _ _) _ _ _) _) _ _ _); (rename Fr _ _ _ _ => lF'); k_dflt (with_unfolding_all refine' For_turns lF' ?_; k_whole)))) | walk1) | (leave1; try dsimp only) | fail "no step")
  show wpAny _ _ _ _ _ _
  rename Fr _ _ _ _ => FA
  refine Fr.foldc FA ?_
  clear FA
  intro mA FA
  refine' turns_range (fun m₀ l₀ i m l => (∀ z, z ∉ [Str.ofString "size", Str.ofString "want"] → m z = m₀ z) ∧ l = l₀ ∧ perS b tx (tx.length - 1 - i) (1 + i) = perS b tx (tx.length - 1) 1) ?hh ?hr ?h1 ?h2 ?h3 ?hF ?hN ?hj ?turn ?done
  case hh => rfl
  case hr => assumption
  case h1 => omega
  case h2 => omega
  case h3 => omega
  case hF => k_asm
  case hN => k_asm
  case hj => exact ⟨fun _ _ => rfl, rfl, rfl⟩
  case turn =>
    rintro I i v m₁ news₁ h tk oI hcI hi hv ⟨hz, rfl, hper⟩ hoff F N u
    rw [eq_over hz] at F
    try dsimp only [over, List.foldr] at F
    obtain rfl : v = ((1 + i : Nat) : Int) := by omega
    have hi8 : 1 + i < tx.length := by omega
    have h3d : (Str.ofString "...").length = 3 := by rfl
    have hg : (⟨tx.toArray⟩ : Str).length ≤ 1000 := by omega
    have hgl : (Txt.slice ⟨tx.toArray⟩ (some ((1 + i : Nat) : Int)) none ++ Str.ofString "...").length ≤ 1000 := by have := len_slice_le ⟨tx.toArray⟩ (some ((1 + i : Nat) : Int)) none; rw [len_app]; omega
    have hgr : (Str.ofString "..." ++ Txt.slice ⟨tx.toArray⟩ none (some (-((1 + i : Nat) : Int)))).length ≤ 1000 := by have := len_slice_le ⟨tx.toArray⟩ none (some (-((1 + i : Nat) : Int))); rw [len_app]; omega
    have e1 : wantS false tx (1 + i) = Txt.slice ⟨tx.toArray⟩ (some ((1 + i : Nat) : Int)) none ++ Str.ofString "..." := by rw [slice_from tx (1 + i) (by omega)]; rfl
    have e2 : wantS true tx (1 + i) = Str.ofString "..." ++ Txt.slice ⟨tx.toArray⟩ none (some (-((1 + i : Nat) : Int))) := by rw [slice_to_neg tx (1 + i) (by omega) (by omega)]; rfl
    obtain ⟨d, hd⟩ : ∃ d, tx.length - 1 - i = d + 1 := ⟨tx.length - 1 - i - 1, by omega⟩
    rw [hd, perS] at hper
    change (if em _ ⟨tx.toArray⟩ = true then _ else _) = _ at hper
    cases b
    · rw [e1] at hper
      repeat' (first | (k_unfold; (try dsimp only)) | (k_end; wrow_close) | (with_reducible (first | (k_here; (with_reducible show wpAny _ _ (call (Value.ref 45) _ _) _ _ _); k_dflt (refine' (em_call _ _ _ _ _ _ _ _ ?gh1_9 ?gh2_9) _ _ _ _ _ _ _ _ _ _ _ _ _ _ _ _ _ _ ?gB ?gF ?gX ?gN ?gT ?gk ?gp_9 ?gd ?gu ?_; walk_at "gclaim"; (case gp_9 => trivial); (case gh1_9 => with_reducible assumption); (case gh2_9 => with_reducible assumption); intro h' tk' F' N'; (try dsimp only); (try k_fold))) | (k_here; (with_reducible show TPost _ _ _ _ _ _ _ _ _ _); dsimp only [TPost]))) | walk1 | (dsimp only; first | (with_reducible (first | (k_here; (with_reducible show wpAny _ _ (call (Value.ref 45) _ _) _ _ _); k_dflt (refine' (em_call _ _ _ _ _ _ _ _ ?gh1_9 ?gh2_9) _ _ _ _ _ _ _ _ _ _ _ _ _ _ _ _ _ _ ?gB ?gF ?gX ?gN ?gT ?gk ?gp_9 ?gd ?gu ?_; walk_at "gclaim"; (case gp_9 => trivial); (case gh1_9 => with_reducible assumption); (case gh2_9 => with_reducible assumption); intro h' tk' F' N'; (try dsimp only); (try k_fold))) | (k_here; (with_reducible show TPost _ _ _ _ _ _ _ _ _ _); dsimp only [TPost]))) | walk1) | (leave1; try dsimp only) | fail "no step")
      · rename ((em _ _ == true) = true) => he
        have he2 := eq_of_beq he
        rw [if_pos he2] at hper
        rw [← hper] at hret
        exact hret _ _ _ (by k_asm) (cb_drop (by k_asm) (fun p hp => .tail _ hp))
      · rename ((em _ _ == true) = false) => he
        have he2 := beq_t_f he
        rw [if_neg (by rw [he2]; decide)] at hper
        refine ⟨_, _, _, _, rfl, by k_asm, by k_asm, hoff, fun p hp => (nomatch hp), ?_, rfl, ?_⟩
        · intro z h1; simp at h1; simp [over, h1]
        · rw [show tx.length - 1 - (i + 1) = d by omega, show 1 + (i + 1) = 1 + i + 1 by omega]; exact hper
    · rw [e2] at hper
      repeat' (first | (k_unfold; (try dsimp only)) | (k_end; wrow_close) | (with_reducible (first | (k_here; (with_reducible show wpAny _ _ (call (Value.ref 45) _ _) _ _ _); k_dflt (refine' (em_call _ _ _ _ _ _ _ _ ?gh1_9 ?gh2_9) _ _ _ _ _ _ _ _ _ _ _ _ _ _ _ _ _ _ ?gB ?gF ?gX ?gN ?gT ?gk ?gp_9 ?gd ?gu ?_; walk_at "gclaim"; (case gp_9 => trivial); (case gh1_9 => with_reducible assumption); (case gh2_9 => with_reducible assumption); intro h' tk' F' N'; (try dsimp only); (try k_fold))) | (k_here; (with_reducible show TPost _ _ _ _ _ _ _ _ _ _); dsimp only [TPost]))) | walk1 | (dsimp only; first | (with_reducible (first | (k_here; (with_reducible show wpAny _ _ (call (Value.ref 45) _ _) _ _ _); k_dflt (refine' (em_call _ _ _ _ _ _ _ _ ?gh1_9 ?gh2_9) _ _ _ _ _ _ _ _ _ _ _ _ _ _ _ _ _ _ ?gB ?gF ?gX ?gN ?gT ?gk ?gp_9 ?gd ?gu ?_; walk_at "gclaim"; (case gp_9 => trivial); (case gh1_9 => with_reducible assumption); (case gh2_9 => with_reducible assumption); intro h' tk' F' N'; (try dsimp only); (try k_fold))) | (k_here; (with_reducible show TPost _ _ _ _ _ _ _ _ _ _); dsimp only [TPost]))) | walk1) | (leave1; try dsimp only) | fail "no step")
      · rename ((em _ _ == true) = true) => he
        have he2 := eq_of_beq he
        rw [if_pos he2] at hper
        rw [← hper] at hret
        exact hret _ _ _ (by k_asm) (cb_drop (by k_asm) (fun p hp => .tail _ hp))
      · rename ((em _ _ == true) = false) => he
        have he2 := beq_t_f he
        rw [if_neg (by rw [he2]; decide)] at hper
        refine ⟨_, _, _, _, rfl, by k_asm, by k_asm, hoff, fun p hp => (nomatch hp), ?_, rfl, ?_⟩
        · intro z h1; simp at h1; simp [over, h1]
        · rw [show tx.length - 1 - (i + 1) = d by omega, show 1 + (i + 1) = 1 + i + 1 by omega]; exact hper
  case done =>
    rintro m₁ news₁ h tk ⟨hz, rfl, hper⟩ F N
    rw [eq_over hz] at F
    try dsimp only [over, List.foldr] at F
    have e9 : (((⟨tx.toArray⟩ : Str).length : Int) - 1).toNat = tx.length - 1 := by omega
    rw [e9, Nat.sub_self, perS] at hper
    rw [← hper] at hret
    have e3 : (((⟨tx.toArray⟩ : Str).length : Nat) : Int) = ((1 + (tx.length - 1) : Nat) : Int) := by omega
    repeat' (first | (k_unfold; (try dsimp only)) | (k_end; wrow_close) | walk1 | (dsimp only; first | walk1) | (leave1; try dsimp only) | fail "no step")
    rw [e3]
    exact hret _ _ _ (by k_asm) (by k_asm)
end
end
section
open PySem PySem.W PySem.Calls PyProof.Rows PySem.Builtin PySem.Builtin.Str
theorem strR_cat (rs : List Row4) : strR rs = ⟨(rs.flatMap fun r => r.x.cps.toList ++ r.y.cps.toList).toArray⟩ := by
  unfold strR
  refine (join_flat _).trans ?_
  congr 2
  rw [List.flatMap_map]
  congr 1
  funext r
  rw [join2, cps_append]
theorem strR_len (rs : List Row4) : (strR rs).length = lenR rs := by
  rw [strR_cat]
  show (List.toArray _).size = _
  rw [List.size_toArray]
  unfold lenR
  induction rs with
  | nil => rfl
  | cons r rs ih =>
    rw [List.flatMap_cons, List.length_append, ih, List.map_cons, List.sum_cons, List.length_append]
    rfl
theorem lenR_le (rs : List Row4) (h : ∀ r ∈ rs, r.x.length ≤ 1000 ∧ r.y.length ≤ 1000) : lenR rs ≤ 2000 * rs.length := by
  unfold lenR
  induction rs with
  | nil => simp
  | cons r rs ih =>
    have := ih fun q hq => h q (.tail _ hq)
    have h1 := h r (.head _)
    simp only [List.map_cons, List.sum_cons, List.length_cons]
    omega
theorem fmod3 (k : Int) : 0 ≤ k.fmod 3 ∧ k.fmod 3 ≤ 2 := by
  rw [Int.fmod_eq_emod_of_nonneg _ (by decide)]; omega
/-- what comes off the pile are the word's parts in order -/
noncomputable def offS (ws : List Nat) : List (Nat × List Nat) → Nat → List Nat → Bool
  | [], p, _ => p == 8
  | (g, t) :: r, p, bf => decide (p < 8) && !t.isEmpty && g == p && (ws.drop p).take t.length == t && !decide (bf < t) && ((List.range (t.length - 1)).all fun k => decide (t < t.drop (k + 1))) && offS ws r (p + t.length) t
theorem AccAt.move {C P D : Addr} {k : Int} {n : Nat} {rows : List Row4} {X X' : Led} (S : ∀ p ∈ X, p.2.cls ≠ .none → (∀ v, p.2.data ≠ .cell v) → p ∈ X') (H : AccAt C P D k n rows X) : AccAt C P D k n rows X' := by
  obtain ⟨a, ⟨x, y, z, b⟩, d⟩ := H
  exact ⟨S _ a (fun e => by cases e) (fun v e => by cases e), ⟨x, y, z, S _ b (fun e => by cases e) (fun v e => by cases e)⟩, fun r hr => S _ (d r hr) (fun e => by cases e) (fun v e => by cases e)⟩
theorem recell1 {h₀ h : Heap} {L c : Addr} {o : Obj} {v : Option Value} {news' : Led} (N : News h₀ L h news') (hc : (c, o) ∈ news') (e : o.data = .cell v) :
    ∃ X, News h₀ L h ((c, o) :: X) ∧ (∀ p ∈ X, p.1 ≠ c) ∧ (∀ p ∈ news', (∀ v, p.2.data ≠ .cell v) → p ∈ X) ∧ ∀ p ∈ news', p.1 ≠ c → p ∈ X := by
  refine ⟨but c news', ?_, fun p hp => (mem_but.mp hp).2, fun p hp hd => mem_but.mpr ⟨hp, ?_⟩, fun p hp hd => mem_but.mpr ⟨hp, hd⟩⟩
  · intro p hp
    rcases List.mem_cons.mp hp with rfl | hp
    · exact N _ hc
    · exact N _ (mem_but.mp hp).1
  · exact News.ne (o := p.2) N hp hc (fun h => hd v (by rw [h]; exact e))
noncomputable def catS (st : List (Nat × List Nat)) : Str := ⟨(st.reverse.flatMap fun e => (spc e.1).cps.toList ++ e.2).toArray⟩
theorem rows_cat {rows : List Row4} {st : List (Nat × List Nat)} (h : RowsOf rows st) : strR rows = catS st := by
  rw [strR_cat]
  unfold catS RowsOf at *
  congr 2
  have e1 : rows.flatMap (fun r => r.x.cps.toList ++ r.y.cps.toList) = (rows.map fun r => (r.x, r.y)).flatMap fun q => q.1.cps.toList ++ q.2.cps.toList := by rw [List.flatMap_map]
  rw [e1, h, List.flatMap_map]
  congr 1
theorem catS_cons (g : Nat) (t : List Nat) (r : List (Nat × List Nat)) : catS ((g, t) :: r) = catS r ++ (spc g ++ mkS t) := by
  apply str_ext
  rw [cps_append, cps_append]
  simp [catS, mkS]
theorem str_assoc (a b c : Str) : a ++ b ++ c = a ++ (b ++ c) := by
  apply str_ext; rw [cps_append, cps_append, cps_append, cps_append, List.append_assoc]
theorem catS_nil (b : Str) : catS [] ++ b = b := by
  apply str_ext; rw [cps_append]; rfl
section
set_option maxHeartbeats 2000000 in
theorem off_ok (w : World) (mean) (mg mb) (ws : List Nat) (hws : ws.length = 8) (t tk1 : Tok) (P D : Addr) (k : Int) (n : Nat) (rows : List Row4) (st : List (Nat × List Nat)) (hR : RowsOf rows st) (hne : NE st) (hl8 : st.length ≤ 8) (hz : ∀ r ∈ rows, r.x.length ≤ 1000 ∧ r.y.length ≤ 1000) (ps pl : Array Value) (hps : StrTab ps) (hpl : LenTab pl) (hoff : offS ws st 0 [98] = true) (hk3 : 0 ≤ k ∧ k ≤ 2) :
    GClaimS w mean mg mb 24 294 [.str ⟨ws.toArray⟩ t, .ref P, .int k tk1] [] (fun news _ => AccAt 125 P D k n rows news ∧ (94, tabO ps) ∈ news ∧ (87, tabO pl) ∈ news) (fun h₀ L m news s K => ∀ s' c1 c2 news', s'.os = s.os → AllBare s'.gens → Fr h₀ L s'.heap m → News h₀ L s'.heap news' → (94, tabO (strT c1)) ∈ news' → (87, tabO (lenT c2)) ∈ news' → (∀ p ∈ news, p.1 ≠ 94 → p.1 ≠ 87 → p.1 ≠ P → p ∈ news') → K (.bool true) s') := by
  unfold GClaimS prog1
  k_fill
  intro dp un gd cn cs a ccd cl outer A₀ base h₀ L m news s Q E hB hF hX hN hT hk hpre hG hdp hun hret
  try dsimp only at hpre
  try dsimp only at hret
  obtain ⟨hacc, hts, htl⟩ := hpre
  obtain ⟨gm1, ⟨gh, gt, gu, gm2⟩, gm3⟩ := id hacc
  have hrl := hR.len
  have hr9 : rows.length ≤ 900 := by omega
  have hss := sizeLine_eq
  refine wpAny_call ?_
  k_dflt (first | (refine' code_def ?k1 ?k2 ?k3 ?k4 ?k5 ?kA ?kF ?kK ?k6 ?k7 ?k8 ?k9 ?kB ?_ ?c2 ?c3 ?c4 ?c5; (case kA => exact rfl); (case kF => exact rfl); (case kK => (first | with_reducible assumption | assumption)); (case k1 => k_asm); (case k2 => k_asm); (case k3 => k_asm); (case k4 => k_asm); (case k5 => k_asm); (case k6 => k_is); (case k7 => k_is); (case k8 => ktr_room); (case k9 => exact binds_K (by k_in) rfl (by k_is) rfl rfl rfl); (case c5 => decide); (case kB => exact locs rfl); (case c2 => exact rfl); (case c3 => exact rfl); (case c4 => exact rfl); k_whole; intro g' L' h' FG' F' N' B' X' T'; (try dsimp only); (try k_lift B'); (try k_fold)) | (refine' ks_code_super ?k1 ?k2 ?k3 ?k4 ?k5 ?kA ?kF ?kK ?k6 ?k7 ?k8 ?k9 ?kB ?_ ?c1 ?c2 ?c3 ?c4; (case kA => exact rfl); (case kF => exact rfl); (case kK => first | exact rfl | (first | with_reducible assumption | assumption)); (case k1 => k_asm); (case k2 => k_asm); (case k3 => k_asm); (case k4 => k_asm); (case k5 => k_asm); (case k6 => k_is); (case k7 => k_is); (case k8 => ktr_room); (case k9 => first | exact BindsTo.of_eq rfl | exact binds_K (by k_in) rfl (by k_is) rfl rfl rfl); (case kB => exact locs rfl); (case c1 => decide); (case c2 => exact rfl); (case c3 => exact rfl); (case c4 => exact rfl); intro g' L' h' FG' F' N' B' X' T' lc1; (try k_lt lc1); (try dsimp only); (try k_lift B')) | (refine' code_defC ?k1 ?k2 ?k3 ?k4 ?k5 ?kA ?kF ?kK ?k6 ?k7 ?k8 ?k9 ?kB ?kD ?_ ?c2 ?c3 ?c4; (case kA => exact rfl); (case kF => exact rfl); (case kK => first | exact rfl | (first | with_reducible assumption | assumption)); (case k1 => k_asm); (case k2 => k_asm); (case k3 => k_asm); (case k4 => k_asm); (case k5 => k_asm); (case k6 => k_is); (case k7 => k_is); (case k8 => ktr_room); (case k9 => first | exact BindsTo.of_eq rfl | exact binds_K (by k_in) rfl (by k_is) rfl rfl rfl | fail "k_enter: no rule for these arguments"); (case kB => exact rfl); (case kD => decide +kernel); (case c2 => exact rfl); (case c3 => exact rfl); (case c4 => exact rfl); k_whole; intro g' L' h' tk' cells' FG' F' N' Y' B' X' T' lc1; (try k_lt lc1); k_cells Y'; (try simp only [List.cons_append, List.nil_append] at N'); (try dsimp only); (try k_lift B'); (try k_fold)) | cell_enter)
  refine gen_fn fun RF hRF => ?_
  repeat' (first | (k_unfold; (try dsimp only)) | (k_end; wrow_close) | (with_reducible (first | (k_here; (with_reducible show wpAny _ _ (call (Value.type "str") [Value.ref _]) _ _ _); k_dflt (refine' kso_call ?k1_9 ?k2_9 ?k3_9 ?k4_9 ?k5_9 ?_; (case k1_9 => ktr_units); (case k2_9 => k_in); (case k3_9 => k_inst); (case k4_9 => k_is); (case k5_9 => k_is); k_whole)) | (k_here; (with_reducible show wpAny _ _ (call (Value.ref 99) _ _) _ _ _); k_dflt (refine' (str_okU _ _ _ _ _ _ _ _ _ _ ?gh0_7 ?gh1_7 ?gh2_7) _ _ _ _ _ _ _ _ _ _ _ _ _ _ _ _ _ _ ?gB ?gF ?gX ?gN ?gT ?gk ?gp_7 ?gG_7 ?gd ?gu ?_; walk_at "gclaim"; (case gp_7 => (refine And.intro (AccAt.grown (by (first | with_reducible assumption | assumption)) ?_) (by k_mem); intro p hp; repeat (first | exact hp | refine .tail _ ?_))); (case gG_7 => (first | with_reducible assumption | assumption)); (case gh0_7 => with_reducible assumption); (case gh1_7 => (first | with_reducible assumption | assumption)); (case gh2_7 => (first | with_reducible assumption | assumption)); intro s' t' c' news' hos' hG' F' N' hT' hA' hS'; (try dsimp only); (try k_fold))))) | walk1 | (dsimp only; first | (with_reducible (first | (k_here; (with_reducible show wpAny _ _ (call (Value.type "str") [Value.ref _]) _ _ _); k_dflt (refine' kso_call ?k1_9 ?k2_9 ?k3_9 ?k4_9 ?k5_9 ?_; (case k1_9 => ktr_units); (case k2_9 => k_in); (case k3_9 => k_inst); (case k4_9 => k_is); (case k5_9 => k_is); k_whole)) | (k_here; (with_reducible show wpAny _ _ (call (Value.ref 99) _ _) _ _ _); k_dflt (refine' (str_okU _ _ _ _ _ _ _ _ _ _ ?gh0_7 ?gh1_7 ?gh2_7) _ _ _ _ _ _ _ _ _ _ _ _ _ _ _ _ _ _ ?gB ?gF ?gX ?gN ?gT ?gk ?gp_7 ?gG_7 ?gd ?gu ?_; walk_at "gclaim"; (case gp_7 => (refine And.intro (AccAt.grown (by (first | with_reducible assumption | assumption)) ?_) (by k_mem); intro p hp; repeat (first | exact hp | refine .tail _ ?_))); (case gG_7 => (first | with_reducible assumption | assumption)); (case gh0_7 => with_reducible assumption); (case gh1_7 => (first | with_reducible assumption | assumption)); (case gh2_7 => (first | with_reducible assumption | assumption)); intro s' t' c' news' hos' hG' F' N' hT' hA' hS'; (try dsimp only); (try k_fold))))) | walk1) | (leave1; try dsimp only) | fail "no step")
  dsimp only [StrBack]
  rename AccAt _ _ _ _ _ _ _ => hA6
  rename (∀ p : Addr × Obj, p ∈ _ → p.1 ≠ 94 → _) => hS6
  rename ((94, tabO (strT _)) ∈ _) => hT6
  rename AllBare _ => hG6
  have htl6 := hS6 _ (.tail _ htl) (show (87 : Nat) ≠ 94 by decide)
  clear gm1 gm2 gm3 gh gt gu
  obtain ⟨gm1, ⟨gh, gt, gu, gm2⟩, gm3⟩ := id hA6
  have hlenw := strR_len rows
  have hlenr := lenR_le rows hz
  have hfitw : (strR rows).length ≤ 100000 := by omega
  repeat' (first | (k_unfold; (try dsimp only)) | (k_end; wrow_close) | (with_reducible (first | (k_here; (with_reducible show wpAny _ _ (call (Value.ref 92) _ _) _ _ _); k_dflt (refine' (len_okU _ _ _ _ _ _ _ _ _ _ ?gh0_8 ?gh1_8 ?gh2_8) _ _ _ _ _ _ _ _ _ _ _ _ _ _ _ _ _ _ ?gB ?gF ?gX ?gN ?gT ?gk ?gp_8 ?gG_8 ?gd ?gu ?_; walk_at "gclaim"; (case gp_8 => (refine And.intro (AccAt.grown (by (first | with_reducible assumption | assumption)) ?_) (by k_mem); intro p hp; repeat (first | exact hp | refine .tail _ ?_))); (case gG_8 => (first | with_reducible assumption | assumption)); (case gh0_8 => with_reducible assumption); (case gh1_8 => (first | with_reducible assumption | assumption)); (case gh2_8 => (first | with_reducible assumption | assumption)); intro s' t' c' news' hos' hG' F' N' hT' hA' hS'; (try dsimp only); (try k_fold))))) | walk1 | (dsimp only; first | (with_reducible (first | (k_here; (with_reducible show wpAny _ _ (call (Value.ref 92) _ _) _ _ _); k_dflt (refine' (len_okU _ _ _ _ _ _ _ _ _ _ ?gh0_8 ?gh1_8 ?gh2_8) _ _ _ _ _ _ _ _ _ _ _ _ _ _ _ _ _ _ ?gB ?gF ?gX ?gN ?gT ?gk ?gp_8 ?gG_8 ?gd ?gu ?_; walk_at "gclaim"; (case gp_8 => (refine And.intro (AccAt.grown (by (first | with_reducible assumption | assumption)) ?_) (by k_mem); intro p hp; repeat (first | exact hp | refine .tail _ ?_))); (case gG_8 => (first | with_reducible assumption | assumption)); (case gh0_8 => with_reducible assumption); (case gh1_8 => (first | with_reducible assumption | assumption)); (case gh2_8 => (first | with_reducible assumption | assumption)); intro s' t' c' news' hos' hG' F' N' hT' hA' hS'; (try dsimp only); (try k_fold))))) | walk1) | (leave1; try dsimp only) | fail "no step")
  show PySem.W.LenBack _ _ _
  refine ⟨⟨by omega, by omega⟩, ?_⟩
  rename AccAt _ _ _ _ _ _ _ => hA7
  rename (∀ p : Addr × Obj, p ∈ _ → p.1 ≠ 87 → _) => hS7
  rename ((87, tabO (lenT _)) ∈ _) => hT7
  rename AllBare _ => hG7
  rename (∀ p : Addr × Obj, p ∈ news → p.1 < _) => hlt
  rename (_ = Data.cell _) => dC
  rename News _ _ _ _ => N7
  have hC7 := hS7 _ (hS6 _ (.head _) (Nat.ne_of_gt (Nat.lt_succ_of_lt (hlt _ hts)))) (Nat.ne_of_gt (Nat.lt_succ_of_lt (hlt _ htl)))
  obtain ⟨X7, N8, x7, S7, R7⟩ := recell1 N7 hC7 dC
  have hA8 := hA7.move (fun p hp _ hd => S7 p hp hd)
  have hT8 := S7 _ hT7 (fun v e => by cases e)
  have hT9 := S7 _ (hS7 _ hT6 (show (94 : Nat) ≠ 87 by decide)) (fun v e => by cases e)
  have n94 : (94 : Nat) ≠ P := News.ne N8 (.tail _ hT9) (.tail _ hA8.1) (fun e => by cases congrArg Obj.data e)
  have n87 : (87 : Nat) ≠ P := News.ne N8 (.tail _ hT8) (.tail _ hA8.1) (fun e => by cases congrArg Obj.data e)
  have hkeep : ∀ p ∈ news, p.1 ≠ 94 → p.1 ≠ 87 → p ∈ X7 := fun p hp h1 h2 => R7 p (hS7 p (hS6 p (.tail _ hp) h1) h2) (Nat.ne_of_lt (Nat.lt_succ_of_lt (hlt p hp)))
  clear gm1 gm2 gm3 gh gt gu N7
  obtain ⟨gm1, ⟨gh, gt, gu, gm2⟩, gm3⟩ := id hA8
  repeat' (first | (k_unfold; (try dsimp only)) | (k_end; wrow_close) | (with_reducible (first | (k_here; (with_reducible show wpAny _ _ (exec (Stmt.While _ _ [] _) _) _ _ _); k_dflt (refine stopHere ?_)))) | walk1 | (dsimp only; first | (with_reducible (first | (k_here; (with_reducible show wpAny _ _ (exec (Stmt.While _ _ [] _) _) _ _ _); k_dflt (refine stopHere ?_)))) | walk1) | (leave1; try dsimp only) | fail "no step")
  · exfalso; rename (@Ne Int _ _) => hb; exact hb (by rw [hlenw])
  show wpAny _ _ _ _ _ _
  rename Fr _ _ _ _ => F9
  rename News _ _ _ _ => N9
  rename (_ = PySem.Shared.os _) => hos7
  refine Fr.foldc F9 ?_
  clear F9
  intro mB F9
  refine While_gen (fun nn m l => (∀ z, z ∉ [Str.ofString "place", Str.ofString "built", Str.ofString "before", Str.ofString "gap"] → m z = mB z) ∧ ∃ (p : Nat) (bt : Str) (bf : List Nat) (st2 : List (Nat × List Nat)) (n2 : Nat) (rows2 : List Row4) (o2 : Obj) (v2 : Option Value) (X : Led) (t1 t2 t3 : Tok), m (Str.ofString "place") = some (.int (p : Int) t1) ∧ m (Str.ofString "built") = some (.str bt t2) ∧ m (Str.ofString "before") = some (.str (mkS bf) t3) ∧
      l = (_, o2) :: X ∧ o2.data = .cell v2 ∧ (∀ q ∈ X, q.1 ≠ _) ∧ AccAt 125 P D k n2 rows2 X ∧ RowsOf rows2 st2 ∧ NE st2 ∧ st2.length ≤ 8 ∧ offS ws st2 p bf = true ∧ catS st2 ++ bt = catS st ∧ Kept P X7 X ∧ nn = st2.length) F9 N9 ⟨fun _ _ => rfl, 0, _, _, st, _, _, _, _, X7, _, _, _, rfl, rfl, rfl, rfl, dC, x7, hA8, hR, hne, hl8, hoff, ?cat0, fun q hq _ => hq, rfl⟩ ?wturn
  case cat0 => apply str_ext; rw [cps_append]; exact List.append_nil _
  case wturn =>
    rintro nn m₂ news₂ h₂ tk₂ F2 N2 ⟨hz2, p, bt, bf, st2, n2, rows2, o2, v2, X, t1, t2, t3, hmp, hmb, hmf, rfl, d2, x2, hA2, hR2, hne2, hl2, hof2, hct2, hK2, rfl⟩ RW hRW
    rw [eq_at hmp (eq_at hmb (eq_at hmf (eq_over hz2)))] at F2
    try dsimp only [over, List.foldr] at F2
    have hs2 : st2.length ≤ 900 := by omega
    have hr2 := hR2.len
    have hr8 : rows2.length ≤ 1000 := by omega
    clear gm1 gm2 gm3 gh gt gu
    obtain ⟨gm1, ⟨gh, gt, gu, gm2⟩, gm3⟩ := id hA2
    repeat' (first | (k_unfold; (try dsimp only)) | (k_end; wrow_close) | (with_reducible (first | (k_here; (with_reducible show wpAny _ _ (call (Value.ref 85) _ _) _ _ _); k_dflt (refine' (pop_any _ _ _ _ _ _ _ _ _ _ ?gh1_5 ?gh2_5) _ _ _ _ _ _ _ _ _ _ _ _ _ _ _ _ _ _ ?gB ?gF ?gX ?gN ?gT ?gk ?gp_5 ?gd ?gu ?_; walk_at "gclaim"; (case gp_5 => (refine AccAt.grown (by (first | with_reducible assumption | assumption)) ?_; intro p hp; repeat (first | exact hp | refine .tail _ ?_))); (case gh1_5 => with_reducible assumption); (case gh2_5 => (first | with_reducible assumption | assumption)); intro q' x' y' t' u' n' rows' news' h' tk' F' N' hq' hx' hy' hA' hR' hK'; (try dsimp only); (try k_fold))) | (k_here; (with_reducible show wpAny _ _ (getMethod (Value.ref _) _ _) _ _ _); k_dflt (refine' acc_method_K ?aF_1 ?aX_1 ?aN_1 ?a1_1 ?a2_1 ?ag_1 ?ak_1 ?af_1 ?aq_1 ?ar_1 ?aw_1 ?_; (case aF_1 => k_asm); (case aX_1 => k_asm); (case aN_1 => k_asm); (case a1_1 => k_mem); (case a2_1 => k_mem); (case ag_1 => k_is); (case ak_1 => k_is); (case af_1 => k_is); (case aq_1 => k_is); (case ar_1 => decide +kernel); (case aw_1 => rfl))))) | walk1 | (dsimp only; first | (with_reducible (first | (k_here; (with_reducible show wpAny _ _ (call (Value.ref 85) _ _) _ _ _); k_dflt (refine' (pop_any _ _ _ _ _ _ _ _ _ _ ?gh1_5 ?gh2_5) _ _ _ _ _ _ _ _ _ _ _ _ _ _ _ _ _ _ ?gB ?gF ?gX ?gN ?gT ?gk ?gp_5 ?gd ?gu ?_; walk_at "gclaim"; (case gp_5 => (refine AccAt.grown (by (first | with_reducible assumption | assumption)) ?_; intro p hp; repeat (first | exact hp | refine .tail _ ?_))); (case gh1_5 => with_reducible assumption); (case gh2_5 => (first | with_reducible assumption | assumption)); intro q' x' y' t' u' n' rows' news' h' tk' F' N' hq' hx' hy' hA' hR' hK'; (try dsimp only); (try k_fold))) | (k_here; (with_reducible show wpAny _ _ (getMethod (Value.ref _) _ _) _ _ _); k_dflt (refine' acc_method_K ?aF_1 ?aX_1 ?aN_1 ?a1_1 ?a2_1 ?ag_1 ?ak_1 ?af_1 ?aq_1 ?ar_1 ?aw_1 ?_; (case aF_1 => k_asm); (case aX_1 => k_asm); (case aN_1 => k_asm); (case a1_1 => k_mem); (case a2_1 => k_mem); (case ag_1 => k_is); (case ak_1 => k_is); (case af_1 => k_is); (case aq_1 => k_is); (case ar_1 => decide +kernel); (case aw_1 => rfl))))) | walk1) | (leave1; try dsimp only) | fail "no step")
    · rename (_ < (8 : Int)) => hp8
      rename (_ = spc (hd st2).1) => hx5
      rename (_ = mkS (hd st2).2) => hy5
      rename AccAt _ _ _ _ _ _ _ => hA5
      rename RowsOf _ _ => hR5
      rename Kept _ _ _ => hK5
      rename News _ _ _ _ => N5
      have hPc : ∀ c, c = _ + 1 → P ≠ c := fun c e => e ▸ x2 _ hA2.1
      have hC5 := hK5 _ (.head _) (hPc _ rfl).symm
      obtain ⟨X5, N6, x5, S5, R5⟩ := recell1 N5 hC5 d2
      have hA6 := hA5.move (fun p hp _ hd => S5 p hp hd)
      obtain ⟨g, tx, st3, rfl⟩ : ∃ g tx st3, st2 = (g, tx) :: st3 := by
        match st2, hof2 with
        | [], hof2 =>
          exfalso
          have : p = 8 := by simpa [offS] using hof2
          omega
        | (g, tx) :: st3, _ => exact ⟨_, _, _, rfl⟩
      change _ = spc g at hx5
      change _ = mkS tx at hy5
      change RowsOf _ st3 at hR5
      simp only [offS, Bool.and_eq_true, decide_eq_true_eq, Bool.not_eq_true', beq_iff_eq, decide_eq_false_iff_not] at hof2
      obtain ⟨⟨⟨⟨⟨⟨o1, o2'⟩, rfl⟩, o4⟩, o5⟩, o6⟩, o7⟩ := hof2
      subst hx5
      subst hy5
      clear gm1 gm2 gm3 gh gt gu N5
      obtain ⟨gm1, ⟨gh, gt, gu, gm2⟩, gm3⟩ := id hA6
      have hle : tx.length ≤ 8 - g := by
        have := congrArg List.length o4
        rw [List.length_take, List.length_drop, hws] at this
        omega
      have hlx : (mkS tx).length = tx.length := by show tx.toArray.size = _; simp
      have htx0 : tx ≠ [] := by rintro rfl; simp at o2'
      have hlx8 : (mkS tx).length ≤ 8 := by omega
      show wpAny _ _ _ _ _ _
      repeat' (first | (k_unfold; (try dsimp only)) | (k_end; wrow_close) | (with_reducible (first | (k_here; (with_reducible show LCt.CompSrcT _ _ _ _ _ _ _ _ _ _ _ _ _ _ _); refine stopHere ?_) | (k_here; (with_reducible show wpAny _ _ (eval (Expr.ListComp _ _ _ _) _) _ _ _); lct_look; k_dflt (refine LCt.ListComp_T (F₀ := by k_asm) (by with_unfolding_all rfl) (by decide) (by rfl) (by decide) (by rfl) ?_)))) | walk1 | (dsimp only; first | (with_reducible (first | (k_here; (with_reducible show LCt.CompSrcT _ _ _ _ _ _ _ _ _ _ _ _ _ _ _); refine stopHere ?_) | (k_here; (with_reducible show wpAny _ _ (eval (Expr.ListComp _ _ _ _) _) _ _ _); lct_look; k_dflt (refine LCt.ListComp_T (F₀ := by k_asm) (by with_unfolding_all rfl) (by decide) (by rfl) (by decide) (by rfl) ?_)))) | walk1) | (leave1; try dsimp only) | fail "no step")
      · exfalso; rename ((mkS tx == Str.ofString "") = true) => hb
        exact htx0 (mkS_nil (by simpa [bne] using hb))
      · exfalso; rename ((_ != _) = true) => hb; exact bne_iff_ne.mp hb rfl
      · exfalso; rename ((_ != _) = true) => hb; refine bne_iff_ne.mp hb ?_
        rw [show (g : Int) + (((mkS tx).length : Nat) : Int) = ((g + tx.length : Nat) : Int) by omega, slice_mid ws g (g + tx.length) (by omega) (by omega), Nat.add_sub_cancel_left, o4]; rfl
      · exfalso; rename ((mkS bf).cps.toList < (mkS tx).cps.toList) => hb; exact o5 (by simpa [mkS] using hb)
      show LCt.CompSrcT _ _ _ _ _ _ _ _ _ _ _ _ _ _ _
      k_dflt (refine' LCt.CompSrcT.range (n := tx.length - 1) ?hh ?F ?N ?hr ?hs ?hn ?hz ?_)
      case hh => rfl
      case F => k_asm
      case N => k_asm
      case hr => assumption
      case hs => exact small_one (by omega) (by omega) (by omega) (by omega)
      case hn => rw [rangeSize_nat]; omega
      case hz => omega
      intro g0
      refine lct_rest (items := List.range (tx.length - 1)) (fun (k : Nat) v => k < tx.length - 1 ∧ ∃ t, v = .int (1 + (k : Int)) t) (fun k => !decide (tx < tx.drop (k + 1))) (fun k t => .int (1 + (k : Int)) t) ?hn ?hP ?hS ?cturn ?fin
      case hn => simp
      case hP =>
        rintro j v hj ⟨t, rfl⟩
        exact ⟨j, List.getElem?_range hj, hj, t, rfl⟩
      case hS => trivial
      case cturn =>
        rintro k v I' oI' C oC D m₂ ys h tk E' hk ⟨hk5, t, rfl⟩ hC hx' F' N' off ne
        dsimp only
        have hsk : Txt.slice (mkS tx) (some (1 + (k : Int))) none = mkS (tx.drop (k + 1)) := by
          rw [show 1 + (k : Int) = ((k + 1 : Nat) : Int) by omega]; exact slice_from tx (k + 1) (by omega)
        repeat' (first | (k_unfold; (try dsimp only)) | (k_end; wrow_close) | walk1 | (dsimp only; first | walk1) | (leave1; try dsimp only) | fail "no step")
        · rename ((mkS tx).cps.toList < _) => hb
          rw [hsk] at hb
          exact LCg.CompEnd.intro (by k_asm) (by k_asm) _ (fun p hp => hp) off trivial (LcNo.mk (by simpa [mkS] using hb) rfl)
        · rename (¬ (mkS tx).cps.toList < _) => hb
          rw [hsk] at hb
          exact LCg.CompEnd.intro (by k_asm) (by k_asm) _ (fun p hp => hp) off trivial (LcEl.mk (by simpa [mkS] using hb) rfl rfl)
      intro ys hO
      dsimp only
      have hnil : (List.range (tx.length - 1)).filter (fun k => !decide (tx < tx.drop (k + 1))) = [] := by
        rw [List.filter_eq_nil_iff]
        intro k hk
        have := List.all_eq_true.mp o6 k hk
        simp only [this]; decide
      rw [hnil] at hO
      obtain rfl : ys = [] := by cases hO; rfl
      have hgl : (spc g).length ≤ 8 := spc_len (Nat.le_of_lt_succ (Int.ofNat_lt.mp hp8))
      have hbt : bt.length ≤ 100000 := by
        have := congrArg (fun s : Str => s.length) hct2
        simp only [len_app, ← rows_cat hR] at this
        omega
      repeat' (first | (k_unfold; (try dsimp only)) | (k_end; wrow_close) | walk1 | (dsimp only; first | walk1) | (leave1; try dsimp only) | fail "no step")
      rename Fr _ _ _ _ => F9
      rw [show (g : Int) + (((mkS tx).length : Nat) : Int) = ((g + tx.length : Nat) : Int) by omega] at F9
      rename (_ = Data.cell (some (Value.str (mkS tx) _))) => dN
      refine hRW _ _ (WhileStep.intro (n' := st3.length) (by k_asm) (cb_drop (by k_asm) (fun p hp => by repeat (first | exact hp | refine .tail _ ?_))) (by simp) ⟨?_, g + tx.length, _, tx, st3, _, _, _, _, X5, _, _, _, rfl, rfl, rfl, rfl, dN, x5, hA6, hR5, fun e he => hne2 e (.tail _ he), by simp at hl2; omega, o7, ?_, fun p hp hne => R5 p (hK5 p (.tail _ (hK2 p hp hne)) hne) (x7 p hp), rfl⟩)
      · intro z h1; simp at h1; simp [over, h1]
      · rw [← hct2, catS_cons, str_assoc, str_assoc, str_assoc]
    · rename (¬ _ < (8 : Int)) => hp8
      have hst2 : st2 = [] := by
        match st2, hof2 with
        | [], _ => rfl
        | (g, tx) :: st3, hof2 =>
          exfalso
          simp only [offS, Bool.and_eq_true, decide_eq_true_eq] at hof2
          have := hof2.1.1.1.1.1.1
          omega
      rename (_ = spc (hd st2).1) => hx5
      rename (_ = mkS (hd st2).2) => hy5
      subst hst2
      have hx6 : spc (hd []).1 = Str.ofString "" := by decide +kernel
      have hy6 : mkS (hd []).2 = Str.ofString "" := by decide +kernel
      rw [hx6] at hx5
      rw [hy6] at hy5
      subst hx5
      subst hy5
      show wpAny _ _ _ _ _ _
      rename ((_, tupO [Value.str (Str.ofString "") _, _]) ∈ _) => hq5
      k_dflt (refine eq_dataH (reads_tuple_at (News.get (by k_asm) (.tail _ hq5)) rfl rfl (by ke_reads)) (by ke_read) (by ke_shaped) (by ke_shaped) ?hu ?_; case hu => ktr_units)
      ke_norm
      rename Kept _ _ _ => hK5
      repeat' (first | (k_unfold; (try dsimp only)) | (k_end; wrow_close) | walk1 | (dsimp only; first | walk1) | (leave1; try dsimp only) | fail "no step")
      refine hRF _ _ ?_
      repeat' (first | (k_unfold; (try dsimp only)) | (k_end; wrow_close) | walk1 | (dsimp only; first | walk1) | (leave1; try dsimp only) | fail "no step")
      exact hret _ _ _ _ (hos7.trans (by assumption)) hG7 (by k_asm) (cb_drop (by k_asm) (fun p hp => by repeat (first | exact hp | refine .tail _ ?_))) (hK5 _ (.tail _ (hK2 _ hT9 n94)) n94) (hK5 _ (.tail _ (hK2 _ hT8 n87)) n87) (fun p hp h1 h2 h3 => hK5 _ (.tail _ (hK2 _ (hkeep p hp h1 h2) h3)) h3)
    · rename (¬ _ < (8 : Int)) => hp8
      rename ((bt == strR rows) = false) => hbf
      exfalso
      have hst2 : st2 = [] := by
        match st2, hof2 with
        | [], _ => rfl
        | (g, tx) :: st3, hof2 =>
          exfalso
          simp only [offS, Bool.and_eq_true, decide_eq_true_eq] at hof2
          have := hof2.1.1.1.1.1.1
          omega
      subst hst2
      rw [catS_nil, ← rows_cat hR] at hct2
      rw [hct2] at hbf
      simp at hbf
end
end
section
open PySem PySem.W PySem.Calls PyProof.Rows PySem.Builtin PySem.Builtin.Str
noncomputable def flipL (c : Nat) : Nat := if c = 97 then 65 else 97
noncomputable def wordT (ws : List Nat) (tn : Nat) : List Nat := if tn = 0 then ws else ws.map flipL
noncomputable def sliceL (ws : List Nat) (f l : Nat) : List Nat := (ws.drop f).take (l - f)
noncomputable def spotL (ws : List Nat) (f l : Nat) : List Nat := List.replicate f 32 ++ sliceL ws f l
noncomputable def lowL (l : List Nat) : List Nat := l.map fun c => if c = 65 then 97 else c
noncomputable def getL (rows : List (List Nat × List Nat)) (nm : List Nat) : List (List Nat) := (rows.filter fun r => lowL r.1 == lowL nm).map (·.2)
noncomputable abbrev fS (ws : List Nat) (h : List Nat) (p : Nat) : Nat := firstS ws h.length p
noncomputable abbrev lS (ws : List Nat) (h : List Nat) (p : Nat) : Nat := lastS ws h.length (8 - (p + h.length)) (p + h.length)
/-- one place of a pile -/
noncomputable def stepT (ws : List Nat) (hs : List (List Nat)) (rows : List (List Nat × List Nat)) (p : Nat) : List (List Nat × List Nat) :=
  let h := hs.getD p []
  if 2 * h.length + fS ws h p ≤ lS ws h p ∧ (getL rows h).contains (spotL ws (fS ws h p) (lS ws h p)) = false then rows ++ [(h, spotL ws (fS ws h p) (lS ws h p))] else rows
noncomputable def rowsP (ws : List Nat) (hs : List (List Nat)) (rows : List (List Nat × List Nat)) : Nat → List (List Nat × List Nat)
  | 0 => rows
  | p + 1 => stepT ws hs (rowsP ws hs rows p) p
noncomputable def headsT (ws : List Nat) (tn : Nat) : List (List Nat) := (piledN (wordT ws tn) 8).2
noncomputable def rowsT (ws : List Nat) : Nat → List (List Nat × List Nat)
  | 0 => []
  | tn + 1 => rowsP ws (headsT ws tn) (rowsT ws tn) 8
noncomputable def perF (ws : List Nat) (f l : Nat) : Nat := perS (f % 2 == 1) (sliceL ws f l) (l - f - 1) 1
/-- a stretch that its least period lays -/
noncomputable def isRun (per : Nat → Nat → Nat) (f l : Nat) : Bool :=
  2 * per f l + f ≤ l && !(f != 0 && per (f - 1) l == per f l) && !(l != 8 && per f (l + 1) == per f l)
noncomputable def joinL (d : List Nat) : List (List Nat) → List Nat
  | [] => []
  | [a] => a
  | a :: r => a ++ d ++ joinL d r
/-- a stretch's wants -/
noncomputable def runOK (ws : List Nat) (f l sz : Nat) : Bool :=
  let tx := sliceL ws f l
  let often := tx.length / sz
  let a := tx.take sz
  let z := tx.drop (tx.length - sz)
  let rest := tx.drop sz
  em (mkS (joinL [46, 46, 46] (List.replicate (often - 1) a ++ [z]))) (mkS tx) &&
  !em (mkS (joinL [46, 46, 46] (List.replicate often a ++ [z]))) (mkS tx) &&
  (em (mkS (List.replicate often a).flatten) (mkS tx) == (tx.length == sz * often)) &&
  (em (mkS (rest ++ [46, 46, 46] ++ rest)) (mkS tx) == (tx.length == 2 * sz)) &&
  (em (mkS ([46, 46, 46] ++ rest ++ [46, 46, 46] ++ rest ++ [46, 46, 46])) (mkS tx) == (tx.length == 2 * sz))
noncomputable def stepK (ws : List Nat) (per : Nat → Nat → Nat) (f l : Nat) (ks : List (List (List Nat))) : List (List (List Nat)) :=
  if isRun per f l then ks.set (per f l) (ks.getD (per f l) [] ++ [spotL ws f l]) else ks
/-- behind j stretches from f on -/
noncomputable def kindsF (ws : List Nat) (per : Nat → Nat → Nat) (f : Nat) (ks : List (List (List Nat))) : Nat → List (List (List Nat))
  | 0 => ks
  | j + 1 => stepK ws per f (f + 2 + j) (kindsF ws per f ks j)
noncomputable def kindsS (ws : List Nat) (per : Nat → Nat → Nat) : Nat → List (List (List Nat))
  | 0 => [[], [], [], [], []]
  | f + 1 => kindsF ws per f (kindsS ws per f) (7 - f)
noncomputable def permL : List (List Nat) → List (List Nat) → Bool
  | [], [] => true
  | a :: r, m => m.contains a && permL r (m.erase a)
  | [], _ => false
noncomputable def two (l : List Nat) : Bool := l.all fun c => c == 65 || c == 97
noncomputable def perTab (ws : List Nat) : List (List Nat) := (List.range 8).map fun f => (List.range 9).map fun l => if f < l then perF ws f l else 0
noncomputable def perG (tab : List (List Nat)) (f l : Nat) : Nat := (tab.getD f []).getD l 0
noncomputable def okT (ws : List Nat) (tn : Nat) : Bool :=
  offS (wordT ws tn) (piledN (wordT ws tn) 8).1 0 [98] && (List.range 8).all fun p => let h := (headsT ws tn).getD p []; decide (1 ≤ h.length) && decide (p + h.length ≤ 8) && two h
noncomputable def okK (ws : List Nat) (tab : List (List Nat)) : Bool :=
  (List.range 8).all fun f => (List.range 9).all fun l => if f + 2 ≤ l && isRun (perG tab) f l then runOK ws f l (perG tab f l) else true
noncomputable def okE (ws : List Nat) (tab : List (List Nat)) : Bool :=
  let rows := rowsT ws 2
  let ks := kindsS ws (perG tab) 8
  ([1, 2, 3, 4].all fun sz => permL (getL rows ([65, 97, 65, 97].take sz)) (ks.getD sz [])) && rows.length == (ks.map List.length).sum && decide (rows.length < 8)
noncomputable def lawOK (ws : List Nat) : Bool :=
  let tab := perTab ws
  okT ws 0 && okT ws 1 && okK ws tab && okE ws tab
end
section
open PySem PySem.W PySem.Calls PyProof.Rows PySem.Builtin PySem.Builtin.Str
/-- the base without the two code tables -/
noncomputable abbrev hid (h : Heap) : Heap := hideAll h [87, 94]
theorem hid_get {h : Heap} {a : Addr} {o : Obj} (e : h.get? a = some o) (h1 : a ≠ 87) (h2 : a ≠ 94) : (hid h).get? a = some o := hideAll_get _ e (by simp [h1, h2])
theorem hid_lit {h : Heap} {a : Addr} {o : Obj} (e : h.get? a = some o) (h1 : a ∉ [87, 94]) : (hid h).get? a = some o := hideAll_get _ e h1
theorem hid_top {p : Program} {loose : List Str} {mean : ExcName → Option Value} {mg mb : Mp} {h : Heap} {o1 o2 : Obj} (T : Top p loose mean mg mb h) (e1 : h.get? 87 = some o1) (e2 : h.get? 94 = some o2) (c1 : o1.cls = .none) (c2 : o2.cls = .none)
    (hs : (loose ++ ((recsOf p).map (·.name)) ++ ((litsOf p).map (·.1)) ++ ((clssOf p loose).map (·.name))).all (fun x => loose1.contains x) = true) : Top view1 loose1 mean mg mb (hid h) where
  g := T.g.at' fun o e => hid_lit e (by decide)
  b := T.b.at' fun o e => hid_lit e (by decide)
  nolimit := let ⟨mc, a, b⟩ := T.nolimit; ⟨mc, a.at' fun o e => hid_lit e (by decide), b⟩
  nodigits := let ⟨mc, a, b⟩ := T.nodigits; ⟨mc, a.at' fun o e => hid_lit e (by decide), b⟩
  fn := fun d hd => nomatch hd
  own := fun d hd => nomatch hd
  const := fun x d hd => nomatch hd
  free := fun x h1 h2 h3 h4 h5 => by
    have key : ∀ y ∈ loose ++ ((recsOf p).map (·.name)) ++ ((litsOf p).map (·.1)) ++ ((clssOf p loose).map (·.name)), y ≠ x := fun y hy e => by
      have := List.all_eq_true.mp hs y hy
      rw [e] at this
      exact h2 (by simpa using this)
    refine T.free x h1 (fun hy => key x ?_ rfl) (fun hy => key x ?_ rfl) (fun hy => key x ?_ rfl) (fun hy => key x ?_ rfl)
    · simp only [List.mem_append]; exact .inl (.inl (.inl hy))
    · simp only [List.mem_append]; exact .inl (.inl (.inr hy))
    · simp only [List.mem_append]; exact .inl (.inr hy)
    · simp only [List.mem_append]; exact .inr hy
  builtins := T.builtins
  tab := fun d hd => nomatch hd
  bmain := by
    obtain ⟨bm, ob, a, b, c, d, e⟩ := T.bmain
    refine ⟨bm, ob, a, b, hid_get c ?_ ?_, d, e⟩
    · intro q; rw [q, e1] at c; cases c; rw [c1] at d; cases d
    · intro q; rw [q, e2] at c; cases c; rw [c2] at d; cases d
  seer := fun h => by cases h
theorem frag_mem {a : Addr} {o : Obj} : ∀ {K : Frag}, K.lookup a = some o → a ∈ K.map (·.1)
  | [], e => by cases e
  | (b, x) :: r, e => by
    rw [List.lookup_cons] at e
    cases h : (a == b) with
    | true => rw [eq_of_beq h]; exact .head _
    | false => rw [h] at e; exact .tail _ (frag_mem e)
theorem hid_in {K : Frag} {h : Heap} (X : K.In h) (hk : (K.map (·.1)).all (fun a => a != 87 && a != 94) = true) : K.In (hid h) := fun a o e => by
  refine hid_lit (X a o e) ?_
  have hm : a ∈ K.map (·.1) := frag_mem e
  have := List.all_eq_true.mp hk a hm
  simp at this
  simp [this]
theorem hid_fr {h h₁ : Heap} {L : Addr} {m : Mp} (F : Fr h L h₁ m) : Fr (hid h) L h₁ m := ⟨F.ns, fun b o e => F.keep b o (of_hideAll _ e), by rw [hideAll_size]; exact F.above⟩
theorem hid_news {h h₁ : Heap} {L : Addr} {m : Mp} {news : Led} {o1 o2 : Obj} (F : Fr h L h₁ m) (N : News h L h₁ news) (e1 : h.get? 87 = some o1) (e2 : h.get? 94 = some o2) : News (hid h) L h₁ ((87, o1) :: (94, o2) :: news) := fun p hp => by
  rcases List.mem_cons.mp hp with rfl | hp
  · exact ⟨F.keep _ _ e1, fun q => absurd (Heap.lt_size e1) (Nat.not_lt.mpr (Nat.le_trans F.above (Nat.le_of_eq q.symm))), hideAll_none _ (by simp)⟩
  · rcases List.mem_cons.mp hp with rfl | hp
    · exact ⟨F.keep _ _ e2, fun q => absurd (Heap.lt_size e2) (Nat.not_lt.mpr (Nat.le_trans F.above (Nat.le_of_eq q.symm))), hideAll_none _ (by simp)⟩
    · refine ⟨(N p hp).1, (N p hp).2.1, ?_⟩
      cases q : (hid h).get? p.1 with
      | none => rfl
      | some o => have := of_hideAll _ q; rw [(N p hp).2.2] at this; cases this
end
section
open PySem PySem.W PySem.Calls PyProof.Rows PySem.Builtin PySem.Builtin.Str
theorem Fr.fold {h₀ h : Heap} {L : Addr} {m : Mp} {P : Prop} (F : Fr h₀ L h m) (k : let m' := m; Fr h₀ L h m' → P) : P := k F
theorem TabAt.sub {C T TD HL : Addr} {P : Params} {n : Nat} {rows : List Row4} {X Y : Led} (H : TabAt C P T TD HL n rows X) (S : ∀ p ∈ X, p ∈ Y) : TabAt C P T TD HL n rows Y := by
  obtain ⟨a, ⟨x, y, b⟩, c, d⟩ := H
  exact ⟨S _ a, ⟨x, y, S _ b⟩, S _ c, fun r hr => S _ (d r hr)⟩
theorem list_ne_cls {vs : Array Value} {n : Nat} {o : Obj} {c : String} (h : o.cls = .type c) (hc : "list" ≠ c) : listOf vs n ≠ o := fun e => hc (Value.type.inj ((congrArg Obj.cls e).trans h))
theorem inst_ne_cls {C D : Addr} {o : Obj} {c : String} (h : o.cls = .type c) : instO C D ≠ o := fun e => by have := (congrArg Obj.cls e).trans h; cases this
theorem TabAt.but {C T TD HL I : Addr} {P : Params} {n : Nat} {rows : List Row4} {news : Led} {oI : Obj} {h₀ h : Heap} {L : Addr} {c : String} (H : TabAt C P T TD HL n rows news) (N : News h₀ L h news) (hI : (I, oI) ∈ news) (hc : oI.cls = .type c) (h1 : "dict" ≠ c) (h2 : "tuple" ≠ c) (h3 : "list" ≠ c) : TabAt C P T TD HL n rows (but I news) := by
  obtain ⟨a1, ⟨x, y, a2⟩, a3, a4⟩ := H
  exact ⟨mem_but.mpr ⟨a1, News.ne N a1 hI (inst_ne_cls hc)⟩, ⟨x, y, mem_but.mpr ⟨a2, News.ne N a2 hI (dict_ne_cls hc h1)⟩⟩, mem_but.mpr ⟨a3, News.ne N a3 hI (list_ne_cls hc h3)⟩, fun r hr => mem_but.mpr ⟨a4 r hr, News.ne N (a4 r hr) hI (tup_ne_cls hc h2)⟩⟩
noncomputable def LawEnd (b : Heap) (L : Addr) (s₁ s' : Shared) : Prop :=
  ∃ m l p1 p2, Fr b L s'.heap m ∧ News b L s'.heap l ∧ (87, tabO p1) ∈ l ∧ (94, tabO p2) ∈ l ∧ AllBare s'.gens ∧ s'.os = s₁.os
theorem law_old {K : Frag} {s₁ s' : Shared} {c1 c2 : Addr} (X : K.In s₁.heap) (k1 : CodeK K c1 87) (k2 : CodeK K c2 94) (n1 : c1 ≠ 87) (n2 : c2 ≠ 94) (t1 : s₁.heap.get? 87 = some (tabO #[])) (t2 : s₁.heap.get? 94 = some (tabO #[])) (h : LawEnd (hid s₁.heap) s₁.heap.objs.size s₁ s') : OldK s₁.heap s'.heap ∧ s'.os = s₁.os ∧ AllBare s'.gens := by
  obtain ⟨m, l, p1, p2, F, N, h1, h2, hb, ho⟩ := h
  have e1 := (N _ h1).1
  have e2 := (N _ h2).1
  have c1 := (codeK_at k1 X t1 trivial n1).2.isCodeTable
  have c2 := (codeK_at k2 X t2 trivial n2).2.isCodeTable
  refine ⟨⟨fun b o e => ?_, fun b o e => ?_⟩, ho, hb⟩
  · by_cases q1 : b = 87
    · subst q1
      have : o = tabO #[] := Option.some.inj (e.symm.trans t1)
      subst this
      exact .inr (.inl ⟨c1, rfl, #[], p1, rfl, by rw [e1]; simp⟩)
    · by_cases q2 : b = 94
      · subst q2
        have : o = tabO #[] := Option.some.inj (e.symm.trans t2)
        subst this
        exact .inr (.inl ⟨c2, rfl, #[], p2, rfl, by rw [e2]; simp⟩)
      · exact .inl (F.keep _ _ (hid_get e q1 q2))
  · by_cases q1 : b = 87
    · exact ⟨_, q1 ▸ e1⟩
    · by_cases q2 : b = 94
      · exact ⟨_, q2 ▸ e2⟩
      · exact ⟨_, F.keep _ _ (hid_get e q1 q2)⟩
section
variable {prog : Program} {w : World} {A : Around} {E : Value → Shared → Prop} {s : Shared} {env : Env} {h₀ : Heap} {target : Expr} {body : List Stmt} {Q : Flow → Shared → Prop}
/-- a turn's end where generators may have run -/
noncomputable def SPost (h₀ : Heap) (L : Addr) (I : Addr) (oI : Obj) (keep : Addr × Obj) (J : Mp → Led → Prop) (s₁ : Shared) (Q : Flow → Shared → Prop) (f : Flow) (s₂ : Shared) : Prop :=
  match f with
  | .ret v => Q (.ret v) s₂
  | .brk => Q .next s₂
  | _ => ∃ m' news', s₂.os = s₁.os ∧ AllBare s₂.gens ∧ Fr h₀ L s₂.heap m' ∧ News h₀ L s₂.heap ((I, oI) :: news') ∧ (∀ p ∈ news', p.1 ≠ I) ∧ keep ∈ news' ∧ J m' news'
noncomputable def TupS (prog : Program) (w : World) (A : Around) (h₀ : Heap) (env : Env) (target : Expr) (body : List Stmt) (Q : Flow → Shared → Prop) (E : Value → Shared → Prop) (r : Value) (s : Shared) : Prop :=
  ∃ D o k vs m₀ news, ∃ J : Nat → Mp → Led → Prop, r = .ref D ∧ A.handled = none ∧ (D, o) ∈ news ∧ o.cls = .type "tuple" ∧ o.data = .seq (List.toArray vs) k ∧ AllBare s.gens ∧ Fr h₀ env.locals s.heap m₀ ∧ News h₀ env.locals s.heap news ∧ J 0 m₀ news ∧
    (∀ I i v m₁ news₁ (s₁ : Shared) oI, oI.cls = .type "tuple_iterator" → vs[i]? = some v → s₁.os = s.os → AllBare s₁.gens → J i m₁ news₁ → (∀ p ∈ news₁, p.1 ≠ I) → (D, o) ∈ news₁ → Fr h₀ env.locals s₁.heap m₁ → News h₀ env.locals s₁.heap ((I, oI) :: news₁) →
      wpAny (model prog w) A (assign target env v) (fun _ s₃ => wpAny (model prog w) A (execs body env) (SPost h₀ env.locals I oI (D, o) (J (i + 1)) s Q) E s₃) E s₁) ∧
    ∀ m₁ news₁ (s₁ : Shared), s₁.os = s.os → AllBare s₁.gens → J vs.length m₁ news₁ → (D, o) ∈ news₁ → Fr h₀ env.locals s₁.heap m₁ → News h₀ env.locals s₁.heap news₁ → Q .next s₁
theorem loopS {R : Result → Shared → Prop} {I : Addr} {fp wr : List Addr} {n : Nat} {P Md : Nat → Value → Heap → Prop} {St : Nat → Heap → Prop} {m : Str → Option Value} {news : List (Addr × Obj)} (W : KTurns prog w A target I fp wr n P Md St)
    (hLf : env.locals ∉ fp) (hwr : ∀ b ∈ wr, h₀.get? b = none) (hnw : ∀ p ∈ news, p.1 ∉ wr) (hg : AllBare s.gens) (hst : St 0 s.heap) (F : Fr h₀ env.locals s.heap m) (N : News h₀ env.locals s.heap news)
    (J : Nat → (Str → Option Value) → List (Addr × Obj) → Prop) (h0 : J 0 m news)
    (step : ∀ i v m₁ news₁ (s₁ : Shared) own, s₁.os = s.os → AllBare s₁.gens → i < n → P i v s₁.heap → J i m₁ news₁ → (∀ p ∈ news₁, p.1 ∉ wr) → (∀ p ∈ own, p.1 ∈ fp) → (∀ p ∈ own, s₁.heap.get? p.1 = some p.2) → (∀ b ∈ fp, h₀.get? b = none → ∀ o, s₁.heap.get? b = some o → (b, o) ∈ own) → St (i + 1) s₁.heap →
      Fr h₀ env.locals s₁.heap m₁ → News h₀ env.locals s₁.heap (own ++ news₁) →
      wpAny (model prog w) A (assign target env v) (fun _ s₂ => wpAny (model prog w) A (execs body env)
        (fun f s₃ => match f with
          | .ret v => R (.ok (.ret v)) s₃
          | .brk => R (.ok .next) s₃
          | _ => ∃ m' news', s₃.os = s.os ∧ AllBare s₃.gens ∧ Fr h₀ env.locals s₃.heap m' ∧ News h₀ env.locals s₃.heap (own ++ news') ∧ (∀ p ∈ news', p.1 ∉ wr) ∧ J (i + 1) m' news') (notedBy (model prog w) A env fun e s' => R (.error e) s') s₂) (notedBy (model prog w) A env fun e s' => R (.error e) s') s₁)
    (hR : ∀ m' news' (s' : Shared), s'.os = s.os → AllBare s'.gens → Fr h₀ env.locals s'.heap m' → News h₀ env.locals s'.heap news' → (∀ p ∈ news', p.1 ∉ wr) → J n m' news' → R (.ok .next) s') :
    codeAny (model prog w) A (.forLoop target (.ref I) body [] env) R s := by
  have hLw : env.locals ∉ wr := fun h => hLf (W.sub _ h)
  have old : ∀ b o, h₀.get? b = some o → b ∉ wr := fun b o e hb => by rw [hwr b hb] at e; cases e
  refine codeAny_forLoop_any
    (fun k s' => ∃ m' news' i, s'.os = s.os ∧ AllBare s'.gens ∧ St i s'.heap ∧ Fr h₀ env.locals s'.heap m' ∧ News h₀ env.locals s'.heap news' ∧ (∀ p ∈ news', p.1 ∉ wr) ∧ J i m' news' ∧ i ≤ n ∧ k = n + 1 - i) ?_ (n + 1)
    ⟨m, news, 0, rfl, hg, hst, F, N, hnw, h0, Nat.zero_le _, rfl⟩
  rintro k s' ⟨m', news', i, hos, hga, hst', F', N', hnw', hJ, hi, rfl⟩
  have next : ∀ h₁ : Heap, (∀ b o, b ∉ wr → s'.heap.get? b = some o → h₁.get? b = some o) → Fr h₀ env.locals h₁ m' ∧ News h₀ env.locals h₁ news' := fun h₁ hk₁ =>
    ⟨⟨F'.ns.at' fun o e => hk₁ _ o hLw e, fun b o e => hk₁ b o (old b o e) (F'.keep b o e), F'.above⟩, fun p hp => ⟨hk₁ _ _ (hnw' p hp) (N' p hp).1, (N' p hp).2⟩⟩
  by_cases hlt : i < n
  · refine W.item i _ _ _ hlt hst' fun v h₁ tk₁ hMd hk₁ => ?_
    refine W.go i v _ _ _ hMd fun h₂ hP hst₂ hk₂ => ?_
    obtain ⟨F₂, N₂⟩ := next h₂ fun b o hb x => hk₂ b o hb (hk₁ b o hb x)
    have Nown : News h₀ env.locals h₂ (PyProof.Rows.ownOf h₀ fp h₂) := news_ownOf hLf
    refine wpAny_mono (step i v m' news' { s' with heap := h₂, toks := tk₁ } (PyProof.Rows.ownOf h₀ fp h₂) hos hga hlt hP hJ hnw' ownOf_sub (fun p hp => (Nown p hp).1) (fun b hb hn o e => mem_ownOf hb hn e) hst₂ F₂ (Nown.append N₂)) (fun _ s₂ h₂' => wpAny_mono h₂' (fun f s₃ h₃ => ?_) fun _ _ e => e) fun _ _ e => e
    have fin : (∃ m' news', s₃.os = s.os ∧ AllBare s₃.gens ∧ Fr h₀ env.locals s₃.heap m' ∧ News h₀ env.locals s₃.heap (PyProof.Rows.ownOf h₀ fp h₂ ++ news') ∧ (∀ p ∈ news', p.1 ∉ wr) ∧ J (i + 1) m' news') → ∃ k', k' < n + 1 - i ∧ ∃ m' news' i', s₃.os = s.os ∧ AllBare s₃.gens ∧ St i' s₃.heap ∧ Fr h₀ env.locals s₃.heap m' ∧ News h₀ env.locals s₃.heap news' ∧ (∀ p ∈ news', p.1 ∉ wr) ∧ J i' m' news' ∧ i' ≤ n ∧ k' = n + 1 - i' := by
      rintro ⟨m₂, news₂, ho₃, hg₃, F₃, N₃, ha₃, hJ₃⟩
      refine ⟨n + 1 - (i + 1), by omega, m₂, news₂, i + 1, ho₃, hg₃, ?_, F₃, N₃.right, ha₃, hJ₃, hlt, rfl⟩
      refine W.frame _ _ _ hst₂ fun b hb o e => ?_
      cases hn : h₀.get? b with
      | some o₀ =>
        have : o₀ = o := by have q := F₂.keep b o₀ hn; rw [e] at q; exact (Option.some.inj q).symm
        exact this ▸ F₃.keep b o₀ hn
      | none => exact (N₃ _ (List.mem_append_left _ (mem_ownOf hb hn e))).1
    cases f with
    | ret v => exact h₃
    | brk => exact h₃
    | cont =>
      obtain ⟨k', a, b⟩ := fin h₃
      exact ⟨k', a, b⟩
    | next =>
      obtain ⟨k', a, b⟩ := fin h₃
      exact ⟨k', a, b⟩
  · have hin : i = n := by omega
    subst hin
    refine W.done _ _ _ hst' fun h₁ tk₁ hk₁ => wpAny_execs_nil ?_
    obtain ⟨F₁, N₁⟩ := next h₁ hk₁
    exact hR m' news' { s' with heap := h₁, toks := tk₁ } hos hga F₁ N₁ hnw' hJ
theorem For_tupS {iter : Expr} {pos : Pos} {m : Str → Option Value} (_F : Fr h₀ env.locals s.heap m)
    (h : wpAny (model prog w) A (eval iter env) (fun xv s₁ => TupS prog w A h₀ env target body Q E xv s₁) E s)
    (hgo : ∀ (I : Addr) (v : Value) (s : Shared) (Q : Unit → Shared → Prop) (E : Value → Shared → Prop), (∃ o, s.heap.get? I = some o ∧ o.cls = .type "tuple_iterator") → Q () s → wpAny (model prog w) A (letOwnedTupleGo target (.ref I) v) Q E s)
    (hs : ∀ x, foldedSetIterable iter env x = pure x := by intro _; rfl)
    (hE : PassesOwn (model prog w) A env E := by passes_own) :
    wpAny (model prog w) A (exec (.For target iter body [] pos) env) Q E s := by
  refine wpAny_For (wpAny_mono h (fun xv s₁ h₁ => ?_) fun _ _ e => e) hs
  obtain ⟨D, o, k, vs, m₀, news, J, rfl, hh, hD, hoc, hod, hg, F, N, hj, turn, done⟩ := h₁
  have hls : s₁.heap.IsTuple D vs.toArray := ⟨_, (N _ hD).1, hoc, k, hod⟩
  have hlt : D < s₁.heap.objs.size := Heap.lt_size (N _ hD).1
  have hne : D ≠ s₁.heap.objs.size := Nat.ne_of_lt hlt
  refine wpAny_pyIter_tuple hls ?_
  have W := Walks.tuple (prog := prog) (w := w) hh s₁.heap.objs.size D hne vs.toArray
  have hlen : vs.toArray.size = vs.length := by simp
  rw [hlen] at W
  have hI0 : h₀.get? s₁.heap.objs.size = none := next_is_new F
  refine loopS (R := fun r s' => match r with | .ok f => Q f s' | .error e => cameBackBy (model prog w) A env E e s') (KTurns.ofWalks W fun i v s Q E st q => hgo _ v s Q E (by obtain ⟨⟨o, ho, hc, _⟩, _⟩ := st; exact ⟨o, ho, hc⟩) q) ?_ ?_ ?_ hg
    ⟨⟨_, Heap.get?_push_size _ rfl, rfl, rfl⟩, hls.at fun o e => Heap.get?_push_of_some _ e⟩ (F.push _) (fun p hp => ⟨Heap.get?_push_of_some _ (N p hp).1, (N p hp).2⟩) (fun i m l => (D, o) ∈ l ∧ J i m l) ⟨hD, hj⟩ ?_ ?_
  · intro hm
    rcases List.mem_cons.mp hm with e | hm
    · exact absurd F.ns.lt (e ▸ Nat.lt_irrefl _)
    · exact (N _ hD).2.1 (List.mem_singleton.mp hm).symm
  · intro b hb; rw [List.mem_singleton.mp hb]; exact hI0
  · intro p hp hI; exact absurd (Heap.lt_size (N p hp).1) (List.mem_singleton.mp hI ▸ Nat.lt_irrefl _)
  · rintro i v m₁ news₁ s₃ own hos hga hin hP ⟨hk₁, hJ⟩ hoff hown hat hall hst' F₁ N₁
    obtain ⟨oI, ho, hoc', _⟩ := hst'.1
    have hio : (s₁.heap.objs.size, oI) ∈ own := hall _ (W.sub _ (List.mem_singleton.mpr rfl)) hI0 oI ho
    have hsub : ∀ p ∈ own, p = (s₁.heap.objs.size, oI) ∨ p = (D, o) := by
      intro p hp
      have g := (N₁ p (List.mem_append_left _ hp))
      rcases List.mem_cons.mp (hown p hp) with e | hb
      · left
        have : p.2 = oI := by have := g.1; rw [e] at this; exact Option.some.inj (this.symm.trans ho)
        exact Prod.ext e this
      · right
        have e := List.mem_singleton.mp hb
        have h1 := (N₁ _ (List.mem_append_right own hk₁)).1
        have h2 := g.1
        rw [e] at h2
        exact Prod.ext e (Option.some.inj (h2.symm.trans h1))
    have N₂ : News h₀ env.locals s₃.heap ((s₁.heap.objs.size, oI) :: news₁) := fun p hp => by
      rcases List.mem_cons.mp hp with rfl | hp
      · exact N₁ _ (List.mem_append_left _ hio)
      · exact N₁ _ (List.mem_append_right _ hp)
    refine wpAny_mono (turn _ i v m₁ news₁ s₃ oI hoc' (by simpa using hP) hos hga hJ (fun p hp e => hoff p hp (List.mem_singleton.mpr e)) hk₁ F₁ N₂) (fun _ s₂ p => wpAny_mono (wpAny_passesOwn hE p) (fun f s₄ p => ?_) fun _ _ e => e) hE
    have fin : (∃ m' news', s₄.os = s₁.os ∧ AllBare s₄.gens ∧ Fr h₀ env.locals s₄.heap m' ∧ News h₀ env.locals s₄.heap ((s₁.heap.objs.size, oI) :: news') ∧ (∀ p ∈ news', p.1 ≠ s₁.heap.objs.size) ∧ (D, o) ∈ news' ∧ J (i + 1) m' news') → ∃ m' news', s₄.os = s₁.os ∧ AllBare s₄.gens ∧ Fr h₀ env.locals s₄.heap m' ∧ News h₀ env.locals s₄.heap (own ++ news') ∧ (∀ p ∈ news', p.1 ∉ [s₁.heap.objs.size]) ∧ (D, o) ∈ news' ∧ J (i + 1) m' news' := by
      rintro ⟨m', news', e1, e2, F', N', hoff', hk', hm⟩
      refine ⟨m', news', e1, e2, F', fun p hp => ?_, fun p hp hq => hoff' p hp (List.mem_singleton.mp hq), hk', hm⟩
      rcases List.mem_append.mp hp with hp | hp
      · rcases hsub p hp with rfl | rfl
        · exact N' _ (.head _)
        · exact N' _ (.tail _ hk')
      · exact N' _ (.tail _ hp)
    cases f with
    | ret v => exact p
    | brk => exact p
    | next => exact fin p
    | cont => exact fin p
  · rintro m' news' s' hos hga F' N' _ ⟨hk', hJ⟩
    exact done m' news' s' hos hga hJ hk' F' N'
end
end
section
open PySem PySem.W PySem.Calls PyProof.Rows PySem.Builtin PySem.Builtin.Str
/-- are two lists one -/
noncomputable def beqL : List Nat → List Nat → Bool
  | [], [] => true
  | a :: r, b :: q => Nat.beq a b && beqL r q
  | _, _ => false
theorem beqL_iff : ∀ {a b : List Nat}, beqL a b = true ↔ a = b
  | [], [] => by simp [beqL]
  | [], _ :: _ => by simp [beqL]
  | _ :: _, [] => by simp [beqL]
  | a :: r, b :: q => by
    rw [beqL, Bool.and_eq_true, Nat.beq_eq, beqL_iff (a := r) (b := q)]
    simp
/-- does the word stand in the text at i, and end by ep -/
noncomputable def atL (tx w : List Nat) (ep i : Nat) : Bool := Nat.ble (i + w.length) ep && beqL ((tx.drop i).take w.length) w
theorem atL_iff (tx w : List Nat) (ep i : Nat) : atL tx w ep i = true ↔ StrLaws.At (mk tx) (mk w) ep i := by
  rw [at_iff]
  unfold atL
  rw [Bool.and_eq_true, Nat.ble_eq, beqL_iff]
/-- the first place from i on, k places at most -/
noncomputable def findL (tx w : List Nat) (ep : Nat) : Nat → Nat → Option Nat
  | 0, _ => none
  | k + 1, i => bif atL tx w ep i then some i else findL tx w ep k (i + 1)
theorem findL_none {tx w : List Nat} {ep : Nat} : ∀ {k i : Nat}, (∀ j, i ≤ j → j < i + k → ¬ StrLaws.At (mk tx) (mk w) ep j) → findL tx w ep k i = none
  | 0, _, _ => rfl
  | k + 1, i, h => by
    have h1 : atL tx w ep i = false := Bool.eq_false_iff.mpr fun e => h i (Nat.le_refl _) (by omega) ((atL_iff tx w ep i).mp e)
    rw [findL, h1]
    exact findL_none fun j h2 h3 => h j (by omega) (by omega)
theorem findL_some {tx w : List Nat} {ep a : Nat} (ha : StrLaws.At (mk tx) (mk w) ep a) : ∀ {k i : Nat}, i ≤ a → a < i + k → (∀ j, i ≤ j → j < a → ¬ StrLaws.At (mk tx) (mk w) ep j) → findL tx w ep k i = some a
  | 0, _, h1, h2, _ => absurd h2 (by omega)
  | k + 1, i, h1, h2, h => by
    rw [findL]
    by_cases e : i = a
    · subst e
      rw [(atL_iff tx w ep i).mpr ha]; rfl
    · have h3 : atL tx w ep i = false := Bool.eq_false_iff.mpr fun e2 => h i (Nat.le_refl _) (by omega) ((atL_iff tx w ep i).mp e2)
      rw [h3]
      exact findL_some ha (by omega) (by omega) fun j h4 h5 => h j (by omega) h5
noncomputable def intL : Option Nat → Int
  | some i => i
  | none => -1
theorem find4_L (tx w : List Nat) (sp ep : Nat) (h : sp ≤ ep) (he : ep ≤ tx.length) : find4 (mk tx) (mk w) sp ep = intL (findL tx w ep (ep + 1 - sp) sp) := by
  have hl : (mk tx).length = tx.length := mk_len tx
  unfold find4
  rw [fromIdx, fromIdx, Nat.min_eq_left (by omega), StrLaws.occ_eq]
  rcases StrLaws.occ_first (mk tx) (mk w) ep 1 (Nat.le_refl 1) (List.range' sp (ep + 1 - sp)) sp (fun i hi => by have := List.mem_range'_1.mp hi; omega) with ⟨h0, hn⟩ | ⟨pre, a, post, e, h0, ha, hn⟩
  · rw [h0, findL_none fun j h1 h2 => hn j (by rw [List.mem_range'_1]; omega)]
    rfl
  · have hs := StrLaws.range'_split_from e
    have hm : a ∈ List.range' sp (ep + 1 - sp) := by rw [e]; simp
    have hm2 := List.mem_range'_1.mp hm
    rw [findL_some ha (by omega) (by omega) fun j h1 h2 => hn j (hs.2 j h1 h2)]
    generalize (forIn (List.range' sp (ep + 1 - sp)) ((#[] : Array Nat), sp) (StrLaws.occBody (mk tx) (mk w) ep 1)).run.fst = arr at h0
    have h1 : arr.toList[0]? = some a := by simpa using h0
    cases hL : arr.toList with
    | nil => rw [hL] at h1; cases h1
    | cons b t => rw [hL] at h1; simp at h1; rw [h1]; rfl
theorem findL_le {tx w : List Nat} {ep i : Nat} : ∀ {k s : Nat}, findL tx w ep k s = some i → i + w.length ≤ ep
  | 0, _, h => by cases h
  | k + 1, s, h => by
    rw [findL] at h
    cases h1 : atL tx w ep s with
    | true =>
      rw [h1] at h
      obtain rfl := Option.some.inj h
      unfold atL at h1
      rw [Bool.and_eq_true, Nat.ble_eq] at h1
      exact h1.1
    | false => rw [h1] at h; exact findL_le h
noncomputable def loopL (tx : List Nat) (ep : Nat) : List (List Nat) → Nat → Bool
  | [], _ => true
  | w :: r, sp => match findL tx w ep (ep + 1 - sp) sp with
    | some i => loopL tx ep r (i + w.length)
    | none => false
theorem emLoop_L (tx : List Nat) (ep : Nat) (he : ep ≤ tx.length) : ∀ (ws : List (List Nat)) (sp : Nat), sp ≤ ep → emLoop (mk tx) (ep : Int) (ws.map mk) (sp : Int) = loopL tx ep ws sp
  | [], _, _ => rfl
  | w :: r, sp, h => by
    rw [List.map_cons, emLoop, loopL, find4_L tx w sp ep h he]
    cases h1 : findL tx w ep (ep + 1 - sp) sp with
    | none => rfl
    | some i =>
      show (if (i : Int) < 0 then false else emLoop (mk tx) (ep : Int) (r.map mk) ((i : Int) + ((mk w).length : Int))) = loopL tx ep r (i + w.length)
      rw [if_neg (by omega), mk_len, ← emLoop_L tx ep he r (i + w.length) (findL_le h1)]
      rfl
theorem sw_eq (w tx : List Nat) : Txt.startswith (mk tx) (mk w) = w.isPrefixOf tx := by
  unfold Txt.startswith
  rw [StrLaws.subAt_eq, mk_len w, mk_len tx]
  refine Bool.eq_iff_iff.mpr ?_
  rw [List.isPrefixOf_iff_prefix, List.prefix_iff_eq_take]
  constructor
  · intro h
    simp at h
    exact h.2.symm
  · intro h
    have : w.length ≤ tx.length := by have := congrArg List.length h; rw [List.length_take] at this; omega
    simp
    exact ⟨this, h.symm⟩
theorem ew_eq (w tx : List Nat) : Txt.endswith (mk tx) (mk w) = w.isSuffixOf tx := by
  unfold Txt.endswith
  rw [StrLaws.subAt_eq, mk_len w, mk_len tx]
  refine Bool.eq_iff_iff.mpr ?_
  rw [List.isSuffixOf_iff_suffix, List.suffix_iff_eq_drop]
  constructor
  · intro h
    simp at h
    obtain ⟨h1, h2⟩ := h
    rw [List.take_of_length_le (by rw [List.length_drop]; omega)] at h2
    exact h2.symm
  · intro h
    have : w.length ≤ tx.length := by have := congrArg List.length h; rw [List.length_drop] at this; omega
    simp
    exact ⟨by omega, by rw [List.take_of_length_le (by rw [List.length_drop]; omega)]; exact h.symm⟩
/-- the match behind the split -/
noncomputable def partsL (tx a b : List Nat) (mid : List (List Nat)) : Bool :=
  bif beqL (tx.take a.length) a && beqL (tx.drop (tx.length - b.length)) b && Nat.ble (a.length + b.length) tx.length then
    loopL tx (tx.length - b.length) ((bif a.isEmpty then [a] else []) ++ mid ++ (bif b.isEmpty then [b] else [])) a.length
  else false
theorem pre_L (w tx : List Nat) : beqL (tx.take w.length) w = w.isPrefixOf tx := by
  refine Bool.eq_iff_iff.mpr ?_
  rw [beqL_iff, List.isPrefixOf_iff_prefix, List.prefix_iff_eq_take]
  exact eq_comm
theorem suf_L (w tx : List Nat) : beqL (tx.drop (tx.length - w.length)) w = w.isSuffixOf tx := by
  refine Bool.eq_iff_iff.mpr ?_
  rw [beqL_iff, List.isSuffixOf_iff_suffix, List.suffix_iff_eq_drop]
  exact eq_comm
theorem parts_L (tx a b : List Nat) (mid : List (List Nat)) : emParts (mk tx) (mk a) (mk b) (mid.map mk) = partsL tx a b mid := by
  unfold emParts partsL
  have ha : (mk a).cps.isEmpty = a.isEmpty := by simp
  have hb : (mk b).cps.isEmpty = b.isEmpty := by simp
  rw [ha, hb, sw_eq, ew_eq, mk_len a, mk_len b, mk_len tx, pre_L, suf_L]
  cases h1 : a.isPrefixOf tx with
  | false =>
    have : a.isEmpty = false := by
      cases a with
      | nil => simp at h1
      | cons x r => rfl
    rw [this]; rfl
  | true =>
    cases h2 : b.isSuffixOf tx with
    | false =>
      have : b.isEmpty = false := by
        cases b with
        | nil => exact absurd (List.isSuffixOf_iff_suffix.mpr List.nil_suffix) (by rw [h2]; decide)
        | cons x r => rfl
      rw [this]; simp
    | true =>
      have hl := (List.isSuffixOf_iff_suffix.mp h2).length_le
      have hsp : (if (!a.isEmpty) = true then (a.length : Int) else 0) = ((a.length : Nat) : Int) := by cases a <;> simp
      have hep : (if (!b.isEmpty) = true then (tx.length : Int) - (b.length : Int) else (tx.length : Int)) = ((tx.length - b.length : Nat) : Int) := by
        cases b with
        | nil => simp
        | cons x r => simp only [List.isEmpty_cons, Bool.not_false, if_true]; omega
      have hli : (if (!a.isEmpty) = true then [] else [mk a]) ++ mid.map mk ++ (if (!b.isEmpty) = true then [] else [mk b]) = ((bif a.isEmpty then [a] else []) ++ mid ++ (bif b.isEmpty then [b] else [])).map mk := by
        cases a <;> cases b <;> simp
      simp only [Bool.not_true, Bool.and_false, Bool.false_eq_true, if_false, Bool.and_true, Bool.true_and]
      rw [hsp, hep, hli]
      by_cases hle : a.length + b.length ≤ tx.length
      · rw [if_neg (by omega), Nat.ble_eq.mpr hle, cond_true]
        exact emLoop_L tx _ (by omega) _ _ (by omega)
      · rw [if_pos (by omega), Bool.eq_false_iff.mpr fun e => hle (Nat.ble_eq.mp e), cond_false]
/-- a pattern of pieces -/
theorem em_pieces {p last tx : List Nat} {rest : List (List Nat)} (hp : ∀ q ∈ p :: rest, 46 ∉ q) (hl : 46 ∉ last) : em (mk ((p :: rest).flatMap (· ++ [46, 46, 46]) ++ last)) (mk tx) = partsL tx p last rest := by
  obtain ⟨h1, h2⟩ := split_pieces (p :: rest) last hp hl (by simp)
  unfold em
  rw [dots_mk, h1, h2]
  show emParts (mk tx) (mk p) ((rest.map mk ++ [mk last]).getLastD Str.empty) (rest.map mk ++ [mk last]).dropLast = _
  have e1 : (rest.map mk ++ [mk last]).getLastD Str.empty = mk last := by simp
  have e2 : (rest.map mk ++ [mk last]).dropLast = rest.map mk := by simp
  rw [e1, e2]
  exact parts_L tx p last rest
/-- a pattern without dots -/
theorem em_plain {w tx : List Nat} (hw : 46 ∉ w) : em (mk w) (mk tx) = beqL w tx := by
  have h : (occurrences (mk w) (mk [46, 46, 46]) 0 (mk w).length 1).isEmpty = true := by
    cases e : (occurrences (mk w) (mk [46, 46, 46]) 0 (mk w).length 1).isEmpty with
    | true => rfl
    | false =>
      obtain ⟨i, hi⟩ := (StrLaws.found_iff (mk w) (mk [46, 46, 46])).mp (by simpa using e)
      have := at_dot (x := mk w) (hi := (mk w).length) (i := i) ⟨hi.1, hi.2⟩
      exact absurd (List.mem_of_getElem? this) (by simpa using hw)
  unfold em
  rw [dots_mk, h]
  show (mk w == mk tx) = _
  refine Bool.eq_iff_iff.mpr ?_
  rw [beq_iff_eq, beqL_iff]
  constructor
  · intro e; simpa using congrArg (fun s : Str => s.cps.toList) e
  · intro e; rw [e]
theorem joinL_flat (a z : List Nat) : ∀ n : Nat, joinL [46, 46, 46] (List.replicate n a ++ [z]) = (List.replicate n a).flatMap (· ++ [46, 46, 46]) ++ z
  | 0 => rfl
  | n + 1 => by
    have ih := joinL_flat a z n
    rw [List.replicate_succ, List.cons_append, List.flatMap_cons]
    cases n with
    | zero => simp [joinL]
    | succ n =>
      rw [List.replicate_succ, List.cons_append] at ih ⊢
      show a ++ [46, 46, 46] ++ joinL [46, 46, 46] (a :: (List.replicate n a ++ [z])) = _
      rw [ih, List.append_assoc (a ++ [46, 46, 46])]
noncomputable def runL (tx : List Nat) (sz : Nat) : Bool :=
  let often := tx.length / sz
  let a := tx.take sz
  let z := tx.drop (tx.length - sz)
  let rest := tx.drop sz
  partsL tx a z (List.replicate (often - 2) a) &&
  !partsL tx a z (List.replicate (often - 1) a) &&
  (beqL (List.replicate often a).flatten tx == (tx.length == sz * often)) &&
  (partsL tx rest rest [] == (tx.length == 2 * sz)) &&
  (partsL tx [] [] [rest, rest] == (tx.length == 2 * sz))
noncomputable def runT (tx : List Nat) (sz : Nat) : Bool := runOK tx 0 tx.length sz
theorem runT_L {tx : List Nat} {sz : Nat} (h46 : 46 ∉ tx) (h1 : 1 ≤ sz) (h2 : 2 * sz ≤ tx.length) : runT tx sz = runL tx sz := by
  have e : sliceL tx 0 tx.length = tx := by unfold sliceL; simp
  unfold runT runOK runL
  rw [e]
  dsimp only
  have ha : 46 ∉ tx.take sz := fun h => h46 (List.mem_of_mem_take h)
  have hz : 46 ∉ tx.drop (tx.length - sz) := fun h => h46 (List.mem_of_mem_drop h)
  have hr : 46 ∉ tx.drop sz := fun h => h46 (List.mem_of_mem_drop h)
  have ho : 2 ≤ tx.length / sz := (Nat.le_div_iff_mul_le (by omega)).mpr h2
  generalize tx.length / sz = often at ho
  obtain ⟨n, rfl⟩ : ∃ n, often = n + 2 := ⟨often - 2, by omega⟩
  have hrep : ∀ k, ∀ q ∈ List.replicate k (tx.take sz), 46 ∉ q := fun k q hq => List.eq_of_mem_replicate hq ▸ ha
  have r0 : em (mkS (joinL [46, 46, 46] (List.replicate (n + 2 - 1) (tx.take sz) ++ [tx.drop (tx.length - sz)]))) (mkS tx) = partsL tx (tx.take sz) (tx.drop (tx.length - sz)) (List.replicate (n + 2 - 2) (tx.take sz)) := by
    rw [joinL_flat]
    exact em_pieces (hrep (n + 1)) hz
  have r1 : em (mkS (joinL [46, 46, 46] (List.replicate (n + 2) (tx.take sz) ++ [tx.drop (tx.length - sz)]))) (mkS tx) = partsL tx (tx.take sz) (tx.drop (tx.length - sz)) (List.replicate (n + 2 - 1) (tx.take sz)) := by
    rw [joinL_flat]
    exact em_pieces (hrep (n + 2)) hz
  have r2 : em (mkS (List.replicate (n + 2) (tx.take sz)).flatten) (mkS tx) = beqL (List.replicate (n + 2) (tx.take sz)).flatten tx := em_plain fun h => by
    obtain ⟨q, hq, hm⟩ := List.mem_flatten.mp h
    exact hrep _ q hq hm
  have r3 : em (mkS (tx.drop sz ++ [46, 46, 46] ++ tx.drop sz)) (mkS tx) = partsL tx (tx.drop sz) (tx.drop sz) [] := by
    have := em_pieces (p := tx.drop sz) (last := tx.drop sz) (tx := tx) (rest := []) (fun q hq => List.mem_singleton.mp hq ▸ hr) hr
    rw [← this]
    simp [mkS]
  have r4 : em (mkS ([46, 46, 46] ++ tx.drop sz ++ [46, 46, 46] ++ tx.drop sz ++ [46, 46, 46])) (mkS tx) = partsL tx [] [] [tx.drop sz, tx.drop sz] := by
    have := em_pieces (p := []) (last := []) (tx := tx) (rest := [tx.drop sz, tx.drop sz]) (fun q hq => by
      simp only [List.mem_cons, List.not_mem_nil, or_false] at hq
      rcases hq with rfl | rfl | rfl
      · simp
      · exact hr
      · exact hr) (by simp)
    rw [← this]
    simp [mkS]
  rw [r0, r1, r2, r3, r4]
end
section
open PySem PySem.W PySem.Calls PyProof.Rows PySem.Builtin PySem.Builtin.Str
theorem loop_nil {got : Str} {ep : Nat} (he : ep ≤ got.length) : ∀ (n : Nat) (sp : Nat), sp ≤ ep → emLoop got (ep : Int) (List.replicate n (mk [])) (sp : Int) = true
  | 0, _, _ => rfl
  | n + 1, sp, h => by
    rw [List.replicate_succ, emLoop, find4_nil got sp ep h he, if_neg (by omega)]
    exact loop_nil he n sp h
/-- dots behind: the text starts so -/
theorem em_pre {w tx : List Nat} (hw : 46 ∉ w) : em (mk w ++ Str.ofString "...") (mk tx) = w.isPrefixOf tx := by
  have e1 : mk w ++ Str.ofString "..." = mk ([w].flatMap (· ++ [46, 46, 46]) ++ []) := by rw [dots_mk, mk_append]; simp
  obtain ⟨h1, h2⟩ := split_pieces [w] [] (fun p hp => List.mem_singleton.mp hp ▸ hw) (by simp) (by simp)
  rw [e1]
  unfold em
  rw [dots_mk, h1, h2]
  show emParts (mk tx) (mk w) (mk []) [] = _
  unfold emParts
  have ha : (mk w).cps.isEmpty = w.isEmpty := by simp
  have hb : (mk []).cps.isEmpty = true := rfl
  rw [ha, hb, sw_eq, mk_len w, mk_len tx]
  cases w with
  | nil =>
    show (if (0 : Int) > (tx.length : Int) then false else emLoop (mk tx) (tx.length : Int) (List.replicate 2 (mk [])) ((0 : Nat) : Int)) = _
    rw [if_neg (by omega)]
    exact loop_nil (by rw [mk_len]; omega) 2 0 (by omega)
  | cons a r =>
    cases h : (a :: r).isPrefixOf tx with
    | false => rfl
    | true =>
      have hl := (List.isPrefixOf_iff_prefix.mp h).length_le
      show (if ((a :: r).length : Int) > (tx.length : Int) then false else emLoop (mk tx) (tx.length : Int) (List.replicate 1 (mk [])) (((a :: r).length : Nat) : Int)) = _
      rw [if_neg (by omega)]
      exact loop_nil (by rw [mk_len]; omega) 1 _ hl
/-- dots ahead: the text ends so -/
theorem em_suf {w tx : List Nat} (hw : 46 ∉ w) : em (Str.ofString "..." ++ mk w) (mk tx) = w.isSuffixOf tx := by
  have e1 : Str.ofString "..." ++ mk w = mk ([[]].flatMap (· ++ [46, 46, 46]) ++ w) := by rw [dots_mk, mk_append]; rfl
  obtain ⟨h1, h2⟩ := split_pieces [[]] w (fun p hp => by rw [List.mem_singleton.mp hp]; simp) hw (by simp)
  rw [e1]
  unfold em
  rw [dots_mk, h1, h2]
  show emParts (mk tx) (mk []) (mk w) [] = _
  unfold emParts
  have ha : (mk w).cps.isEmpty = w.isEmpty := by simp
  have hb : (mk []).cps.isEmpty = true := rfl
  rw [ha, hb, ew_eq, mk_len w, mk_len tx]
  cases w with
  | nil =>
    show (if (0 : Int) > (tx.length : Int) then false else emLoop (mk tx) (tx.length : Int) (List.replicate 2 (mk [])) ((0 : Nat) : Int)) = _
    rw [if_neg (by omega)]
    rw [loop_nil (by rw [mk_len]; omega) 2 0 (by omega)]
    exact (List.isSuffixOf_iff_suffix.mpr (List.nil_suffix)).symm
  | cons a r =>
    cases h : (a :: r).isSuffixOf tx with
    | false => rfl
    | true =>
      have hl := (List.isSuffixOf_iff_suffix.mp h).length_le
      show (if (0 : Int) > (tx.length : Int) - ((a :: r).length : Int) then false else emLoop (mk tx) ((tx.length : Int) - ((a :: r).length : Int)) (List.replicate 1 (mk [])) ((0 : Nat) : Int)) = _
      rw [if_neg (by omega), show (tx.length : Int) - ((a :: r).length : Int) = ((tx.length - (a :: r).length : Nat) : Int) by omega]
      exact loop_nil (by rw [mk_len]; omega) 1 0 (by omega)
/-- the first size at which the text is alike to itself -/
noncomputable def pM (tx : List Nat) : Nat → Nat → Nat
  | 0, s => s
  | d + 1, s => bif beqL (tx.drop s) (tx.take (tx.length - s)) then s else pM tx d (s + 1)
theorem want_pM {tx : List Nat} (h46 : 46 ∉ tx) (b : Bool) {s : Nat} (hs : s ≤ tx.length) : em (wantS b tx s) (mkS tx) = beqL (tx.drop s) (tx.take (tx.length - s)) := by
  unfold wantS
  have hd : (tx.drop s).length = tx.length - s := List.length_drop
  have ht : (tx.take (tx.length - s)).length = tx.length - s := by rw [List.length_take]; omega
  cases b with
  | true =>
    refine (em_suf fun h => h46 (List.mem_of_mem_take h)).trans (Bool.eq_iff_iff.mpr ?_)
    rw [List.isSuffixOf_iff_suffix, List.suffix_iff_eq_drop, ht, beqL_iff, show tx.length - (tx.length - s) = s by omega]
    exact eq_comm
  | false =>
    refine (em_pre fun h => h46 (List.mem_of_mem_drop h)).trans (Bool.eq_iff_iff.mpr ?_)
    rw [List.isPrefixOf_iff_prefix, List.prefix_iff_eq_take, hd, beqL_iff]
theorem perS_pM {tx : List Nat} (h46 : 46 ∉ tx) (b : Bool) : ∀ d s, s + d ≤ tx.length → perS b tx d s = pM tx d s
  | 0, _, _ => rfl
  | d + 1, s, h => by
    rw [perS, pM, want_pM h46 b (by omega), perS_pM h46 b d (s + 1) (by omega)]
    cases beqL (tx.drop s) (tx.take (tx.length - s)) <;> rfl
noncomputable def perP (ws : List Nat) (f l : Nat) : Nat := pM (sliceL ws f l) (l - f - 1) 1
theorem perF_P {ws : List Nat} (h46 : 46 ∉ ws) {f l : Nat} (hfl : f < l) (hl : l ≤ ws.length) : perF ws f l = perP ws f l := by
  unfold perF perP
  have hlen : (sliceL ws f l).length = l - f := by unfold sliceL; rw [List.length_take, List.length_drop]; omega
  exact perS_pM (fun h => h46 (List.mem_of_mem_drop (List.mem_of_mem_take h))) _ _ _ (by change _ ≤ (sliceL ws f l).length; rw [hlen]; omega)
noncomputable def perTabP (ws : List Nat) : List (List Nat) := (List.range 8).map fun f => (List.range 9).map fun l => bif Nat.blt f l then perP ws f l else 0
theorem perTab_P {ws : List Nat} (h46 : 46 ∉ ws) (hw : ws.length = 8) : perTab ws = perTabP ws := by
  unfold perTab perTabP
  refine List.map_congr_left fun f hf => List.map_congr_left fun l hl => ?_
  have h1 := List.mem_range.mp hf
  have h2 := List.mem_range.mp hl
  by_cases h : f < l
  · have hb : Nat.blt f l = true := by unfold Nat.blt; exact Nat.ble_eq.mpr h
    rw [if_pos h, perF_P h46 h (by omega), hb]; rfl
  · have hb : Nat.blt f l = false := by unfold Nat.blt; exact Bool.eq_false_iff.mpr fun e => h (Nat.ble_eq.mp e)
    rw [if_neg h, hb]; rfl
theorem runOK_T {ws : List Nat} {f l sz : Nat} (h : runT (sliceL ws f l) sz = true) : runOK ws f l sz = true := by
  unfold runT at h
  have e : sliceL (sliceL ws f l) 0 (sliceL ws f l).length = sliceL ws f l := by
    generalize sliceL ws f l = tx
    unfold sliceL; simp
  unfold runOK at h ⊢
  rw [e] at h
  exact h
noncomputable def allW : Nat → List (List Nat)
  | 0 => [[]]
  | n + 1 => (allW n).flatMap fun w => [97 :: w, 65 :: w]
theorem allW_mem : ∀ {w : List Nat}, two w = true → w ∈ allW w.length
  | [], _ => .head _
  | a :: r, h => by
    have h' : (a == 65 || a == 97) = true ∧ two r = true := by unfold two at h ⊢; rw [List.all_cons, Bool.and_eq_true] at h; exact h
    refine List.mem_flatMap.mpr ⟨r, allW_mem h'.2, ?_⟩
    have := h'.1
    simp only [Bool.or_eq_true, beq_iff_eq] at this
    rcases this with rfl | rfl <;> simp
noncomputable def runAll (n : Nat) : Bool := (allW n).all fun tx => let p := pM tx (n - 1) 1; bif Nat.ble (2 * p) n then runL tx p else true
theorem run2 : runAll 2 = true := by decide +kernel
theorem run3 : runAll 3 = true := by decide +kernel
theorem run4 : runAll 4 = true := by decide +kernel
theorem run5 : runAll 5 = true := by decide +kernel
theorem run6 : runAll 6 = true := by decide +kernel
theorem run7 : runAll 7 = true := by decide +kernel
theorem run8 : runAll 8 = true := by decide +kernel
theorem runs_all {n : Nat} (h2 : 2 ≤ n) (h8 : n ≤ 8) : runAll n = true := by
  have := (by decide : ∀ n < 9, 2 ≤ n → n = 2 ∨ n = 3 ∨ n = 4 ∨ n = 5 ∨ n = 6 ∨ n = 7 ∨ n = 8) n (Nat.lt_succ_of_le h8) h2
  rcases this with rfl | rfl | rfl | rfl | rfl | rfl | rfl
  · exact run2
  · exact run3
  · exact run4
  · exact run5
  · exact run6
  · exact run7
  · exact run8
noncomputable def okEP (ws : List Nat) : Bool := okT ws 0 && okT ws 1 && okE ws (perTabP ws)
noncomputable def chk (z : List Nat) : Bool := (allW 5).all fun w => okEP (w ++ z)
theorem chk0 : chk [97, 97, 97] = true := by decide +kernel
theorem chk1 : chk [97, 97, 65] = true := by decide +kernel
theorem chk2 : chk [97, 65, 97] = true := by decide +kernel
theorem chk3 : chk [97, 65, 65] = true := by decide +kernel
theorem chk4 : chk [65, 97, 97] = true := by decide +kernel
theorem chk5 : chk [65, 97, 65] = true := by decide +kernel
theorem chk6 : chk [65, 65, 97] = true := by decide +kernel
theorem chk7 : chk [65, 65, 65] = true := by decide +kernel
end
section
open PySem PySem.W PySem.Calls PyProof.Rows PySem.Builtin PySem.Builtin.Str
theorem two_app {a b : List Nat} (h : two (a ++ b) = true) : two a = true ∧ two b = true := by
  unfold two at h ⊢; rw [List.all_append, Bool.and_eq_true] at h; exact h
theorem okEP_all {ws : List Nat} (h2 : two ws = true) (hw : ws.length = 8) : okEP ws = true := by
  have e : ws = ws.take 5 ++ ws.drop 5 := (List.take_append_drop 5 ws).symm
  rw [e] at h2
  obtain ⟨h3, h4⟩ := two_app h2
  have m := allW_mem h3
  rw [List.length_take, hw] at m
  change _ ∈ allW 5 at m
  have hd : (ws.drop 5).length = 3 := by rw [List.length_drop, hw]
  rw [e]
  match hz : ws.drop 5, hd with
  | [x, y, z], _ =>
    rw [hz] at h4
    have k : ∀ c ∈ [x, y, z], c = 65 ∨ c = 97 := fun c hc => by
      have := List.all_eq_true.mp h4 c hc
      simpa using this
    have key : chk [x, y, z] = true := by
      rcases k x (by simp) with rfl | rfl <;> rcases k y (by simp) with rfl | rfl <;> rcases k z (by simp) with rfl | rfl
      · exact chk7
      · exact chk6
      · exact chk5
      · exact chk4
      · exact chk3
      · exact chk2
      · exact chk1
      · exact chk0
    exact List.all_eq_true.mp key _ m
theorem okK_all {ws : List Nat} (h2 : two ws = true) (hw : ws.length = 8) : okK ws (perTabP ws) = true := by
  unfold okK
  refine List.all_eq_true.mpr fun f hf => List.all_eq_true.mpr fun l hl => ?_
  have hf8 := List.mem_range.mp hf
  have hl9 := List.mem_range.mp hl
  by_cases hc : (f + 2 ≤ l && isRun (perG (perTabP ws)) f l) = true
  · rw [if_pos hc]
    rw [Bool.and_eq_true, decide_eq_true_eq] at hc
    obtain ⟨h1, hr⟩ := hc
    have hpg : perG (perTabP ws) f l = perP ws f l := by
      unfold perG perTabP
      rw [show ((List.range 8).map fun f => (List.range 9).map fun l => bif Nat.blt f l then perP ws f l else 0).getD f [] = (List.range 9).map fun l => bif Nat.blt f l then perP ws f l else 0 by rw [List.getD_eq_getElem?_getD, List.getElem?_map, List.getElem?_range hf8]; rfl]
      rw [List.getD_eq_getElem?_getD, List.getElem?_map, List.getElem?_range hl9]
      show (bif Nat.blt f l then perP ws f l else 0) = _
      have hb : Nat.blt f l = true := by unfold Nat.blt; exact Nat.ble_eq.mpr (by omega)
      rw [hb]; rfl
    unfold isRun at hr
    rw [Bool.and_eq_true, Bool.and_eq_true, decide_eq_true_eq, hpg] at hr
    have hle := hr.1.1
    have hle' : 2 * pM (sliceL ws f l) (l - f - 1) 1 ≤ l - f := by change 2 * perP ws f l ≤ l - f; omega
    rw [hpg]
    have hlen : (sliceL ws f l).length = l - f := by unfold sliceL; rw [List.length_take, List.length_drop]; omega
    have h2s : two (sliceL ws f l) = true := by
      unfold two at h2 ⊢
      exact List.all_eq_true.mpr fun c hc => List.all_eq_true.mp h2 c (List.mem_of_mem_drop (List.mem_of_mem_take hc))
    have hm := allW_mem h2s
    rw [hlen] at hm
    have h3 := List.all_eq_true.mp (runs_all (n := l - f) (by omega) (by omega)) _ hm
    have hb : Nat.ble (2 * pM (sliceL ws f l) (l - f - 1) 1) (l - f) = true := Nat.ble_eq.mpr (by change 2 * perP ws f l ≤ l - f; omega)
    simp only [hb, cond_true] at h3
    have hp1 : ∀ d k, 1 ≤ k → 1 ≤ pM (sliceL ws f l) d k := fun d => by
      induction d with
      | zero => exact fun k hk => hk
      | succ d ih =>
        intro k hk
        rw [pM]
        cases beqL ((sliceL ws f l).drop k) ((sliceL ws f l).take ((sliceL ws f l).length - k)) with
        | true => exact hk
        | false => exact ih (k + 1) (Nat.le_succ_of_le hk)
    exact runOK_T ((runT_L (fun h => by have := List.all_eq_true.mp h2s 46 h; simp at this) (hp1 _ _ (Nat.le_refl _)) (by rw [hlen]; exact hle')).trans h3)
  · rw [if_neg hc]
/-- the plain law -/
theorem law_words {ws : List Nat} (h2 : two ws = true) (hw : ws.length = 8) : lawOK ws = true := by
  have h46 : 46 ∉ ws := fun h => by have := List.all_eq_true.mp h2 46 h; simp at this
  have h := okEP_all h2 hw
  unfold okEP at h
  unfold lawOK
  rw [perTab_P h46 hw]
  rw [Bool.and_eq_true] at h
  dsimp only
  rw [Bool.and_eq_true, Bool.and_eq_true]
  exact ⟨⟨h.1, okK_all h2 hw⟩, h.2⟩
end
section
open PySem PySem.W PySem.Calls PyProof.Rows PySem.Builtin PySem.Builtin.Str
theorem bits_len (ns : List Int) : (bitsS ns).length = 8 := by unfold bitsS; rw [bump_len]; rfl
theorem word_len (tn : Int) (ns : List Int) : (wordS tn (bitsS ns)).length = 8 := by unfold wordS; rw [List.length_map, bits_len]
theorem letA_flip (z : Int) : letA (z + 1) = flipL (letA z) := by
  unfold letA flipL
  have h1 := Int.fmod_eq_emod_of_nonneg z (show (0 : Int) ≤ 2 by decide)
  have h2 := Int.fmod_eq_emod_of_nonneg (z + 1) (show (0 : Int) ≤ 2 by decide)
  rcases mod2_cases z with h | h
  · have : (z + 1).fmod 2 = 1 := by omega
    rw [h, this]; rfl
  · have : (z + 1).fmod 2 = 0 := by omega
    rw [h, this]; rfl
theorem word_turn (zs : List Int) : ∀ i : Nat, i < 2 → wordS (i : Int) zs = wordT (wordS 0 zs) i
  | 0, _ => rfl
  | 1, _ => by
    show zs.map (fun z => letA (z + 1)) = (zs.map fun z => letA (z + 0)).map flipL
    rw [List.map_map]
    exact List.map_congr_left fun z _ => by rw [Function.comp_apply, Int.add_zero]; exact letA_flip z
  | n + 2, h => absurd h (by omega)
theorem pull_sub : ∀ (st : List (Nat × List Nat)) (h : List Nat), ∀ e ∈ (pull st h).2, e ∈ st
  | [], _, e, he => he
  | (g, t) :: r, h, e, he => by
    rw [pull] at he
    split at he
    · exact .tail _ (pull_sub r (h ++ t) e he)
    · exact he
theorem piled_gap (ws : List Nat) : ∀ i, ∀ e ∈ (piledN ws i).1, e.1 ≤ 7
  | 0, e, he => nomatch he
  | i + 1, e, he => by
    rcases List.mem_cons.mp he with rfl | he
    · show 7 - i ≤ 7; omega
    · exact piled_gap ws i e (pull_sub _ _ e he)
theorem tot_mem : ∀ {st : List (Nat × List Nat)} {e : Nat × List Nat}, e ∈ st → e.2.length ≤ total st
  | a :: r, e, h => by
    rcases List.mem_cons.mp h with rfl | h
    · simp [total]
    · have := tot_mem h; simp [total] at this ⊢; omega
theorem mkS_len (l : List Nat) : (mkS l).length = l.length := by show l.toArray.size = _; simp
theorem piled_z {ws : List Nat} {rows : List Row4} (h : RowsOf rows (piledN ws 8).1) : ∀ r ∈ rows, r.x.length ≤ 1000 ∧ r.y.length ≤ 1000 := by
  intro r hr
  have h2 : (r.x, r.y) ∈ (piledN ws 8).1.reverse.map fun e => (spc e.1, mkS e.2) := by
    rw [← h]; exact List.mem_map.mpr ⟨r, hr, rfl⟩
  obtain ⟨e, he, e2⟩ := List.mem_map.mp h2
  have he' := List.mem_reverse.mp he
  have h3 := tot_mem he'
  rw [(piled_inv ws 8).2.1] at h3
  have h4 := spc_len (piled_gap ws 8 e he')
  obtain ⟨e3, e4⟩ := Prod.mk.inj e2
  rw [← e3, ← e4, mkS_len]
  omega
theorem piled_off {ws : List Nat} {tn : Nat} (h : okT ws tn = true) : offS (wordT ws tn) (piledN (wordT ws tn) 8).1 0 [98] = true := by
  unfold okT at h
  rw [Bool.and_eq_true] at h
  exact h.1
theorem head_ok {ws : List Nat} {tn p : Nat} (h : okT ws tn = true) (hp : p < 8) : 1 ≤ ((headsT ws tn).getD p []).length ∧ p + ((headsT ws tn).getD p []).length ≤ 8 ∧ two ((headsT ws tn).getD p []) = true := by
  unfold okT at h
  rw [Bool.and_eq_true] at h
  have := List.all_eq_true.mp h.2 p (List.mem_range.mpr hp)
  simp only [Bool.and_eq_true, decide_eq_true_eq] at this
  exact ⟨this.1.1, this.1.2, this.2⟩
theorem heads_len (ws : List Nat) (tn : Nat) : (headsT ws tn).length = 8 := piled_hlen _ 8
/-- rows of the table -/
noncomputable def RowsT (rows : List Row4) (rl : List (List Nat × List Nat)) : Prop := rows.map (fun r => (r.x, r.y)) = rl.map fun e => (mkS e.1, mkS e.2)
theorem RowsT.len {rows : List Row4} {rl : List (List Nat × List Nat)} (h : RowsT rows rl) : rows.length = rl.length := by
  have := congrArg List.length h; simpa using this
theorem RowsT.snoc {rows : List Row4} {rl : List (List Nat × List Nat)} {a : Addr} {x y : Str} {t u : Tok} {hd sp : List Nat} (h : RowsT rows rl) (hx : x = mkS hd) (hy : y = mkS sp) : RowsT (rows ++ [⟨a, x, t, y, u⟩]) (rl ++ [(hd, sp)]) := by
  unfold RowsT at h ⊢
  rw [List.map_append, List.map_append, h, hx, hy]; rfl
theorem lower_two {l : List Nat} (h : two l = true) : Txt.lower (mkS l) = mkS (lowL l) := by
  have hc : ∀ c ∈ l, c = 65 ∨ c = 97 := fun c hc => by
    have := List.all_eq_true.mp h c hc
    simpa using this
  unfold mkS lowL
  rw [lower_ascii fun c h' => by have := hc c (by simpa using h'); omega]
  simp only [List.map_toArray]
  congr 2
  refine List.map_congr_left fun c h' => ?_
  rcases hc c h' with rfl | rfl <;> rfl
theorem two_clean {l : List Nat} (h : two l = true) (hl : l.length ≤ 8) : Clean (mkS l) := by
  refine ⟨by rw [mkS_len]; omega, fun c hc => ?_⟩
  have : c ∈ l := by simpa [mkS] using hc
  have := List.all_eq_true.mp h c this
  simp at this
  omega
theorem led_hl {prog : Program} {w : World} {A : Around} {E : Value → Shared → Prop} {s : Shared} {h₀ : Heap} {L : Addr} {news : Led} {value slice : Expr} {D : Addr} {n k : Nat} {gl : List (Str × Tok)} {hl : List (List Nat)} {u : Tok} {Q : Value → Shared → Prop} (N : News h₀ L s.heap news) (hm : (D, listOf (strValues gl).toArray n) ∈ news) (hg : gl.map (·.1) = hl.map mkS) (hk : k < hl.length) (hz : hl.length ≤ 1000)
    (h : ∀ t, Q (.str (mkS (hl.getD k [])) t) s)
    (hs : subscripted slice false (.ref D) (.int (k : Int) u) = operate [.ref D, .int (k : Int) u] (getItem (.ref D) (.int (k : Int) u)) := by with_unfolding_all rfl) :
    wpAny (model prog w) A (subscriptTail value slice (.ref D) (.int (k : Int) u)) Q E s := by
  have hl' : gl.length = hl.length := by have := congrArg List.length hg; simpa using this
  have hk' : k < gl.length := by omega
  refine led_item N hm (by omega) (by omega) (j := k) ?_ (v := .str gl[k].1 gl[k].2) ?_ ?_ hs
  · unfold seqIndex?
    have e : (strValues gl).length = gl.length := by simp [strValues]
    simp [e]; omega
  · simp [strValues, List.getElem?_eq_getElem hk']
  · have e : mkS (hl.getD k []) = gl[k].1 := by
      have := congrArg (·[k]?) hg
      simp only [List.getElem?_map, List.getElem?_eq_getElem hk', List.getElem?_eq_getElem hk, Option.map_some, Option.some.injEq] at this
      rw [List.getD_eq_getElem?_getD, List.getElem?_eq_getElem hk]; exact this.symm
    have := h gl[k].2
    rw [e] at this; exact this
theorem acc_ne {h₀ h : Heap} {L : Addr} {P D : Addr} {k : Int} {n : Nat} {rows : List Row4} {l l1 : Led} (N : News h₀ L h l1) (hA : AccAt 125 P D k n rows l1) (hs : ∀ p ∈ l, p ∈ l1) : ∀ p ∈ l, (∀ us j, p.2 ≠ accO 125 D us j) → p.1 ≠ P :=
  fun p hp hne => News.ne (o := p.2) N (hs p hp) hA.1 (hne _ _)
theorem TabAt.mv {C T TD HL : Addr} {P : Params} {n : Nat} {rows : List Row4} {X Y : Led} (H : TabAt C P T TD HL n rows X) (S : ∀ p ∈ X, p.2.cls ≠ .none → (∀ D us j, p.2 ≠ accO 125 D us j) → p ∈ Y) (hc : C ≠ 125) : TabAt C P T TD HL n rows Y := by
  obtain ⟨a, ⟨x, y, b⟩, c, d⟩ := H
  exact ⟨S _ a (fun e => by cases e) (fun D us j e => hc (Value.ref.inj (congrArg Obj.cls e))), ⟨x, y, S _ b (fun e => by cases e) (fun D us j e => by cases congrArg Obj.cls e)⟩, S _ c (fun e => by cases e) (fun D us j e => by cases congrArg Obj.cls e), fun r hr => S _ (d r hr) (fun e => by cases e) (fun D us j e => by cases congrArg Obj.cls e)⟩
theorem firstS_le (ws : List Nat) (sz : Nat) : ∀ f, firstS ws sz f ≤ f
  | 0 => Nat.le_refl _
  | f + 1 => by
    rw [firstS]
    split
    · exact Nat.le_succ_of_le (firstS_le ws sz f)
    · exact Nat.le_refl _
theorem lastS_le (ws : List Nat) (sz : Nat) : ∀ d l, l ≤ lastS ws sz d l ∧ lastS ws sz d l ≤ l + d
  | 0, l => ⟨Nat.le_refl _, Nat.le_refl _⟩
  | d + 1, l => by
    rw [lastS]
    split
    · have := lastS_le ws sz d (l + 1); omega
    · omega
theorem spc_eq {g : Nat} (h : g ≤ 7) : spc g = mkS (List.replicate g 32) :=
  (by decide +kernel : ∀ g < 8, spc g = mkS (List.replicate g 32)) g (Nat.lt_succ_of_le h)
theorem spot_eq {ws : List Nat} (hw : ws.length = 8) {f l : Nat} (hf : f ≤ 7) (hfl : f ≤ l) (hl : l ≤ 8) : spc f ++ Txt.slice ⟨ws.toArray⟩ (some (f : Int)) (some (l : Int)) = mkS (spotL ws f l) := by
  rw [slice_mid ws f l hfl (by omega), spc_eq hf]
  exact mkS_app _ _
theorem two_word (tn : Int) (zs : List Int) : two (wordS tn zs) = true := by
  unfold two wordS
  rw [List.all_eq_true]
  intro c hc
  obtain ⟨z, _, rfl⟩ := List.mem_map.mp hc
  unfold letA
  rcases mod2_cases (z + tn) with h | h <;> rw [h] <;> rfl
theorem slice_len {ws : List Nat} (hw : ws.length = 8) {f l : Nat} (hl : l ≤ 8) : (sliceL ws f l).length = l - f := by
  unfold sliceL; rw [List.length_take, List.length_drop]; omega
theorem spot_len {ws : List Nat} (hw : ws.length = 8) {f l : Nat} (hf : f ≤ l) (hl : l ≤ 8) : (spotL ws f l).length = l := by
  unfold spotL; rw [List.length_append, List.length_replicate, slice_len hw hl]; omega
theorem spot_clean {ws : List Nat} (hw : ws.length = 8) (h2 : two ws = true) {f l : Nat} (hf : f ≤ l) (hl : l ≤ 8) : Clean (mkS (spotL ws f l)) := by
  refine ⟨by rw [mkS_len, spot_len hw hf hl]; omega, fun c hc => ?_⟩
  have : c ∈ spotL ws f l := by simpa [mkS] using hc
  rcases List.mem_append.mp this with h | h
  · rw [List.eq_of_mem_replicate h]; decide
  · have := List.all_eq_true.mp h2 c (List.mem_of_mem_drop (List.mem_of_mem_take h))
    simp at this
    omega
theorem low_clean {l : List Nat} (h : two l = true) (hl : l.length ≤ 8) : Clean (Txt.lower (mkS l)) := by
  rw [lower_two h]
  refine ⟨by rw [mkS_len]; unfold lowL; rw [List.length_map]; omega, fun c hc => ?_⟩
  have : c ∈ lowL l := by simpa [mkS] using hc
  obtain ⟨d, hd, rfl⟩ := List.mem_map.mp this
  have := List.all_eq_true.mp h d hd
  simp at this
  rcases this with rfl | rfl <;> decide
/-- the names in the table are short words of two letters -/
noncomputable def NamesOK (rl : List (List Nat × List Nat)) : Prop := ∀ e ∈ rl, two e.1 = true ∧ e.1.length ≤ 8
theorem NamesOK.x {rows : List Row4} {rl : List (List Nat × List Nat)} (h : RowsT rows rl) (hn : NamesOK rl) : ∀ r ∈ rows, r.x.length ≤ 100 := by
  intro r hr
  have h2 : (r.x, r.y) ∈ rl.map fun e => (mkS e.1, mkS e.2) := by rw [← h]; exact List.mem_map.mpr ⟨r, hr, rfl⟩
  obtain ⟨e, he, e2⟩ := List.mem_map.mp h2
  rw [← (Prod.mk.inj e2).1, mkS_len]
  have := (hn e he).2; omega
theorem names_step {ws : List Nat} {hs : List (List Nat)} {rl : List (List Nat × List Nat)} {p : Nat} (h : NamesOK rl) (h1 : two (hs.getD p []) = true) (h2 : (hs.getD p []).length ≤ 8) : NamesOK (stepT ws hs rl p) := by
  unfold stepT
  dsimp only
  split
  · intro e he
    rcases List.mem_append.mp he with he | he
    · exact h e he
    · rw [List.mem_singleton.mp he]; exact ⟨h1, h2⟩
  · exact h
theorem names_P {ws : List Nat} {tn : Nat} (hok : okT ws tn = true) {rl : List (List Nat × List Nat)} (h : NamesOK rl) : ∀ p, p ≤ 8 → NamesOK (rowsP ws (headsT ws tn) rl p)
  | 0, _ => h
  | p + 1, hp => by
    have := head_ok hok (show p < 8 by omega)
    exact names_step (names_P hok h p (by omega)) this.2.2 (by omega)
theorem names_T {ws : List Nat} (h0 : okT ws 0 = true) (h1 : okT ws 1 = true) : ∀ i, i ≤ 2 → NamesOK (rowsT ws i)
  | 0, _ => fun e he => nomatch (show e ∈ ([] : List (List Nat × List Nat)) from he)
  | 1, _ => names_P h0 (fun e he => nomatch (show e ∈ ([] : List (List Nat × List Nat)) from he)) 8 (Nat.le_refl _)
  | 2, _ => names_P h1 (names_T h0 h1 1 (by decide)) 8 (Nat.le_refl _)
  | n + 3, h => absurd h (by omega)
theorem mkS_inj {a b : List Nat} (h : mkS a = mkS b) : a = b := by
  have h2 := congrArg (fun s : Str => s.cps.toList) h
  simpa [mkS] using h2
theorem mkS_beq (a b : List Nat) : (mkS a == mkS b) = (a == b) := by
  by_cases h : a = b
  · subst h; simp
  · rw [beq_eq_false_iff_ne.mpr h, beq_eq_false_iff_ne.mpr fun e => h (mkS_inj e)]
/-- what get_all tells of the table -/
theorem getAll_eq {rows : List Row4} {rl : List (List Nat × List Nat)} {nm : List Nat} (h : RowsT rows rl) (hn : NamesOK rl) (h2 : two nm = true) : getAll (mkS nm) rows = (getL rl nm).map mkS := by
  unfold getAll getL
  have e1 : (rows.filter fun r => Txt.lower r.x == Txt.lower (mkS nm)).map (·.y) = ((rows.map fun r => (r.x, r.y)).filter fun q => Txt.lower q.1 == Txt.lower (mkS nm)).map (·.2) := by
    rw [List.filter_map, List.map_map]; rfl
  rw [e1, h, List.filter_map, List.map_map, List.map_map]
  have e2 : rl.filter ((fun q : Str × Str => Txt.lower q.1 == Txt.lower (mkS nm)) ∘ fun e => (mkS e.1, mkS e.2)) = rl.filter fun r => lowL r.1 == lowL nm := by
    refine List.filter_congr fun e he => ?_
    rw [Function.comp_apply, lower_two (hn e he).1, lower_two h2, mkS_beq]
  rw [e2]
  rfl
theorem any_mkS (l : List (List Nat)) (x : List Nat) : (l.map mkS).any (· == mkS x) = l.contains x := by
  induction l with
  | nil => rfl
  | cons a r ih =>
    rw [List.map_cons, List.any_cons, ih, List.contains_cons, mkS_beq]
    congr 1
    by_cases h : a = x
    · subst h; rfl
    · rw [beq_eq_false_iff_ne.mpr h, beq_eq_false_iff_ne.mpr (Ne.symm h)]
theorem strs_ne_refs {hs : List (Str × Tok)} {rows : List Row4} {j n : Nat} (h : hs ≠ []) : listOf (strValues hs).toArray j ≠ listOf (rows.map fun r => Value.ref r.a).toArray n := by
  intro e
  have h1 := congrArg Obj.data e
  have h2 : (strValues hs).toArray = (rows.map fun r => Value.ref r.a).toArray := by
    injection h1
  have h3 := congrArg Array.toList h2
  cases hs with
  | nil => exact h rfl
  | cons a r =>
    cases rows with
    | nil => simp [strValues] at h3
    | cons b q => simp [strValues] at h3
theorem any_get {rows : List Row4} {rl : List (List Nat × List Nat)} {nm sp : List Nat} {l' : List (Str × Tok)} (hR : RowsT rows rl) (hn : NamesOK rl) (h2 : two nm = true) (hg : l'.map (·.1) = getAll (mkS nm) rows) : (l'.map (·.1)).any (· == mkS sp) = (getL rl nm).contains sp := by
  rw [hg, getAll_eq hR hn h2, any_mkS]
theorem stepT_yes {ws : List Nat} {hs : List (List Nat)} {rl : List (List Nat × List Nat)} {p z f l : Nat} {rows : List Row4} {l' : List (Str × Tok)} {sp : Str} (hz : z = (hs.getD p []).length) (hf : f = firstS ws z p) (hl : l = lastS ws z (8 - (p + z)) (p + z)) (hR : RowsT rows rl) (hn : NamesOK rl) (h2 : two (hs.getD p []) = true)
    (hsp : sp = mkS (spotL ws f l)) (hg : l'.map (·.1) = getAll (mkS (hs.getD p [])) rows) (hle : 2 * z + f ≤ l) (ha : (l'.map (·.1)).any (· == sp) = false) : stepT ws hs rl p = rl ++ [(hs.getD p [], spotL ws f l)] := by
  rw [hsp, any_get hR hn h2 hg] at ha
  subst hz hf hl
  unfold stepT
  exact if_pos ⟨hle, ha⟩
theorem stepT_in {ws : List Nat} {hs : List (List Nat)} {rl : List (List Nat × List Nat)} {p z f l : Nat} {rows : List Row4} {l' : List (Str × Tok)} {sp : Str} (hz : z = (hs.getD p []).length) (hf : f = firstS ws z p) (hl : l = lastS ws z (8 - (p + z)) (p + z)) (hR : RowsT rows rl) (hn : NamesOK rl) (h2 : two (hs.getD p []) = true)
    (hsp : sp = mkS (spotL ws f l)) (hg : l'.map (·.1) = getAll (mkS (hs.getD p [])) rows) (ha : (l'.map (·.1)).any (· == sp) = true) : stepT ws hs rl p = rl := by
  rw [hsp, any_get hR hn h2 hg] at ha
  subst hz hf hl
  unfold stepT
  exact if_neg fun e => by rw [e.2] at ha; cases ha
theorem stepT_no {ws : List Nat} {hs : List (List Nat)} {rl : List (List Nat × List Nat)} {p z f l : Nat} (hz : z = (hs.getD p []).length) (hf : f = firstS ws z p) (hl : l = lastS ws z (8 - (p + z)) (p + z)) (hle : ¬ 2 * z + f ≤ l) : stepT ws hs rl p = rl := by
  subst hz hf hl
  unfold stepT
  exact if_neg fun e => hle e.1
theorem two_vals {i : Nat} {v : Value} {a b : Tok} (h : [Value.int 0 a, Value.int 1 b][i]? = some v) : i < 2 ∧ ∃ t, v = .int (i : Int) t := by
  rcases i with _ | _ | i
  · exact ⟨by decide, a, (Option.some.inj h).symm⟩
  · exact ⟨by decide, b, (Option.some.inj h).symm⟩
  · simp at h
theorem rowsP_len (ws : List Nat) (hs : List (List Nat)) (rl : List (List Nat × List Nat)) : ∀ p, (rowsP ws hs rl p).length ≤ rl.length + p
  | 0 => Nat.le_refl _
  | p + 1 => by
    have := rowsP_len ws hs rl p
    show (stepT ws hs (rowsP ws hs rl p) p).length ≤ _
    unfold stepT
    dsimp only
    split
    · rw [List.length_append]; simp; omega
    · omega
theorem rowsT_len (ws : List Nat) : ∀ i, (rowsT ws i).length ≤ 8 * i
  | 0 => Nat.le_refl _
  | i + 1 => by
    have := rowsT_len ws i
    have := rowsP_len ws (headsT ws i) (rowsT ws i) 8
    show (rowsP ws (headsT ws i) (rowsT ws i) 8).length ≤ _
    omega
theorem law_all (ns : List Int) : lawOK (wordS 0 (bitsS ns)) = true := law_words (two_word _ _) (word_len _ _)
theorem law_t {ns : List Int} {i : Nat} (h : i < 2) : okT (wordS 0 (bitsS ns)) i = true := by
  have := law_all ns
  unfold lawOK at this
  simp only [Bool.and_eq_true] at this
  rcases i with _ | _ | i
  · exact this.1.1.1
  · exact this.1.1.2
  · omega
end
section
open PySem PySem.W PySem.Calls PyProof.Rows PySem.Builtin PySem.Builtin.Str
theorem rep_flat {x : Int} {n : Nat} (hx : x = (n : Int)) (v : Value) : (List.replicate x.toNat [v]).flatten = List.replicate n v := by
  subst hx
  rw [Int.toNat_natCast]
  induction n with
  | zero => rfl
  | succ n ih => rw [List.replicate_succ, List.flatten_cons, ih, List.replicate_succ]; rfl
theorem period_call (w : World) (mean) (mg mb) (x : Str) (z : Int) (ws : List Nat) (f l : Nat) (t tt : Tok) (hw : ws.length = 8) (hx : x = mkS (sliceL ws f l)) (hz : z = (f : Int).fmod 2) (hfl : f < l) (hl : l ≤ 8) :
    GClaim1 w mean mg mb 8 308 [.str x t, .int z tt] [] (fun _ _ => True) (fun h₀ L m news K => ∀ tk h' tk', Fr h₀ L h' m → News h₀ L h' news → K (.int (perF ws f l : Int) tk) h' tk') := by
  have hz2 : z = (if (f % 2 == 1) = true then 1 else 0) := by
    rw [hz, Int.fmod_eq_emod_of_nonneg _ (by decide)]
    by_cases h : f % 2 = 1
    · rw [if_pos (by simpa using h)]; omega
    · rw [if_neg (by simpa using h)]; omega
  have hlen := slice_len hw (f := f) hl
  subst hx hz2
  have H := period_ok w mean mg mb (sliceL ws f l) (by omega) (by omega) (f % 2 == 1) t tt
  rw [hlen] at H
  exact H
/-- the rows of ints -/
noncomputable def rowI (ws : List Nat) (f j : Nat) : List Int := List.replicate (f + 1) 0 ++ (List.range j).map fun x => (perF ws f (f + 1 + x) : Int)
theorem rowI_len (ws : List Nat) (f j : Nat) : (rowI ws f j).length = f + 1 + j := by unfold rowI; simp
theorem rowI_succ (ws : List Nat) (f j : Nat) : rowI ws f (j + 1) = rowI ws f j ++ [(perF ws f (f + 1 + j) : Int)] := by
  unfold rowI; rw [List.range_succ, List.map_append, List.append_assoc]; rfl
theorem ints_rep0 (n : Nat) (t : Tok) : IntsAre (List.replicate n (.int 0 t)) (List.replicate n 0) := by
  induction n with
  | zero => exact .nil
  | succ n ih => exact .cons 0 t ih
theorem rowI_zero (ws : List Nat) (f : Nat) (t : Tok) : IntsAre (List.replicate (f + 1) (.int 0 t)) (rowI ws f 0) := by
  have := ints_rep0 (f + 1) t
  unfold rowI
  rw [List.range_zero, List.map_nil, List.append_nil]; exact this
theorem but_turn {I R : Addr} {oI : Obj} {l₀ news X : Led} (hX : ∀ p ∈ (I, oI) :: news, p.1 ≠ R → p ∈ X) (hRI : I ≠ R) (hl : ∀ p ∈ l₀, p ∈ news) (hn : ∀ p ∈ l₀, p.1 ≠ R) (hoff : ∀ p ∈ news, p.1 ≠ I) : (I, oI) ∈ X ∧ ∀ p ∈ l₀, p ∈ but I X :=
  ⟨hX _ (.head _) hRI, fun p hp => mem_but.mpr ⟨hX _ (.tail _ (hl p hp)) (hn p hp), hoff p (hl p hp)⟩⟩
theorem ints_snoc : ∀ {vs : List Value} {ns : List Int} (n : Int) (t : Tok), IntsAre vs ns → IntsAre (vs ++ [.int n t]) (ns ++ [n])
  | _, _, n, t, .nil => .cons n t .nil
  | _, _, n, t, .cons k u r => .cons k u (ints_snoc n t r)
theorem ints_ne_refs {vs : List Value} {ns : List Int} {as : List Addr} {j n : Nat} (hi : IntsAre vs ns) (h : vs ≠ []) : listOf vs.toArray j ≠ listOf (as.map Value.ref).toArray n := by
  intro e
  have h1 := congrArg Obj.data e
  have h2 : vs.toArray = (as.map Value.ref).toArray := by injection h1
  have h3 := congrArg Array.toList h2
  cases hi with
  | nil => exact h rfl
  | cons k u r =>
    cases as with
    | nil => simp at h3
    | cons b q => simp at h3
/-- the table of periods -/
noncomputable def PerAt (ws : List Nat) (PL : Addr) (n i : Nat) (as : List Addr) (l : Led) : Prop :=
  (PL, listOf (as.map Value.ref).toArray n) ∈ l ∧ as.length = i ∧ ∀ f a, as[f]? = some a → ∃ vs k, (a, listOf (List.toArray vs) k) ∈ l ∧ IntsAre vs (rowI ws f (8 - f))
theorem rowI_ne {ws : List Nat} {f j : Nat} {vs : List Value} (h : IntsAre vs (rowI ws f j)) : vs ≠ [] := by
  rintro rfl
  have := IntsAre.length h
  rw [rowI_len] at this
  simp at this
  omega
theorem PerAt.snoc {ws : List Nat} {PL : Addr} {n i : Nat} {as : List Addr} {l l' : Led} {a : Addr} {vs : List Value} {k : Nat} {h₀ h : Heap} {L : Addr} (H : PerAt ws PL n i as l) (N : News h₀ L h l) (hK : ∀ p ∈ l, p.1 ≠ PL → p ∈ l') (hP : (PL, listOf (as.map Value.ref ++ [Value.ref a]).toArray (n + 1)) ∈ l') (ha : (a, listOf vs.toArray k) ∈ l') (hi : IntsAre vs (rowI ws i (8 - i))) : PerAt ws PL (n + 1) (i + 1) (as ++ [a]) l' := by
  obtain ⟨h1, h2, h3⟩ := H
  refine ⟨by rw [List.map_append]; exact hP, by rw [List.length_append, h2]; rfl, fun f b hb => ?_⟩
  rcases Nat.lt_or_ge f as.length with hf | hf
  · rw [List.getElem?_append_left hf] at hb
    obtain ⟨us, j, h4, h5⟩ := h3 f b hb
    exact ⟨us, j, hK _ h4 (News.ne N h4 h1 (ints_ne_refs h5 (rowI_ne h5))), h5⟩
  · rw [List.getElem?_append_right hf] at hb
    have hf2 : f - as.length = 0 := by
      rcases Nat.eq_zero_or_pos (f - as.length) with h | h
      · exact h
      · rw [List.getElem?_eq_none (show [a].length ≤ f - as.length from h)] at hb; cases hb
    rw [hf2] at hb
    obtain rfl : a = b := Option.some.inj hb
    have : f = i := by omega
    subst this
    exact ⟨vs, k, ha, hi⟩
end
section
open PySem PySem.W PySem.Calls PyProof.Rows PySem.Builtin PySem.Builtin.Str
section
variable {prog : Program} {w : World} {A : Around} {E : Value → Shared → Prop} {s : Shared} {h₀ : Heap} {L : Addr} {news : Led} {value slice : Expr}
theorem led_ref {D : Addr} {n : Nat} {as : List Addr} {q : Int} {u : Tok} {Q : Value → Shared → Prop} (N : News h₀ L s.heap news) (hm : (D, listOf (as.map Value.ref).toArray n) ∈ news) (h0 : 0 ≤ q) (h1 : q < as.length) (hz : as.length ≤ 1000)
    (h : Q (.ref (as.getD q.toNat 0)) s)
    (hs : subscripted slice false (.ref D) (.int q u) = operate [.ref D, .int q u] (getItem (.ref D) (.int q u)) := by with_unfolding_all rfl) :
    wpAny (model prog w) A (subscriptTail value slice (.ref D) (.int q u)) Q E s := by
  obtain ⟨k, rfl⟩ : ∃ k : Nat, q = (k : Int) := ⟨q.toNat, by omega⟩
  rw [Int.toNat_natCast] at h
  have hq : k < as.length := by omega
  refine led_item N hm (by omega) (by omega) (j := k) ?_ (v := .ref as[k]) ?_ ?_ hs
  · unfold seqIndex?
    simp; omega
  · simp [List.getElem?_eq_getElem hq]
  · have e : as.getD k 0 = as[k] := by rw [List.getD_eq_getElem?_getD, List.getElem?_eq_getElem hq]; rfl
    rw [e] at h; exact h
theorem led_int {D : Addr} {n : Nat} {vs : List Value} {ns : List Int} {q : Int} {u : Tok} {Q : Value → Shared → Prop} (N : News h₀ L s.heap news) (hm : (D, listOf vs.toArray n) ∈ news) (hi : IntsAre vs ns) (h0 : 0 ≤ q) (h1 : q < ns.length) (hz : ns.length ≤ 1000)
    (h : ∀ t, Q (.int (ns.getD q.toNat 0) t) s)
    (hs : subscripted slice false (.ref D) (.int q u) = operate [.ref D, .int q u] (getItem (.ref D) (.int q u)) := by with_unfolding_all rfl) :
    wpAny (model prog w) A (subscriptTail value slice (.ref D) (.int q u)) Q E s := by
  have hl := IntsAre.length hi
  obtain ⟨i, rfl⟩ : ∃ k : Nat, q = (k : Int) := ⟨q.toNat, by omega⟩
  rw [Int.toNat_natCast] at h
  have hq : i < vs.length := by omega
  obtain ⟨k, t, hk, hk2⟩ := intsAre_get hi (List.getElem?_eq_getElem hq)
  refine led_item N hm (by omega) (by omega) (j := i) ?_ (v := vs[i]) (List.getElem?_eq_getElem hq) ?_ hs
  · unfold seqIndex?
    simp; omega
  · rw [hk]
    have e : ns.getD i 0 = k := by rw [List.getD_eq_getElem?_getD, hk2]; rfl
    have := h t
    rw [e] at this; exact this
end
theorem rowI_get {ws : List Nat} {f l : Nat} (hf : f < 8) (hfl : f < l) (hl : l ≤ 8) : (rowI ws f (8 - f)).getD l 0 = (perF ws f l : Int) := by
  unfold rowI
  rw [List.getD_eq_getElem?_getD, List.getElem?_append_right (by simp; omega), List.length_replicate, List.getElem?_map, List.getElem?_range (by omega)]
  show (perF ws f (f + 1 + (l - (f + 1))) : Int) = _
  rw [show f + 1 + (l - (f + 1)) = l by omega]
theorem perG_eq {ws : List Nat} {f l : Nat} (hf : f < 8) (hfl : f < l) (hl : l ≤ 8) : perG (perTab ws) f l = perF ws f l := by
  unfold perG perTab
  rw [show ((List.range 8).map fun f => (List.range 9).map fun l => if f < l then perF ws f l else 0).getD f [] = (List.range 9).map fun l => if f < l then perF ws f l else 0 by rw [List.getD_eq_getElem?_getD, List.getElem?_map, List.getElem?_range hf]; rfl]
  rw [List.getD_eq_getElem?_getD, List.getElem?_map, List.getElem?_range (by omega)]
  show (if f < l then perF ws f l else 0) = _
  rw [if_pos hfl]
theorem perS_ge (b : Bool) (tx : List Nat) : ∀ d s, s ≤ perS b tx d s
  | 0, s => Nat.le_refl _
  | d + 1, s => by
    rw [perS]
    split
    · exact Nat.le_refl _
    · exact Nat.le_of_succ_le (perS_ge b tx d (s + 1))
theorem perF_pos (ws : List Nat) (f l : Nat) : 1 ≤ perF ws f l := perS_ge _ _ _ _
/-- the lists of kinds -/
noncomputable def KindsAt (KL : Addr) (n : Nat) (as : List Addr) (ks : List (List (List Nat))) (l : Led) : Prop :=
  (KL, listOf (as.map Value.ref).toArray n) ∈ l ∧ as.length = 5 ∧ ks.length = 5 ∧ (∀ i j, i < j → j < 5 → as.getD i 0 ≠ as.getD j 0) ∧ (∀ j, j < 5 → as.getD j 0 ≠ KL) ∧ ∀ j, j < 5 → ∃ s k, (as.getD j 0, listOf (strValues s).toArray k) ∈ l ∧ s.map (·.1) = (ks.getD j []).map mkS
theorem KindsAt.mv {KL : Addr} {n : Nat} {as : List Addr} {ks : List (List (List Nat))} {l l' : Led} (H : KindsAt KL n as ks l) (S : ∀ p ∈ l, p ∈ l') : KindsAt KL n as ks l' := by
  obtain ⟨a, b, c, d, e, f⟩ := H
  exact ⟨S _ a, b, c, d, e, fun j hj => by obtain ⟨s, k, h1, h2⟩ := f j hj; exact ⟨s, k, S _ h1, h2⟩⟩
theorem KindsAt.put {KL : Addr} {n : Nat} {as : List Addr} {ks : List (List (List Nat))} {l l' : Led} {j k : Nat} {s : List (Str × Tok)} {x : Str} {t : Tok} {y : List Nat} (H : KindsAt KL n as ks l) (hj : j < 5) (hs : s.map (·.1) = (ks.getD j []).map mkS) (hx : x = mkS y)
    (hn : (as.getD j 0, listOf (strValues s ++ [Value.str x t]).toArray k) ∈ l') (S : ∀ p ∈ l, p.1 ≠ as.getD j 0 → p ∈ l') : KindsAt KL n as (ks.set j (ks.getD j [] ++ [y])) l' := by
  obtain ⟨a, b, c, d, e, f⟩ := H
  refine ⟨S _ a (e j hj).symm, b, by rw [List.length_set]; exact c, d, e, fun i hi => ?_⟩
  by_cases h : i = j
  · subst h
    refine ⟨s ++ [(x, t)], k, ?_, ?_⟩
    · have : strValues (s ++ [(x, t)]) = strValues s ++ [Value.str x t] := by simp [strValues]
      rw [this]; exact hn
    · rw [List.map_append, hs, List.getD_eq_getElem?_getD, List.getD_eq_getElem?_getD, List.getElem?_set_self (by omega), hx]
      simp
  · obtain ⟨s', k', h1, h2⟩ := f i hi
    have hne : as.getD i 0 ≠ as.getD j 0 := by
      rcases Nat.lt_or_gt_of_ne h with h | h
      · exact d i j h hj
      · exact (d j i h hi).symm
    refine ⟨s', k', S _ h1 hne, ?_⟩
    rw [h2, List.getD_eq_getElem?_getD, List.getD_eq_getElem?_getD, List.getElem?_set_ne (Ne.symm h)]
/-- a statement that lays a list of ints under a name -/
noncomputable def BesEnd (h₀ : Heap) (L : Addr) (nm : Str) (M : Mp) (news : Led) (s : Shared) (ns : List Int) (fl : Flow) (s' : Shared) : Prop :=
  fl = .next ∧ ∃ h' tk' B vs k, s' = { s with heap := h', toks := tk' } ∧ Fr h₀ L h' (fun z => if z = nm then some (.ref B) else M z) ∧ News h₀ L h' ((B, listOf (List.toArray vs) k) :: news) ∧ IntsAre vs ns ∧ ∀ p ∈ news, p.1 ≠ B
theorem bes {prog : Program} {w : World} {A : Around} {E : Value → Shared → Prop} {s : Shared} {h₀ : Heap} {L : Addr} {nm : Str} {M : Mp} {news : Led} {t : Sem Flow} {Q : Flow → Shared → Prop} (_F : Fr h₀ L s.heap M) (ns : List Int)
    (h : wpAny (model prog w) A t (BesEnd h₀ L nm M news s ns) E s)
    (k : ∀ h' tk' B vs k, Fr h₀ L h' (fun z => if z = nm then some (.ref B) else M z) → News h₀ L h' ((B, listOf (List.toArray vs) k) :: news) → IntsAre vs ns → (∀ p ∈ news, p.1 ≠ B) → Q .next { s with heap := h', toks := tk' }) : wpAny (model prog w) A t Q E s :=
  wpAny_mono h (fun fl s' p => by obtain ⟨rfl, h', tk', B, vs, k', rfl, F, N, hi, hn⟩ := p; exact k h' tk' B vs k' F N hi hn) fun _ _ e => e
theorem join_mk : ∀ l : List (List Nat), Txt.join (Str.ofString "...") (l.map mkS) = mkS (joinL [46, 46, 46] l) := by
  intro l
  have hd : Str.ofString "..." = mkS [46, 46, 46] := by decide +kernel
  have key : ∀ l : List (List Nat), Str.join (Str.ofString "...") (l.map mkS) = mkS (joinL [46, 46, 46] l) := by
    intro l
    induction l with
    | nil => rfl
    | cons a r ih =>
      cases r with
      | nil => first | rfl | (simp [Str.join, joinL]; done)
      | cons b q =>
        show mkS a ++ Str.ofString "..." ++ Str.join (Str.ofString "...") ((b :: q).map mkS) = mkS (a ++ [46, 46, 46] ++ joinL [46, 46, 46] (b :: q))
        rw [ih, hd, mkS_app, mkS_app]
  show PySem.Builtin.Str.glued _ _ = _
  rw [StrLaws.glued_eq_join]
  exact key l
theorem slice_to (l : List Nat) (j : Nat) (h : j ≤ l.length) : Txt.slice (mkS l) none (some (j : Int)) = mkS (l.take j) := by
  have := eq_of_beq (slice_closes_to (x := ⟨l.toArray⟩) (j := (j : Int)) ⟨by omega, by simp; omega⟩)
  show Txt.slice ⟨l.toArray⟩ _ _ = _
  rw [this]; simp [mkS]
theorem slice_fr (l : List Nat) (j : Nat) (h : j ≤ l.length) : Txt.slice (mkS l) (some (j : Int)) none = mkS (l.drop j) := slice_from l j h
theorem slice_neg (l : List Nat) (j : Nat) (h1 : 1 ≤ j) (h : j ≤ l.length) : Txt.slice (mkS l) (some (-(j : Int))) none = mkS (l.drop (l.length - j)) := by
  have hl := mkS_len l
  have := eq_of_beq (slice_closes_from_neg (x := mkS l) (i := -(j : Int)) (a := ((l.length - j : Nat) : Int)) (b := (l.length : Int)) (by omega) (by omega) (by omega) (by omega))
  rw [this]
  show (⟨((l.toArray.toList.drop ((l.length - j : Nat) : Int).toNat).take _).toArray⟩ : Str) = mkS _
  rw [Int.toNat_natCast]
  unfold mkS
  congr 1
  rw [List.take_of_length_le]
  simp
theorem mul_mk (l : List Nat) (n : Nat) (h2 : 2 ≤ n) : Txt.mul (mkS l) (n : Int) = mkS (List.replicate n l).flatten := by
  have key : ∀ (n : Nat) (acc : Array Nat), (List.replicate n l.toArray).foldl (· ++ ·) acc = acc ++ ((List.replicate n l).flatten).toArray := by
    intro n
    induction n with
    | zero => intro acc; simp
    | succ n ih =>
      intro acc
      rw [List.replicate_succ, List.foldl_cons, ih, List.replicate_succ, List.flatten_cons]
      apply Array.toList_inj.mp
      simp
  unfold Txt.mul
  rw [if_neg (by omega)]
  by_cases h0 : l = []
  · subst h0
    have e0 : (mkS []).length = 0 := by rfl
    rw [if_pos (by rw [e0]; simp)]
    have : (List.replicate n ([] : List Nat)).flatten = [] := by simp
    rw [this]
  · have hl := mkS_len l
    have : l.length ≠ 0 := fun e => h0 (List.length_eq_zero_iff.mp e)
    have hc : ((n : Int) == 1 || (mkS l).length == 0) = false := by simp; omega
    rw [hc, if_neg (by decide), Int.toNat_natCast]
    show (⟨(List.replicate n l.toArray).foldl (· ++ ·) #[]⟩ : Str) = _
    rw [key]
    simp [mkS]
/-- what a run's wants say -/
structure RunF (ws : List Nat) (f l sz : Nat) : Prop where
  r0 : em (Txt.join (Str.ofString "...") ((List.replicate ((sliceL ws f l).length / sz - 1) ((sliceL ws f l).take sz) ++ [(sliceL ws f l).drop ((sliceL ws f l).length - sz)]).map mkS)) (mkS (sliceL ws f l)) = true
  r1 : em (Txt.join (Str.ofString "...") ((List.replicate ((sliceL ws f l).length / sz) ((sliceL ws f l).take sz) ++ [(sliceL ws f l).drop ((sliceL ws f l).length - sz)]).map mkS)) (mkS (sliceL ws f l)) = false
  r2 : em (mkS (List.replicate ((sliceL ws f l).length / sz) ((sliceL ws f l).take sz)).flatten) (mkS (sliceL ws f l)) = decide ((sliceL ws f l).length = sz * ((sliceL ws f l).length / sz))
  r3 : em (mkS ((sliceL ws f l).drop sz) ++ Str.ofString "..." ++ mkS ((sliceL ws f l).drop sz)) (mkS (sliceL ws f l)) = decide ((sliceL ws f l).length = 2 * sz)
  r4 : em (Str.ofString "..." ++ mkS ((sliceL ws f l).drop sz) ++ Str.ofString "..." ++ mkS ((sliceL ws f l).drop sz) ++ Str.ofString "...") (mkS (sliceL ws f l)) = decide ((sliceL ws f l).length = 2 * sz)
theorem runF_of {ws : List Nat} {f l sz : Nat} (h : runOK ws f l sz = true) : RunF ws f l sz := by
  unfold runOK at h
  simp only [Bool.and_eq_true, Bool.not_eq_true', beq_iff_eq] at h
  obtain ⟨⟨⟨⟨h0, h1⟩, h2⟩, h3⟩, h4⟩ := h
  have hd : Str.ofString "..." = mkS [46, 46, 46] := by decide +kernel
  refine ⟨by rw [join_mk]; exact h0, by rw [join_mk]; exact h1, by rw [h2]; exact Bool.eq_iff_iff.mpr (by simp), by rw [hd, mkS_app, mkS_app, h3]; exact Bool.eq_iff_iff.mpr (by simp), by rw [hd, mkS_app, mkS_app, mkS_app, mkS_app, h4]; exact Bool.eq_iff_iff.mpr (by simp)⟩
theorem law_run {ns : List Int} {f l : Nat} (hf : f < 8) (hl : l ≤ 8) (h2 : f + 2 ≤ l) (hr : isRun (perG (perTab (wordS 0 (bitsS ns)))) f l = true) : RunF (wordS 0 (bitsS ns)) f l (perG (perTab (wordS 0 (bitsS ns))) f l) := by
  have h := law_all ns
  unfold lawOK at h
  simp only [Bool.and_eq_true] at h
  have hk := h.1.2
  unfold okK at hk
  have h3 := List.all_eq_true.mp (List.all_eq_true.mp hk f (List.mem_range.mpr hf)) l (List.mem_range.mpr (by omega))
  rw [if_pos (by rw [hr]; simpa using h2)] at h3
  exact runF_of h3
/-- the test of a stretch -/
theorem isRun_iff {ws : List Nat} {f l : Nat} (hf : f < 8) (hl : l ≤ 8) (h2 : f + 2 ≤ l) {ns : List Int} (hn : ns = (if f ≠ 0 then [(perF ws (f - 1) l : Int)] else []) ++ (if l < 8 then [(perF ws f (l + 1) : Int)] else [])) :
    isRun (perG (perTab ws)) f l = (decide (2 * perF ws f l + f ≤ l) && !(ns.any (· == (perF ws f l : Int)))) := by
  unfold isRun
  rw [perG_eq hf (by omega) hl, hn, List.any_append, Bool.not_or, ← Bool.and_assoc]
  congr 1
  · congr 1
    by_cases h0 : f = 0
    · subst h0; simp
    · rw [if_pos h0, perG_eq (by omega) (by omega) hl]
      have : (f != 0) = true := by simpa using h0
      rw [this, Bool.true_and]
      simp only [List.any_cons, List.any_nil, Bool.or_false]
      congr 1
      exact Bool.eq_iff_iff.mpr (by simp; omega)
  · by_cases h8 : l < 8
    · rw [if_pos h8, perG_eq hf (by omega) (by omega)]
      have : (l != 8) = true := by simp; omega
      rw [this, Bool.true_and]
      simp only [List.any_cons, List.any_nil, Bool.or_false]
      congr 1
      exact Bool.eq_iff_iff.mpr (by simp; omega)
    · have : l = 8 := by omega
      subst this; simp
/-- what stands besides the kinds -/
noncomputable def Off5 (KL : Addr) (as : List Addr) (B l : Led) : Prop := ∀ p ∈ B, p ∈ l ∧ p.1 ≠ KL ∧ ∀ j, j < 5 → p.1 ≠ as.getD j 0
theorem kinds_new {k0 k1 k2 k3 k4 KL : Nat} {n n0 n1 n2 n3 n4 : Nat} {news : Led} (h0 : ∀ p ∈ news, p.1 < k0) (h1 : k0 < k1 ∧ AllLt k1 news) (h2 : k1 < k2 ∧ k0 < k2 ∧ AllLt k2 news) (h3 : k2 < k3 ∧ k1 < k3 ∧ k0 < k3 ∧ AllLt k3 news) (h4 : k3 < k4 ∧ k2 < k4 ∧ k1 < k4 ∧ k0 < k4 ∧ AllLt k4 news) (h5 : k4 < KL ∧ k3 < KL ∧ k2 < KL ∧ k1 < KL ∧ k0 < KL ∧ AllLt KL news) :
    KindsAt KL n [k0, k1, k2, k3, k4] [[], [], [], [], []] ((KL, listOf #[Value.ref k0, Value.ref k1, Value.ref k2, Value.ref k3, Value.ref k4] n) :: (k4, listOf #[] n4) :: (k3, listOf #[] n3) :: (k2, listOf #[] n2) :: (k1, listOf #[] n1) :: (k0, listOf #[] n0) :: news) ∧ Off5 KL [k0, k1, k2, k3, k4] news ((KL, listOf #[Value.ref k0, Value.ref k1, Value.ref k2, Value.ref k3, Value.ref k4] n) :: (k4, listOf #[] n4) :: (k3, listOf #[] n3) :: (k2, listOf #[] n2) :: (k1, listOf #[] n1) :: (k0, listOf #[] n0) :: news) := by
  have g : ∀ {j : Nat}, j < 5 → j = 0 ∨ j = 1 ∨ j = 2 ∨ j = 3 ∨ j = 4 := fun {j} h => (by decide : ∀ j < 5, j = 0 ∨ j = 1 ∨ j = 2 ∨ j = 3 ∨ j = 4) j h
  refine ⟨⟨.head _, rfl, rfl, fun i j hij hj => ?_, fun j hj => ?_, fun j hj => ?_⟩, fun p hp => ⟨.tail _ (.tail _ (.tail _ (.tail _ (.tail _ (.tail _ hp))))), allLt_ne h5.2.2.2.2.2 p hp, fun j hj => ?_⟩⟩
  · rcases g hj with rfl | rfl | rfl | rfl | rfl
    · exact absurd hij (Nat.not_lt_zero i)
    · obtain rfl := (by decide : ∀ i < 1, i = 0) i hij
      exact Nat.ne_of_lt h1.1
    · rcases (by decide : ∀ i < 2, i = 0 ∨ i = 1) i hij with rfl | rfl
      · exact Nat.ne_of_lt h2.2.1
      · exact Nat.ne_of_lt h2.1
    · rcases (by decide : ∀ i < 3, i = 0 ∨ i = 1 ∨ i = 2) i hij with rfl | rfl | rfl
      · exact Nat.ne_of_lt h3.2.2.1
      · exact Nat.ne_of_lt h3.2.1
      · exact Nat.ne_of_lt h3.1
    · rcases (by decide : ∀ i < 4, i = 0 ∨ i = 1 ∨ i = 2 ∨ i = 3) i hij with rfl | rfl | rfl | rfl
      · exact Nat.ne_of_lt h4.2.2.2.1
      · exact Nat.ne_of_lt h4.2.2.1
      · exact Nat.ne_of_lt h4.2.1
      · exact Nat.ne_of_lt h4.1
  · rcases g hj with rfl | rfl | rfl | rfl | rfl
    · exact Nat.ne_of_lt h5.2.2.2.2.1
    · exact Nat.ne_of_lt h5.2.2.2.1
    · exact Nat.ne_of_lt h5.2.2.1
    · exact Nat.ne_of_lt h5.2.1
    · exact Nat.ne_of_lt h5.1
  · rcases g hj with rfl | rfl | rfl | rfl | rfl
    · exact ⟨[], n0, .tail _ (.tail _ (.tail _ (.tail _ (.tail _ (.head _))))), rfl⟩
    · exact ⟨[], n1, .tail _ (.tail _ (.tail _ (.tail _ (.head _)))), rfl⟩
    · exact ⟨[], n2, .tail _ (.tail _ (.tail _ (.head _))), rfl⟩
    · exact ⟨[], n3, .tail _ (.tail _ (.head _)), rfl⟩
    · exact ⟨[], n4, .tail _ (.head _), rfl⟩
  · rcases g hj with rfl | rfl | rfl | rfl | rfl
    · exact Nat.ne_of_lt (h0 p hp)
    · exact allLt_ne h1.2 p hp
    · exact allLt_ne h2.2.2 p hp
    · exact allLt_ne h3.2.2.2 p hp
    · exact allLt_ne h4.2.2.2.2 p hp
theorem Off5.cons {KL n : Nat} {as : List Addr} {ks : List (List (List Nat))} {B l : Led} {I : Addr} {oI : Obj} (H : Off5 KL as B l) (K : KindsAt KL n as ks l) (hoff : ∀ p ∈ l, p.1 ≠ I) : Off5 KL as ((I, oI) :: B) ((I, oI) :: l) := by
  intro p hp
  rcases List.mem_cons.mp hp with rfl | hp
  · refine ⟨.head _, fun e => hoff _ K.1 e.symm, fun j hj e => ?_⟩
    obtain ⟨s, k, h1, _⟩ := K.2.2.2.2.2 j hj
    exact hoff _ h1 e.symm
  · exact ⟨.tail _ (H p hp).1, (H p hp).2⟩
theorem PerAt.get {ws : List Nat} {PL : Addr} {n : Nat} {as : List Addr} {l : Led} (H : PerAt ws PL n 8 as l) {f : Nat} (hf : f < 8) {q : Int} (hq : q.toNat = f) : ∃ vs k, (as.getD q.toNat 0, listOf (List.toArray vs) k) ∈ l ∧ IntsAre vs (rowI ws f (8 - f)) := by
  have hl : f < as.length := by rw [H.2.1]; exact hf
  obtain ⟨vs, k, h1, h2⟩ := H.2.2 f as[f] (List.getElem?_eq_getElem hl)
  refine ⟨vs, k, ?_, h2⟩
  rw [hq, List.getD_eq_getElem?_getD, List.getElem?_eq_getElem hl]; exact h1
end
section
open PySem PySem.W PySem.Calls PyProof.Rows PySem.Builtin PySem.Builtin.Str
theorem slot_iadd : Slot "list" (dunderI "add") "list.__iadd__" :=
  .of (owner := "list") (n := "__iadd__") (by rw [typeLookup_type, builtinLookup_eq_fast]; kernel_rfl) (by decide +kernel) (by decide +kernel) (by decide +kernel)
    (by first | exact .inl (by decide +kernel) | exact .inr (by decide +kernel)) (by rw [isSubtype_type]; kernel_rfl)
theorem args_iadd (a b : Value) : argsOk "list.__iadd__" ⟨[a, b], []⟩ := by
  unfold argsOk; rw [signature?_of (id := "list.__iadd__") (n := ['_', '_', 'd', 'd', 'a', 'i', '_', '_']) (o := ['t', 's', 'i', 'l']) (by kernel_rfl) PySem.F.owner_list]; kernel_rfl
theorem seq_iadd : seqSlot? (.type "list") (dunderI "add") = pure (some (.builtin "list.__iadd__")) := PySem.seqSlot_of slot_iadd.lookup (by decide +kernel)
theorem fills_iadd : fillsInplaceSlot (.type "list") "add" (Operator.Add == .Add) = pure false := by
  unfold fillsInplaceSlot
  show (typeLookup (.type "list") (dunderI "add") >>= fun fi => pure (fi.isSome && !isSeqSlot fi)) = pure false
  rw [slot_iadd.lookup, pure_bind]
  have : isSeqSlot (some (.builtin "list.__iadd__")) = true := by decide +kernel
  rw [this]; rfl
section
variable {prog : Program} {w : World} {A : Around} {E : Value → Shared → Prop} {s : Shared} {h₀ : Heap} {L : Addr} {m : Mp} {news : Led}
theorem inplace_list {D b : Addr} {Q : Value → Shared → Prop} (ha : s.TypeIs (.ref D) "list") (hb : s.TypeIs (.ref b) "list") (hc : wpAny (model prog w) A (call (.builtin "list.__iadd__") [.ref D, .ref b]) Q E s) : wpAny (model prog w) A (inplaceOp .Add (.ref D) (.ref b)) Q E s := by
  unfold inplaceOp
  refine wpAny_holding ?_
  refine wpAny_bind (wpAny_typeOf ha (wpAny_bind (wpAny_of_eq fills_iadd ?_)))
  show wpAny (model prog w) A (if false = true then _ else _) Q E s
  rw [if_neg Bool.false_ne_true]
  refine wpAny_bind (wpAny_binaryOp1_none (nm := "add") ha hb noFill_list_add ?_)
  refine wpAny_bind (wpAny_of_eq seq_iadd ?_)
  exact wpAny_bind (wpAny_rule hc)
theorem led_iadd {D b : Addr} {vs us : List Value} {n n2 : Nat} {Q : Value → Shared → Prop} (F : Fr h₀ L s.heap m) (N : News h₀ L s.heap news) (hD : (D, listOf vs.toArray n) ∈ news) (hb : (b, listOf us.toArray n2) ∈ news) (hz : vs.length + us.length ≤ 1000)
    (h : ∀ h' n', Fr h₀ L h' m → News h₀ L h' ((D, listOf (vs ++ us).toArray n') :: but D news) → Q (.ref D) { s with heap := h' }) : wpAny (model prog w) A (inplaceOp .Add (.ref D) (.ref b)) Q E s := by
  have hm := N _ hD
  have hm2 := N _ hb
  have hss := sizeLine_eq
  have hsz' : vs.toArray.size + us.toArray.size ≤ sizeLine := by rw [List.size_toArray, List.size_toArray]; omega
  refine inplace_list ⟨_, hm.1, rfl⟩ ⟨_, hm2.1, rfl⟩ ?_
  refine call_meets slot_iadd ⟨_, hm.1, rfl⟩ PySem.F.entry_list_iadd (args_iadd _ _) (AutoSeq1.list___iadd___list_list_0 D vs.toArray n b us.toArray n2 (extend_door hsz') (Nat.le_trans (Nat.le_add_right _ _) hsz') (by omega)) ⟨hm.1, hm2.1, ?_⟩
  have e : vs.toArray ++ us.toArray = (vs ++ us).toArray := by simp
  have ho' : (s.heap.update D (Obj.mapSeq fun x => x ++ us.toArray)).get? D = some { cls := .type "list", data := .seq (vs ++ us).toArray (if (vs.toArray ++ us.toArray).size == vs.toArray.size then n else n + 1) } := by
    rw [Heap.get?_update_self _ hm.1 (by rw [mapSeq_app]; rfl), mapSeq_app, e]
  exact h _ _ (F.change (Heap.SameBut.update ..) hm.2.1 hm.2.2) ((News.head N hD).setIn (own := []) (fun p hp => nomatch hp) (fun p hp => (mem_but.mp hp).2) (Heap.SameBut.update ..) ho')
end
theorem ints_app : ∀ {vs us : List Value} {ns ms : List Int}, IntsAre vs ns → IntsAre us ms → IntsAre (vs ++ us) (ns ++ ms)
  | _, _, _, _, .nil, h => h
  | _, _, _, _, .cons k u r, h => .cons k u (ints_app r h)
theorem BesEnd.mk {h₀ : Heap} {L : Addr} {nm : Str} {M : Mp} {news : Led} {s : Shared} {ns : List Int} {h' : Heap} {tk' : Nat} {B : Addr} {vs : List Value} {k : Nat} (F : Fr h₀ L h' (fun z => if z = nm then some (.ref B) else M z)) (N : News h₀ L h' ((B, listOf (List.toArray vs) k) :: news)) (hi : IntsAre vs ns) (hn : ∀ p ∈ news, p.1 ≠ B) :
    BesEnd h₀ L nm M news s ns .next { s with heap := h', toks := tk' } := ⟨rfl, h', tk', B, vs, k, rfl, F, N, hi, hn⟩
theorem kindsF_bound (ws : List Nat) (per : Nat → Nat → Nat) (f : Nat) (ks : List (List (List Nat))) (q : Nat) : ∀ j, ((kindsF ws per f ks j).getD q []).length ≤ (ks.getD q []).length + j
  | 0 => Nat.le_refl _
  | j + 1 => by
    have ih := kindsF_bound ws per f ks q j
    show ((stepK ws per f (f + 2 + j) (kindsF ws per f ks j)).getD q []).length ≤ _
    unfold stepK
    split
    · by_cases h : per f (f + 2 + j) = q
      · rw [h]
        by_cases hq : q < (kindsF ws per f ks j).length
        · rw [List.getD_eq_getElem?_getD, List.getElem?_set_self hq]
          simp only [Option.getD_some, List.length_append, List.length_cons, List.length_nil]
          omega
        · rw [List.set_eq_of_length_le (by omega)]; omega
      · rw [List.getD_eq_getElem?_getD, List.getElem?_set_ne h, ← List.getD_eq_getElem?_getD]; omega
    · omega
theorem kindsS_bound (ws : List Nat) (per : Nat → Nat → Nat) (q : Nat) : ∀ f, ((kindsS ws per f).getD q []).length ≤ 7 * f
  | 0 => by
    have : q = 0 ∨ q = 1 ∨ q = 2 ∨ q = 3 ∨ q = 4 ∨ 5 ≤ q := by omega
    rcases this with rfl | rfl | rfl | rfl | rfl | h
    · exact Nat.le_refl _
    · exact Nat.le_refl _
    · exact Nat.le_refl _
    · exact Nat.le_refl _
    · exact Nat.le_refl _
    · rw [List.getD_eq_getElem?_getD, List.getElem?_eq_none (by exact h)]; exact Nat.le_refl _
  | f + 1 => by
    have h1 := kindsS_bound ws per q f
    have h2 := kindsF_bound ws per f (kindsS ws per f) q (7 - f)
    show ((kindsF ws per f (kindsS ws per f) (7 - f)).getD q []).length ≤ _
    omega
theorem strs_rep (x y : Str) (t u : Tok) : ∀ n : Nat, StrsAre (List.replicate n (Value.str x t) ++ [Value.str y u]) (List.replicate n x ++ [y])
  | 0 => .cons _ _ .nil
  | n + 1 => .cons _ _ (strs_rep x y t u n)
theorem fdiv_nat (a b : Nat) : ((a : Nat) : Int).fdiv (b : Int) = ((a / b : Nat) : Int) := by
  rw [Int.fdiv_eq_ediv_of_nonneg _ (by omega)]; rfl
theorem two_valsO {i a : Nat} {v : Value} {t u : Tok} (h : [Value.int (a : Int) t, Value.int ((a : Int) + 1) u][i]? = some v) : i < 2 ∧ ∃ t, v = .int ((a : Int) + (i : Int)) t := by
  rcases i with _ | _ | i
  · refine ⟨by decide, t, ?_⟩
    rw [← Option.some.inj h]; simp
  · exact ⟨by decide, u, (Option.some.inj h).symm⟩
  · simp at h
theorem join_le (d : Str) (x y : Str) (n : Nat) (hn : n ≤ 20) (hx : x.length ≤ 8) (hy : y.length ≤ 8) (hd : d.length = 3) : ((List.replicate n x ++ [y]).map (·.length)).sum + (List.replicate n x ++ [y]).length * d.length ≤ 600 := by
  have : ((List.replicate n x ++ [y]).map (·.length)).sum ≤ 8 * (n + 1) := by
    rw [List.map_append, List.sum_append, List.map_replicate]
    have h1 : (List.replicate n x.length).sum ≤ 8 * n := by
      clear hn
      induction n with
      | zero => simp
      | succ n ih => rw [List.replicate_succ, List.sum_cons]; omega
    simp only [List.map_cons, List.map_nil, List.sum_cons, List.sum_nil]; omega
  rw [List.length_append, List.length_replicate, hd]
  simp only [List.length_cons, List.length_nil]; omega
theorem joinL_len : ∀ l : List (List Nat), (joinL [46, 46, 46] l).length ≤ (l.map List.length).sum + l.length * 3
  | [] => Nat.zero_le _
  | [a] => by simp [joinL]
  | a :: b :: r => by
    have ih := joinL_len (b :: r)
    show (a ++ [46, 46, 46] ++ joinL [46, 46, 46] (b :: r)).length ≤ _
    simp only [List.length_append, List.length_cons, List.length_nil, List.map_cons, List.sum_cons] at ih ⊢
    omega
  termination_by l => l.length
/-- the wants as the walk writes them -/
structure RunW (tx : List Nat) (sz : Nat) : Prop where
  le : ∀ c, c < 2 → (Txt.join (Str.ofString "...") (List.replicate (tx.length / sz + c - 1) (Txt.slice (mkS tx) none (some (sz : Int))) ++ [Txt.slice (mkS tx) (some (-(sz : Int))) none])).length ≤ 1000
  e : ∀ c, c < 2 → em (Txt.join (Str.ofString "...") (List.replicate (tx.length / sz + c - 1) (Txt.slice (mkS tx) none (some (sz : Int))) ++ [Txt.slice (mkS tx) (some (-(sz : Int))) none])) (mkS tx) = decide (c = 0)
  le2 : (Txt.mul (Txt.slice (mkS tx) none (some (sz : Int))) ((tx.length / sz : Nat) : Int)).length ≤ 1000
  e2 : em (Txt.mul (Txt.slice (mkS tx) none (some (sz : Int))) ((tx.length / sz : Nat) : Int)) (mkS tx) = decide (tx.length = sz * (tx.length / sz))
  le3 : (Txt.slice (mkS tx) (some (sz : Int)) none ++ Str.ofString "..." ++ Txt.slice (mkS tx) (some (sz : Int)) none).length ≤ 1000
  e3 : em (Txt.slice (mkS tx) (some (sz : Int)) none ++ Str.ofString "..." ++ Txt.slice (mkS tx) (some (sz : Int)) none) (mkS tx) = decide (tx.length = 2 * sz)
  le4 : (Str.ofString "..." ++ Txt.slice (mkS tx) (some (sz : Int)) none ++ Str.ofString "..." ++ Txt.slice (mkS tx) (some (sz : Int)) none ++ Str.ofString "...").length ≤ 1000
  e4 : em (Str.ofString "..." ++ Txt.slice (mkS tx) (some (sz : Int)) none ++ Str.ofString "..." ++ Txt.slice (mkS tx) (some (sz : Int)) none ++ Str.ofString "...") (mkS tx) = decide (tx.length = 2 * sz)
theorem RunF.w {ws : List Nat} {f l sz : Nat} (h : RunF ws f l sz) (h1 : 1 ≤ sz) (h2 : 2 * sz ≤ (sliceL ws f l).length) (h8 : (sliceL ws f l).length ≤ 8) : RunW (sliceL ws f l) sz := by
  obtain ⟨r0, r1, r2, r3, r4⟩ := h
  generalize sliceL ws f l = tx at *
  have s1 := slice_to tx sz (by omega)
  have s2 := slice_neg tx sz h1 (by omega)
  have s3 := slice_fr tx sz (by omega)
  have ho2 : 2 ≤ tx.length / sz := (Nat.le_div_iff_mul_le (by omega)).mpr h2
  have ho8 : tx.length / sz ≤ 8 := Nat.le_trans (Nat.div_le_self _ _) h8
  have hd : (Str.ofString "...").length = 3 := by rfl
  have hr : (mkS (tx.drop sz)).length ≤ 8 := by rw [mkS_len, List.length_drop]; omega
  have hrep : ∀ (n : Nat) (a z : List Nat), List.replicate n (mkS a) ++ [mkS z] = (List.replicate n a ++ [z]).map mkS := fun n a z => by
    rw [List.map_append, List.map_replicate]; rfl
  have hflat : ∀ n : Nat, ((List.replicate n (tx.take sz)).flatten).length ≤ 8 * n := by
    intro n
    induction n with
    | zero => simp
    | succ n ih =>
      rw [List.replicate_succ, List.flatten_cons, List.length_append, List.length_take]; omega
  refine ⟨fun c hc => ?_, fun c hc => ?_, ?_, ?_, ?_, ?_, ?_, ?_⟩
  · rw [s1, s2, hrep, join_mk, mkS_len]
    refine Nat.le_trans (joinL_len _) ?_
    rw [List.map_append, List.sum_append, List.map_replicate, List.length_append, List.length_replicate]
    have ht : (tx.take sz).length ≤ 8 := by rw [List.length_take]; omega
    have : ∀ n : Nat, (List.replicate n (tx.take sz).length).sum ≤ 8 * n := by
      intro n
      induction n with
      | zero => simp
      | succ n ih => rw [List.replicate_succ, List.sum_cons]; omega
    have := this (tx.length / sz + c - 1)
    simp only [List.map_cons, List.map_nil, List.sum_cons, List.sum_nil, List.length_drop, List.length_cons, List.length_nil]
    omega
  · rw [s1, s2, hrep]
    rcases c with _ | _ | c
    · exact r0
    · exact r1
    · omega
  · rw [s1, mul_mk _ _ ho2, mkS_len]
    have := hflat (tx.length / sz); omega
  · rw [s1, mul_mk _ _ ho2]; exact r2
  · rw [s3, len_app, len_app]; omega
  · rw [s3]; exact r3
  · rw [s3, len_app, len_app, len_app, len_app]; omega
  · rw [s3]; exact r4
theorem KindsAt.mv2 {KL : Addr} {n : Nat} {as : List Addr} {ks : List (List (List Nat))} {l l' : Led} {I : Addr} (H : KindsAt KL n as ks l) (S : ∀ p ∈ l, p.1 ≠ I → p ∈ l') (h1 : KL ≠ I) (h2 : ∀ j, j < 5 → as.getD j 0 ≠ I) : KindsAt KL n as ks l' := by
  obtain ⟨a, b, c, d, e, f⟩ := H
  exact ⟨S _ a h1, b, c, d, e, fun j hj => by obtain ⟨s, k, q1, q2⟩ := f j hj; exact ⟨s, k, S _ q1 (h2 j hj), q2⟩⟩
theorem news_bes {h₀ h : Heap} {L B : Addr} {o : Obj} {X Y : Led} (N : News h₀ L h ((B, o) :: but B Y)) (hs : ∀ p ∈ X, p ∈ Y) (hn : ∀ p ∈ X, p.1 ≠ B) : News h₀ L h ((B, o) :: X) := fun p hp => by
  rcases List.mem_cons.mp hp with rfl | hp
  · exact N _ (.head _)
  · exact N _ (.tail _ (mem_but.mpr ⟨hs p hp, hn p hp⟩))
end
section
open PySem PySem.W PySem.Calls PyProof.Rows PySem.Builtin PySem.Builtin.Str PyProof.V PySem.Spec
theorem st_canLayAll0 : ∀ ns : List Str, (∀ x ∈ ns, PyData.strOk x = true) → PyData.canLayAll0 (ns.map PyData.str) = true
  | [], _ => rfl
  | a :: r, h => by simp [PyData.canLayAll0, PyData.canLay0, st_canLayAll0 r fun x hx => h x (.tail _ hx), h a (.head _)]
theorem st_depthAll : ∀ ns : List Str, PyData.depthAll (ns.map PyData.str) = 0
  | [] => rfl
  | _ :: r => by simp [PyData.depthAll, PyData.depth, st_depthAll r]
theorem st_shaped (ns : List Str) (h : ∀ x ∈ ns, PyData.strOk x = true) : SeqAt.shaped (.list (ns.map PyData.str)) = true := by
  simp [SeqAt.shaped, PyData.canLay0, PyData.depth, st_canLayAll0 ns h, st_depthAll]
theorem st_sameAll : ∀ ns ms : List Str, PySem.Spec.sameAll (ns.map PyData.str) (ms.map PyData.str) = decide (ns = ms)
  | [], [] => by simp [PySem.Spec.sameAll]
  | [], _ :: _ => by simp [PySem.Spec.sameAll]
  | _ :: _, [] => by simp [PySem.Spec.sameAll]
  | a :: r, b :: t => by
    simp only [List.map_cons, PySem.Spec.sameAll, PySem.Spec.same, st_sameAll r t]
    by_cases h : a = b <;> by_cases h' : r = t <;> simp [h, h']
theorem st_same (ns ms : List Str) : PySem.Spec.same (.list (ns.map PyData.str)) (.list (ms.map PyData.str)) = decide (ns = ms) := by
  simp only [PySem.Spec.same]; exact st_sameAll ns ms
theorem st_carried : ∀ {vs : List Value} {ns : List Str}, StrsAre vs ns → CarriedAll vs (ns.map PyData.str)
  | _, _, .nil => .nil
  | _, _, .cons _ t r => .cons (.str _ t) (st_carried r)
theorem ne_strs {prog : Program} {w : World} {A : Around} {E : Value → Shared → Prop} {s : Shared} {a b : Addr} {xs ys : List Value} {ns ms : List Str} {Q : Value → Shared → Prop} (ha : s.heap.IsList a xs.toArray) (hb : s.heap.IsList b ys.toArray) (hi : StrsAre xs ns) (hj : StrsAre ys ms) (ho : ∀ x ∈ ns, PyData.strOk x = true) (hp : ∀ x ∈ ms, PyData.strOk x = true) (hu : A.units + 64 < cLine) (h : Q (.bool (!decide (ns = ms))) s) :
    wpAny (model prog w) A (compareOp .NotEq (.ref a) (.ref b)) Q E s :=
  ne_dataH_same (reads_newData ha (st_carried hi)) (reads_newData hb (st_carried hj)) (st_shaped _ ho) (st_shaped _ hp) hu (SeqAt.noMix_of_shape (.list .str) rfl _ _ (list_map_has fun _ => rfl) (list_map_has fun _ => rfl)) (by rw [st_same]; exact h)
/-- sorted, with the new list at the ledger's head -/
theorem sort_strs {prog : Program} {w : World} {A : Around} {E : Value → Shared → Prop} {s : Shared} {h₀ : Heap} {L : Addr} {m : Mp} {news : Led} {l : Addr} {n : Nat} {gl : List (Str × Tok)} {Q : Value → Shared → Prop} (F : Fr h₀ L s.heap m) (N : News h₀ L s.heap news) (hm : (l, listOf (strValues gl).toArray n) ∈ news) (h64 : gl.length < 64)
    (h : ∀ D h' vs ss e, Fr h₀ L h' m → News h₀ L h' ((D, listOf (List.toArray vs) e) :: news) → (∀ p ∈ news, p.1 < D) → StrsAre vs ss → ss.Perm (gl.map (·.1)) → sortedS ss = true → Q (.ref D) { s with heap := h' }) :
    wpAny (model prog w) A (call (.builtin "sorted") [.ref l]) Q E s :=
  sorted_N_str F N (led_list N hm) (strsAre_values gl) (by simpa [strValues] using h64) fun h' vs ss e F' N' h1 h2 h3 => h _ h' vs ss e F' N' (fun p hp => Nat.lt_succ_of_lt (Heap.lt_size (N p hp).1)) h1 h2 h3
theorem lt_irr : ∀ a : List Nat, ¬ a < a := fun a => List.lt_irrefl a
theorem rise_le : ∀ {p : Str} {l : List Str}, risingS p l = true → ∀ x ∈ l, ¬ x.cps.toList < p.cps.toList
  | _, [], _, x, hx => nomatch hx
  | p, y :: r, h, x, hx => by
    have h' : (!ltCps y.cps.toList p.cps.toList && risingS y r) = true := h
    rw [Bool.and_eq_true, Bool.not_eq_true', ltCps_eq, decide_eq_false_iff_not] at h'
    rcases List.mem_cons.mp hx with rfl | hx
    · exact h'.1
    · have h2 := rise_le h'.2 x hx
      intro h3
      exact h'.1 (by
        have h4 : y.cps.toList ≤ x.cps.toList := List.not_lt.mp h2
        exact List.lt_of_le_of_lt h4 h3)
theorem sorted_tail {a : Str} {l : List Str} (h : sortedS (a :: l) = true) : sortedS l = true := by
  cases l with
  | nil => rfl
  | cons b r =>
    have h' : (!ltCps b.cps.toList a.cps.toList && risingS b r) = true := h
    rw [Bool.and_eq_true] at h'
    exact h'.2
/-- two sorted lists of the same texts are one -/
theorem sorted_uniq : ∀ {a b : List Str}, a.Perm b → sortedS a = true → sortedS b = true → a = b
  | [], b, hp, _, _ => (List.Perm.nil_eq hp)
  | x :: a, [], hp, _, _ => absurd hp.length_eq (by simp)
  | x :: a, y :: b, hp, ha, hb => by
    have h1 : ¬ y.cps.toList < x.cps.toList := by
      rcases List.mem_cons.mp (hp.symm.subset (.head _)) with e | hm
      · rw [e]; exact lt_irr _
      · exact rise_le ha y hm
    have h2 : ¬ x.cps.toList < y.cps.toList := by
      rcases List.mem_cons.mp (hp.subset (.head _)) with e | hm
      · rw [e]; exact lt_irr _
      · exact rise_le hb x hm
    have e : x = y := by
      apply str_ext
      exact List.le_antisymm (List.not_lt.mp h1) (List.not_lt.mp h2)
    subst e
    rw [sorted_uniq ((List.perm_cons x).mp hp) (sorted_tail ha) (sorted_tail hb)]
theorem permL_perm : ∀ {a b : List (List Nat)}, permL a b = true → a.Perm b
  | [], [], _ => .nil
  | [], _ :: _, h => by cases h
  | x :: a, b, h => by
    have h' : (b.contains x && permL a (b.erase x)) = true := h
    rw [Bool.and_eq_true, List.contains_iff_mem] at h'
    exact ((permL_perm h'.2).cons x).trans (List.perm_cons_erase h'.1).symm
theorem ok_mk {l : List Nat} (h : ∀ c ∈ l, c < 128) : PyData.strOk (mkS l) = true := by
  unfold PyData.strOk
  simp only [mkS, List.all_toArray, List.all_eq_true, decide_eq_true_eq]
  intro c hc
  have := h c hc; omega
end
section
open PySem PySem.W PySem.Calls PyProof.Rows PySem.Builtin PySem.Builtin.Str
section
set_option maxHeartbeats 1000000 in
theorem len_tab (w : World) (mean) (mg mb) (T TD HL : Addr) (n : Nat) (rows : List Row4) (hr : rows.length ≤ 1000) :
    GClaim1 w mean mg mb 3 181 [.ref T] [] (fun news P => TabAt 273 P T TD HL n rows news) (fun h₀ L m news K => ∀ t h' tk', Fr h₀ L h' m → News h₀ L h' news → K (.int rows.length t) h' tk') := by
  unfold GClaim1 prog1
  k_fill
  intros; rename_i hpre hdp hun hret
  dsimp only at hpre hret
  obtain ⟨hm1, ⟨hh, ht, hm2⟩, hm3, hm4⟩ := hpre
  have hss := sizeLine_eq
  have hsz : (rows.map fun r => Value.ref r.a).length = rows.length := List.length_map ..
  refine wpAny_call ?_
  k_dflt (first | (refine' code_def ?k1 ?k2 ?k3 ?k4 ?k5 ?kA ?kF ?kK ?k6 ?k7 ?k8 ?k9 ?kB ?_ ?c2 ?c3 ?c4 ?c5; (case kA => exact rfl); (case kF => exact rfl); (case kK => (first | with_reducible assumption | assumption)); (case k1 => k_asm); (case k2 => k_asm); (case k3 => k_asm); (case k4 => k_asm); (case k5 => k_asm); (case k6 => k_is); (case k7 => k_is); (case k8 => ktr_room); (case k9 => exact binds_K (by k_in) rfl (by k_is) rfl rfl rfl); (case c5 => decide); (case kB => exact locs rfl); (case c2 => exact rfl); (case c3 => exact rfl); (case c4 => exact rfl); k_whole; intro g' L' h' FG' F' N' B' X' T'; (try dsimp only); (try k_lift B'); (try k_fold)) | (refine' ks_code_super ?k1 ?k2 ?k3 ?k4 ?k5 ?kA ?kF ?kK ?k6 ?k7 ?k8 ?k9 ?kB ?_ ?c1 ?c2 ?c3 ?c4; (case kA => exact rfl); (case kF => exact rfl); (case kK => first | exact rfl | (first | with_reducible assumption | assumption)); (case k1 => k_asm); (case k2 => k_asm); (case k3 => k_asm); (case k4 => k_asm); (case k5 => k_asm); (case k6 => k_is); (case k7 => k_is); (case k8 => ktr_room); (case k9 => first | exact BindsTo.of_eq rfl | exact binds_K (by k_in) rfl (by k_is) rfl rfl rfl); (case kB => exact locs rfl); (case c1 => decide); (case c2 => exact rfl); (case c3 => exact rfl); (case c4 => exact rfl); intro g' L' h' FG' F' N' B' X' T' lc1; (try k_lt lc1); (try dsimp only); (try k_lift B')) | (refine' code_defC ?k1 ?k2 ?k3 ?k4 ?k5 ?kA ?kF ?kK ?k6 ?k7 ?k8 ?k9 ?kB ?kD ?_ ?c2 ?c3 ?c4; (case kA => exact rfl); (case kF => exact rfl); (case kK => first | exact rfl | (first | with_reducible assumption | assumption)); (case k1 => k_asm); (case k2 => k_asm); (case k3 => k_asm); (case k4 => k_asm); (case k5 => k_asm); (case k6 => k_is); (case k7 => k_is); (case k8 => ktr_room); (case k9 => first | exact BindsTo.of_eq rfl | exact binds_K (by k_in) rfl (by k_is) rfl rfl rfl | fail "k_enter: no rule for these arguments"); (case kB => exact rfl); (case kD => decide +kernel); (case c2 => exact rfl); (case c3 => exact rfl); (case c4 => exact rfl); k_whole; intro g' L' h' tk' cells' FG' F' N' Y' B' X' T' lc1; (try k_lt lc1); k_cells Y'; (try simp only [List.cons_append, List.nil_append] at N'); (try dsimp only); (try k_lift B'); (try k_fold)) | cell_enter)
  repeat' (first | (k_unfold; (try dsimp only)) | (k_end; wrow_close) | (with_reducible (first | (k_here; (with_reducible show wpAny _ _ (call (Value.builtin "len") [Value.ref _]) _ _ _); k_dflt (refine' len_r ?jN_1 ?jm_1 ?jx_1 ?jz_1 ?_; (case jN_1 => k_asm); (case jm_1 => first | with_reducible assumption | k_mem); (case jx_1 => with_reducible assumption); (case jz_1 => (rw [sizeLine_eq]; omega)); intro t' k')))) | walk1 | (dsimp only; first | (with_reducible (first | (k_here; (with_reducible show wpAny _ _ (call (Value.builtin "len") [Value.ref _]) _ _ _); k_dflt (refine' len_r ?jN_1 ?jm_1 ?jx_1 ?jz_1 ?_; (case jN_1 => k_asm); (case jm_1 => first | with_reducible assumption | k_mem); (case jx_1 => with_reducible assumption); (case jz_1 => (rw [sizeLine_eq]; omega)); intro t' k')))) | walk1) | (leave1; try dsimp only) | fail "no step")
  exact hret _ _ _ (by k_asm) (by k_asm)
end
end
section
open PySem PySem.W PySem.Calls PyProof.Rows PySem.Builtin PySem.Builtin.Str
theorem law_e (ns : List Int) : okE (wordS 0 (bitsS ns)) (perTab (wordS 0 (bitsS ns))) = true := by
  have h := law_all ns
  unfold lawOK at h
  simp only [Bool.and_eq_true] at h
  exact h.2
noncomputable abbrev kindsL (ns : List Int) : List (List (List Nat)) := kindsS (wordS 0 (bitsS ns)) (perG (perTab (wordS 0 (bitsS ns)))) 8
noncomputable abbrev rowsL (ns : List Int) : List (List Nat × List Nat) := rowsT (wordS 0 (bitsS ns)) 2
noncomputable abbrev nmL (i : Nat) : List Nat := [65, 97, 65, 97].take (i + 1)
theorem law_perm (ns : List Int) {i : Nat} (hi : i < 4) : (getL (rowsL ns) (nmL i)).Perm ((kindsL ns).getD (i + 1) []) := by
  have h := law_e ns
  unfold okE at h
  dsimp only at h
  rw [Bool.and_eq_true, Bool.and_eq_true] at h
  exact permL_perm (List.all_eq_true.mp h.1.1 (i + 1) (by
    have : i = 0 ∨ i = 1 ∨ i = 2 ∨ i = 3 := by omega
    rcases this with rfl | rfl | rfl | rfl <;> simp))
theorem law_count (ns : List Int) : (rowsL ns).length = ((kindsL ns).map List.length).sum ∧ (rowsL ns).length < 8 := by
  have h := law_e ns
  unfold okE at h
  dsimp only at h
  rw [Bool.and_eq_true, Bool.and_eq_true] at h
  exact ⟨eq_of_beq h.1.2, of_decide_eq_true h.2⟩
theorem nm_two {i : Nat} (hi : i < 4) : two (nmL i) = true := by
  have : i = 0 ∨ i = 1 ∨ i = 2 ∨ i = 3 := by omega
  rcases this with rfl | rfl | rfl | rfl <;> rfl
theorem nm_len (i : Nat) : (nmL i).length ≤ 4 := by rw [List.length_take]; exact Nat.min_le_right _ _
theorem slice_nm {i : Nat} (hi : i < 4) {v : Int} (hv : v = 1 + (i : Int)) : Txt.slice (Str.ofString "AaAa") none (some v) = mkS (nmL i) := by
  have e : Str.ofString "AaAa" = mkS [65, 97, 65, 97] := by decide +kernel
  rw [e, hv, show 1 + (i : Int) = ((i + 1 : Nat) : Int) by omega]
  exact slice_to [65, 97, 65, 97] (i + 1) (by show i + 1 ≤ 4; omega)
/-- all signs of the table's texts are small -/
noncomputable def SpotsOK (rl : List (List Nat × List Nat)) : Prop := ∀ e ∈ rl, ∀ c ∈ e.2, c < 128
theorem spot_small {ws : List Nat} (h2 : two ws = true) (f l : Nat) : ∀ c ∈ spotL ws f l, c < 128 := by
  intro c hc
  rcases List.mem_append.mp hc with h | h
  · rw [List.eq_of_mem_replicate h]; decide
  · have := List.all_eq_true.mp h2 c (List.mem_of_mem_drop (List.mem_of_mem_take h))
    simp at this
    omega
theorem spots_P {ws : List Nat} (h2 : two ws = true) {hs : List (List Nat)} {rl : List (List Nat × List Nat)} (h : SpotsOK rl) : ∀ p, SpotsOK (rowsP ws hs rl p)
  | 0 => h
  | p + 1 => by
    have ih := spots_P h2 (hs := hs) h p
    show SpotsOK (stepT ws hs (rowsP ws hs rl p) p)
    unfold stepT
    dsimp only
    split
    · intro e he
      rcases List.mem_append.mp he with he | he
      · exact ih e he
      · rw [List.mem_singleton.mp he]; exact spot_small h2 _ _
    · exact ih
theorem spots_T {ws : List Nat} (h2 : two ws = true) : ∀ i, SpotsOK (rowsT ws i)
  | 0 => fun e he => nomatch (show e ∈ ([] : List (List Nat × List Nat)) from he)
  | i + 1 => spots_P h2 (spots_T h2 i) 8
theorem getL_ok {rl : List (List Nat × List Nat)} (h : SpotsOK rl) (nm : List Nat) : ∀ x ∈ (getL rl nm).map mkS, PyData.strOk x = true := by
  intro x hx
  obtain ⟨l, hl, rfl⟩ := List.mem_map.mp hx
  obtain ⟨e, he, rfl⟩ := List.mem_map.mp hl
  exact ok_mk (h e (List.mem_filter.mp he).1)
/-- the two sorted lists -/
theorem srt_same {ns : List Int} {i : Nat} (hi : i < 4) {rows : List Row4} {l : List (Str × Tok)} {kss : List (Str × Tok)} {s1 s2 : List Str} (hR : RowsT rows (rowsL ns)) (hn : NamesOK (rowsL ns)) {nm : Str} (hm : nm = mkS (nmL i)) (hg : l.map (·.1) = getAll nm rows) (hk : kss.map (·.1) = ((kindsL ns).getD (i + 1) []).map mkS)
    (p1 : s1.Perm (l.map (·.1))) (p2 : s2.Perm (kss.map (·.1))) (o1 : sortedS s1 = true) (o2 : sortedS s2 = true) : s1 = s2 ∧ (∀ x ∈ s1, PyData.strOk x = true) ∧ ∀ x ∈ s2, PyData.strOk x = true := by
  rw [hg, hm, getAll_eq hR hn (nm_two hi)] at p1
  rw [hk] at p2
  have hp : s1.Perm s2 := p1.trans (((law_perm ns hi).map mkS).trans p2.symm)
  have ho : ∀ x ∈ s1, PyData.strOk x = true := fun x hx => getL_ok (spots_T (two_word _ _) 2) _ x (p1.subset hx)
  have e := sorted_uniq hp o1 o2
  exact ⟨e, ho, e ▸ ho⟩
theorem ne_strs_same {prog : Program} {w : World} {A : Around} {E : Value → Shared → Prop} {s : Shared} {h₀ : Heap} {L : Addr} {news : Led} {a b : Addr} {xs ys : List Value} {n1 n2 : Nat} {ns ms : List Str} {Q : Value → Shared → Prop} (N : News h₀ L s.heap news) (ha : (a, listOf xs.toArray n1) ∈ news) (hb : (b, listOf ys.toArray n2) ∈ news) (hi : StrsAre xs ns) (hj : StrsAre ys ms) (he : ns = ms ∧ (∀ x ∈ ns, PyData.strOk x = true) ∧ ∀ x ∈ ms, PyData.strOk x = true) (hu : A.units + 64 < cLine) (h : Q (.bool false) s) :
    wpAny (model prog w) A (compareOp .NotEq (.ref a) (.ref b)) Q E s :=
  ne_strs (led_list N ha) (led_list N hb) hi hj he.2.1 he.2.2 hu (by rw [decide_eq_true he.1]; exact h)
theorem get_lt {l : List (Str × Tok)} {nm : Str} {rows : List Row4} (h : l.map (·.1) = getAll nm rows) (hr : rows.length < 64) : l.length < 64 := by
  have h1 := congrArg List.length h
  rw [List.length_map] at h1
  unfold getAll at h1
  rw [List.length_map] at h1
  have := List.length_filter_le (fun r : Row4 => Txt.lower r.x == Txt.lower nm) rows
  omega
theorem ks_lt {ns : List Int} {i : Nat} (hi : i < 4) {kss : List (Str × Tok)} (h : kss.map (·.1) = ((kindsL ns).getD (i + 1) []).map mkS) : kss.length < 64 := by
  have h1 := congrArg List.length h
  rw [List.length_map, List.length_map, ← (law_perm ns hi).length_eq] at h1
  have h2 := (law_count ns).2
  have h3 : (getL (rowsL ns) (nmL i)).length ≤ (rowsL ns).length := by
    unfold getL; rw [List.length_map]; exact List.length_filter_le _ _
  omega
theorem ks_len5 {ks : List (List (List Nat))} {n j : Nat} (h8 : n < 8) (hn : n = (ks.map List.length).sum) (h : ks.length = 5) (hj : j < 5) : (ks.getD j []).length < 8 := by
  match ks, h with
  | [a, b, c, d, e], _ =>
    have : n = a.length + (b.length + (c.length + (d.length + (e.length + 0)))) := hn
    have hj' := (by decide : ∀ j < 5, j = 0 ∨ j = 1 ∨ j = 2 ∨ j = 3 ∨ j = 4) j hj
    rcases hj' with rfl | rfl | rfl | rfl | rfl
    · show a.length < 8; omega
    · show b.length < 8; omega
    · show c.length < 8; omega
    · show d.length < 8; omega
    · show e.length < 8; omega
theorem OutsAre.ints {α : Type} {g : α → Int} {as : List α} {vs : List Value} (h : OutsAre (fun a t => .int (g a) t) as vs) : IntsAre vs (as.map g) := by
  induction h with
  | nil => exact .nil
  | cons _ ih => exact .cons _ _ ih
theorem kinds_sum {ks : List (List (List Nat))} (h : ks.length = 5) : ((List.range 5).map fun j => ((ks.getD j []).length : Int)).sum = (((ks.map List.length).sum : Nat) : Int) := by
  match ks, h with
  | [a, b, c, d, e], _ =>
    show (a.length : Int) + ((b.length : Int) + ((c.length : Int) + ((d.length : Int) + ((e.length : Int) + 0)))) = ((a.length + (b.length + (c.length + (d.length + (e.length + 0)))) : Nat) : Int)
    omega
end
theorem wellSaid1 : (PySem.Challenge.rw_wb0072_02).wellSaid = true := by kernel_rfl
theorem fill1 : K1 = K1 ∧ PySem.Challenge.rw_wb0072_02 = PySem.Challenge.rw_wb0072_02 := by k_fill; exact ⟨rfl, rfl⟩
/-- what is left to show of the law, and that it is enough -/
abbrev Cut : Type := { P : Prop // P → PySem.Challenge.rw_wb0072_02.Holds }
structure Hide (P : Prop) : Prop where
  out : P
def mkCut {P : Prop} (h : Hide P → PySem.Challenge.rw_wb0072_02.Holds) : Cut := ⟨P, fun p => h ⟨p⟩⟩
set_option maxHeartbeats 8000000 in
noncomputable def cut3 : Cut := by
  refine' mkCut ?h
  case h =>
    intro hP
    w_on
    refine holds_law (l := PySem.Challenge.rw_wb0072_02) wellSaid1 fun said => ?_
    refine PySem.W.holds_open (q := view0) (loose := loose0) (Xt := fun s => xlAt view0 [] s && recOk (RowW.records (OpenRow.toRowW (PySem.Challenge.rw_wb0072_02).row)) s) (XP := XL view0 []) (Yf := hook1.obs) (Ya := hook1.val) (YP := hook1.says) (N := 3686) left1 hook1.of hook1.keeps (fun s e => xl_of s (Bool.and_eq_true_iff.mp e).1) XL.keeps (by rfl) (by rfl) (by rfl) (fun s e => recFacts_of (Bool.and_eq_true_iff.mp e).2) (by rfl) (by first | assumption | decide +kernel) (by decide +kernel) ⟨rfl, rfl, rfl, rfl, rfl, by decide +kernel⟩ ?hw ?hc
    (case hw => w_witness2)
    clear said
    k_fill
    intro w s₀ s₁ mg mb G Y fa o pm cd doc dV kV ho hd hcd hD hmg hg args vals as hpre hlay hrd hwl hlo
    have KX := km_in_of Y
    have hT8 := km_tabs_of Y
    lge_behind G ho hd hcd hD hmg hpre hlay hrd hwl hlo cd
    rename_i zq16 zq17 zq18 zq19 zq20 zq21 zq22 zq23 zq24 zq25 zq26 zq27 zq28 zq30 zq31 zq32 zq33 zq34 zq35 zq36 zq37 zq38 zq39 zq40 zq41 zq42 zq43 zq44 zq45 zq46 zq47 zq48 zq49 zq51 zq52 zq53 zq54
    revert w s₀ s₁ mg mb G Y fa o pm doc kV ho hg KX hT8 zq16 zq17 zq18 zq19 zq20 zq21 zq22 zq23 zq24 zq25 zq26 zq27 zq28 hcd zq30 zq31 zq32 zq33 zq34 zq35 zq36 zq37 zq38 zq39 zq40 zq41 zq42 zq43 zq44 zq45 zq46 zq47 zq48 zq49 hD zq51 zq52 zq53 zq54
    exact hP.out
set_option maxHeartbeats 8000000 in
noncomputable def cut4 : Cut := by
  refine' mkCut ?h
  case h =>
    intro hP
    refine cut3.2 ?_
    intro w
    intros
    rename Fr _ _ _ _ => hF
    rename News _ _ _ _ => hN
    rename LGe.Mark => hM
    rename Shared => s₁
    rename World => w
    rename Top _ _ _ _ _ _ => hT
    rename (∀ P ∈ [87, 94], _ = _) => hT8
    rename Frag.In _ _ => hX
    rename IntsAre _ _ => hI
    rename Heap.IsList _ _ _ => hL
    rename (_ = #[]) => hg
    rename (¬ _ < _) => hlen
    have t1 := hT8 87 (by simp)
    have t2 := hT8 94 (by simp)
    have T1 := hid_top hT t1 t2 rfl rfl (by decide +kernel)
    have X1 := hid_in hX (by kernel_rfl)
    have F1 := hid_fr hF
    have N1 := hid_news hF hN t1 t2
    have B1 := below_caller (hid s₁.heap)
    have L1 : (hid s₁.heap).IsList _ _ := hL.at fun o e => hid_get e (fun q => by subst q; obtain ⟨o', e', c, _⟩ := hL; rw [t1] at e'; cases e'; cases c) (fun q => by subst q; obtain ⟨o', e', c, _⟩ := hL; rw [t2] at e'; cases e'; cases c)
    refine wpAny_mono (E := fun _ _ => False) (Q := fun f s' => f = .ret (.bool true) ∧ LawEnd (hid s₁.heap) s₁.heap.objs.size s₁ s') ?walk ?conv (fun _ _ e => e.elim)
    case conv =>
      intro f s' h
      obtain ⟨rfl, h⟩ := h
      refine ⟨?v, law_old hX (c1 := 91) (c2 := 98) ⟨_, _, _, _, _, _, _, _, _, by k_is, rfl, rfl, rfl, rfl, rfl, rfl, rfl, rfl⟩ ⟨_, _, _, _, _, _, _, _, _, by k_is, rfl, rfl, rfl, rfl, rfl, rfl, rfl, rfl⟩ (by decide) (by decide) t1 t2 h⟩
      case v => exact .inl ⟨_, .bool true, [], rfl, fun _ => rfl, .bool _ , postW_of (by wrow_shape) (by wtm_val) (by str_meet; first | done | w_fin), fun _ => ⟨List.nodup_nil, fun a ha => nomatch ha⟩⟩
    have hss := sizeLine_eq
    clear B1
    rename Below _ _ _ _ => zK
    rename TopE _ _ _ _ => z1
    rename TopW _ _ _ => z2
    rename Tables _ _ _ _ => z3
    rename BMod _ _ _ _ _ => z4
    rename Based _ _ _ _ _ => z5
    rename Glob _ _ _ _ _ _ _ _ => z6
    rename Ground _ _ _ _ _ _ _ _ _ => z7
    rename Heap.CodeRec _ _ _ => z9
    rename LooseAre _ _ _ => z10
    rename Flt.MathXP _ _ _ => z11
    clear hM hF hN hL zK z1 z2 z3 z4 z5 z6 z9 z10 z11
    refine gen_post fun QE hQE => ?_
    generalize hid s₁.heap = H0 at T1 X1 F1 N1 L1 hQE ⊢
    generalize s₁.heap.objs.size = L0 at F1 N1 hQE ⊢
    refine Fr.fold F1 ?_
    clear F1
    intro mB F1
    have B1 := below_caller H0
    repeat' (first | (k_unfold; (try dsimp only)) | (k_end; wrow_close) | (with_reducible (first | (k_here; (with_reducible show wpAny _ _ (exec (Stmt.For (Expr.Name _ _) (Expr.Tuple _ _ _) _ _ _) _) _ _ _); (rename Fr _ _ _ _ => lF'); k_dflt (with_unfolding_all refine' For_tupS lF' ?_ ?hgo_16; (case hgo_16 => intro I v s Q E h q; exact letGo_name q); k_whole)) | (k_here; (with_reducible show wpAny _ _ (call (Value.ref 273) _ _) _ _ _); k_dflt (refine' (tab_nil _ _ _ _) _ _ _ _ _ _ _ _ _ _ _ _ _ _ _ _ _ _ ?gB ?gF ?gX ?gN ?gT ?gk ?gp_15 ?gd ?gu ?_; walk_at "gclaim"; (case gp_15 => trivial); intro T' TD' HL' n' h' tk' F' hN'; (obtain ⟨l0', N', hTab', hs0'⟩ := hN'); (try dsimp only); (try k_fold))) | (k_here; (with_reducible show wpAny _ _ (call (Value.ref 282) _ _) _ _ _); k_dflt (refine' (word_ok _ _ _ _ _ _ _ _ _ ?ghi_14 ?ghn_14) _ _ _ _ _ _ _ _ _ _ _ _ _ _ _ _ _ _ ?gB ?gF ?gX ?gN ?gT ?gk ?gp_14 ?gd ?gu ?_; walk_at "gclaim"; (case gp_14 => (first | with_reducible assumption | assumption)); (case ghi_14 => (first | with_reducible assumption | assumption)); (case ghn_14 => omega); intro t' h' tk' F' N'; (try dsimp only); (try k_fold))))) | walk1 | (dsimp only; first | (with_reducible (first | (k_here; (with_reducible show wpAny _ _ (exec (Stmt.For (Expr.Name _ _) (Expr.Tuple _ _ _) _ _ _) _) _ _ _); (rename Fr _ _ _ _ => lF'); k_dflt (with_unfolding_all refine' For_tupS lF' ?_ ?hgo_16; (case hgo_16 => intro I v s Q E h q; exact letGo_name q); k_whole)) | (k_here; (with_reducible show wpAny _ _ (call (Value.ref 273) _ _) _ _ _); k_dflt (refine' (tab_nil _ _ _ _) _ _ _ _ _ _ _ _ _ _ _ _ _ _ _ _ _ _ ?gB ?gF ?gX ?gN ?gT ?gk ?gp_15 ?gd ?gu ?_; walk_at "gclaim"; (case gp_15 => trivial); intro T' TD' HL' n' h' tk' F' hN'; (obtain ⟨l0', N', hTab', hs0'⟩ := hN'); (try dsimp only); (try k_fold))) | (k_here; (with_reducible show wpAny _ _ (call (Value.ref 282) _ _) _ _ _); k_dflt (refine' (word_ok _ _ _ _ _ _ _ _ _ ?ghi_14 ?ghn_14) _ _ _ _ _ _ _ _ _ _ _ _ _ _ _ _ _ _ ?gB ?gF ?gX ?gN ?gT ?gk ?gp_14 ?gd ?gu ?_; walk_at "gclaim"; (case gp_14 => (first | with_reducible assumption | assumption)); (case ghi_14 => (first | with_reducible assumption | assumption)); (case ghn_14 => omega); intro t' h' tk' F' N'; (try dsimp only); (try k_fold))))) | walk1) | (leave1; try dsimp only) | fail "no step")
    rename List Int => ns
    rename TabAt _ _ _ _ _ _ _ _ => hTab
    rename (∀ p ∈ [_, _], p ∈ _) => hs9
    have hgb : AllBare s₁.gens := AllBare.of_eq hg
    have e87 := hs9 (87, _) (by k_mem)
    have e94 := hs9 (94, _) (by k_mem)
    rename Fr _ _ _ _ => FA
    refine Fr.fold FA ?_
    clear FA
    intro mA FA
    rename_i zq1 zq3 zq4 zq6 zq7 zq8 zq9 zq10 zq11 zq12 zq17 zq18 zq19 zq20 zq22 zq23 zq24 zq25 zq26 zq27 zq28 zq29 zq30 zq31 zq32 zq33 zq34 zq36 zq38 zq39 zq40 zq54 zq55 zq56 zq57 zq58 zq59 zq60 zq61 zq73 zq75 zq76 zq77 zq78
    clear z7 zq6 zq9 zq10 zq12 hg hX hT8 hT zq17 zq18 zq20 zq22 zq23 zq25 zq27 zq28 zq31 zq32 zq33 zq34 zq36 zq38 zq40 t1 t2 hss zq55 zq56 zq57 zq60 zq61 h' tk' hs9 qk ek zq78
    revert w zq1 s₁ zq3 zq4 zq7 zq8 zq11 zq19 ns zq24 zq26 zq29 zq30 hI hlen zq39 QE H0 T1 X1 L1 L0 hQE mB B1 t' zq54 zq58 zq59 T' TD' HL' n' l0' hTab zq73 tk zq75 zq76 zq77 hgb e87 e94 mA FA
    exact hP.out
set_option maxHeartbeats 8000000 in
noncomputable def cut5 : Cut := by
  refine' mkCut ?h
  case h =>
    intro hP
    refine cut4.2 ?_
    intro w s₀ s₁ mg mb fa o kV w_3 ns hL hl2 w_7 w_8 hI hlen hD QE H0 T1 X1 L1 L0 hQE mB B1 t' h' h'_1 tk T' TD' HL' n' l0' hTab h'_4 tk_2 D' h'_5 N' hgb e87 e94 mA FA
    refine ⟨_, _, _, [Value.int 0 _, Value.int 1 _], _, _, fun i m l => (∀ z, z ∉ [Str.ofString "turned", Str.ofString "pile", Str.ofString "heads", Str.ofString "place", Str.ofString "size", Str.ofString "first", Str.ofString "last", Str.ofString "spot"] → m z = mA z) ∧ ∃ n rows ps pl, TabAt 273 w.params T' TD' HL' n rows l ∧ RowsT rows (rowsT (wordS 0 (bitsS ns)) i) ∧ StrTab ps ∧ (94, tabO ps) ∈ l ∧ LenTab pl ∧ (87, tabO pl) ∈ l, rfl, rfl, .head _, rfl, rfl, hgb, by k_asm, by k_asm, ⟨fun _ _ => rfl, _, _, _, _, hTab.sub (fun p hp => .tail _ hp), rfl, .inl rfl, .tail _ e94, .inl rfl, .tail _ e87⟩, ?turn, ?done⟩
    case turn =>
      rintro I i v m₁ news₁ ⟨hp3, gn3, dr3, tp3, os3⟩ oI hcI hv hos3 hgb3 ⟨hz, n1, rows1, ps1, pl1, hTb, hRT, hps, h94, hpl, h87⟩ hoff hD F N
      refine gen_turn fun RR21 hRR21 => ?_
      dsimp only at F N hgb3 hos3
      rw [eq_over hz] at F
      try dsimp only [over, List.foldr] at F
      obtain ⟨hi2, t3, rfl⟩ := two_vals hv
      have hrl1 := hRT.len
      have hrl2 := rowsT_len (wordS 0 (bitsS ns)) i
      have hokt := law_t (ns := ns) hi2
      have hoffT := piled_off hokt
      rw [← word_turn _ i hi2] at hoffT
      repeat' (first | (k_unfold; (try dsimp only)) | (k_end; wrow_close) | (with_reducible (first | (k_here; (with_reducible show wpAny _ _ (call (Value.ref 289) _ _) _ _ _); k_dflt (refine' (piled_ok _ _ _ _ _ ?gh1_18 _ _ _ _ _) _ _ _ _ _ _ _ _ _ _ _ _ _ _ _ _ _ _ ?gB ?gF ?gX ?gN ?gT ?gk ?gp_18 ?gd ?gu ?_; walk_at "gclaim"; (case gp_18 => (refine AccAt.grown (by (first | with_reducible assumption | assumption)) ?_; intro p hp; repeat (first | exact hp | refine .tail _ ?_))); (case gh1_18 => exact word_len _ _); intro HQ' hk' hs' n' rows' news' h' tk' F' N' hHL' hhs' hA' hR' hK'; (try dsimp only); (try k_fold); (refine stopHere ?_))) | (k_here; (with_reducible show wpAny _ _ (call (Value.ref 125) _ _) _ _ _); k_dflt (refine' (acc_new _ _ _ _ _ _) _ _ _ _ _ _ _ _ _ _ _ _ _ _ _ _ _ _ ?gB ?gF ?gX ?gN ?gT ?gk ?gp_17 ?gd ?gu ?_; walk_at "gclaim"; (case gp_17 => trivial); intro P' D' n' h' tk' F' hN'; (obtain ⟨l1', N', hAcc', hs1'⟩ := hN'); (have hne1' := acc_ne N' hAcc' hs1'); (try dsimp only); (try k_fold))) | (k_here; (with_reducible show wpAny _ _ (call (Value.ref 282) _ _) _ _ _); k_dflt (refine' (word_ok _ _ _ _ _ _ _ _ _ ?ghi_14 ?ghn_14) _ _ _ _ _ _ _ _ _ _ _ _ _ _ _ _ _ _ ?gB ?gF ?gX ?gN ?gT ?gk ?gp_14 ?gd ?gu ?_; walk_at "gclaim"; (case gp_14 => (first | with_reducible assumption | assumption)); (case ghi_14 => (first | with_reducible assumption | assumption)); (case ghn_14 => omega); intro t' h' tk' F' N'; (try dsimp only); (try k_fold))))) | walk1 | (dsimp only; first | (with_reducible (first | (k_here; (with_reducible show wpAny _ _ (call (Value.ref 289) _ _) _ _ _); k_dflt (refine' (piled_ok _ _ _ _ _ ?gh1_18 _ _ _ _ _) _ _ _ _ _ _ _ _ _ _ _ _ _ _ _ _ _ _ ?gB ?gF ?gX ?gN ?gT ?gk ?gp_18 ?gd ?gu ?_; walk_at "gclaim"; (case gp_18 => (refine AccAt.grown (by (first | with_reducible assumption | assumption)) ?_; intro p hp; repeat (first | exact hp | refine .tail _ ?_))); (case gh1_18 => exact word_len _ _); intro HQ' hk' hs' n' rows' news' h' tk' F' N' hHL' hhs' hA' hR' hK'; (try dsimp only); (try k_fold); (refine stopHere ?_))) | (k_here; (with_reducible show wpAny _ _ (call (Value.ref 125) _ _) _ _ _); k_dflt (refine' (acc_new _ _ _ _ _ _) _ _ _ _ _ _ _ _ _ _ _ _ _ _ _ _ _ _ ?gB ?gF ?gX ?gN ?gT ?gk ?gp_17 ?gd ?gu ?_; walk_at "gclaim"; (case gp_17 => trivial); intro P' D' n' h' tk' F' hN'; (obtain ⟨l1', N', hAcc', hs1'⟩ := hN'); (have hne1' := acc_ne N' hAcc' hs1'); (try dsimp only); (try k_fold))) | (k_here; (with_reducible show wpAny _ _ (call (Value.ref 282) _ _) _ _ _); k_dflt (refine' (word_ok _ _ _ _ _ _ _ _ _ ?ghi_14 ?ghn_14) _ _ _ _ _ _ _ _ _ _ _ _ _ _ _ _ _ _ ?gB ?gF ?gX ?gN ?gT ?gk ?gp_14 ?gd ?gu ?_; walk_at "gclaim"; (case gp_14 => (first | with_reducible assumption | assumption)); (case ghi_14 => (first | with_reducible assumption | assumption)); (case ghn_14 => omega); intro t' h' tk' F' N'; (try dsimp only); (try k_fold))))) | walk1) | (leave1; try dsimp only) | fail "no step")
      show wpAny _ _ _ _ _ _
      rename (∀ p ∈ (I, oI) :: news₁, p ∈ _) => hs5
      rename (∀ p ∈ (I, oI) :: news₁, (∀ us j, p.2 ≠ accO _ _ us j) → p.1 ≠ _) => hne5
      rename AccAt _ _ _ _ _ _ _ => hA5
      rename RowsOf _ _ => hR5
      rename Kept _ _ _ => hK5
      rename ((_, listOf (strValues _).toArray _) ∈ _) => hH5
      rename (List.map (fun q : Str × Tok => q.1) _ = List.map mkS _) => hh5
      rename News _ _ _ _ => N5
      have mv5 : ∀ {q : Addr} {o : Obj}, (q, o) ∈ news₁ → (∀ us j, o ≠ accO _ _ us j) → (q, o) ∈ _ := fun {q o} h1 h2 => hK5 (q, o) (hs5 _ (.tail _ h1)) (hne5 _ (.tail _ h1) h2)
      have k94 := mv5 h94 (fun us j e => by cases congrArg Obj.data e)
      have k87 := mv5 h87 (fun us j e => by cases congrArg Obj.data e)
      have n94 := News.ne N5 hH5 k94 (fun e => by cases congrArg Obj.cls e)
      have n87 := News.ne N5 hH5 k87 (fun e => by cases congrArg Obj.cls e)
      have nHP := News.ne N5 hH5 hA5.1 list_ne_acc
      have kI := hK5 (I, oI) (hs5 _ (.head _)) (hne5 _ (.head _) (fun us j => (acc_ne_cls hcI).symm))
      repeat' (first | (k_unfold; (try dsimp only)) | (k_end; wrow_close) | (with_reducible (first | (k_here; (with_reducible show wpAny _ _ (call (Value.ref 294) _ _) _ _ _); k_dflt (refine' (off_ok _ _ _ _ _ ?gh1_19 _ _ _ _ _ _ _ _ ?gh2_19 ?gh3_19 ?gh4_19 ?gh5_19 _ _ ?gh6_19 ?gh7_19 ?gh8_19 ?gh9_19) _ _ _ _ _ _ _ _ _ _ _ _ _ _ _ _ _ _ ?gB ?gF ?gX ?gN ?gT ?gk ?gp_19 ?gG_19 ?gd ?gu ?_; walk_at "gclaim"; (case gp_19 => (refine ⟨AccAt.grown (by (first | with_reducible assumption | assumption)) ?_, ?_, ?_⟩; (intro p hp; repeat (first | exact hp | refine .tail _ ?_)); k_mem; k_mem)); (case gG_19 => (first | with_reducible assumption | assumption)); (case gh1_19 => exact word_len _ _); (case gh2_19 => with_reducible assumption); (case gh3_19 => exact (piled_inv _ 8).1); (case gh4_19 => exact (piled_inv _ 8).2.2); (case gh5_19 => exact piled_z (by (first | with_reducible assumption | assumption))); (case gh6_19 => with_reducible assumption); (case gh7_19 => with_reducible assumption); (case gh8_19 => with_reducible assumption); (case gh9_19 => exact fmod3 _); intro s' c1' c2' news' hos' hG' F' N' hS1' hS2' hK'; (try dsimp only); (try k_fold))) | (k_here; (with_reducible show wpAny _ _ (call (Value.ref 282) _ _) _ _ _); k_dflt (refine' (word_ok _ _ _ _ _ _ _ _ _ ?ghi_14 ?ghn_14) _ _ _ _ _ _ _ _ _ _ _ _ _ _ _ _ _ _ ?gB ?gF ?gX ?gN ?gT ?gk ?gp_14 ?gd ?gu ?_; walk_at "gclaim"; (case gp_14 => (first | with_reducible assumption | assumption)); (case ghi_14 => (first | with_reducible assumption | assumption)); (case ghn_14 => omega); intro t' h' tk' F' N'; (try dsimp only); (try k_fold))) | (k_here; (with_reducible show wpAny _ _ (pyIter (Value.ref _)) (fun it s₂ => TurnsAt _ _ _ _ _ _ _ _ _ it s₂) _ _); k_dflt (refine stopHere ?_)) | (k_here; (with_reducible show wpAny _ _ (exec (Stmt.For (Expr.Name _ _) (Expr.Call _ _ _ _) _ _ _) _) _ _ _); (rename Fr _ _ _ _ => lF'); k_dflt (with_unfolding_all refine' For_turns lF' ?_; k_whole)))) | walk1 | (dsimp only; first | (with_reducible (first | (k_here; (with_reducible show wpAny _ _ (call (Value.ref 294) _ _) _ _ _); k_dflt (refine' (off_ok _ _ _ _ _ ?gh1_19 _ _ _ _ _ _ _ _ ?gh2_19 ?gh3_19 ?gh4_19 ?gh5_19 _ _ ?gh6_19 ?gh7_19 ?gh8_19 ?gh9_19) _ _ _ _ _ _ _ _ _ _ _ _ _ _ _ _ _ _ ?gB ?gF ?gX ?gN ?gT ?gk ?gp_19 ?gG_19 ?gd ?gu ?_; walk_at "gclaim"; (case gp_19 => (refine ⟨AccAt.grown (by (first | with_reducible assumption | assumption)) ?_, ?_, ?_⟩; (intro p hp; repeat (first | exact hp | refine .tail _ ?_)); k_mem; k_mem)); (case gG_19 => (first | with_reducible assumption | assumption)); (case gh1_19 => exact word_len _ _); (case gh2_19 => with_reducible assumption); (case gh3_19 => exact (piled_inv _ 8).1); (case gh4_19 => exact (piled_inv _ 8).2.2); (case gh5_19 => exact piled_z (by (first | with_reducible assumption | assumption))); (case gh6_19 => with_reducible assumption); (case gh7_19 => with_reducible assumption); (case gh8_19 => with_reducible assumption); (case gh9_19 => exact fmod3 _); intro s' c1' c2' news' hos' hG' F' N' hS1' hS2' hK'; (try dsimp only); (try k_fold))) | (k_here; (with_reducible show wpAny _ _ (call (Value.ref 282) _ _) _ _ _); k_dflt (refine' (word_ok _ _ _ _ _ _ _ _ _ ?ghi_14 ?ghn_14) _ _ _ _ _ _ _ _ _ _ _ _ _ _ _ _ _ _ ?gB ?gF ?gX ?gN ?gT ?gk ?gp_14 ?gd ?gu ?_; walk_at "gclaim"; (case gp_14 => (first | with_reducible assumption | assumption)); (case ghi_14 => (first | with_reducible assumption | assumption)); (case ghn_14 => omega); intro t' h' tk' F' N'; (try dsimp only); (try k_fold))) | (k_here; (with_reducible show wpAny _ _ (pyIter (Value.ref _)) (fun it s₂ => TurnsAt _ _ _ _ _ _ _ _ _ it s₂) _ _); k_dflt (refine stopHere ?_)) | (k_here; (with_reducible show wpAny _ _ (exec (Stmt.For (Expr.Name _ _) (Expr.Call _ _ _ _) _ _ _) _) _ _ _); (rename Fr _ _ _ _ => lF'); k_dflt (with_unfolding_all refine' For_turns lF' ?_; k_whole)))) | walk1) | (leave1; try dsimp only) | fail "no step")
      show wpAny _ _ _ _ _ _
      rename ((94, tabO (strT _)) ∈ _) => h94'
      rename ((87, tabO (lenT _)) ∈ _) => h87'
      rename (∀ p : Addr × Obj, p ∈ _ → p.1 ≠ 94 → p.1 ≠ 87 → p.1 ≠ _ → p ∈ _) => hK6
      rename (_ = PySem.Shared.os _) => hos6
      rename AllBare _ => hgb6
      rename News _ _ _ _ => N6
      have mv6 : ∀ p ∈ news₁, p.2.cls ≠ .none → (∀ D us j, p.2 ≠ accO 125 D us j) → p ∈ _ := fun p h1 h2 h3 => hK6 p (mv5 h1 (h3 _)) (News.ne (o := p.2) N (.tail _ h1) (.tail _ h94) (fun e => h2 (by rw [e]))) (News.ne (o := p.2) N (.tail _ h1) (.tail _ h87) (fun e => h2 (by rw [e]))) (hne5 p (.tail _ h1) (h3 _))
      have hT6 := hTb.mv mv6 (by decide)
      have hD6 := mv6 _ hD (fun e => by cases e) (fun D us j e => by cases congrArg Obj.cls e)
      have hH6 := hK6 _ hH5 n94 n87 nHP
      have hI6 := hK6 _ kI (hoff _ h94).symm (hoff _ h87).symm (hne5 _ (.head _) (fun us j => (acc_ne_cls hcI).symm))
      have hh6 : List.map (fun q : Str × Tok => q.1) _ = (headsT (wordS 0 (bitsS ns)) i).map mkS := hh5.trans (by rw [word_turn _ i hi2]; rfl)
      have nHT := News.ne N6 hH6 hT6.2.2.1 (strs_ne_refs (fun e => by have := congrArg List.length hh6; rw [List.length_map, List.length_map, heads_len, e] at this; cases this))
      rename Fr _ _ _ _ => FB
      refine Fr.fold FB ?_
      clear FB
      intro mB2 FB
      refine' turns_range (fun m₀ l₀ j m l => (∀ z, z ∉ [Str.ofString "place", Str.ofString "size", Str.ofString "first", Str.ofString "last", Str.ofString "spot"] → m z = m₀ z) ∧ ∃ n rows, TabAt 273 w.params T' TD' HL' n rows l ∧ RowsT rows (rowsP (wordS 0 (bitsS ns)) (headsT (wordS 0 (bitsS ns)) i) (rowsT (wordS 0 (bitsS ns)) i) j) ∧ Kept HL' l₀ l) ?ih ?ir ?i1 ?i2 ?i3 ?iF ?iN ?ij ?iturn ?idone
      case ih => rfl
      case ir => assumption
      case i1 => decide
      case i2 => decide
      case i3 => decide
      case iF => k_asm
      case iN => exact N6
      case ij => exact ⟨fun _ _ => rfl, _, _, hT6, hRT, fun p hp _ => hp⟩
      case iturn =>
        rintro I2 j v m₂ news₂ h tk oI2 hcI2 hj hv2 ⟨hz2, n2, rows2, hTb2, hRT2, hKt2⟩ hoff2 F2 N2 u
        refine gen_turn fun RR22 hRR22 => ?_
        rw [eq_over hz2] at F2
        try dsimp only [over, List.foldr] at F2
        obtain rfl : v = (j : Int) := by omega
        have hj8 : j < 8 := hj
        obtain ⟨hd1, hd2, hd3⟩ := head_ok hokt hj8
        have hjl : j < (headsT (wordS 0 (bitsS ns)) i).length := by rw [heads_len]; exact hj8
        have hjz : (headsT (wordS 0 (bitsS ns)) i).length ≤ 1000 := by rw [heads_len]; decide
        have hml := mkS_len ((headsT (wordS 0 (bitsS ns)) i).getD j [])
        have hs1 : 1 ≤ (mkS ((headsT (wordS 0 (bitsS ns)) i).getD j [])).length := by omega
        have hs2 : j + (mkS ((headsT (wordS 0 (bitsS ns)) i).getD j [])).length ≤ 8 := by omega
        have hs100 : (mkS ((headsT (wordS 0 (bitsS ns)) i).getD j [])).length ≤ 100 := by omega
        have hH7 := hKt2 _ hH6 nHT
        have hrl3 := hRT2.len
        have hrl4 := rowsP_len (wordS 0 (bitsS ns)) (headsT (wordS 0 (bitsS ns)) i) (rowsT (wordS 0 (bitsS ns)) i) j
        have hr900 : rows2.length ≤ 900 := by omega
        have hr1000 : rows2.length ≤ 1000 := by omega
        have hnm := names_P hokt (names_T (law_t (ns := ns) (by decide)) (law_t (ns := ns) (by decide)) i (by omega)) j (by omega)
        have hx2 := hnm.x hRT2
        have hcl := low_clean hd3 (show ((headsT (wordS 0 (bitsS ns)) i).getD j []).length ≤ 8 by omega)
        have hcm := two_clean hd3 (show ((headsT (wordS 0 (bitsS ns)) i).getD j []).length ≤ 8 by omega)
        have hwl : (⟨(wordS 0 (bitsS ns)).toArray⟩ : Str).length = 8 := by show (wordS 0 (bitsS ns)).toArray.size = 8; simp [word_len]
        obtain ⟨hl8, hl9⟩ := lastS_le (wordS 0 (bitsS ns)) (mkS ((headsT (wordS 0 (bitsS ns)) i).getD j [])).length (8 - (j + (mkS ((headsT (wordS 0 (bitsS ns)) i).getD j [])).length)) (j + (mkS ((headsT (wordS 0 (bitsS ns)) i).getD j [])).length)
        have hf7 := firstS_le (wordS 0 (bitsS ns)) (mkS ((headsT (wordS 0 (bitsS ns)) i).getD j [])).length j
        have hsp := spot_eq (ws := wordS 0 (bitsS ns)) (word_len _ _) (f := firstS (wordS 0 (bitsS ns)) (mkS ((headsT (wordS 0 (bitsS ns)) i).getD j [])).length j) (l := lastS (wordS 0 (bitsS ns)) (mkS ((headsT (wordS 0 (bitsS ns)) i).getD j [])).length (8 - (j + (mkS ((headsT (wordS 0 (bitsS ns)) i).getD j [])).length)) (j + (mkS ((headsT (wordS 0 (bitsS ns)) i).getD j [])).length)) (by omega) (by omega) (by omega)
        have hspc := spot_clean (ws := wordS 0 (bitsS ns)) (word_len _ _) (two_word _ _) (f := firstS (wordS 0 (bitsS ns)) (mkS ((headsT (wordS 0 (bitsS ns)) i).getD j [])).length j) (l := lastS (wordS 0 (bitsS ns)) (mkS ((headsT (wordS 0 (bitsS ns)) i).getD j [])).length (8 - (j + (mkS ((headsT (wordS 0 (bitsS ns)) i).getD j [])).length)) (j + (mkS ((headsT (wordS 0 (bitsS ns)) i).getD j [])).length)) (by omega) (by omega)
        rw [← hsp] at hspc
        have hspl := hspc.1
        have hms := spc_len (g := firstS (wordS 0 (bitsS ns)) (mkS ((headsT (wordS 0 (bitsS ns)) i).getD j [])).length j) (by omega)
        obtain ⟨gm1, ⟨gh, gt, gm2⟩, gm3, gm4⟩ := id hTb2
        repeat' (first | (k_unfold; (try dsimp only)) | (k_end; wrow_close) | (with_reducible (first | (k_here; (with_reducible show wpAny _ _ (compareOp CmpOp.NotIn (Value.str _ _) (Value.ref _)) _ _ _); k_dflt (refine' notin_list_strs ?k1_24 ?k2_24 ?_; (case k1_24 => exact News.isList (by k_asm) (by k_mem)); (case k2_24 => exact strsAre_values _); k_whole)) | (k_here; (with_reducible show wpAny _ _ (subscriptTail (Expr.Name _ _) (Expr.Name _ _) (Value.ref _) (Value.int _ _)) _ _ _); k_dflt (refine' led_hl ?jN_23 ?jm_23 ?jg_23 ?jk_23 ?jz_23 ?_; (case jN_23 => k_asm); (case jm_23 => k_mem); (case jg_23 => (first | with_reducible assumption | assumption)); (case jk_23 => (first | with_reducible assumption | assumption)); (case jz_23 => (first | with_reducible assumption | assumption)); intro t')) | (k_here; (with_reducible show wpAny _ _ (call (Value.ref 270) _ _) _ _ _); k_dflt (refine' (add_ok _ _ _ _ _ _ _ _ _ _ _ _ _ ?gh1_22 ?gh2_22 ?gh3_22 ?gh4_22) _ _ _ _ _ _ _ _ _ _ _ _ _ _ _ _ _ _ ?gB ?gF ?gX ?gN ?gT ?gk ?gp_22 ?gd ?gu ?_; walk_at "gclaim"; (case gp_22 => (refine TabAt.sub (by (first | with_reducible assumption | assumption)) ?_; intro p hp; repeat (first | exact hp | refine .tail _ ?_))); (case gh1_22 => (first | with_reducible assumption | assumption)); (case gh2_22 => (first | with_reducible assumption | assumption)); (case gh3_22 => (first | with_reducible assumption | assumption)); (case gh4_22 => (first | with_reducible assumption | assumption)); intro a' u' n' news' h' tk' F' N' hT' hK'; (try dsimp only); (try k_fold))) | (k_here; (with_reducible show wpAny _ _ (call (Value.ref 212) _ _) _ _ _); k_dflt (refine' (get_all_ok _ _ _ _ _ _ _ _ _ _ _ ?gh1_21 ?gh2_21 ?gh3_21 ?gh4_21) _ _ _ _ _ _ _ _ _ _ _ _ _ _ _ _ _ _ ?gB ?gF ?gX ?gN ?gT ?gk ?gp_21 ?gd ?gu ?_; walk_at "gclaim"; (case gp_21 => (refine TabAt.sub (by (first | with_reducible assumption | assumption)) ?_; intro p hp; repeat (first | exact hp | refine .tail _ ?_))); (case gh1_21 => (first | with_reducible assumption | assumption)); (case gh2_21 => (first | with_reducible assumption | assumption)); (case gh3_21 => (first | with_reducible assumption | assumption)); (case gh4_21 => (first | with_reducible assumption | assumption)); intro D' l' k' h' tk' hl' F' N' hlt'; (try dsimp only); (try k_fold))) | (k_here; (with_reducible show wpAny _ _ (call (Value.ref 301) _ _) _ _ _); k_dflt (refine' (stretch_ok _ _ _ _ _ ?gh1_20 _ _ _ _ _ ?gh2_20 ?gh3_20 ?gh4_20) _ _ _ _ _ _ _ _ _ _ _ _ _ _ _ _ _ _ ?gB ?gF ?gX ?gN ?gT ?gk ?gp_20 ?gd ?gu ?_; walk_at "gclaim"; (case gp_20 => trivial); (case gh1_20 => exact word_len _ _); (case gh2_20 => (first | with_reducible assumption | assumption)); (case gh3_20 => (first | with_reducible assumption | assumption)); (case gh4_20 => (first | with_reducible assumption | assumption)); intro q' ta' tb' h' tk' F' N' l1; (try k_lt l1); (try dsimp only); (try k_fold))) | (k_here; (with_reducible show TPost _ _ _ _ _ _ _ _ _ _); dsimp only [TPost]))) | walk1 | (dsimp only; first | (with_reducible (first | (k_here; (with_reducible show wpAny _ _ (compareOp CmpOp.NotIn (Value.str _ _) (Value.ref _)) _ _ _); k_dflt (refine' notin_list_strs ?k1_24 ?k2_24 ?_; (case k1_24 => exact News.isList (by k_asm) (by k_mem)); (case k2_24 => exact strsAre_values _); k_whole)) | (k_here; (with_reducible show wpAny _ _ (subscriptTail (Expr.Name _ _) (Expr.Name _ _) (Value.ref _) (Value.int _ _)) _ _ _); k_dflt (refine' led_hl ?jN_23 ?jm_23 ?jg_23 ?jk_23 ?jz_23 ?_; (case jN_23 => k_asm); (case jm_23 => k_mem); (case jg_23 => (first | with_reducible assumption | assumption)); (case jk_23 => (first | with_reducible assumption | assumption)); (case jz_23 => (first | with_reducible assumption | assumption)); intro t')) | (k_here; (with_reducible show wpAny _ _ (call (Value.ref 270) _ _) _ _ _); k_dflt (refine' (add_ok _ _ _ _ _ _ _ _ _ _ _ _ _ ?gh1_22 ?gh2_22 ?gh3_22 ?gh4_22) _ _ _ _ _ _ _ _ _ _ _ _ _ _ _ _ _ _ ?gB ?gF ?gX ?gN ?gT ?gk ?gp_22 ?gd ?gu ?_; walk_at "gclaim"; (case gp_22 => (refine TabAt.sub (by (first | with_reducible assumption | assumption)) ?_; intro p hp; repeat (first | exact hp | refine .tail _ ?_))); (case gh1_22 => (first | with_reducible assumption | assumption)); (case gh2_22 => (first | with_reducible assumption | assumption)); (case gh3_22 => (first | with_reducible assumption | assumption)); (case gh4_22 => (first | with_reducible assumption | assumption)); intro a' u' n' news' h' tk' F' N' hT' hK'; (try dsimp only); (try k_fold))) | (k_here; (with_reducible show wpAny _ _ (call (Value.ref 212) _ _) _ _ _); k_dflt (refine' (get_all_ok _ _ _ _ _ _ _ _ _ _ _ ?gh1_21 ?gh2_21 ?gh3_21 ?gh4_21) _ _ _ _ _ _ _ _ _ _ _ _ _ _ _ _ _ _ ?gB ?gF ?gX ?gN ?gT ?gk ?gp_21 ?gd ?gu ?_; walk_at "gclaim"; (case gp_21 => (refine TabAt.sub (by (first | with_reducible assumption | assumption)) ?_; intro p hp; repeat (first | exact hp | refine .tail _ ?_))); (case gh1_21 => (first | with_reducible assumption | assumption)); (case gh2_21 => (first | with_reducible assumption | assumption)); (case gh3_21 => (first | with_reducible assumption | assumption)); (case gh4_21 => (first | with_reducible assumption | assumption)); intro D' l' k' h' tk' hl' F' N' hlt'; (try dsimp only); (try k_fold))) | (k_here; (with_reducible show wpAny _ _ (call (Value.ref 301) _ _) _ _ _); k_dflt (refine' (stretch_ok _ _ _ _ _ ?gh1_20 _ _ _ _ _ ?gh2_20 ?gh3_20 ?gh4_20) _ _ _ _ _ _ _ _ _ _ _ _ _ _ _ _ _ _ ?gB ?gF ?gX ?gN ?gT ?gk ?gp_20 ?gd ?gu ?_; walk_at "gclaim"; (case gp_20 => trivial); (case gh1_20 => exact word_len _ _); (case gh2_20 => (first | with_reducible assumption | assumption)); (case gh3_20 => (first | with_reducible assumption | assumption)); (case gh4_20 => (first | with_reducible assumption | assumption)); intro q' ta' tb' h' tk' F' N' l1; (try k_lt l1); (try dsimp only); (try k_fold))) | (k_here; (with_reducible show TPost _ _ _ _ _ _ _ _ _ _); dsimp only [TPost]))) | walk1) | (leave1; try dsimp only) | fail "no step")
        · rename (List.any _ _ = true) => hb
          rename (List.map _ _ = getAll _ _) => hgl
          refine hRR22 _ _ ?_
          dsimp only [TPost, SPost]
          refine ⟨_, _, _, _, rfl, by k_asm, cb_drop (by k_asm) (fun p hp => by repeat (first | exact hp | refine .tail _ ?_)), hoff2, fun p hp => (nomatch hp), ?_, n2, rows2, hTb2, ?_, hKt2⟩
          · intro z h1; simp at h1; simp [over, h1]
          · show RowsT rows2 (stepT _ _ _ j)
            rw [stepT_in hml rfl rfl hRT2 hnm hd3 hsp hgl hb]; exact hRT2
        · rename (List.any _ _ = false) => hb
          rename (List.map _ _ = getAll _ _) => hgl
          rename (2 * _ ≤ _ - _) => hle
          rename TabAt 273 _ _ _ _ _ (_ ++ [_]) _ => hT9
          rename Kept HL' _ _ => hK9
          rename News _ _ _ _ => N9
          have hI9 := hK9 (I2, oI2) (.tail _ (.tail _ (.head _))) (fun e => hoff2 _ hTb2.2.2.1 e.symm)
          refine hRR22 _ _ ?_
          dsimp only [TPost, SPost]
          refine ⟨_, _, _, but I2 _, rfl, by k_asm, News.head N9 hI9, fun p hp => (mem_but.mp hp).2, fun p hp => (nomatch hp), ?_, _, rows2 ++ [_], hT9.but N9 hI9 hcI2 (by decide) (by decide) (by decide), ?_, kept_turn hKt2 (fun p hp hne => hK9 p (.tail _ (.tail _ hp)) hne) hoff2⟩
          · intro z h1; simp at h1; simp [over, h1]
          · show RowsT _ (stepT _ _ _ j)
            rw [stepT_yes hml rfl rfl hRT2 hnm hd3 hsp hgl (by omega) hb]; exact hRT2.snoc rfl hsp
        · rename (¬ 2 * _ ≤ _ - _) => hle
          refine hRR22 _ _ ?_
          dsimp only [TPost, SPost]
          refine ⟨_, _, _, _, rfl, by k_asm, cb_drop (by k_asm) (fun p hp => by repeat (first | exact hp | refine .tail _ ?_)), hoff2, fun p hp => (nomatch hp), ?_, n2, rows2, hTb2, ?_, hKt2⟩
          · intro z h1; simp at h1; simp [over, h1]
          · show RowsT rows2 (stepT _ _ _ j)
            rw [stepT_no hml rfl rfl (by omega)]; exact hRT2
      rintro m₂ news₂ h tk ⟨hz2, n2, rows2, hTb2, hRT2, hKt2⟩ F2 N2
      rw [eq_over hz2] at F2
      try dsimp only [over, List.foldr] at F2
      have nI := hKt2 _ hI6 (fun e => hoff _ hTb.2.2.1 e.symm)
      have nD := hKt2 _ hD6 (News.ne N (.tail _ hD) (.tail _ hTb.2.2.1) tup_ne_list)
      have m94 := hKt2 _ h94' (News.ne N6 h94' hT6.2.2.1 (fun e => by cases congrArg Obj.cls e))
      have m87 := hKt2 _ h87' (News.ne N6 h87' hT6.2.2.1 (fun e => by cases congrArg Obj.cls e))
      repeat' (first | (k_unfold; (try dsimp only)) | (k_end; wrow_close) | walk1 | (dsimp only; first | walk1) | (leave1; try dsimp only) | fail "no step")
      refine hRR21 _ _ ?_
      dsimp only [TPost, SPost]
      refine ⟨_, but I news₂, hos6.trans hos3, hgb6, by k_asm, News.head N2 nI, fun p hp => (mem_but.mp hp).2, mem_but.mpr ⟨nD, hoff _ hD⟩, ?_, n2, rows2, _, _, hTb2.but N2 nI hcI (by decide) (by decide) (by decide), hRT2, .inr ⟨_, rfl⟩, mem_but.mpr ⟨m94, show (94 : Nat) ≠ I from hoff _ h94⟩, .inr ⟨_, rfl⟩, mem_but.mpr ⟨m87, show (87 : Nat) ≠ I from hoff _ h87⟩⟩
      intro z h1; simp at h1; simp [over, h1, mB2]
    rintro m₁ news₁ ⟨hp3, gn3, dr3, tp3, os3⟩ hos3 hgb3 ⟨hz, n1, rows1, ps1, pl1, hTb, hRT, hps, h94, hpl, h87⟩ hD F N
    dsimp only at F N hgb3 hos3
    rw [eq_over hz] at F
    try dsimp only [over, List.foldr] at F
    rename_i zq39
    clear o kV hlen zq39 L1 n' l0' hTab h'_4 D' h'_5 N' hgb e87 e94 FA hps hpl hD
    revert w s₀ s₁ mg mb fa w_3 ns hL hl2 w_7 w_8 hI QE H0 T1 X1 L0 hQE mB B1 t' h' h'_1 tk T' TD' HL' tk_2 mA m₁ news₁ hp3 gn3 dr3 tp3 os3 hos3 hgb3 hz n1 rows1 ps1 pl1 hTb hRT h94 h87 F N
    exact hP.out
set_option maxHeartbeats 8000000 in
noncomputable def cut6 : Cut := by
  refine' mkCut ?h
  case h =>
    intro hP
    refine cut5.2 ?_
    intro w s₀ s₁ mg mb fa w_3 ns hL hl2 w_7 w_8 hI QE H0 T1 X1 L0 hQE mB B1 t' h' h'_1 tk T' TD' HL' tk_2 mA m₁ news₁ hp3 gn3 dr3 tp3 os3 hos3 hgb3 hz n1 rows1 ps1 pl1 hTb hRT h94 h87 F N
    rename Fr _ _ _ _ => FA3
    refine Fr.fold FA3 ?_
    clear FA3
    intro mA3 FA3
    have hwl : (⟨(wordS 0 (bitsS ns)).toArray⟩ : Str).length = 8 := by show (wordS 0 (bitsS ns)).toArray.size = 8; simp [word_len]
    repeat' (first | (k_unfold; (try dsimp only)) | (k_end; wrow_close) | (with_reducible (first | (k_here; (with_reducible show wpAny _ _ (pyIter (Value.ref _)) (fun it s₂ => TurnsAt _ _ _ _ _ _ _ _ _ it s₂) _ _); k_dflt (refine stopHere ?_)) | (k_here; (with_reducible show wpAny _ _ (exec (Stmt.For (Expr.Name _ _) (Expr.Call _ _ _ _) _ _ _) _) _ _ _); (rename Fr _ _ _ _ => lF'); k_dflt (with_unfolding_all refine' For_turns lF' ?_; k_whole)))) | walk1 | (dsimp only; first | (with_reducible (first | (k_here; (with_reducible show wpAny _ _ (pyIter (Value.ref _)) (fun it s₂ => TurnsAt _ _ _ _ _ _ _ _ _ it s₂) _ _); k_dflt (refine stopHere ?_)) | (k_here; (with_reducible show wpAny _ _ (exec (Stmt.For (Expr.Name _ _) (Expr.Call _ _ _ _) _ _ _) _) _ _ _); (rename Fr _ _ _ _ => lF'); k_dflt (with_unfolding_all refine' For_turns lF' ?_; k_whole)))) | walk1) | (leave1; try dsimp only) | fail "no step")
    show wpAny _ _ _ _ _ _
    rename (∀ p : Addr × Obj, p ∈ news₁ → p.1 < _) => hPlt
    rename Fr _ _ _ _ => FB3
    refine Fr.fold FB3 ?_
    clear FB3
    intro mB3 FB3
    refine' turns_range (fun m₀ l₀ i m l => (∀ z, z ∉ [Str.ofString "first", Str.ofString "row", Str.ofString "last", Str.ofString "periods"] → m z = m₀ z) ∧ ∃ PL n as, m (Str.ofString "periods") = some (.ref PL) ∧ PerAt (wordS 0 (bitsS ns)) PL n i as l ∧ (∀ p ∈ news₁, p.1 ≠ PL) ∧ ∀ p ∈ news₁, p ∈ l) ?ih ?ir ?i1 ?i2 ?i3 ?iF ?iN ?ij ?iturn ?idone
    case ih => rfl
    case ir => assumption
    case i1 => decide
    case i2 => decide
    case i3 => decide
    case iF => k_asm
    case iN => k_asm
    case ij => exact ⟨fun _ _ => rfl, _, 0, [], rfl, ⟨.head _, rfl, fun f a h => by simp at h⟩, fun p hp => Nat.ne_of_lt (hPlt p hp), fun p hp => .tail _ hp⟩
    case iturn =>
      rintro I i v m₂ news₂ h tk oI hcI hi hv2 ⟨hz2, PL, n2, as2, hmp, hP2, hPn, hKt2⟩ hoff F N u
      refine gen_turn fun RR31 hRR31 => ?_
      rw [eq_at hmp (eq_over hz2)] at F
      try dsimp only [over, List.foldr] at F
      obtain rfl : v = (i : Int) := by omega
      have hi8 : i < 8 := hi
      have hm1 : (i : Int) + 1 = ((i + 1 : Nat) : Int) := by omega
      repeat' (first | (k_unfold; (try dsimp only)) | (k_end; wrow_close) | (with_reducible (first | (k_here; (with_reducible show wpAny _ _ (binaryOp Operator.Mult (Value.ref _) (Value.int _ _)) _ _ _); k_dflt (refine' KMa.mul (vs := [_]) ?F_15 ?N_15 ?l_15 ?lo_15 ?hi_15 ?z_15 ?e_15 ?_; (case F_15 => k_asm); (case N_15 => k_asm); (case l_15 => exact News.isList (by k_asm) (by k_mem)); (case e_15 => exact rep_flat (by with_reducible assumption) _); (case lo_15 => omega); (case hi_15 => omega); (case z_15 => (simp only [List.length_cons, List.length_nil]; omega)); intro D' h' F' N' l1; (try k_lt l1))) | (k_here; (with_reducible show wpAny _ _ (pyIter (Value.ref _)) (fun it s₂ => TurnsAt _ _ _ _ _ _ _ _ _ it s₂) _ _); k_dflt (refine stopHere ?_)) | (k_here; (with_reducible show wpAny _ _ (exec (Stmt.For (Expr.Name _ _) (Expr.Call _ _ _ _) _ _ _) _) _ _ _); (rename Fr _ _ _ _ => lF'); k_dflt (with_unfolding_all refine' For_turns lF' ?_; k_whole)))) | walk1 | (dsimp only; first | (with_reducible (first | (k_here; (with_reducible show wpAny _ _ (binaryOp Operator.Mult (Value.ref _) (Value.int _ _)) _ _ _); k_dflt (refine' KMa.mul (vs := [_]) ?F_15 ?N_15 ?l_15 ?lo_15 ?hi_15 ?z_15 ?e_15 ?_; (case F_15 => k_asm); (case N_15 => k_asm); (case l_15 => exact News.isList (by k_asm) (by k_mem)); (case e_15 => exact rep_flat (by with_reducible assumption) _); (case lo_15 => omega); (case hi_15 => omega); (case z_15 => (simp only [List.length_cons, List.length_nil]; omega)); intro D' h' F' N' l1; (try k_lt l1))) | (k_here; (with_reducible show wpAny _ _ (pyIter (Value.ref _)) (fun it s₂ => TurnsAt _ _ _ _ _ _ _ _ _ it s₂) _ _); k_dflt (refine stopHere ?_)) | (k_here; (with_reducible show wpAny _ _ (exec (Stmt.For (Expr.Name _ _) (Expr.Call _ _ _ _) _ _ _) _) _ _ _); (rename Fr _ _ _ _ => lF'); k_dflt (with_unfolding_all refine' For_turns lF' ?_; k_whole)))) | walk1) | (leave1; try dsimp only) | fail "no step")
      show wpAny _ _ _ _ _ _
      rename ((_ < _) ∧ _) => hlR
      rename Fr _ _ _ _ => FC3
      refine Fr.fold FC3 ?_
      clear FC3
      intro mC3 FC3
      refine' turns_range (fun m₀ l₀ j m l => (∀ z, z ∉ [Str.ofString "last", Str.ofString "row"] → m z = m₀ z) ∧ ∃ R vs k, m (Str.ofString "row") = some (.ref R) ∧ (R, listOf (List.toArray vs) k) ∈ l ∧ IntsAre vs (rowI (wordS 0 (bitsS ns)) i j) ∧ (∀ p ∈ (I, oI) :: news₂, p.1 ≠ R) ∧ ∀ p ∈ (I, oI) :: news₂, p ∈ l) ?jh ?jr ?j1 ?j2 ?j3 ?jF ?jN ?jj ?jturn ?jdone
      case jh => rfl
      case jr => assumption
      case j1 => omega
      case j2 => decide
      case j3 => omega
      case jF => k_asm
      case jN => k_asm
      case jj => exact ⟨fun _ _ => rfl, _, _, _, rfl, .head _, rowI_zero _ _ _, List.forall_mem_cons.mpr ⟨Nat.ne_of_lt hlR.2.1, allLt_ne hlR.2.2⟩, fun p hp => .tail _ (.tail _ hp)⟩
      case jturn =>
        rintro I2 j v m₃ news₃ h3 tk3 oI2 hcI2 hj hv3 ⟨hz3, R, vs, k, hmr, hR3, hI3, hRn, hKt3⟩ hoff2 F3 N3 u3
        refine gen_turn fun RR32 hRR32 => ?_
        rw [eq_at hmr (eq_over hz3)] at F3
        try dsimp only [over, List.foldr] at F3
        obtain ⟨l, rfl, hlj, hil, hl8⟩ : ∃ l : Nat, v = (l : Int) ∧ l = i + 1 + j ∧ i < l ∧ l ≤ 8 := ⟨i + 1 + j, by omega, rfl, by omega, by omega⟩
        have hx3 := slice_mid (wordS 0 (bitsS ns)) i l (by omega) (by rw [word_len]; exact hl8)
        change _ = mkS (sliceL _ _ _) at hx3
        have hvl := IntsAre.length hI3
        rw [rowI_len] at hvl
        have hv1k : vs.length ≤ 1000 := by omega
        repeat' (first | (k_unfold; (try dsimp only)) | (k_end; wrow_close) | (with_reducible (first | (k_here; (with_reducible show wpAny _ _ (call (Value.builtin "list.append") [Value.ref _, _]) _ _ _); k_dflt (refine' led_append ?aF_16 ?aN_16 ?am_16 ?az_16 ?_; (case aF_16 => k_asm); (case aN_16 => k_asm); (case am_16 => k_mem); (case az_16 => (first | with_reducible assumption | (simp only [List.length_map, List.length_append, List.length_cons, List.length_nil, List.length_replicate]; omega))); intro h' F' N')) | (k_here; (with_reducible show wpAny _ _ (call (Value.ref 308) _ _) _ _ _); k_dflt (refine' (period_call _ _ _ _ _ _ _ _ _ _ _ ?gh1_14 ?gh2_14 ?gh3_14 ?gh4_14 ?gh5_14) _ _ _ _ _ _ _ _ _ _ _ _ _ _ _ _ _ _ ?gB ?gF ?gX ?gN ?gT ?gk ?gp_14 ?gd ?gu ?_; walk_at "gclaim"; (case gp_14 => trivial); (case gh2_14 => with_reducible assumption); (case gh3_14 => exact rfl); (case gh1_14 => exact word_len _ _); (case gh4_14 => (first | with_reducible assumption | assumption)); (case gh5_14 => (first | with_reducible assumption | assumption)); intro tk0' h' tk' F' N'; (try dsimp only); (try k_fold))) | (k_here; (with_reducible show TPost _ _ _ _ _ _ _ _ _ _); dsimp only [TPost]))) | walk1 | (dsimp only; first | (with_reducible (first | (k_here; (with_reducible show wpAny _ _ (call (Value.builtin "list.append") [Value.ref _, _]) _ _ _); k_dflt (refine' led_append ?aF_16 ?aN_16 ?am_16 ?az_16 ?_; (case aF_16 => k_asm); (case aN_16 => k_asm); (case am_16 => k_mem); (case az_16 => (first | with_reducible assumption | (simp only [List.length_map, List.length_append, List.length_cons, List.length_nil, List.length_replicate]; omega))); intro h' F' N')) | (k_here; (with_reducible show wpAny _ _ (call (Value.ref 308) _ _) _ _ _); k_dflt (refine' (period_call _ _ _ _ _ _ _ _ _ _ _ ?gh1_14 ?gh2_14 ?gh3_14 ?gh4_14 ?gh5_14) _ _ _ _ _ _ _ _ _ _ _ _ _ _ _ _ _ _ ?gB ?gF ?gX ?gN ?gT ?gk ?gp_14 ?gd ?gu ?_; walk_at "gclaim"; (case gp_14 => trivial); (case gh2_14 => with_reducible assumption); (case gh3_14 => exact rfl); (case gh1_14 => exact word_len _ _); (case gh4_14 => (first | with_reducible assumption | assumption)); (case gh5_14 => (first | with_reducible assumption | assumption)); intro tk0' h' tk' F' N'; (try dsimp only); (try k_fold))) | (k_here; (with_reducible show TPost _ _ _ _ _ _ _ _ _ _); dsimp only [TPost]))) | walk1) | (leave1; try dsimp only) | fail "no step")
        rename News _ _ _ ((R, _) :: _) => N9
        have hIR : I2 ≠ R := fun e => hoff2 _ hR3 e.symm
        obtain ⟨hI9, hk9⟩ := but_turn (I := I2) (R := R) (oI := oI2) (X := (R, _) :: but R ((I2, oI2) :: news₃)) (l₀ := (I, oI) :: news₂) (fun p hp hne => .tail _ (mem_but.mpr ⟨hp, hne⟩)) hIR hKt3 hRn hoff2
        refine hRR32 _ _ ?_
        dsimp only [TPost, SPost]
        refine ⟨_, _, _, but I2 _, rfl, by k_asm, News.head N9 hI9, fun p hp => (mem_but.mp hp).2, fun p hp => (nomatch hp), ?_, R, _, _, rfl, mem_but.mpr ⟨.head _, Ne.symm hIR⟩, ?_, hRn, hk9⟩
        · intro z h1; simp at h1; simp [over, h1]
        · rw [rowI_succ, ← hlj]; exact ints_snoc _ _ hI3
      rintro m₃ news₃ h3 tk3 ⟨hz3, R, vs, k, hmr, hR3, hI3, hRn, hKt3⟩ F3 N3
      rw [eq_at hmr (eq_over hz3)] at F3
      try dsimp only [over, List.foldr] at F3
      have gP := hKt3 _ (.tail _ hP2.1)
      have hln : as2.length ≤ 1000 := by have := hP2.2.1; omega
      have hPR : PL ≠ R := hRn _ (.tail _ hP2.1)
      repeat' (first | (k_unfold; (try dsimp only)) | (k_end; wrow_close) | (with_reducible (first | (k_here; (with_reducible show wpAny _ _ (call (Value.builtin "list.append") [Value.ref _, _]) _ _ _); k_dflt (refine' led_append ?aF_16 ?aN_16 ?am_16 ?az_16 ?_; (case aF_16 => k_asm); (case aN_16 => k_asm); (case am_16 => k_mem); (case az_16 => (first | with_reducible assumption | (simp only [List.length_map, List.length_append, List.length_cons, List.length_nil, List.length_replicate]; omega))); intro h' F' N')) | (k_here; (with_reducible show TPost _ _ _ _ _ _ _ _ _ _); dsimp only [TPost]))) | walk1 | (dsimp only; first | (with_reducible (first | (k_here; (with_reducible show wpAny _ _ (call (Value.builtin "list.append") [Value.ref _, _]) _ _ _); k_dflt (refine' led_append ?aF_16 ?aN_16 ?am_16 ?az_16 ?_; (case aF_16 => k_asm); (case aN_16 => k_asm); (case am_16 => k_mem); (case az_16 => (first | with_reducible assumption | (simp only [List.length_map, List.length_append, List.length_cons, List.length_nil, List.length_replicate]; omega))); intro h' F' N')) | (k_here; (with_reducible show TPost _ _ _ _ _ _ _ _ _ _); dsimp only [TPost]))) | walk1) | (leave1; try dsimp only) | fail "no step")
      rename News _ _ _ ((PL, _) :: _) => N9
      have hIP : I ≠ PL := fun e => hoff _ hP2.1 e.symm
      have hIR := hRn _ (.head _)
      obtain ⟨hI9, hk9⟩ := but_turn (I := I) (R := PL) (oI := oI) (X := (PL, _) :: but PL news₃) (l₀ := news₁) (fun p hp hne => .tail _ (mem_but.mpr ⟨hKt3 p hp, hne⟩)) hIP hKt2 hPn hoff
      refine hRR31 _ _ ?_
      dsimp only [TPost, SPost]
      refine ⟨_, _, _, but I _, rfl, by k_asm, News.head N9 hI9, fun p hp => (mem_but.mp hp).2, fun p hp => (nomatch hp), ?_, PL, _, as2 ++ [R], rfl, hP2.snoc (fun p hp => N p (.tail _ hp)) (fun p hp hne => mem_but.mpr ⟨.tail _ (mem_but.mpr ⟨hKt3 p (.tail _ hp), hne⟩), hoff p hp⟩) (mem_but.mpr ⟨.head _, Ne.symm hIP⟩) (mem_but.mpr ⟨.tail _ (mem_but.mpr ⟨hR3, Ne.symm hPR⟩), Ne.symm hIR⟩) ?_, hPn, hk9⟩
      · intro z h1; simp at h1; simp [over, h1, mC3]
      · have e8 : 8 - i = ((9 : Int) - ((i : Int) + 1)).toNat := by omega
        rw [e8]; exact hI3
    rintro m₂ news₂ h tk ⟨hz2, PL, n2, as2, hmp, hP2, hPn, hKt2⟩ F N
    rw [eq_at hmp (eq_over hz2)] at F
    try dsimp only [over, List.foldr] at F
    clear hPlt
    rename_i zq59 zq105 zq106 zq107 zq108 zq109 zq110 zq111 zq112 zq113 zq114 zq115 zq116 zq117 zq118 zq119 zq120
    clear hp3 tp3 zq106 zq107 zq108 zq110 zq111 zq115 zq116 zq117 zq118 zq119 zq120 FB3 hz2 hmp hPn
    revert w s₀ s₁ mg mb fa w_3 ns hL hl2 w_7 w_8 hI QE H0 T1 X1 L0 hQE mB B1 t' h' h'_1 zq59 T' TD' HL' tk_2 mA m₁ news₁ gn3 dr3 os3 hos3 hgb3 hz n1 rows1 ps1 pl1 hTb hRT h94 h87 mA3 hwl zq105 zq109 zq112 zq113 zq114 mB3 m₂ news₂ h tk PL n2 as2 hP2 hKt2 F N
    exact hP.out
set_option maxHeartbeats 8000000 in
noncomputable def cut7 : Cut := by
  refine' mkCut ?h
  case h =>
    intro hP
    refine cut6.2 ?_
    intro w s₀ s₁ mg mb fa w_3 ns hL hl2 w_7 w_8 hI QE H0 T1 X1 L0 hQE mB B1 t' h' h'_1 tk T' TD' HL' tk_2 mA m₁ news₁ gn3 dr3 os3 hos3 hgb3 hz n1 rows1 ps1 pl1 hTb hRT h94 h87 mA3 hwl l' h'_7 tk_3 h'_8 tk_4 mB3 m₂ news₂ h tk_5 PL n2 as2 hP2 hKt2 F N
    rename Fr _ _ _ _ => FA4
    refine Fr.fold FA4 ?_
    clear FA4
    intro mA4 FA4
    have hP8 : as2.length = 8 := hP2.2.1
    have hP3 : PerAt (wordS 0 (bitsS ns)) PL n2 8 as2 news₂ := hP2
    repeat' (first | (k_unfold; (try dsimp only)) | (k_end; wrow_close) | (with_reducible (first | (k_here; (with_reducible show wpAny _ _ (pyIter (Value.ref _)) (fun it s₂ => TurnsAt _ _ _ _ _ _ _ _ _ it s₂) _ _); k_dflt (refine stopHere ?_)) | (k_here; (with_reducible show wpAny _ _ (exec (Stmt.For (Expr.Name _ _) (Expr.Call _ _ _ _) _ _ _) _) _ _ _); (rename Fr _ _ _ _ => lF'); k_dflt (with_unfolding_all refine' For_turns lF' ?_; k_whole)))) | walk1 | (dsimp only; first | (with_reducible (first | (k_here; (with_reducible show wpAny _ _ (pyIter (Value.ref _)) (fun it s₂ => TurnsAt _ _ _ _ _ _ _ _ _ it s₂) _ _); k_dflt (refine stopHere ?_)) | (k_here; (with_reducible show wpAny _ _ (exec (Stmt.For (Expr.Name _ _) (Expr.Call _ _ _ _) _ _ _) _) _ _ _); (rename Fr _ _ _ _ => lF'); k_dflt (with_unfolding_all refine' For_turns lF' ?_; k_whole)))) | walk1) | (leave1; try dsimp only) | fail "no step")
    show wpAny _ _ _ _ _ _
    have hkn := kinds_new (n := 0) (n0 := 0) (n1 := 0) (n2 := 0) (n3 := 0) (n4 := 0) (news := news₂) (by assumption) (by assumption) (by assumption) (by assumption) (by assumption) (by assumption)
    rename Fr _ _ _ _ => FB4
    refine Fr.fold FB4 ?_
    clear FB4
    intro mB4 FB4
    refine' turns_range (fun m₀ l₀ i m l => (∀ z, z ∉ [Str.ofString "first", Str.ofString "last", Str.ofString "size", Str.ofString "beside", Str.ofString "text", Str.ofString "often", Str.ofString "count", Str.ofString "want", Str.ofString "rest", Str.ofString "kinds"] → m z = m₀ z) ∧ ∃ KL n as, m (Str.ofString "kinds") = some (.ref KL) ∧ KindsAt KL n as (kindsS (wordS 0 (bitsS ns)) (perG (perTab (wordS 0 (bitsS ns)))) i) l ∧ Off5 KL as news₂ l) ?ih ?ir ?i1 ?i2 ?i3 ?iF ?iN ?ij ?iturn ?idone
    case ih => rfl
    case ir => assumption
    case i1 => decide
    case i2 => decide
    case i3 => decide
    case iF => k_asm
    case iN => k_asm
    case ij => exact ⟨fun _ _ => rfl, _, _, _, rfl, hkn.1, hkn.2⟩
    case iturn =>
      rintro I i v m₃ news₃ h tk oI hcI hi hv2 ⟨hz3, KL, nk, as3, hmk, hK3, hO3⟩ hoff F3 N3 u
      refine gen_turn fun RR41 hRR41 => ?_
      rw [eq_at hmk (eq_over hz3)] at F3
      try dsimp only [over, List.foldr] at F3
      obtain rfl : v = (i : Int) := by omega
      have hi8 : i < 8 := hi
      have hoffI : ∀ p ∈ news₂, p.1 ≠ I := fun p hp => hoff p (hO3 p hp).1
      repeat' (first | (k_unfold; (try dsimp only)) | (k_end; wrow_close) | (with_reducible (first | (k_here; (with_reducible show wpAny _ _ (pyIter (Value.ref _)) (fun it s₂ => TurnsAt _ _ _ _ _ _ _ _ _ it s₂) _ _); k_dflt (refine stopHere ?_)) | (k_here; (with_reducible show wpAny _ _ (exec (Stmt.For (Expr.Name _ _) (Expr.Call _ _ _ _) _ _ _) _) _ _ _); (rename Fr _ _ _ _ => lF'); k_dflt (with_unfolding_all refine' For_turns lF' ?_; k_whole)))) | walk1 | (dsimp only; first | (with_reducible (first | (k_here; (with_reducible show wpAny _ _ (pyIter (Value.ref _)) (fun it s₂ => TurnsAt _ _ _ _ _ _ _ _ _ it s₂) _ _); k_dflt (refine stopHere ?_)) | (k_here; (with_reducible show wpAny _ _ (exec (Stmt.For (Expr.Name _ _) (Expr.Call _ _ _ _) _ _ _) _) _ _ _); (rename Fr _ _ _ _ => lF'); k_dflt (with_unfolding_all refine' For_turns lF' ?_; k_whole)))) | walk1) | (leave1; try dsimp only) | fail "no step")
      show wpAny _ _ _ _ _ _
      rename Fr _ _ _ _ => FC4
      refine Fr.fold FC4 ?_
      clear FC4
      intro mC4 FC4
      refine' turns_range (fun m₀ l₀ j m l => (∀ z, z ∉ [Str.ofString "last", Str.ofString "size", Str.ofString "beside", Str.ofString "text", Str.ofString "often", Str.ofString "count", Str.ofString "want", Str.ofString "rest", Str.ofString "kinds"] → m z = m₀ z) ∧ ∃ KL n as, m (Str.ofString "kinds") = some (.ref KL) ∧ KindsAt KL n as (kindsF (wordS 0 (bitsS ns)) (perG (perTab (wordS 0 (bitsS ns)))) i (kindsS (wordS 0 (bitsS ns)) (perG (perTab (wordS 0 (bitsS ns)))) i) j) l ∧ Off5 KL as ((I, oI) :: news₂) l) ?jh ?jr ?j1 ?j2 ?j3 ?jF ?jN ?jj ?jturn ?jdone
      case jh => rfl
      case jr => assumption
      case j1 => omega
      case j2 => decide
      case j3 => omega
      case jF => k_asm
      case jN => k_asm
      case jj => exact ⟨fun _ _ => rfl, KL, nk, as3, rfl, hK3.mv (fun p hp => .tail _ hp), hO3.cons hK3 hoff⟩
      case jturn =>
        rintro I2 j v m₄ news₄ h4 tk4 oI2 hcI2 hj hv4 ⟨hz4, KL, nk, as3, hmk, hK4, hO4⟩ hoff2 F4 N4 u4
        refine gen_turn fun RR42 hRR42 => ?_
        rw [eq_at hmk (eq_over hz4)] at F4
        try dsimp only [over, List.foldr] at F4
        obtain ⟨l, rfl, hlj, hil, hl8⟩ : ∃ l : Nat, v = (l : Int) ∧ l = i + 2 + j ∧ i + 2 ≤ l ∧ l ≤ 8 := ⟨i + 2 + j, by omega, rfl, by omega, by omega⟩
        have inn : ∀ {p : Addr × Obj}, p ∈ news₂ → p ∈ news₄ := fun {p} hp => (hO4 p (.tail _ hp)).1
        have gPL := inn hP3.1
        obtain ⟨vs0, k0, hA0, hI0⟩ := hP3.get hi8 (q := (i : Int)) (by omega)
        obtain ⟨vs1, k1, hA1, hI1⟩ := hP3.get (f := i - 1) (by omega) (q := (i : Int) - 1) (by omega)
        have hB0 := inn hA0
        have hB1 := inn hA1
        have hz0 : as2.length ≤ 1000 := by omega
        have hsz : (rowI (wordS 0 (bitsS ns)) i (8 - i)).getD ((l : Int)).toNat 0 = (perF (wordS 0 (bitsS ns)) i l : Int) := by rw [Int.toNat_natCast]; exact rowI_get hi8 (by omega) hl8
        repeat' (first | (k_unfold; (try dsimp only)) | (k_end; wrow_close) | (with_reducible (first | (k_here; (with_reducible show wpAny _ _ (exec (Stmt.Assign _ (Expr.IfExp _ _ _ _) _) _) _ _ _); (fail_if_success (with_reducible show wpAny _ _ _ (BesEnd _ _ _ _ _ _ _) _ _)); k_dflt (refine stopHere ?_)) | (k_here; (with_reducible show wpAny _ _ (subscriptTail (Expr.Subscript (Expr.Name _ _) (Expr.Name _ _) _) (Expr.Name _ _) (Value.ref _) (Value.int _ _)) _ _ _); k_dflt (refine' led_int ?jN_17 ?jm_17 ?ji_17 ?j0_17 ?j1_17 ?jz_17 ?_; (case jN_17 => k_asm); (case jm_17 => k_mem); (case ji_17 => with_reducible assumption); (case j0_17 => omega); (case j1_17 => (rw [rowI_len]; omega)); (case jz_17 => (rw [rowI_len]; omega)); intro t')) | (k_here; (with_reducible show wpAny _ _ (subscriptTail (Expr.Name _ _) (Expr.Name _ _) (Value.ref _) (Value.int _ _)) _ _ _); k_dflt (refine' led_ref ?jN_15 ?jm_15 ?j0_15 ?j1_15 ?jz_15 ?_; (case jN_15 => k_asm); (case jm_15 => k_mem); (case j0_15 => omega); (case j1_15 => omega); (case jz_15 => omega))))) | walk1 | (dsimp only; first | (with_reducible (first | (k_here; (with_reducible show wpAny _ _ (exec (Stmt.Assign _ (Expr.IfExp _ _ _ _) _) _) _ _ _); (fail_if_success (with_reducible show wpAny _ _ _ (BesEnd _ _ _ _ _ _ _) _ _)); k_dflt (refine stopHere ?_)) | (k_here; (with_reducible show wpAny _ _ (subscriptTail (Expr.Subscript (Expr.Name _ _) (Expr.Name _ _) _) (Expr.Name _ _) (Value.ref _) (Value.int _ _)) _ _ _); k_dflt (refine' led_int ?jN_17 ?jm_17 ?ji_17 ?j0_17 ?j1_17 ?jz_17 ?_; (case jN_17 => k_asm); (case jm_17 => k_mem); (case ji_17 => with_reducible assumption); (case j0_17 => omega); (case j1_17 => (rw [rowI_len]; omega)); (case jz_17 => (rw [rowI_len]; omega)); intro t')) | (k_here; (with_reducible show wpAny _ _ (subscriptTail (Expr.Name _ _) (Expr.Name _ _) (Value.ref _) (Value.int _ _)) _ _ _); k_dflt (refine' led_ref ?jN_15 ?jm_15 ?j0_15 ?j1_15 ?jz_15 ?_; (case jN_15 => k_asm); (case jm_15 => k_mem); (case j0_15 => omega); (case j1_15 => omega); (case jz_15 => omega))))) | walk1) | (leave1; try dsimp only) | fail "no step")
        show wpAny _ _ _ _ _ _
        rename Fr _ _ _ _ => F9
        rw [hsz] at F9
        refine Fr.fold F9 ?_
        clear F9
        intro mD4 F9
        refine' bes F9 (nm := Str.ofString "beside") (news := (I2, oI2) :: news₄) (if i ≠ 0 then [(perF (wordS 0 (bitsS ns)) (i - 1) l : Int)] else []) ?part1 ?rest1
        case part1 =>
          repeat' (first | (k_unfold; (try dsimp only)) | (k_end; wrow_close) | (with_reducible (first | (k_here; (with_reducible show wpAny _ _ (subscriptTail (Expr.Subscript (Expr.Name _ _) (Expr.BinOp _ _ _ _) _) (Expr.Name _ _) (Value.ref _) (Value.int _ _)) _ _ _); k_dflt (refine' led_int ?jN_18 ?jm_18 ?ji_18 ?j0_18 ?j1_18 ?jz_18 ?_; (case jN_18 => k_asm); (case jm_18 => k_mem); (case ji_18 => with_reducible assumption); (case j0_18 => omega); (case j1_18 => (rw [rowI_len]; omega)); (case jz_18 => (rw [rowI_len]; omega)); intro t')) | (k_here; (with_reducible show wpAny _ _ (subscriptTail (Expr.Name _ _) (Expr.BinOp _ _ _ _) (Value.ref _) (Value.int _ _)) _ _ _); k_dflt (refine' led_ref ?jN_16 ?jm_16 ?j0_16 ?j1_16 ?jz_16 ?_; (case jN_16 => k_asm); (case jm_16 => k_mem); (case j0_16 => omega); (case j1_16 => omega); (case jz_16 => omega))))) | walk1 | (dsimp only; first | (with_reducible (first | (k_here; (with_reducible show wpAny _ _ (subscriptTail (Expr.Subscript (Expr.Name _ _) (Expr.BinOp _ _ _ _) _) (Expr.Name _ _) (Value.ref _) (Value.int _ _)) _ _ _); k_dflt (refine' led_int ?jN_18 ?jm_18 ?ji_18 ?j0_18 ?j1_18 ?jz_18 ?_; (case jN_18 => k_asm); (case jm_18 => k_mem); (case ji_18 => with_reducible assumption); (case j0_18 => omega); (case j1_18 => (rw [rowI_len]; omega)); (case jz_18 => (rw [rowI_len]; omega)); intro t')) | (k_here; (with_reducible show wpAny _ _ (subscriptTail (Expr.Name _ _) (Expr.BinOp _ _ _ _) (Value.ref _) (Value.int _ _)) _ _ _); k_dflt (refine' led_ref ?jN_16 ?jm_16 ?j0_16 ?j1_16 ?jz_16 ?_; (case jN_16 => k_asm); (case jm_16 => k_mem); (case j0_16 => omega); (case j1_16 => omega); (case jz_16 => omega))))) | walk1) | (leave1; try dsimp only) | fail "no step")
          · rename (@Ne Int _ _) => hi0
            rename (_ < _ ∧ AllLt _ _) => hlB
            have hi1 : i ≠ 0 := fun e => hi0 (by rw [e]; rfl)
            have hs1 : (rowI (wordS 0 (bitsS ns)) (i - 1) (8 - (i - 1))).getD ((l : Int)).toNat 0 = (perF (wordS 0 (bitsS ns)) (i - 1) l : Int) := by rw [Int.toNat_natCast]; exact rowI_get (by omega) (by omega) hl8
            exact BesEnd.mk (by k_asm) (cb_drop (by k_asm) (fun p hp => by repeat (first | exact hp | refine .tail _ ?_))) (by rw [if_pos hi1, ← hs1]; exact .cons _ _ .nil) (List.forall_mem_cons.mpr ⟨Nat.ne_of_lt hlB.1, allLt_ne hlB.2⟩)
          · rename (@Eq Int _ _) => hi0
            rename (_ < _ ∧ AllLt _ _) => hlB
            have hi1 : ¬ i ≠ 0 := fun e => e (by omega)
            exact BesEnd.mk (by k_asm) (cb_drop (by k_asm) (fun p hp => by repeat (first | exact hp | refine .tail _ ?_))) (by rw [if_neg hi1]; exact .nil) (List.forall_mem_cons.mpr ⟨Nat.ne_of_lt hlB.1, allLt_ne hlB.2⟩)
        case rest1 =>
          intro h5 tk5 B1 us1 k1 F5 N5 hI5 hn5
          have hu5 : us1.length ≤ 1 := by have := IntsAre.length hI5; rw [this]; split <;> simp
          repeat' (first | (k_unfold; (try dsimp only)) | (k_end; wrow_close) | (with_reducible (first | (k_here; (with_reducible show wpAny _ _ (exec (Stmt.AugAssign _ _ (Expr.IfExp _ _ _ _) _) _) _ _ _); (fail_if_success (with_reducible show wpAny _ _ _ (BesEnd _ _ _ _ _ _ _) _ _)); k_dflt (refine stopHere ?_)))) | walk1 | (dsimp only; first | (with_reducible (first | (k_here; (with_reducible show wpAny _ _ (exec (Stmt.AugAssign _ _ (Expr.IfExp _ _ _ _) _) _) _ _ _); (fail_if_success (with_reducible show wpAny _ _ _ (BesEnd _ _ _ _ _ _ _) _ _)); k_dflt (refine stopHere ?_)))) | walk1) | (leave1; try dsimp only) | fail "no step")
          show wpAny _ _ _ _ _ _
          refine' bes F5 (nm := Str.ofString "beside") (news := (I2, oI2) :: news₄) ((if i ≠ 0 then [(perF (wordS 0 (bitsS ns)) (i - 1) l : Int)] else []) ++ (if l < 8 then [(perF (wordS 0 (bitsS ns)) i (l + 1) : Int)] else [])) ?part2 ?rest2
          case part2 =>
            repeat' (first | (k_unfold; (try dsimp only)) | (k_end; wrow_close) | (with_reducible (first | (k_here; (with_reducible show wpAny _ _ (inplaceOp Operator.Add (Value.ref _) (Value.ref _)) _ _ _); k_dflt (refine' led_iadd ?F_24 ?N_24 ?a_24 ?b_24 ?z_24 ?_; (case F_24 => k_asm); (case N_24 => k_asm); (case a_24 => k_mem); (case b_24 => k_mem); (case z_24 => (simp only [List.length_cons, List.length_nil]; omega)); intro h' n' F' N')) | (k_here; (with_reducible show wpAny _ _ (subscriptTail (Expr.Subscript (Expr.Name _ _) (Expr.Name _ _) _) (Expr.BinOp _ _ _ _) (Value.ref _) (Value.int _ _)) _ _ _); k_dflt (refine' led_int ?jN_19 ?jm_19 ?ji_19 ?j0_19 ?j1_19 ?jz_19 ?_; (case jN_19 => k_asm); (case jm_19 => k_mem); (case ji_19 => with_reducible assumption); (case j0_19 => omega); (case j1_19 => (rw [rowI_len]; omega)); (case jz_19 => (rw [rowI_len]; omega)); intro t')) | (k_here; (with_reducible show wpAny _ _ (subscriptTail (Expr.Name _ _) (Expr.Name _ _) (Value.ref _) (Value.int _ _)) _ _ _); k_dflt (refine' led_ref ?jN_15 ?jm_15 ?j0_15 ?j1_15 ?jz_15 ?_; (case jN_15 => k_asm); (case jm_15 => k_mem); (case j0_15 => omega); (case j1_15 => omega); (case jz_15 => omega))))) | walk1 | (dsimp only; first | (with_reducible (first | (k_here; (with_reducible show wpAny _ _ (inplaceOp Operator.Add (Value.ref _) (Value.ref _)) _ _ _); k_dflt (refine' led_iadd ?F_24 ?N_24 ?a_24 ?b_24 ?z_24 ?_; (case F_24 => k_asm); (case N_24 => k_asm); (case a_24 => k_mem); (case b_24 => k_mem); (case z_24 => (simp only [List.length_cons, List.length_nil]; omega)); intro h' n' F' N')) | (k_here; (with_reducible show wpAny _ _ (subscriptTail (Expr.Subscript (Expr.Name _ _) (Expr.Name _ _) _) (Expr.BinOp _ _ _ _) (Value.ref _) (Value.int _ _)) _ _ _); k_dflt (refine' led_int ?jN_19 ?jm_19 ?ji_19 ?j0_19 ?j1_19 ?jz_19 ?_; (case jN_19 => k_asm); (case jm_19 => k_mem); (case ji_19 => with_reducible assumption); (case j0_19 => omega); (case j1_19 => (rw [rowI_len]; omega)); (case jz_19 => (rw [rowI_len]; omega)); intro t')) | (k_here; (with_reducible show wpAny _ _ (subscriptTail (Expr.Name _ _) (Expr.Name _ _) (Value.ref _) (Value.int _ _)) _ _ _); k_dflt (refine' led_ref ?jN_15 ?jm_15 ?j0_15 ?j1_15 ?jz_15 ?_; (case jN_15 => k_asm); (case jm_15 => k_mem); (case j0_15 => omega); (case j1_15 => omega); (case jz_15 => omega))))) | walk1) | (leave1; try dsimp only) | fail "no step")
            · rename (_ < (8 : Int)) => hl9
              rename News _ _ _ ((B1, _) :: _) => N9
              have hl1 : l < 8 := by omega
              have hs1 : (rowI (wordS 0 (bitsS ns)) i (8 - i)).getD ((l : Int) + 1).toNat 0 = (perF (wordS 0 (bitsS ns)) i (l + 1) : Int) := by rw [show ((l : Int) + 1).toNat = l + 1 by omega]; exact rowI_get hi8 (by omega) (by omega)
              exact BesEnd.mk (by k_asm) (news_bes N9 (fun p hp => by repeat (first | exact hp | refine .tail _ ?_)) hn5) (ints_app hI5 (by rw [if_pos hl1, ← hs1]; exact .cons _ _ .nil)) hn5
            · rename (¬ _ < (8 : Int)) => hl9
              rename News _ _ _ ((B1, _) :: _) => N9
              have hl1 : ¬ l < 8 := by omega
              exact BesEnd.mk (by k_asm) (news_bes N9 (fun p hp => by repeat (first | exact hp | refine .tail _ ?_)) hn5) (ints_app hI5 (by rw [if_neg hl1]; exact .nil)) hn5
          case rest2 =>
            intro h6 tk6 B2 us2 k2 F6 N6 hI6 hn6
            have hrun := isRun_iff (ws := wordS 0 (bitsS ns)) hi8 hl8 hil rfl
            repeat' (first | (k_unfold; (try dsimp only)) | (k_end; wrow_close) | (with_reducible (first | (k_here; (with_reducible show wpAny _ _ (compareOp CmpOp.NotIn (Value.int _ _) (Value.ref _)) _ _ _); k_dflt (refine' notin_list_ints ?k1_23 ?k2_23 ?_; (case k1_23 => exact News.isList (by k_asm) (by k_mem)); (case k2_23 => with_reducible assumption); k_whole)) | (k_here; (with_reducible show wpAny _ _ (exec (Stmt.Expr _ _) _) _ _ _); (fail_if_success (rename RunF _ _ _ _ => xx)); k_dflt (refine stopHere ?_)))) | walk1 | (dsimp only; first | (with_reducible (first | (k_here; (with_reducible show wpAny _ _ (compareOp CmpOp.NotIn (Value.int _ _) (Value.ref _)) _ _ _); k_dflt (refine' notin_list_ints ?k1_23 ?k2_23 ?_; (case k1_23 => exact News.isList (by k_asm) (by k_mem)); (case k2_23 => with_reducible assumption); k_whole)) | (k_here; (with_reducible show wpAny _ _ (exec (Stmt.Expr _ _) _) _ _ _); (fail_if_success (rename RunF _ _ _ _ => xx)); k_dflt (refine stopHere ?_)))) | walk1) | (leave1; try dsimp only) | fail "no step")
            · rename (List.any _ _ = true) => hb
              refine hRR42 _ _ ?_
              dsimp only [TPost, SPost]
              refine ⟨_, _, _, _, rfl, by k_asm, cb_drop (by k_asm) (fun p hp => by repeat (first | exact hp | refine .tail _ ?_)), hoff2, fun p hp => (nomatch hp), ?_, KL, nk, as3, rfl, ?_, hO4⟩
              · intro z h1; simp at h1; simp [over, h1, mD4]
              · show KindsAt KL nk as3 (stepK _ _ i (i + 2 + j) _) news₄
                rw [← hlj]
                unfold stepK
                rw [hrun, hb, if_neg (by simp)]; exact hK4
            · rename (List.any _ _ = false) => hb
              rename (2 * _ ≤ _ - _) => hle
              have hri : isRun (perG (perTab (wordS 0 (bitsS ns)))) i l = true := by rw [hrun, hb]; simp; omega
              have hRF := law_run hi8 hl8 hil hri
              have hpe := perG_eq (ws := wordS 0 (bitsS ns)) hi8 (show i < l by omega) hl8
              rw [hpe] at hRF
              have hp1 := perF_pos (wordS 0 (bitsS ns)) i l
              have hp4 : perF (wordS 0 (bitsS ns)) i l ≤ 4 := by omega
              have hx3 := slice_mid (wordS 0 (bitsS ns)) i l (by omega) (by rw [word_len]; exact hl8)
              change _ = mkS (sliceL _ _ _) at hx3
              have hsp := spot_eq (ws := wordS 0 (bitsS ns)) (word_len _ _) (show i ≤ 7 by omega) (show i ≤ l by omega) hl8
              rw [hx3] at hsp
              have hln := slice_len (ws := wordS 0 (bitsS ns)) (word_len _ _) (f := i) hl8
              have hml := mkS_len (sliceL (wordS 0 (bitsS ns)) i l)
              have hml8 : (mkS (sliceL (wordS 0 (bitsS ns)) i l)).length ≤ 8 := by omega
              have hms := spc_len (show i ≤ 7 by omega)
              have hb1 := kindsF_bound (wordS 0 (bitsS ns)) (perG (perTab (wordS 0 (bitsS ns)))) i (kindsS (wordS 0 (bitsS ns)) (perG (perTab (wordS 0 (bitsS ns)))) i) (perF (wordS 0 (bitsS ns)) i l) j
              have hb2 := kindsS_bound (wordS 0 (bitsS ns)) (perG (perTab (wordS 0 (bitsS ns)))) (perF (wordS 0 (bitsS ns)) i l) i
              obtain ⟨kss, kk, hks, hks2⟩ := hK4.2.2.2.2.2 (perF (wordS 0 (bitsS ns)) i l) (by omega)
              have hkl : (strValues kss).length ≤ 1000 := by
                have := congrArg List.length hks2
                rw [List.length_map, List.length_map] at this
                simp only [strValues, List.length_map]; omega
              have gKL := hK4.1
              have gK5 := hK4.2.1
              have gKs : (as3.getD ((perF (wordS 0 (bitsS ns)) i l : Int)).toNat 0, listOf (strValues kss).toArray kk) ∈ news₄ := by rw [Int.toNat_natCast]; exact hks
              rename Fr _ _ _ _ => F9
              rw [hx3] at F9
              refine Fr.fold F9 ?_
              clear F9
              intro mE4 F9
              have hW := hRF.w hp1 (by omega) (by omega)
              have hdv := Nat.div_le_self (sliceL (wordS 0 (bitsS ns)) i l).length (perF (wordS 0 (bitsS ns)) i l)
              have hdv2 : 2 ≤ (sliceL (wordS 0 (bitsS ns)) i l).length / perF (wordS 0 (bitsS ns)) i l := (Nat.le_div_iff_mul_le (by omega)).mpr (by omega)
              have hof := fdiv_nat (sliceL (wordS 0 (bitsS ns)) i l).length (perF (wordS 0 (bitsS ns)) i l)
              have hl1 : (Txt.slice (mkS (sliceL (wordS 0 (bitsS ns)) i l)) none (some (perF (wordS 0 (bitsS ns)) i l : Int))).length ≤ 8 := Nat.le_trans (len_slice_le _ _ _) hml8
              have hl2 : (Txt.slice (mkS (sliceL (wordS 0 (bitsS ns)) i l)) (some (-(perF (wordS 0 (bitsS ns)) i l : Int))) none).length ≤ 8 := Nat.le_trans (len_slice_le _ _ _) hml8
              have hl3 : (Txt.slice (mkS (sliceL (wordS 0 (bitsS ns)) i l)) (some (perF (wordS 0 (bitsS ns)) i l : Int)) none).length ≤ 8 := Nat.le_trans (len_slice_le _ _ _) hml8
              have hml9 : (mkS (sliceL (wordS 0 (bitsS ns)) i l)).length ≤ 1000 := by omega
              show wpAny _ _ _ _ _ _
              repeat' (first | (k_unfold; (try dsimp only)) | (k_end; wrow_close) | (with_reducible (first | (k_here; (with_reducible show wpAny _ _ (call (Value.builtin "list.append") [Value.ref _, _]) _ _ _); k_dflt (refine' led_append ?aF_25 ?aN_25 ?am_25 ?az_25 ?_; (case aF_25 => k_asm); (case aN_25 => k_asm); (case am_25 => k_mem); (case az_25 => (first | with_reducible assumption | (simp only [List.length_map, List.length_append, List.length_cons, List.length_nil, List.length_replicate]; omega))); intro h' F' N')) | (k_here; (with_reducible show wpAny _ _ (subscriptTail (Expr.Name _ _) (Expr.Name _ _) (Value.ref _) (Value.int _ _)) _ _ _); k_dflt (refine' led_ref ?jN_15 ?jm_15 ?j0_15 ?j1_15 ?jz_15 ?_; (case jN_15 => k_asm); (case jm_15 => k_mem); (case j0_15 => omega); (case j1_15 => omega); (case jz_15 => omega))) | (k_here; (with_reducible show wpAny _ _ (pyIter (Value.ref _)) (fun it s₂ => TurnsAt _ _ _ _ _ _ _ _ _ it s₂) _ _); k_dflt (refine stopHere ?_)) | (k_here; (with_reducible show wpAny _ _ (exec (Stmt.For (Expr.Name _ _) (Expr.Tuple _ _ _) _ _ _) _) _ _ _); (rename Fr _ _ _ _ => lF'); k_dflt (with_unfolding_all refine' For_turns lF' ?_; k_whole)))) | walk1 | (dsimp only; first | (with_reducible (first | (k_here; (with_reducible show wpAny _ _ (call (Value.builtin "list.append") [Value.ref _, _]) _ _ _); k_dflt (refine' led_append ?aF_25 ?aN_25 ?am_25 ?az_25 ?_; (case aF_25 => k_asm); (case aN_25 => k_asm); (case am_25 => k_mem); (case az_25 => (first | with_reducible assumption | (simp only [List.length_map, List.length_append, List.length_cons, List.length_nil, List.length_replicate]; omega))); intro h' F' N')) | (k_here; (with_reducible show wpAny _ _ (subscriptTail (Expr.Name _ _) (Expr.Name _ _) (Value.ref _) (Value.int _ _)) _ _ _); k_dflt (refine' led_ref ?jN_15 ?jm_15 ?j0_15 ?j1_15 ?jz_15 ?_; (case jN_15 => k_asm); (case jm_15 => k_mem); (case j0_15 => omega); (case j1_15 => omega); (case jz_15 => omega))) | (k_here; (with_reducible show wpAny _ _ (pyIter (Value.ref _)) (fun it s₂ => TurnsAt _ _ _ _ _ _ _ _ _ it s₂) _ _); k_dflt (refine stopHere ?_)) | (k_here; (with_reducible show wpAny _ _ (exec (Stmt.For (Expr.Name _ _) (Expr.Tuple _ _ _) _ _ _) _) _ _ _); (rename Fr _ _ _ _ => lF'); k_dflt (with_unfolding_all refine' For_turns lF' ?_; k_whole)))) | walk1) | (leave1; try dsimp only) | fail "no step")
              show wpAny _ _ _ _ _ _
              rename Fr _ _ _ _ => F7
              rename News _ _ _ _ => N7
              rw [hml, hof] at F7 N7
              refine Fr.fold F7 ?_
              clear F7
              intro mF4 F7
              refine' turns_tuple (vs := [Value.int ((((sliceL (wordS 0 (bitsS ns)) i l).length / perF (wordS 0 (bitsS ns)) i l : Nat)) : Int) _, Value.int (((((sliceL (wordS 0 (bitsS ns)) i l).length / perF (wordS 0 (bitsS ns)) i l : Nat)) : Int) + 1) _]) (fun m₀ l₀ c m l => (∀ z, z ∉ [Str.ofString "count", Str.ofString "want"] → m z = m₀ z) ∧ l = l₀) ?ch ?cD ?coc ?cod ?cF ?cN ?cj ?cturn ?cdone
              case ch => rfl
              case cF => k_asm
              case cN => k_asm
              case cD => exact .head _
              case coc => rfl
              case cod => rfl
              case cj => exact ⟨fun _ _ => rfl, rfl⟩
              case cturn =>
                rintro I3 c v m5 news5 h7 tk7 oI3 hcI3 hv5 ⟨hz5, rfl⟩ hoff3 hD3 F8 N8
                refine gen_turn fun RR43 hRR43 => ?_
                rw [eq_over hz5] at F8
                try dsimp only [over, List.foldr] at F8
                obtain ⟨hc2, t5, rfl⟩ := two_valsO hv5
                have hm5 : ((((sliceL (wordS 0 (bitsS ns)) i l).length / perF (wordS 0 (bitsS ns)) i l : Nat)) : Int) + (c : Int) - 1 = (((sliceL (wordS 0 (bitsS ns)) i l).length / perF (wordS 0 (bitsS ns)) i l + c - 1 : Nat) : Int) := by omega
                have hle5 := hW.le c hc2
                have he5 := hW.e c hc2
                have hcb : (((((sliceL (wordS 0 (bitsS ns)) i l).length / perF (wordS 0 (bitsS ns)) i l : Nat)) : Int) + (c : Int) == ((((sliceL (wordS 0 (bitsS ns)) i l).length / perF (wordS 0 (bitsS ns)) i l : Nat)) : Int)) = decide (c = 0) := Bool.eq_iff_iff.mpr (by rw [beq_iff_eq, decide_eq_true_iff]; omega)
                repeat' (first | (k_unfold; (try dsimp only)) | (k_end; wrow_close) | (with_reducible (first | (k_here; (with_reducible show wpAny _ _ (binaryOp Operator.Mult (Value.ref _) (Value.int _ _)) _ _ _); k_dflt (refine' KMa.mul (vs := [_]) ?F_28 ?N_28 ?l_28 ?lo_28 ?hi_28 ?z_28 ?e_28 ?_; (case F_28 => k_asm); (case N_28 => k_asm); (case l_28 => exact News.isList (by k_asm) (by k_mem)); (case e_28 => exact rep_flat (by with_reducible assumption) _); (case lo_28 => omega); (case hi_28 => omega); (case z_28 => (simp only [List.length_cons, List.length_nil]; omega)); intro D' h' F' N' l1; (try k_lt l1))) | (k_here; (with_reducible show wpAny _ _ (call (Value.builtin "str.join") [Value.str _ _, Value.ref _]) _ _ _); k_dflt (refine' led_join ?jN_27 ?jm_27 ?ji_27 ?jo_27 ?_; (case jN_27 => k_asm); (case jm_27 => k_mem); (case ji_27 => exact strs_rep _ _ _ _ _); (case jo_27 => exact Nat.le_trans (join_le _ _ _ _ (by omega) (by (first | with_reducible assumption | assumption)) (by (first | with_reducible assumption | assumption)) rfl) (by decide)); intro t' k')) | (k_here; (with_reducible show wpAny _ _ (call (Value.ref 45) _ _) _ _ _); k_dflt (refine' (em_call _ _ _ _ _ _ _ _ ?gh1_14 ?gh2_14) _ _ _ _ _ _ _ _ _ _ _ _ _ _ _ _ _ _ ?gB ?gF ?gX ?gN ?gT ?gk ?gp_14 ?gd ?gu ?_; walk_at "gclaim"; (case gp_14 => trivial); (case gh1_14 => with_reducible assumption); (case gh2_14 => with_reducible assumption); intro h' tk' F' N'; (try dsimp only); (try k_fold))))) | walk1 | (dsimp only; first | (with_reducible (first | (k_here; (with_reducible show wpAny _ _ (binaryOp Operator.Mult (Value.ref _) (Value.int _ _)) _ _ _); k_dflt (refine' KMa.mul (vs := [_]) ?F_28 ?N_28 ?l_28 ?lo_28 ?hi_28 ?z_28 ?e_28 ?_; (case F_28 => k_asm); (case N_28 => k_asm); (case l_28 => exact News.isList (by k_asm) (by k_mem)); (case e_28 => exact rep_flat (by with_reducible assumption) _); (case lo_28 => omega); (case hi_28 => omega); (case z_28 => (simp only [List.length_cons, List.length_nil]; omega)); intro D' h' F' N' l1; (try k_lt l1))) | (k_here; (with_reducible show wpAny _ _ (call (Value.builtin "str.join") [Value.str _ _, Value.ref _]) _ _ _); k_dflt (refine' led_join ?jN_27 ?jm_27 ?ji_27 ?jo_27 ?_; (case jN_27 => k_asm); (case jm_27 => k_mem); (case ji_27 => exact strs_rep _ _ _ _ _); (case jo_27 => exact Nat.le_trans (join_le _ _ _ _ (by omega) (by (first | with_reducible assumption | assumption)) (by (first | with_reducible assumption | assumption)) rfl) (by decide)); intro t' k')) | (k_here; (with_reducible show wpAny _ _ (call (Value.ref 45) _ _) _ _ _); k_dflt (refine' (em_call _ _ _ _ _ _ _ _ ?gh1_14 ?gh2_14) _ _ _ _ _ _ _ _ _ _ _ _ _ _ _ _ _ _ ?gB ?gF ?gX ?gN ?gT ?gk ?gp_14 ?gd ?gu ?_; walk_at "gclaim"; (case gp_14 => trivial); (case gh1_14 => with_reducible assumption); (case gh2_14 => with_reducible assumption); intro h' tk' F' N'; (try dsimp only); (try k_fold))))) | walk1) | (leave1; try dsimp only) | fail "no step")
                · exfalso; rename ((_ != _) = true) => hb; rw [he5, hcb] at hb; simp at hb
                · refine hRR43 _ _ ?_
                  dsimp only [TPost, SPost]
                  refine ⟨_, _, _, _, rfl, by k_asm, cb_drop (by k_asm) (fun p hp => by repeat (first | exact hp | refine .tail _ ?_)), hoff3, ?_, ?_, rfl⟩
                  · intro p hp; rw [List.mem_singleton.mp hp]; exact hD3
                  · intro z h1; simp at h1; simp [over, h1]
              rintro m5 news5 h7 tk7 ⟨hz5, rfl⟩ hD3 F8 N8
              rw [eq_over hz5] at F8
              try dsimp only [over, List.foldr] at F8
              have hle2 := hW.le2
              have he2 := hW.e2
              have hle3 := hW.le3
              have he3 := hW.e3
              have hle4 := hW.le4
              have he4 := hW.e4
              have hcb2 : (((mkS (sliceL (wordS 0 (bitsS ns)) i l)).length : Int) == ((perF (wordS 0 (bitsS ns)) i l : Nat) : Int) * ((((sliceL (wordS 0 (bitsS ns)) i l).length / perF (wordS 0 (bitsS ns)) i l : Nat)) : Int)) = decide ((sliceL (wordS 0 (bitsS ns)) i l).length = perF (wordS 0 (bitsS ns)) i l * ((sliceL (wordS 0 (bitsS ns)) i l).length / perF (wordS 0 (bitsS ns)) i l)) := Bool.eq_iff_iff.mpr (by rw [beq_iff_eq, decide_eq_true_iff, hml, ← Int.natCast_mul]; exact Int.ofNat_inj)
              have hcb3 : (((mkS (sliceL (wordS 0 (bitsS ns)) i l)).length : Int) == 2 * ((perF (wordS 0 (bitsS ns)) i l : Nat) : Int)) = decide ((sliceL (wordS 0 (bitsS ns)) i l).length = 2 * perF (wordS 0 (bitsS ns)) i l) := Bool.eq_iff_iff.mpr (by rw [beq_iff_eq, decide_eq_true_iff, hml]; omega)
              repeat' (first | (k_unfold; (try dsimp only)) | (k_end; wrow_close) | (with_reducible (first | (k_here; (with_reducible show wpAny _ _ (call (Value.ref 45) _ _) _ _ _); k_dflt (refine' (em_call _ _ _ _ _ _ _ _ ?gh1_14 ?gh2_14) _ _ _ _ _ _ _ _ _ _ _ _ _ _ _ _ _ _ ?gB ?gF ?gX ?gN ?gT ?gk ?gp_14 ?gd ?gu ?_; walk_at "gclaim"; (case gp_14 => trivial); (case gh1_14 => with_reducible assumption); (case gh2_14 => with_reducible assumption); intro h' tk' F' N'; (try dsimp only); (try k_fold))) | (k_here; (with_reducible show wpAny _ _ (pyIter (Value.ref _)) (fun it s₂ => TurnsAt _ _ _ _ _ _ _ _ _ it s₂) _ _); k_dflt (refine stopHere ?_)) | (k_here; (with_reducible show wpAny _ _ (exec (Stmt.For (Expr.Name _ _) (Expr.Tuple _ _ _) _ _ _) _) _ _ _); (rename Fr _ _ _ _ => lF'); k_dflt (with_unfolding_all refine' For_turns lF' ?_; k_whole)))) | walk1 | (dsimp only; first | (with_reducible (first | (k_here; (with_reducible show wpAny _ _ (call (Value.ref 45) _ _) _ _ _); k_dflt (refine' (em_call _ _ _ _ _ _ _ _ ?gh1_14 ?gh2_14) _ _ _ _ _ _ _ _ _ _ _ _ _ _ _ _ _ _ ?gB ?gF ?gX ?gN ?gT ?gk ?gp_14 ?gd ?gu ?_; walk_at "gclaim"; (case gp_14 => trivial); (case gh1_14 => with_reducible assumption); (case gh2_14 => with_reducible assumption); intro h' tk' F' N'; (try dsimp only); (try k_fold))) | (k_here; (with_reducible show wpAny _ _ (pyIter (Value.ref _)) (fun it s₂ => TurnsAt _ _ _ _ _ _ _ _ _ it s₂) _ _); k_dflt (refine stopHere ?_)) | (k_here; (with_reducible show wpAny _ _ (exec (Stmt.For (Expr.Name _ _) (Expr.Tuple _ _ _) _ _ _) _) _ _ _); (rename Fr _ _ _ _ => lF'); k_dflt (with_unfolding_all refine' For_turns lF' ?_; k_whole)))) | walk1) | (leave1; try dsimp only) | fail "no step")
              · exfalso; rename ((_ != _) = true) => hb; rw [he2, hcb2] at hb; simp at hb
              show wpAny _ _ _ _ _ _
              rename Fr _ _ _ _ => F7
              refine Fr.fold F7 ?_
              clear F7
              intro mG4 F7
              refine' turns_tuple (vs := [Value.str _ _, Value.str _ _]) (fun m₀ l₀ c m l => (∀ z, z ∉ [Str.ofString "want"] → m z = m₀ z) ∧ l = l₀) ?wh ?wD ?woc ?wod ?wF ?wN ?wj ?wturn ?wdone
              case wh => rfl
              case wF => k_asm
              case wN => k_asm
              case wD => exact .head _
              case woc => rfl
              case wod => rfl
              case wj => exact ⟨fun _ _ => rfl, rfl⟩
              case wturn =>
                rintro I4 c v m6 news6 h8 tk8 oI4 hcI4 hv6 ⟨hz6, rfl⟩ hoff4 hD4 F8 N8
                refine gen_turn fun RR44 hRR44 => ?_
                rw [eq_over hz6] at F8
                try dsimp only [over, List.foldr] at F8
                rcases c with _ | _ | c
                · obtain rfl := Option.some.inj hv6
                  repeat' (first | (k_unfold; (try dsimp only)) | (k_end; wrow_close) | (with_reducible (first | (k_here; (with_reducible show wpAny _ _ (call (Value.ref 45) _ _) _ _ _); k_dflt (refine' (em_call _ _ _ _ _ _ _ _ ?gh1_14 ?gh2_14) _ _ _ _ _ _ _ _ _ _ _ _ _ _ _ _ _ _ ?gB ?gF ?gX ?gN ?gT ?gk ?gp_14 ?gd ?gu ?_; walk_at "gclaim"; (case gp_14 => trivial); (case gh1_14 => with_reducible assumption); (case gh2_14 => with_reducible assumption); intro h' tk' F' N'; (try dsimp only); (try k_fold))))) | walk1 | (dsimp only; first | (with_reducible (first | (k_here; (with_reducible show wpAny _ _ (call (Value.ref 45) _ _) _ _ _); k_dflt (refine' (em_call _ _ _ _ _ _ _ _ ?gh1_14 ?gh2_14) _ _ _ _ _ _ _ _ _ _ _ _ _ _ _ _ _ _ ?gB ?gF ?gX ?gN ?gT ?gk ?gp_14 ?gd ?gu ?_; walk_at "gclaim"; (case gp_14 => trivial); (case gh1_14 => with_reducible assumption); (case gh2_14 => with_reducible assumption); intro h' tk' F' N'; (try dsimp only); (try k_fold))))) | walk1) | (leave1; try dsimp only) | fail "no step")
                  · exfalso; rename ((_ != _) = true) => hb; rw [he3, hcb3] at hb; simp at hb
                  · refine hRR44 _ _ ?_
                    dsimp only [TPost, SPost]
                    refine ⟨_, _, _, _, rfl, by k_asm, by k_asm, hoff4, ?_, ?_, rfl⟩
                    · intro p hp; rw [List.mem_singleton.mp hp]; exact hD4
                    · intro z h1; simp at h1; simp [over, h1]
                · obtain rfl := Option.some.inj hv6
                  repeat' (first | (k_unfold; (try dsimp only)) | (k_end; wrow_close) | (with_reducible (first | (k_here; (with_reducible show wpAny _ _ (call (Value.ref 45) _ _) _ _ _); k_dflt (refine' (em_call _ _ _ _ _ _ _ _ ?gh1_14 ?gh2_14) _ _ _ _ _ _ _ _ _ _ _ _ _ _ _ _ _ _ ?gB ?gF ?gX ?gN ?gT ?gk ?gp_14 ?gd ?gu ?_; walk_at "gclaim"; (case gp_14 => trivial); (case gh1_14 => with_reducible assumption); (case gh2_14 => with_reducible assumption); intro h' tk' F' N'; (try dsimp only); (try k_fold))))) | walk1 | (dsimp only; first | (with_reducible (first | (k_here; (with_reducible show wpAny _ _ (call (Value.ref 45) _ _) _ _ _); k_dflt (refine' (em_call _ _ _ _ _ _ _ _ ?gh1_14 ?gh2_14) _ _ _ _ _ _ _ _ _ _ _ _ _ _ _ _ _ _ ?gB ?gF ?gX ?gN ?gT ?gk ?gp_14 ?gd ?gu ?_; walk_at "gclaim"; (case gp_14 => trivial); (case gh1_14 => with_reducible assumption); (case gh2_14 => with_reducible assumption); intro h' tk' F' N'; (try dsimp only); (try k_fold))))) | walk1) | (leave1; try dsimp only) | fail "no step")
                  · exfalso; rename ((_ != _) = true) => hb; rw [he4, hcb3] at hb; simp at hb
                  · refine hRR44 _ _ ?_
                    dsimp only [TPost, SPost]
                    refine ⟨_, _, _, _, rfl, by k_asm, by k_asm, hoff4, ?_, ?_, rfl⟩
                    · intro p hp; rw [List.mem_singleton.mp hp]; exact hD4
                    · intro z h1; simp at h1; simp [over, h1]
                · simp at hv6
              rintro m6 news6 h8 tk8 ⟨hz6, rfl⟩ hD4 F8 N8
              rw [eq_over hz6] at F8
              try dsimp only [over, List.foldr] at F8
              have hIK : I2 ≠ as3.getD ((perF (wordS 0 (bitsS ns)) i l : Int)).toNat 0 := fun e => hoff2 _ gKs e.symm
              have hKs := hK4.2.2.2.2.1 (perF (wordS 0 (bitsS ns)) i l) (by omega)
              repeat' (first | (k_unfold; (try dsimp only)) | (k_end; wrow_close) | walk1 | (dsimp only; first | walk1) | (leave1; try dsimp only) | fail "no step")
              refine hRR42 _ _ ?_
              dsimp only [TPost, SPost]
              refine ⟨_, _, _, but I2 ((as3.getD ((perF (wordS 0 (bitsS ns)) i l : Int)).toNat 0, _) :: but (as3.getD ((perF (wordS 0 (bitsS ns)) i l : Int)).toNat 0) ((B2, listOf us2.toArray k2) :: (I2, oI2) :: news₄)), rfl, by k_asm, News.head (cb_drop (by k_asm) (fun p hp => by repeat (first | exact hp | refine .tail _ ?_))) (.tail _ (mem_but.mpr ⟨.tail _ (.head _), hIK⟩)), fun p hp => (mem_but.mp hp).2, fun p hp => (nomatch hp), ?_, KL, nk, as3, rfl, ?_, ?_⟩
              · intro z h1; simp at h1; simp [over, h1, mG4, mF4, mE4, mD4]
              · show KindsAt KL nk as3 (stepK _ _ i (i + 2 + j) _) _
                rw [← hlj]
                unfold stepK
                rw [if_pos hri, hpe]
                exact hK4.put (by omega) hks2 hsp (mem_but.mpr ⟨.head _, Ne.symm hIK⟩) (fun p hp hne => mem_but.mpr ⟨.tail _ (mem_but.mpr ⟨.tail _ (.tail _ hp), hne⟩), hoff2 p hp⟩)
              · intro p hp
                obtain ⟨g1, g2, g3⟩ := hO4 p hp
                exact ⟨mem_but.mpr ⟨.tail _ (mem_but.mpr ⟨.tail _ (.tail _ g1), g3 _ (by omega)⟩), hoff2 p g1⟩, g2, g3⟩
            · rename (¬ 2 * _ ≤ _ - _) => hle
              refine hRR42 _ _ ?_
              dsimp only [TPost, SPost]
              refine ⟨_, _, _, _, rfl, by k_asm, cb_drop (by k_asm) (fun p hp => by repeat (first | exact hp | refine .tail _ ?_)), hoff2, fun p hp => (nomatch hp), ?_, KL, nk, as3, rfl, ?_, hO4⟩
              · intro z h1; simp at h1; simp [over, h1, mD4]
              · show KindsAt KL nk as3 (stepK _ _ i (i + 2 + j) _) news₄
                rw [← hlj]
                unfold stepK
                rw [hrun, if_neg (by simp; omega)]; exact hK4
      rintro m₄ news₄ h4 tk4 ⟨hz4, KL, nk, as3, hmk, hK4, hO4⟩ F4 N4
      rw [eq_at hmk (eq_over hz4)] at F4
      try dsimp only [over, List.foldr] at F4
      repeat' (first | (k_unfold; (try dsimp only)) | (k_end; wrow_close) | walk1 | (dsimp only; first | walk1) | (leave1; try dsimp only) | fail "no step")
      have hI4 := (hO4 _ (.head _)).1
      refine hRR41 _ _ ?_
      dsimp only [TPost, SPost]
      refine ⟨_, _, _, but I news₄, rfl, by k_asm, News.head N4 hI4, fun p hp => (mem_but.mp hp).2, fun p hp => (nomatch hp), ?_, KL, nk, as3, rfl, ?_, ?_⟩
      · intro z h1; simp at h1; simp [over, h1, mC4]
      · have e7 : ((9 : Int) - ((i : Int) + 2)).toNat = 7 - i := by omega
        rw [e7] at hK4
        show KindsAt KL nk as3 (kindsF _ _ i _ (7 - i)) _
        have hKI := (hO4 _ (.head _)).2
        exact hK4.mv2 (fun p hp hne => mem_but.mpr ⟨hp, hne⟩) (Ne.symm hKI.1) (fun q hq => (hKI.2 q hq).symm)
      · intro p hp
        obtain ⟨g1, g2, g3⟩ := hO4 p (.tail _ hp)
        exact ⟨mem_but.mpr ⟨g1, hoffI p hp⟩, g2, g3⟩
    rintro m₃ news₃ h tk ⟨hz3, KL, nk, as3, hmk, hK3, hO3⟩ F3 N3
    rw [eq_at hmk (eq_over hz3)] at F3
    try dsimp only [over, List.foldr] at F3
    rename_i zq59 zq119 zq132 zq133 zq134 zq135 zq136 zq137 zq138 zq139 zq140 zq141 zq142 zq143 zq144 zq145 zq146 zq147 zq148 zq149 zq150 zq151 zq152 zq153 zq154 zq155 zq156 zq157 zq158 zq159 zq160 zq161 zq162 zq163
    clear hL hl2 hwl h'_7 tk_3 h'_8 tk_4 tk_5 n2 hP2 hP8 hP3 zq133 zq134 zq136 zq137 zq139 zq140 zq142 zq143 zq145 zq146 zq151 zq153 zq154 zq158 zq159 zq160 zq161 zq162 zq163 hkn FB4 hz3 hmk
    revert w s₀ s₁ mg mb fa w_3 ns w_7 w_8 hI QE H0 T1 X1 L0 hQE mB B1 t' h' h'_1 zq59 T' TD' HL' tk_2 mA m₁ news₁ gn3 dr3 os3 hos3 hgb3 hz n1 rows1 ps1 pl1 hTb hRT h94 h87 mA3 l' mB3 m₂ news₂ zq119 PL as2 hKt2 mA4 zq132 zq135 zq138 zq141 zq144 zq147 zq148 zq149 zq150 zq152 zq155 zq156 zq157 mB4 m₃ news₃ h tk KL nk as3 hK3 hO3 F3 N3
    exact hP.out
set_option maxHeartbeats 8000000 in
theorem law_walk : PySem.Challenge.rw_wb0072_02.Holds := by
  refine cut7.2 ?_
  intro w s₀ s₁ mg mb fa w_3 ns w_7 w_8 hI QE H0 T1 X1 L0 hQE mB B1 t' h' h'_1 tk T' TD' HL' tk_2 mA m₁ news₁ gn3 dr3 os3 hos3 hgb3 hz n1 rows1 ps1 pl1 hTb hRT h94 h87 mA3 l' mB3 m₂ news₂ h PL as2 hKt2 mA4 l'_1 l'_2 l'_3 l'_4 l'_5 l'_6 h'_14 F' N' h'_15 tk_6 h'_16 tk_7 mB4 m₃ news₃ h_1 tk_8 KL nk as3 hK3 hO3 F3 N3
  rename Fr _ _ _ _ => FA5
  refine Fr.fold FA5 ?_
  clear FA5
  intro mA5 FA5
  have hRT5 : RowsT rows1 (rowsL ns) := hRT
  have hNM5 := names_T (law_t (ns := ns) (show 0 < 2 by decide)) (law_t (ns := ns) (show 1 < 2 by decide)) 2 (Nat.le_refl _)
  have hcnt := law_count ns
  have hrl5 := hRT5.len
  have hx5 := hNM5.x hRT5
  have hr64 : rows1.length < 64 := by omega
  have hr1000 : rows1.length ≤ 1000 := by omega
  have hTb5 : TabAt 273 w.params T' TD' HL' n1 rows1 news₃ := hTb.sub (fun p hp => (hO3 p (hKt2 p hp)).1)
  have hK5 : KindsAt KL nk as3 (kindsL ns) news₃ := hK3
  obtain ⟨gm1, ⟨gh, gt, gm2⟩, gm3, gm4⟩ := id hTb5
  have gKL := hK5.1
  have gK5 := hK5.2.1
  repeat' (first | (k_unfold; (try dsimp only)) | (k_end; wrow_close) | (with_reducible (first | (k_here; (with_reducible show wpAny _ _ (pyIter (Value.ref _)) (fun it s₂ => TurnsAt _ _ _ _ _ _ _ _ _ it s₂) _ _); k_dflt (refine stopHere ?_)) | (k_here; (with_reducible show wpAny _ _ (exec (Stmt.For (Expr.Name _ _) (Expr.Call _ _ _ _) _ _ _) _) _ _ _); (rename Fr _ _ _ _ => lF'); k_dflt (with_unfolding_all refine' For_turns lF' ?_; k_whole)))) | walk1 | (dsimp only; first | (with_reducible (first | (k_here; (with_reducible show wpAny _ _ (pyIter (Value.ref _)) (fun it s₂ => TurnsAt _ _ _ _ _ _ _ _ _ it s₂) _ _); k_dflt (refine stopHere ?_)) | (k_here; (with_reducible show wpAny _ _ (exec (Stmt.For (Expr.Name _ _) (Expr.Call _ _ _ _) _ _ _) _) _ _ _); (rename Fr _ _ _ _ => lF'); k_dflt (with_unfolding_all refine' For_turns lF' ?_; k_whole)))) | walk1) | (leave1; try dsimp only) | fail "no step")
  show wpAny _ _ _ _ _ _
  rename Fr _ _ _ _ => FB5
  refine Fr.fold FB5 ?_
  clear FB5
  intro mB5 FB5
  refine' turns_range (fun m₀ l₀ i m l => (∀ z, z ∉ [Str.ofString "size"] → m z = m₀ z) ∧ l = l₀) ?ih ?ir ?i1 ?i2 ?i3 ?iF ?iN ?ij ?iturn ?idone
  case ih => rfl
  case ir => assumption
  case i1 => decide
  case i2 => decide
  case i3 => decide
  case iF => k_asm
  case iN => k_asm
  case ij => exact ⟨fun _ _ => rfl, rfl⟩
  case iturn =>
    rintro I i v m₄ news₄ h tk oI hcI hi hv2 ⟨hz4, rfl⟩ hoff F N u
    refine gen_turn fun RR51 hRR51 => ?_
    rw [eq_over hz4] at F
    try dsimp only [over, List.foldr] at F
    have hi4 : i < 4 := hi
    have hsn := slice_nm hi4 hv2
    have hn100 : (Txt.slice (Str.ofString "AaAa") none (some v)).length ≤ 100 := by rw [hsn, mkS_len]; have := nm_len i; omega
    have hcl : Clean (Txt.lower (Txt.slice (Str.ofString "AaAa") none (some v))) := by rw [hsn]; exact low_clean (nm_two hi4) (show (nmL i).length ≤ 8 by have := nm_len i; omega)
    obtain ⟨kss, kk, hks, hks2⟩ := hK5.2.2.2.2.2 (i + 1) (by omega)
    have gKs : (as3.getD v.toNat 0, listOf (strValues kss).toArray kk) ∈ news₄ := by rw [show v.toNat = i + 1 by omega]; exact hks
    have hkl := ks_lt hi4 hks2
    repeat' (first | (k_unfold; (try dsimp only)) | (k_end; wrow_close) | (with_reducible (first | (k_here; (with_reducible show wpAny _ _ (compareOp CmpOp.NotEq (Value.ref _) (Value.ref _)) _ _ _); k_dflt (refine' ne_strs_same ?jN_33 ?ja_33 ?jb_33 ?ji_33 ?jj_33 ?je_33 ?ju_33 ?_; (case jN_33 => k_asm); (case ja_33 => k_mem); (case jb_33 => k_mem); (case ji_33 => (first | with_reducible assumption | assumption)); (case jj_33 => (first | with_reducible assumption | assumption)); (case je_33 => exact srt_same (by with_reducible assumption) (by with_reducible assumption) (by with_reducible assumption) (by with_reducible assumption) (by (first | with_reducible assumption | assumption)) (by (first | with_reducible assumption | assumption)) (by (first | with_reducible assumption | assumption)) (by (first | with_reducible assumption | assumption)) (by (first | with_reducible assumption | assumption)) (by (first | with_reducible assumption | assumption))); (case ju_33 => first | ktr_units | ((simp only [units_deeper, units_under_make]); ktr_units)))) | (k_here; (with_reducible show wpAny _ _ (call (Value.builtin "sorted") [Value.ref _]) _ _ _); k_dflt (refine' sort_strs ?jF_32 ?jN_32 ?jm_32 ?jz_32 ?_; (case jF_32 => k_asm); (case jN_32 => k_asm); (case jm_32 => k_mem); (case jz_32 => first | with_reducible assumption | exact get_lt (by with_reducible assumption) (by with_reducible assumption)); intro D' h' vs' ss' e' F' N' l1 hS' hp' hs'; (try k_lt l1))) | (k_here; (with_reducible show wpAny _ _ (subscriptTail (Expr.Name _ _) (Expr.Name _ _) (Value.ref _) (Value.int _ _)) _ _ _); k_dflt (refine' led_ref ?jN_21 ?jm_21 ?j0_21 ?j1_21 ?jz_21 ?_; (case jN_21 => k_asm); (case jm_21 => k_mem); (case j0_21 => omega); (case j1_21 => omega); (case jz_21 => omega))) | (k_here; (with_reducible show wpAny _ _ (call (Value.ref 212) _ _) _ _ _); k_dflt (refine' (get_all_ok _ _ _ _ _ _ _ _ _ _ _ ?gh1_19 ?gh2_19 ?gh3_19 ?gh4_19) _ _ _ _ _ _ _ _ _ _ _ _ _ _ _ _ _ _ ?gB ?gF ?gX ?gN ?gT ?gk ?gp_19 ?gd ?gu ?_; walk_at "gclaim"; (case gp_19 => (refine TabAt.sub (by (first | with_reducible assumption | assumption)) ?_; intro p hp; repeat (first | exact hp | refine .tail _ ?_))); (case gh1_19 => (first | with_reducible assumption | assumption)); (case gh2_19 => (first | with_reducible assumption | assumption)); (case gh3_19 => (first | with_reducible assumption | assumption)); (case gh4_19 => (first | with_reducible assumption | assumption)); intro D' l' k' h' tk' hl' F' N' hlt'; (try dsimp only); (try k_fold))) | (k_here; (with_reducible show TPost _ _ _ _ _ _ _ _ _ _); dsimp only [TPost]))) | walk1 | (dsimp only; first | (with_reducible (first | (k_here; (with_reducible show wpAny _ _ (compareOp CmpOp.NotEq (Value.ref _) (Value.ref _)) _ _ _); k_dflt (refine' ne_strs_same ?jN_33 ?ja_33 ?jb_33 ?ji_33 ?jj_33 ?je_33 ?ju_33 ?_; (case jN_33 => k_asm); (case ja_33 => k_mem); (case jb_33 => k_mem); (case ji_33 => (first | with_reducible assumption | assumption)); (case jj_33 => (first | with_reducible assumption | assumption)); (case je_33 => exact srt_same (by with_reducible assumption) (by with_reducible assumption) (by with_reducible assumption) (by with_reducible assumption) (by (first | with_reducible assumption | assumption)) (by (first | with_reducible assumption | assumption)) (by (first | with_reducible assumption | assumption)) (by (first | with_reducible assumption | assumption)) (by (first | with_reducible assumption | assumption)) (by (first | with_reducible assumption | assumption))); (case ju_33 => first | ktr_units | ((simp only [units_deeper, units_under_make]); ktr_units)))) | (k_here; (with_reducible show wpAny _ _ (call (Value.builtin "sorted") [Value.ref _]) _ _ _); k_dflt (refine' sort_strs ?jF_32 ?jN_32 ?jm_32 ?jz_32 ?_; (case jF_32 => k_asm); (case jN_32 => k_asm); (case jm_32 => k_mem); (case jz_32 => first | with_reducible assumption | exact get_lt (by with_reducible assumption) (by with_reducible assumption)); intro D' h' vs' ss' e' F' N' l1 hS' hp' hs'; (try k_lt l1))) | (k_here; (with_reducible show wpAny _ _ (subscriptTail (Expr.Name _ _) (Expr.Name _ _) (Value.ref _) (Value.int _ _)) _ _ _); k_dflt (refine' led_ref ?jN_21 ?jm_21 ?j0_21 ?j1_21 ?jz_21 ?_; (case jN_21 => k_asm); (case jm_21 => k_mem); (case j0_21 => omega); (case j1_21 => omega); (case jz_21 => omega))) | (k_here; (with_reducible show wpAny _ _ (call (Value.ref 212) _ _) _ _ _); k_dflt (refine' (get_all_ok _ _ _ _ _ _ _ _ _ _ _ ?gh1_19 ?gh2_19 ?gh3_19 ?gh4_19) _ _ _ _ _ _ _ _ _ _ _ _ _ _ _ _ _ _ ?gB ?gF ?gX ?gN ?gT ?gk ?gp_19 ?gd ?gu ?_; walk_at "gclaim"; (case gp_19 => (refine TabAt.sub (by (first | with_reducible assumption | assumption)) ?_; intro p hp; repeat (first | exact hp | refine .tail _ ?_))); (case gh1_19 => (first | with_reducible assumption | assumption)); (case gh2_19 => (first | with_reducible assumption | assumption)); (case gh3_19 => (first | with_reducible assumption | assumption)); (case gh4_19 => (first | with_reducible assumption | assumption)); intro D' l' k' h' tk' hl' F' N' hlt'; (try dsimp only); (try k_fold))) | (k_here; (with_reducible show TPost _ _ _ _ _ _ _ _ _ _); dsimp only [TPost]))) | walk1) | (leave1; try dsimp only) | fail "no step")
    refine hRR51 _ _ ?_
    dsimp only [TPost, SPost]
    refine ⟨_, _, _, _, rfl, by k_asm, cb_drop (by k_asm) (fun p hp => by repeat (first | exact hp | refine .tail _ ?_)), hoff, fun p hp => (nomatch hp), ?_, rfl⟩
    intro z h1; simp at h1; simp [over, h1]
  rintro m₄ news₄ h tk ⟨hz4, rfl⟩ F N
  rw [eq_over hz4] at F
  try dsimp only [over, List.foldr] at F
  repeat' (first | (k_unfold; (try dsimp only)) | (k_end; wrow_close) | (with_reducible (first | (k_here; (with_reducible show wpAny _ _ (call (Value.ref 181) _ _) _ _ _); k_dflt (refine' (len_tab _ _ _ _ _ _ _ _ _ ?gh1_34) _ _ _ _ _ _ _ _ _ _ _ _ _ _ _ _ _ _ ?gB ?gF ?gX ?gN ?gT ?gk ?gp_34 ?gd ?gu ?_; walk_at "gclaim"; (case gp_34 => with_reducible assumption); (case gh1_34 => with_reducible assumption); intro t' h' tk' F' N'; (try dsimp only [PySem.W.LenBack]); (try refine ⟨⟨by omega, by omega⟩, ?_⟩); (try k_fold))) | (k_here; (with_reducible show LCg.CompSrc _ _ _ _ _ _ _ _ _ _ _ _ _ _); refine stopHere ?_) | (k_here; (with_reducible show wpAny _ _ (eval (Expr.ListComp _ [{ target := _, iter := _, ifs := [], is_async := _ }] _ _) _) _ _ _); k_dflt (refine LCg.ListComp_U (F₀ := by k_asm) (by with_unfolding_all rfl) (by decide) (by rfl) (by decide) (by rfl) ?_)))) | walk1 | (dsimp only; first | (with_reducible (first | (k_here; (with_reducible show wpAny _ _ (call (Value.ref 181) _ _) _ _ _); k_dflt (refine' (len_tab _ _ _ _ _ _ _ _ _ ?gh1_34) _ _ _ _ _ _ _ _ _ _ _ _ _ _ _ _ _ _ ?gB ?gF ?gX ?gN ?gT ?gk ?gp_34 ?gd ?gu ?_; walk_at "gclaim"; (case gp_34 => with_reducible assumption); (case gh1_34 => with_reducible assumption); intro t' h' tk' F' N'; (try dsimp only [PySem.W.LenBack]); (try refine ⟨⟨by omega, by omega⟩, ?_⟩); (try k_fold))) | (k_here; (with_reducible show LCg.CompSrc _ _ _ _ _ _ _ _ _ _ _ _ _ _); refine stopHere ?_) | (k_here; (with_reducible show wpAny _ _ (eval (Expr.ListComp _ [{ target := _, iter := _, ifs := [], is_async := _ }] _ _) _) _ _ _); k_dflt (refine LCg.ListComp_U (F₀ := by k_asm) (by with_unfolding_all rfl) (by decide) (by rfl) (by decide) (by rfl) ?_)))) | walk1) | (leave1; try dsimp only) | fail "no step")
  show LCg.CompSrc _ _ _ _ _ _ _ _ _ _ _ _ _ _
  k_dflt (refine' LCg.CompSrc.ledger ?hh ?F ?N ?hm ?hz ?_)
  case hh => rfl
  case F => k_asm
  case N => k_asm
  case hm => k_mem
  case hz => simp [sizeLine_eq]; omega
  intro g0
  refine lcu_rest (items := List.range 5) (fun j v => j < 5 ∧ v = .ref (as3.getD j 0)) (fun j t => .int (((kindsL ns).getD j []).length : Int) t) ?hn ?hP ?hS ?turn ?fin
  case hn => simp; omega
  case hP =>
    intro i v hi hv
    have hi5 : i < as3.length := by simpa using hi
    refine ⟨i, List.getElem?_range (by omega), by omega, ?_⟩
    rw [List.getD_eq_getElem?_getD, List.getElem?_eq_getElem hi5]
    simp [List.getElem?_eq_getElem hi5] at hv
    exact hv.symm
  case hS => exact .inr ⟨_, gKL, rfl, _, rfl⟩
  case turn =>
    rintro j v I oI C oC D m₂ ys h tk E' hj' ⟨hj, rfl⟩ hC hx' F' N' off ne
    dsimp only
    obtain ⟨kss, kk, hks, hks2⟩ := hK5.2.2.2.2.2 j hj
    have hk1000 := ks_len5 hcnt.2 hcnt.1 hK5.2.2.1 hj
    have hkn5 : (strValues kss).length = ((kindsL ns).getD j []).length := by
      have := congrArg List.length hks2
      rw [List.length_map, List.length_map] at this
      simp only [strValues, List.length_map]; exact this
    repeat' (first | (k_unfold; (try dsimp only)) | (k_end; wrow_close) | (with_reducible (first | (k_here; (with_reducible show wpAny _ _ (call (Value.builtin "len") [Value.ref (List.getD _ _ _)]) _ _ _); k_dflt (refine stopHere ?_)))) | walk1 | (dsimp only; first | (with_reducible (first | (k_here; (with_reducible show wpAny _ _ (call (Value.builtin "len") [Value.ref (List.getD _ _ _)]) _ _ _); k_dflt (refine stopHere ?_)))) | walk1) | (leave1; try dsimp only) | fail "no step")
    show wpAny _ _ _ _ _ _
    refine len_r N' (.tail _ (.tail _ (.tail _ hks))) hkn5 (by rw [sizeLine_eq]; omega) fun t' k' => ?_
    refine LCg.CompEnd.intro (by k_asm) (by k_asm) _ (fun p hp => hp) off (.inr ⟨_, gKL, rfl, _, rfl⟩) (LcEl.mk rfl rfl rfl)
  case fin =>
    intro ys hO
    dsimp only
    repeat' (first | (k_unfold; (try dsimp only)) | (k_end; wrow_close) | walk1 | (dsimp only; first | walk1) | (leave1; try dsimp only) | fail "no step")
    show wpAny _ _ _ _ _ _
    rename News _ _ _ ((_, LCg.lst ys) :: _) => N9
    refine LSm.sum_ints (by k_asm) N9 rfl (led_list N9 (.head _)) hO.ints fun h' tk t' F' N' => ?_
    rw [kinds_sum hK5.2.2.1, ← hcnt.1, ← hrl5]
    repeat' (first | (k_unfold; (try dsimp only)) | (k_end; wrow_close) | walk1 | (dsimp only; first | walk1) | (leave1; try dsimp only) | fail "no step")
    · refine hQE _ _ ⟨?_, _, _, _, _, by k_asm, N', .tail _ (hO3 _ (hKt2 _ h87)).1, .tail _ (hO3 _ (hKt2 _ h94)).1, hgb3, hos3⟩
      rw [decide_eq_true (show (rows1.length : Int) < 8 by omega)]
    · refine hQE _ _ ⟨?_, _, _, _, _, by k_asm, N', .tail _ (hO3 _ (hKt2 _ h87)).1, .tail _ (hO3 _ (hKt2 _ h94)).1, hgb3, hos3⟩
      rw [beq_self_eq_true]
end Mine

theorem PySem.Challenge.cw_wb0072_02_holds : PySem.Challenge.rw_wb0072_02.Holds :=
  Mine.law_walk
