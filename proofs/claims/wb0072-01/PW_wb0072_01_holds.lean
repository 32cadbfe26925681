import PyProof.Rows.All
import Wide.All
import OpenK.AllK
import Wide.FinOn
import Lean
import PySem.Challenge.RW_wb0072_01
open PySem PySem.W PySem.Calls PyProof.Rows PySem.Builtin PySem.Builtin.Str
set_option maxRecDepth 100000
set_option Elab.async false
set_option linter.unusedVariables false
set_option linter.unusedSimpArgs false
namespace Mine
section
open PySem PySem.W PySem.Calls PyProof.Rows PySem.Builtin PySem.Builtin.Str
set_option maxRecDepth 1000000
noncomputable abbrev prg1 : Program := (PySem.Challenge.rw_wb0072_01).row.prog
/-- parts of the given text, by their place in it -/
def stAt : List Stmt → Nat → Stmt
  | [], _ => .Pass default
  | s :: _, 0 => s
  | _ :: r, n + 1 => stAt r n
def fnP : Stmt → Arguments
  | .FunctionDef _ a _ _ _ _ _ _ _ _ => a
  | _ => ⟨[], [], none, [], [], none, []⟩
def fnB : Stmt → List Stmt
  | .FunctionDef _ _ b _ _ _ _ _ _ _ => b
  | _ => []
def fnS : Stmt → Scope
  | .FunctionDef _ _ _ _ _ _ s _ _ _ => s
  | _ => default
def clB : Stmt → List Stmt
  | .ClassDef _ _ _ b _ _ _ _ _ _ _ => b
  | _ => []
/-- what stands in the heap when the text has run (in a text, \\x69 is the letter i) -/
noncomputable def K1 : Params → Frag := fun P => 
  (nat_lit 2, { cls := Value.none, data := Data.dict #[{ hash := PyData.keyHash P (Str.ofString "\x69mport.loaded._sre"), key := Value.str (Str.ofString "\x69mport.loaded._sre") 183, val := Value.bool true }, { hash := PyData.keyHash P (Str.ofString "class._frozen_\x69mportlib.BuiltinImporter"), key := Value.str (Str.ofString "class._frozen_\x69mportlib.BuiltinImporter") 185, val := Value.ref 14 }, { hash := PyData.keyHash P (Str.ofString "watched.\x69mport"), key := Value.str (Str.ofString "watched.\x69mport") 206, val := Value.ref 18 }, { hash := PyData.keyHash P (Str.ofString "class._frozen_\x69mportlib.ModuleSpec"), key := Value.str (Str.ofString "class._frozen_\x69mportlib.ModuleSpec") 216, val := Value.ref 22 }, { hash := PyData.keyHash P (Str.ofString "sys.modules.booked-epoch"), key := Value.str (Str.ofString "sys.modules.booked-epoch") 245, val := Value.int 3 0 }, { hash := PyData.keyHash P (Str.ofString "\x69mport.later-laid._sre"), key := Value.str (Str.ofString "\x69mport.later-laid._sre") 270, val := Value.bool true }, { hash := PyData.keyHash P (Str.ofString "watched.library"), key := Value.str (Str.ofString "watched.library") 272, val := Value.ref 27 }, { hash := PyData.keyHash P (Str.ofString "watched.library-objects"), key := Value.str (Str.ofString "watched.library-objects") 0, val := Value.str (Str.ofString "\x0c") 0 }, { hash := PyData.keyHash P (Str.ofString "watched.library-deep._sre"), key := Value.str (Str.ofString "watched.library-deep._sre") 273, val := Value.str (Str.ofString "\x04\x00\x00\x0b\x04\x00\x00\x0b\x04\x00\x00\x03\x04\x00\x00\x0b\x08\x04dict\x02") 0 }] 9 }) ::
  (nat_lit 3, { cls := Value.type "dict", data := Data.dict #[{ hash := PyData.keyHash P (Str.ofString "__name__"), key := Value.str (Str.ofString "__name__") 165, val := Value.str (Str.ofString "law_wb0072_01") 668 }, { hash := PyData.keyHash P (Str.ofString "__doc__"), key := Value.str (Str.ofString "__doc__") 166, val := Value.none }, { hash := PyData.keyHash P (Str.ofString "__package__"), key := Value.str (Str.ofString "__package__") 167, val := Value.none }, { hash := PyData.keyHash P (Str.ofString "__loader__"), key := Value.str (Str.ofString "__loader__") 168, val := Value.builtin "__main__.__loader__#opaque" }, { hash := PyData.keyHash P (Str.ofString "__spec__"), key := Value.str (Str.ofString "__spec__") 169, val := Value.none }, { hash := PyData.keyHash P (Str.ofString "__annotations__"), key := Value.str (Str.ofString "__annotations__") 170, val := Value.ref 6 }, { hash := PyData.keyHash P (Str.ofString "__builtins__"), key := Value.str (Str.ofString "__builtins__") 171, val := Value.ref 4 }, { hash := PyData.keyHash P (Str.ofString "__file__"), key := Value.str (Str.ofString "__file__") 173, val := Value.str (Str.ofString "/claim/cut.py") 172 }, { hash := PyData.keyHash P (Str.ofString "__cached__"), key := Value.str (Str.ofString "__cached__") 174, val := Value.none }, { hash := PyData.keyHash P (Str.ofString "_sre"), key := Value.str (Str.ofString "_sre") 275, val := Value.ref 12 }, { hash := PyData.keyHash P (Str.ofString "_wall"), key := Value.str (Str.ofString "_wall") 288, val := Value.ref 38 }, { hash := PyData.keyHash P (Str.ofString "tspecials"), key := Value.str (Str.ofString "tspecials") 324, val := Value.ref 43 }, { hash := PyData.keyHash P (Str.ofString "_name_disallowed_re"), key := Value.str (Str.ofString "_name_disallowed_re") 350, val := Value.ref 48 }, { hash := PyData.keyHash P (Str.ofString "_value_disallowed_re"), key := Value.str (Str.ofString "_value_disallowed_re") 384, val := Value.ref 53 }, { hash := PyData.keyHash P (Str.ofString "_formatparam"), key := Value.str (Str.ofString "_formatparam") 394, val := Value.ref 61 }, { hash := PyData.keyHash P (Str.ofString "Headers"), key := Value.str (Str.ofString "Headers") 551, val := Value.ref 182 }, { hash := PyData.keyHash P (Str.ofString "ELLIPSIS_MARKER"), key := Value.str (Str.ofString "ELLIPSIS_MARKER") 555, val := Value.str (Str.ofString "...") 554 }, { hash := PyData.keyHash P (Str.ofString "_ellipsis_match"), key := Value.str (Str.ofString "_ellipsis_match") 567, val := Value.ref 193 }, { hash := PyData.keyHash P (Str.ofString "EMPTYSTRING"), key := Value.str (Str.ofString "EMPTYSTRING") 571, val := Value.str (Str.ofString "") 570 }, { hash := PyData.keyHash P (Str.ofString "_Accumulator"), key := Value.str (Str.ofString "_Accumulator") 667, val := Value.ref 273 }, { hash := PyData.keyHash P (Str.ofString "_law_spelled"), key := Value.str (Str.ofString "_law_spelled") 675, val := Value.ref 282 }, { hash := PyData.keyHash P (Str.ofString "_law_led"), key := Value.str (Str.ofString "_law_led") 687, val := Value.ref 289 }, { hash := PyData.keyHash P (Str.ofString "_law_parts"), key := Value.str (Str.ofString "_law_parts") 693, val := Value.ref 294 }, { hash := PyData.keyHash P (Str.ofString "_law_some"), key := Value.str (Str.ofString "_law_some") 704, val := Value.ref 301 }, { hash := PyData.keyHash P (Str.ofString "law"), key := Value.str (Str.ofString "law") 710, val := Value.ref 306 }] 25 }) ::
  (nat_lit 47, { cls := Value.type "tuple", data := Data.seq #[Value.int 14 0, Value.int 10 0, Value.int 4 0, Value.int 1 0, Value.int 1 0, Value.int 22 0, Value.int 0 0, Value.int 31 0, Value.int 16 0, Value.int 127 0, Value.int 0 0, Value.int 13 0, Value.int 7 0, Value.int 22 0, Value.int 0 0, Value.int 31 0, Value.int 16 0, Value.int 127 0, Value.int 0 0, Value.int 1 0] }) ::
  (nat_lit 48, { cls := Value.type "re.Pattern", data := Data.fields #[Value.str (Str.ofString "[\\x00-\\x1F\\x7F]") 326, Value.int 32 349, Value.int 0 0, Value.none, Value.none, Value.ref 47, Value.int 0 0] }) ::
  (nat_lit 52, { cls := Value.type "tuple", data := Data.seq #[Value.int 14 0, Value.int 14 0, Value.int 4 0, Value.int 1 0, Value.int 1 0, Value.int 9 0, Value.int 4294966783 0, Value.int 0 0, Value.int 0 0, Value.int 2147483648 0, Value.int 0 0, Value.int 0 0, Value.int 0 0, Value.int 0 0, Value.int 0 0, Value.int 13 0, Value.int 11 0, Value.int 9 0, Value.int 4294966783 0, Value.int 0 0, Value.int 0 0, Value.int 2147483648 0, Value.int 0 0, Value.int 0 0, Value.int 0 0, Value.int 0 0, Value.int 0 0, Value.int 1 0] }) ::
  (nat_lit 53, { cls := Value.type "re.Pattern", data := Data.fields #[Value.str (Str.ofString "[\\x00-\\x08\\x0A-\\x1F\\x7F]") 352, Value.int 32 383, Value.int 0 0, Value.none, Value.none, Value.ref 52, Value.int 0 0] }) ::
  (nat_lit 69, { cls := Value.type "tuple", data := Data.seq #[Value.none] }) ::
  (nat_lit 75, { cls := Value.type "code", data := Data.fields #[Value.str (Str.ofString "__init__") 407, Value.str (Str.ofString "Headers.__init__") 408, Value.str (Str.ofString "/claim/cut.py") 409, Value.int 20 0, Value.int 2 0, Value.int 0 0, Value.int 0 0, Value.int 3 0, Value.ref 70, Value.bool true, Value.int 276 0, Value.ref 71, Value.none, Value.ref 72, Value.ref 73, Value.ref 74, Value.int 414 0, Value.int 20 0, Value.str (Str.ofString "/claim/cut.py") 415] }) ::
  (nat_lit 76, { cls := Value.type "function", data := Data.func { name := Str.ofString "__init__", qualname := Str.ofString "Headers.__init__", params := (by refine' (?f : (b : Arguments) → (fnP (stAt (clB (stAt prg1.main.body 7)) 0) = b) → Arguments) _ ?h; (case f => exact fun b _ => b); (case h => conv => lhs; whnf)), body := (FuncBody.stmts (by refine' (?f : (b : List Stmt) → (fnB (stAt (clB (stAt prg1.main.body 7)) 0) = b) → List Stmt) _ ?h; (case f => exact fun b _ => b); (case h => conv => lhs; whnf))), scope := (by refine' (?f : (b : Scope) → (fnS (stAt (clB (stAt prg1.main.body 7)) 0) = b) → Scope) _ ?h; (case f => exact fun b _ => b); (case h => conv => lhs; whnf)), globals := 3, closure := [], defaults := Value.ref 69, kwdefaults := Value.none, pyModule := Value.str (Str.ofString "cpy313.wsgiref.headers") 289, code := Value.ref 75 } }) ::
  (nat_lit 82, { cls := Value.type "code", data := Data.fields #[Value.str (Str.ofString "_convert_string_type") 417, Value.str (Str.ofString "Headers._convert_string_type") 418, Value.str (Str.ofString "/claim/cut.py") 419, Value.int 30 0, Value.int 2 0, Value.int 0 0, Value.int 1 0, Value.int 3 0, Value.ref 77, Value.bool true, Value.int 276 0, Value.ref 78, Value.none, Value.ref 79, Value.ref 80, Value.ref 81, Value.int 424 0, Value.int 30 0, Value.str (Str.ofString "/claim/cut.py") 425] }) ::
  (nat_lit 83, { cls := Value.type "function", data := Data.func { name := Str.ofString "_convert_string_type", qualname := Str.ofString "Headers._convert_string_type", params := (by refine' (?f : (b : Arguments) → (fnP (stAt (clB (stAt prg1.main.body 7)) 1) = b) → Arguments) _ ?h; (case f => exact fun b _ => b); (case h => conv => lhs; whnf)), body := (FuncBody.stmts (by refine' (?f : (b : List Stmt) → (fnB (stAt (clB (stAt prg1.main.body 7)) 1) = b) → List Stmt) _ ?h; (case f => exact fun b _ => b); (case h => conv => lhs; whnf))), scope := (by refine' (?f : (b : Scope) → (fnS (stAt (clB (stAt prg1.main.body 7)) 1) = b) → Scope) _ ?h; (case f => exact fun b _ => b); (case h => conv => lhs; whnf)), globals := 3, closure := [], defaults := Value.none, kwdefaults := Value.none, pyModule := Value.str (Str.ofString "cpy313.wsgiref.headers") 289, code := Value.ref 82 } }) ::
  (nat_lit 120, { cls := Value.type "code", data := Data.fields #[Value.str (Str.ofString "get_all") 465, Value.str (Str.ofString "Headers.get_all") 466, Value.str (Str.ofString "/claim/cut.py") 467, Value.int 55 0, Value.int 2 0, Value.int 0 0, Value.int 0 0, Value.int 3 0, Value.ref 117, Value.bool true, Value.int 276 0, Value.ref 118, Value.none, Value.none, Value.none, Value.ref 119, Value.int 468 0, Value.int 55 0, Value.str (Str.ofString "/claim/cut.py") 469] }) ::
  (nat_lit 121, { cls := Value.type "function", data := Data.func { name := Str.ofString "get_all", qualname := Str.ofString "Headers.get_all", params := (by refine' (?f : (b : Arguments) → (fnP (stAt (clB (stAt prg1.main.body 7)) 7) = b) → Arguments) _ ?h; (case f => exact fun b _ => b); (case h => conv => lhs; whnf)), body := (FuncBody.stmts (by refine' (?f : (b : List Stmt) → (fnB (stAt (clB (stAt prg1.main.body 7)) 7) = b) → List Stmt) _ ?h; (case f => exact fun b _ => b); (case h => conv => lhs; whnf))), scope := (by refine' (?f : (b : Scope) → (fnS (stAt (clB (stAt prg1.main.body 7)) 7) = b) → Scope) _ ?h; (case f => exact fun b _ => b); (case h => conv => lhs; whnf)), globals := 3, closure := [], defaults := Value.none, kwdefaults := Value.none, pyModule := Value.str (Str.ofString "cpy313.wsgiref.headers") 289, code := Value.ref 120 } }) ::
  (nat_lit 178, { cls := Value.type "code", data := Data.fields #[Value.str (Str.ofString "add_header") 530, Value.str (Str.ofString "Headers.add_header") 531, Value.str (Str.ofString "/claim/cut.py") 532, Value.int 87 0, Value.int 3 0, Value.int 0 0, Value.int 0 0, Value.int 11 0, Value.ref 173, Value.bool true, Value.int 276 0, Value.ref 174, Value.none, Value.ref 175, Value.ref 176, Value.ref 177, Value.int 540 0, Value.int 87 0, Value.str (Str.ofString "/claim/cut.py") 541] }) ::
  (nat_lit 179, { cls := Value.type "function", data := Data.func { name := Str.ofString "add_header", qualname := Str.ofString "Headers.add_header", params := (by refine' (?f : (b : Arguments) → (fnP (stAt (clB (stAt prg1.main.body 7)) 16) = b) → Arguments) _ ?h; (case f => exact fun b _ => b); (case h => conv => lhs; whnf)), body := (FuncBody.stmts (by refine' (?f : (b : List Stmt) → (fnB (stAt (clB (stAt prg1.main.body 7)) 16) = b) → List Stmt) _ ?h; (case f => exact fun b _ => b); (case h => conv => lhs; whnf))), scope := (by refine' (?f : (b : Scope) → (fnS (stAt (clB (stAt prg1.main.body 7)) 16) = b) → Scope) _ ?h; (case f => exact fun b _ => b); (case h => conv => lhs; whnf)), globals := 3, closure := [], defaults := Value.none, kwdefaults := Value.none, pyModule := Value.str (Str.ofString "cpy313.wsgiref.headers") 289, code := Value.ref 178 } }) ::
  (nat_lit 181, { cls := Value.type "dict", data := Data.dict #[{ hash := PyData.keyHash P (Str.ofString "__module__"), key := Value.str (Str.ofString "__module__") 402, val := Value.str (Str.ofString "cpy313.wsgiref.headers") 289 }, { hash := PyData.keyHash P (Str.ofString "__firstlineno__"), key := Value.str (Str.ofString "__firstlineno__") 406, val := Value.int 18 405 }, { hash := PyData.keyHash P (Str.ofString "__init__"), key := Value.str (Str.ofString "__init__") 416, val := Value.ref 76 }, { hash := PyData.keyHash P (Str.ofString "_convert_string_type"), key := Value.str (Str.ofString "_convert_string_type") 426, val := Value.ref 83 }, { hash := PyData.keyHash P (Str.ofString "__len__"), key := Value.str (Str.ofString "__len__") 433, val := Value.ref 90 }, { hash := PyData.keyHash P (Str.ofString "__setitem__"), key := Value.str (Str.ofString "__setitem__") 442, val := Value.ref 97 }, { hash := PyData.keyHash P (Str.ofString "__delitem__"), key := Value.str (Str.ofString "__delitem__") 448, val := Value.ref 102 }, { hash := PyData.keyHash P (Str.ofString "__getitem__"), key := Value.str (Str.ofString "__getitem__") 456, val := Value.ref 109 }, { hash := PyData.keyHash P (Str.ofString "__contains__"), key := Value.str (Str.ofString "__contains__") 464, val := Value.ref 116 }, { hash := PyData.keyHash P (Str.ofString "get_all"), key := Value.str (Str.ofString "get_all") 470, val := Value.ref 121 }, { hash := PyData.keyHash P (Str.ofString "get"), key := Value.str (Str.ofString "get") 481, val := Value.ref 129 }, { hash := PyData.keyHash P (Str.ofString "keys"), key := Value.str (Str.ofString "keys") 487, val := Value.ref 134 }, { hash := PyData.keyHash P (Str.ofString "values"), key := Value.str (Str.ofString "values") 493, val := Value.ref 139 }, { hash := PyData.keyHash P (Str.ofString "items"), key := Value.str (Str.ofString "items") 500, val := Value.ref 146 }, { hash := PyData.keyHash P (Str.ofString "__repr__"), key := Value.str (Str.ofString "__repr__") 507, val := Value.ref 153 }, { hash := PyData.keyHash P (Str.ofString "__str__"), key := Value.str (Str.ofString "__str__") 513, val := Value.ref 158 }, { hash := PyData.keyHash P (Str.ofString "__bytes__"), key := Value.str (Str.ofString "__bytes__") 520, val := Value.ref 165 }, { hash := PyData.keyHash P (Str.ofString "setdefault"), key := Value.str (Str.ofString "setdefault") 529, val := Value.ref 172 }, { hash := PyData.keyHash P (Str.ofString "add_header"), key := Value.str (Str.ofString "add_header") 542, val := Value.ref 179 }, { hash := PyData.keyHash P (Str.ofString "__static_attributes__"), key := Value.str (Str.ofString "__static_attributes__") 544, val := Value.ref 180 }, { hash := PyData.keyHash P (Str.ofString "__dict__"), key := Value.str (Str.ofString "__dict__") 546, val := Value.ref 183 }, { hash := PyData.keyHash P (Str.ofString "__weakref__"), key := Value.str (Str.ofString "__weakref__") 548, val := Value.ref 184 }, { hash := PyData.keyHash P (Str.ofString "__doc__"), key := Value.str (Str.ofString "__doc__") 549, val := Value.none }] 4 }) ::
  (nat_lit 182, { cls := Value.type "type", data := Data.cls { name := Str.ofString "Headers", bases := [Value.type "object"], mro := [Value.ref 182, Value.type "object"], ns := 181, qualname := Str.ofString "Headers" }, slots := #[none, none, some (Value.str (Str.ofString "Headers") 395), some (Value.str (Str.ofString "Headers") 403), some (Value.builtin "object.__new__"), some (Value.bool true)] }) ::
  (nat_lit 192, { cls := Value.type "code", data := Data.fields #[Value.str (Str.ofString "_ellipsis_match") 556, Value.str (Str.ofString "_ellipsis_match") 557, Value.str (Str.ofString "/claim/cut.py") 558, Value.int 102 0, Value.int 2 0, Value.int 0 0, Value.int 0 0, Value.int 3 0, Value.ref 187, Value.bool true, Value.int 276 0, Value.ref 188, Value.none, Value.ref 189, Value.ref 190, Value.ref 191, Value.int 565 0, Value.int 102 0, Value.str (Str.ofString "/claim/cut.py") 566] }) ::
  (nat_lit 193, { cls := Value.type "function", data := Data.func { name := Str.ofString "_ellipsis_match", qualname := Str.ofString "_ellipsis_match", params := (by refine' (?f : (b : Arguments) → (fnP (stAt prg1.main.body 10) = b) → Arguments) _ ?h; (case f => exact fun b _ => b); (case h => conv => lhs; whnf)), body := (FuncBody.stmts (by refine' (?f : (b : List Stmt) → (fnB (stAt prg1.main.body 10) = b) → List Stmt) _ ?h; (case f => exact fun b _ => b); (case h => conv => lhs; whnf))), scope := (by refine' (?f : (b : Scope) → (fnS (stAt prg1.main.body 10) = b) → Scope) _ ?h; (case f => exact fun b _ => b); (case h => conv => lhs; whnf)), globals := 3, closure := [], defaults := Value.none, kwdefaults := Value.none, pyModule := Value.str (Str.ofString "cpy313.doctest") 552, code := Value.ref 192 } }) ::
  (nat_lit 197, { cls := Value.type "cell", data := Data.cell (some (Value.ref 273)) }) ::
  (nat_lit 202, { cls := Value.type "tuple", data := Data.seq #[Value.int 0 584] }) ::
  (nat_lit 209, { cls := Value.type "code", data := Data.fields #[Value.str (Str.ofString "__init__") 585, Value.str (Str.ofString "_Accumulator.__init__") 586, Value.str (Str.ofString "/claim/cut.py") 587, Value.int 134 0, Value.int 2 0, Value.int 0 0, Value.int 0 0, Value.int 3 0, Value.ref 204, Value.bool true, Value.int 276 0, Value.ref 205, Value.none, Value.ref 206, Value.ref 207, Value.ref 208, Value.int 591 0, Value.int 134 0, Value.str (Str.ofString "/claim/cut.py") 592] }) ::
  (nat_lit 210, { cls := Value.type "function", data := Data.func { name := Str.ofString "__init__", qualname := Str.ofString "_Accumulator.__init__", params := (by refine' (?f : (b : Arguments) → (fnP (stAt (clB (stAt prg1.main.body 13)) 0) = b) → Arguments) _ ?h; (case f => exact fun b _ => b); (case h => conv => lhs; whnf)), body := (FuncBody.stmts (by refine' (?f : (b : List Stmt) → (fnB (stAt (clB (stAt prg1.main.body 13)) 0) = b) → List Stmt) _ ?h; (case f => exact fun b _ => b); (case h => conv => lhs; whnf))), scope := (by refine' (?f : (b : Scope) → (fnS (stAt (clB (stAt prg1.main.body 13)) 0) = b) → Scope) _ ?h; (case f => exact fun b _ => b); (case h => conv => lhs; whnf)), globals := 3, closure := [(Str.ofString "__class__", 197)], defaults := Value.ref 202, kwdefaults := Value.none, pyModule := Value.str (Str.ofString "cpy313.email.header") 568, code := Value.ref 209, closureTuple := Value.ref 203 } }) ::
  (nat_lit 216, { cls := Value.type "code", data := Data.fields #[Value.str (Str.ofString "push") 594, Value.str (Str.ofString "_Accumulator.push") 595, Value.str (Str.ofString "/claim/cut.py") 596, Value.int 138 0, Value.int 3 0, Value.int 0 0, Value.int 0 0, Value.int 3 0, Value.ref 211, Value.bool true, Value.int 276 0, Value.ref 212, Value.none, Value.ref 213, Value.ref 214, Value.ref 215, Value.int 600 0, Value.int 138 0, Value.str (Str.ofString "/claim/cut.py") 601] }) ::
  (nat_lit 217, { cls := Value.type "function", data := Data.func { name := Str.ofString "push", qualname := Str.ofString "_Accumulator.push", params := (by refine' (?f : (b : Arguments) → (fnP (stAt (clB (stAt prg1.main.body 13)) 1) = b) → Arguments) _ ?h; (case f => exact fun b _ => b); (case h => conv => lhs; whnf)), body := (FuncBody.stmts (by refine' (?f : (b : List Stmt) → (fnB (stAt (clB (stAt prg1.main.body 13)) 1) = b) → List Stmt) _ ?h; (case f => exact fun b _ => b); (case h => conv => lhs; whnf))), scope := (by refine' (?f : (b : Scope) → (fnS (stAt (clB (stAt prg1.main.body 13)) 1) = b) → Scope) _ ?h; (case f => exact fun b _ => b); (case h => conv => lhs; whnf)), globals := 3, closure := [], defaults := Value.none, kwdefaults := Value.none, pyModule := Value.str (Str.ofString "cpy313.email.header") 568, code := Value.ref 216 } }) ::
  (nat_lit 218, { cls := Value.type "tuple", data := Data.seq #[Value.int 0 603] }) ::
  (nat_lit 224, { cls := Value.type "code", data := Data.fields #[Value.str (Str.ofString "pop_from") 604, Value.str (Str.ofString "_Accumulator.pop_from") 605, Value.str (Str.ofString "/claim/cut.py") 606, Value.int 141 0, Value.int 2 0, Value.int 0 0, Value.int 0 0, Value.int 3 0, Value.ref 219, Value.bool true, Value.int 276 0, Value.ref 220, Value.none, Value.ref 221, Value.ref 222, Value.ref 223, Value.int 610 0, Value.int 141 0, Value.str (Str.ofString "/claim/cut.py") 611] }) ::
  (nat_lit 225, { cls := Value.type "function", data := Data.func { name := Str.ofString "pop_from", qualname := Str.ofString "_Accumulator.pop_from", params := (by refine' (?f : (b : Arguments) → (fnP (stAt (clB (stAt prg1.main.body 13)) 2) = b) → Arguments) _ ?h; (case f => exact fun b _ => b); (case h => conv => lhs; whnf)), body := (FuncBody.stmts (by refine' (?f : (b : List Stmt) → (fnB (stAt (clB (stAt prg1.main.body 13)) 2) = b) → List Stmt) _ ?h; (case f => exact fun b _ => b); (case h => conv => lhs; whnf))), scope := (by refine' (?f : (b : Scope) → (fnS (stAt (clB (stAt prg1.main.body 13)) 2) = b) → Scope) _ ?h; (case f => exact fun b _ => b); (case h => conv => lhs; whnf)), globals := 3, closure := [], defaults := Value.ref 218, kwdefaults := Value.none, pyModule := Value.str (Str.ofString "cpy313.email.header") 568, code := Value.ref 224 } }) ::
  (nat_lit 232, { cls := Value.type "code", data := Data.fields #[Value.str (Str.ofString "pop") 613, Value.str (Str.ofString "_Accumulator.pop") 614, Value.str (Str.ofString "/claim/cut.py") 615, Value.int 146 0, Value.int 1 0, Value.int 0 0, Value.int 0 0, Value.int 3 0, Value.ref 227, Value.bool true, Value.int 276 0, Value.ref 228, Value.none, Value.ref 229, Value.ref 230, Value.ref 231, Value.int 618 0, Value.int 146 0, Value.str (Str.ofString "/claim/cut.py") 619] }) ::
  (nat_lit 233, { cls := Value.type "function", data := Data.func { name := Str.ofString "pop", qualname := Str.ofString "_Accumulator.pop", params := (by refine' (?f : (b : Arguments) → (fnP (stAt (clB (stAt prg1.main.body 13)) 3) = b) → Arguments) _ ?h; (case f => exact fun b _ => b); (case h => conv => lhs; whnf)), body := (FuncBody.stmts (by refine' (?f : (b : List Stmt) → (fnB (stAt (clB (stAt prg1.main.body 13)) 3) = b) → List Stmt) _ ?h; (case f => exact fun b _ => b); (case h => conv => lhs; whnf))), scope := (by refine' (?f : (b : Scope) → (fnS (stAt (clB (stAt prg1.main.body 13)) 3) = b) → Scope) _ ?h; (case f => exact fun b _ => b); (case h => conv => lhs; whnf)), globals := 3, closure := [(Str.ofString "__class__", 197)], defaults := Value.none, kwdefaults := Value.none, pyModule := Value.str (Str.ofString "cpy313.email.header") 568, code := Value.ref 232, closureTuple := Value.ref 226 } }) ::
  (nat_lit 239, { cls := Value.type "code", data := Data.fields #[Value.str (Str.ofString "__len__") 621, Value.str (Str.ofString "_Accumulator.__len__") 622, Value.str (Str.ofString "/claim/cut.py") 623, Value.int 151 0, Value.int 1 0, Value.int 0 0, Value.int 0 0, Value.int 3 0, Value.ref 234, Value.bool true, Value.int 276 0, Value.ref 235, Value.none, Value.ref 236, Value.ref 237, Value.ref 238, Value.int 625 0, Value.int 151 0, Value.str (Str.ofString "/claim/cut.py") 626] }) ::
  (nat_lit 240, { cls := Value.type "function", data := Data.func { name := Str.ofString "__len__", qualname := Str.ofString "_Accumulator.__len__", params := (by refine' (?f : (b : Arguments) → (fnP (stAt (clB (stAt prg1.main.body 13)) 4) = b) → Arguments) _ ?h; (case f => exact fun b _ => b); (case h => conv => lhs; whnf)), body := (FuncBody.stmts (by refine' (?f : (b : List Stmt) → (fnB (stAt (clB (stAt prg1.main.body 13)) 4) = b) → List Stmt) _ ?h; (case f => exact fun b _ => b); (case h => conv => lhs; whnf))), scope := (by refine' (?f : (b : Scope) → (fnS (stAt (clB (stAt prg1.main.body 13)) 4) = b) → Scope) _ ?h; (case f => exact fun b _ => b); (case h => conv => lhs; whnf)), globals := 3, closure := [], defaults := Value.none, kwdefaults := Value.none, pyModule := Value.str (Str.ofString "cpy313.email.header") 568, code := Value.ref 239 } }) ::
  (nat_lit 246, { cls := Value.type "code", data := Data.fields #[Value.str (Str.ofString "__str__") 628, Value.str (Str.ofString "_Accumulator.__str__") 629, Value.str (Str.ofString "/claim/cut.py") 630, Value.int 154 0, Value.int 1 0, Value.int 0 0, Value.int 0 0, Value.int 3 0, Value.ref 241, Value.bool true, Value.int 276 0, Value.ref 242, Value.none, Value.ref 243, Value.ref 244, Value.ref 245, Value.int 632 0, Value.int 154 0, Value.str (Str.ofString "/claim/cut.py") 633] }) ::
  (nat_lit 247, { cls := Value.type "function", data := Data.func { name := Str.ofString "__str__", qualname := Str.ofString "_Accumulator.__str__", params := (by refine' (?f : (b : Arguments) → (fnP (stAt (clB (stAt prg1.main.body 13)) 5) = b) → Arguments) _ ?h; (case f => exact fun b _ => b); (case h => conv => lhs; whnf)), body := (FuncBody.stmts (by refine' (?f : (b : List Stmt) → (fnB (stAt (clB (stAt prg1.main.body 13)) 5) = b) → List Stmt) _ ?h; (case f => exact fun b _ => b); (case h => conv => lhs; whnf))), scope := (by refine' (?f : (b : Scope) → (fnS (stAt (clB (stAt prg1.main.body 13)) 5) = b) → Scope) _ ?h; (case f => exact fun b _ => b); (case h => conv => lhs; whnf)), globals := 3, closure := [], defaults := Value.none, kwdefaults := Value.none, pyModule := Value.str (Str.ofString "cpy313.email.header") 568, code := Value.ref 246 } }) ::
  (nat_lit 269, { cls := Value.type "code", data := Data.fields #[Value.str (Str.ofString "part_count") 650, Value.str (Str.ofString "_Accumulator.part_count") 651, Value.str (Str.ofString "/claim/cut.py") 652, Value.int 163 0, Value.int 1 0, Value.int 0 0, Value.int 0 0, Value.int 3 0, Value.ref 264, Value.bool true, Value.int 276 0, Value.ref 265, Value.none, Value.ref 266, Value.ref 267, Value.ref 268, Value.int 655 0, Value.int 163 0, Value.str (Str.ofString "/claim/cut.py") 656] }) ::
  (nat_lit 270, { cls := Value.type "function", data := Data.func { name := Str.ofString "part_count", qualname := Str.ofString "_Accumulator.part_count", params := (by refine' (?f : (b : Arguments) → (fnP (stAt (clB (stAt prg1.main.body 13)) 8) = b) → Arguments) _ ?h; (case f => exact fun b _ => b); (case h => conv => lhs; whnf)), body := (FuncBody.stmts (by refine' (?f : (b : List Stmt) → (fnB (stAt (clB (stAt prg1.main.body 13)) 8) = b) → List Stmt) _ ?h; (case f => exact fun b _ => b); (case h => conv => lhs; whnf))), scope := (by refine' (?f : (b : Scope) → (fnS (stAt (clB (stAt prg1.main.body 13)) 8) = b) → Scope) _ ?h; (case f => exact fun b _ => b); (case h => conv => lhs; whnf)), globals := 3, closure := [(Str.ofString "__class__", 197)], defaults := Value.none, kwdefaults := Value.none, pyModule := Value.str (Str.ofString "cpy313.email.header") 568, code := Value.ref 269, closureTuple := Value.ref 263 } }) ::
  (nat_lit 272, { cls := Value.type "dict", data := Data.dict #[{ hash := PyData.keyHash P (Str.ofString "__module__"), key := Value.str (Str.ofString "__module__") 579, val := Value.str (Str.ofString "cpy313.email.header") 568 }, { hash := PyData.keyHash P (Str.ofString "__firstlineno__"), key := Value.str (Str.ofString "__firstlineno__") 583, val := Value.int 132 582 }, { hash := PyData.keyHash P (Str.ofString "__init__"), key := Value.str (Str.ofString "__init__") 593, val := Value.ref 210 }, { hash := PyData.keyHash P (Str.ofString "push"), key := Value.str (Str.ofString "push") 602, val := Value.ref 217 }, { hash := PyData.keyHash P (Str.ofString "pop_from"), key := Value.str (Str.ofString "pop_from") 612, val := Value.ref 225 }, { hash := PyData.keyHash P (Str.ofString "pop"), key := Value.str (Str.ofString "pop") 620, val := Value.ref 233 }, { hash := PyData.keyHash P (Str.ofString "__len__"), key := Value.str (Str.ofString "__len__") 627, val := Value.ref 240 }, { hash := PyData.keyHash P (Str.ofString "__str__"), key := Value.str (Str.ofString "__str__") 634, val := Value.ref 247 }, { hash := PyData.keyHash P (Str.ofString "reset"), key := Value.str (Str.ofString "reset") 642, val := Value.ref 255 }, { hash := PyData.keyHash P (Str.ofString "is_onlyws"), key := Value.str (Str.ofString "is_onlyws") 649, val := Value.ref 262 }, { hash := PyData.keyHash P (Str.ofString "part_count"), key := Value.str (Str.ofString "part_count") 657, val := Value.ref 270 }, { hash := PyData.keyHash P (Str.ofString "__static_attributes__"), key := Value.str (Str.ofString "__static_attributes__") 659, val := Value.ref 271 }, { hash := PyData.keyHash P (Str.ofString "__dict__"), key := Value.str (Str.ofString "__dict__") 662, val := Value.ref 274 }, { hash := PyData.keyHash P (Str.ofString "__weakref__"), key := Value.str (Str.ofString "__weakref__") 664, val := Value.ref 275 }, { hash := PyData.keyHash P (Str.ofString "__doc__"), key := Value.str (Str.ofString "__doc__") 665, val := Value.none }] 5 }) ::
  (nat_lit 273, { cls := Value.type "type", data := Data.cls { name := Str.ofString "_Accumulator", bases := [Value.type "list"], mro := [Value.ref 273, Value.type "list", Value.type "object"], ns := 272, qualname := Str.ofString "_Accumulator" }, slots := #[some (Value.ref 194), none, some (Value.str (Str.ofString "_Accumulator") 572), some (Value.str (Str.ofString "_Accumulator") 580), some (Value.builtin "list.__new__"), some (Value.bool true)] }) ::
  (nat_lit 281, { cls := Value.type "code", data := Data.fields #[Value.str (Str.ofString "_law_spelled") 670, Value.str (Str.ofString "_law_spelled") 671, Value.str (Str.ofString "/claim/cut.py") 672, Value.int 166 0, Value.int 1 0, Value.int 0 0, Value.int 0 0, Value.int 3 0, Value.ref 278, Value.bool true, Value.int 276 0, Value.ref 279, Value.none, Value.none, Value.none, Value.ref 280, Value.int 673 0, Value.int 166 0, Value.str (Str.ofString "/claim/cut.py") 674] }) ::
  (nat_lit 282, { cls := Value.type "function", data := Data.func { name := Str.ofString "_law_spelled", qualname := Str.ofString "_law_spelled", params := (by refine' (?f : (b : Arguments) → (fnP (stAt prg1.main.body 15) = b) → Arguments) _ ?h; (case f => exact fun b _ => b); (case h => conv => lhs; whnf)), body := (FuncBody.stmts (by refine' (?f : (b : List Stmt) → (fnB (stAt prg1.main.body 15) = b) → List Stmt) _ ?h; (case f => exact fun b _ => b); (case h => conv => lhs; whnf))), scope := (by refine' (?f : (b : Scope) → (fnS (stAt prg1.main.body 15) = b) → Scope) _ ?h; (case f => exact fun b _ => b); (case h => conv => lhs; whnf)), globals := 3, closure := [], defaults := Value.none, kwdefaults := Value.none, pyModule := Value.str (Str.ofString "law_wb0072_01") 668, code := Value.ref 281 } }) ::
  (nat_lit 288, { cls := Value.type "code", data := Data.fields #[Value.str (Str.ofString "_law_led") 676, Value.str (Str.ofString "_law_led") 677, Value.str (Str.ofString "/claim/cut.py") 678, Value.int 171 0, Value.int 2 0, Value.int 0 0, Value.int 0 0, Value.int 3 0, Value.ref 283, Value.bool true, Value.int 276 0, Value.ref 284, Value.none, Value.ref 285, Value.ref 286, Value.ref 287, Value.int 685 0, Value.int 171 0, Value.str (Str.ofString "/claim/cut.py") 686] }) ::
  (nat_lit 289, { cls := Value.type "function", data := Data.func { name := Str.ofString "_law_led", qualname := Str.ofString "_law_led", params := (by refine' (?f : (b : Arguments) → (fnP (stAt prg1.main.body 16) = b) → Arguments) _ ?h; (case f => exact fun b _ => b); (case h => conv => lhs; whnf)), body := (FuncBody.stmts (by refine' (?f : (b : List Stmt) → (fnB (stAt prg1.main.body 16) = b) → List Stmt) _ ?h; (case f => exact fun b _ => b); (case h => conv => lhs; whnf))), scope := (by refine' (?f : (b : Scope) → (fnS (stAt prg1.main.body 16) = b) → Scope) _ ?h; (case f => exact fun b _ => b); (case h => conv => lhs; whnf)), globals := 3, closure := [], defaults := Value.none, kwdefaults := Value.none, pyModule := Value.str (Str.ofString "law_wb0072_01") 668, code := Value.ref 288 } }) ::
  (nat_lit 293, { cls := Value.type "code", data := Data.fields #[Value.str (Str.ofString "_law_parts") 688, Value.str (Str.ofString "_law_parts") 689, Value.str (Str.ofString "/claim/cut.py") 690, Value.int 179 0, Value.int 1 0, Value.int 0 0, Value.int 0 0, Value.int 3 0, Value.ref 290, Value.bool true, Value.int 276 0, Value.ref 291, Value.none, Value.none, Value.none, Value.ref 292, Value.int 691 0, Value.int 179 0, Value.str (Str.ofString "/claim/cut.py") 692] }) ::
  (nat_lit 294, { cls := Value.type "function", data := Data.func { name := Str.ofString "_law_parts", qualname := Str.ofString "_law_parts", params := (by refine' (?f : (b : Arguments) → (fnP (stAt prg1.main.body 17) = b) → Arguments) _ ?h; (case f => exact fun b _ => b); (case h => conv => lhs; whnf)), body := (FuncBody.stmts (by refine' (?f : (b : List Stmt) → (fnB (stAt prg1.main.body 17) = b) → List Stmt) _ ?h; (case f => exact fun b _ => b); (case h => conv => lhs; whnf))), scope := (by refine' (?f : (b : Scope) → (fnS (stAt prg1.main.body 17) = b) → Scope) _ ?h; (case f => exact fun b _ => b); (case h => conv => lhs; whnf)), globals := 3, closure := [], defaults := Value.none, kwdefaults := Value.none, pyModule := Value.str (Str.ofString "law_wb0072_01") 668, code := Value.ref 293 } }) ::
  (nat_lit 300, { cls := Value.type "code", data := Data.fields #[Value.str (Str.ofString "_law_some") 694, Value.str (Str.ofString "_law_some") 695, Value.str (Str.ofString "/claim/cut.py") 696, Value.int 186 0, Value.int 4 0, Value.int 0 0, Value.int 0 0, Value.int 3 0, Value.ref 295, Value.bool true, Value.int 276 0, Value.ref 296, Value.none, Value.ref 297, Value.ref 298, Value.ref 299, Value.int 702 0, Value.int 186 0, Value.str (Str.ofString "/claim/cut.py") 703] }) ::
  (nat_lit 301, { cls := Value.type "function", data := Data.func { name := Str.ofString "_law_some", qualname := Str.ofString "_law_some", params := (by refine' (?f : (b : Arguments) → (fnP (stAt prg1.main.body 18) = b) → Arguments) _ ?h; (case f => exact fun b _ => b); (case h => conv => lhs; whnf)), body := (FuncBody.stmts (by refine' (?f : (b : List Stmt) → (fnB (stAt prg1.main.body 18) = b) → List Stmt) _ ?h; (case f => exact fun b _ => b); (case h => conv => lhs; whnf))), scope := (by refine' (?f : (b : Scope) → (fnS (stAt prg1.main.body 18) = b) → Scope) _ ?h; (case f => exact fun b _ => b); (case h => conv => lhs; whnf)), globals := 3, closure := [], defaults := Value.none, kwdefaults := Value.none, pyModule := Value.str (Str.ofString "law_wb0072_01") 668, code := Value.ref 300 } }) ::
  (nat_lit 305, { cls := Value.type "code", data := Data.fields #[Value.str (Str.ofString "law") 705, Value.str (Str.ofString "law") 706, Value.str (Str.ofString "/claim/cut.py") 707, Value.int 191 0, Value.int 1 0, Value.int 0 0, Value.int 0 0, Value.int 3 0, Value.ref 302, Value.bool true, Value.int 276 0, Value.ref 303, Value.none, Value.none, Value.none, Value.ref 304, Value.int 708 0, Value.int 191 0, Value.str (Str.ofString "/claim/cut.py") 709] }) ::
  (nat_lit 306, { cls := Value.type "function", data := Data.func { name := Str.ofString "law", qualname := Str.ofString "law", params := (by refine' (?f : (b : Arguments) → (fnP (stAt prg1.main.body 19) = b) → Arguments) _ ?h; (case f => exact fun b _ => b); (case h => conv => lhs; whnf)), body := (FuncBody.stmts (by refine' (?f : (b : List Stmt) → (fnB (stAt prg1.main.body 19) = b) → List Stmt) _ ?h; (case f => exact fun b _ => b); (case h => conv => lhs; whnf))), scope := (by refine' (?f : (b : Scope) → (fnS (stAt prg1.main.body 19) = b) → Scope) _ ?h; (case f => exact fun b _ => b); (case h => conv => lhs; whnf)), globals := 3, closure := [], defaults := Value.none, kwdefaults := Value.none, pyModule := Value.str (Str.ofString "law_wb0072_01") 668, code := Value.ref 305 } }) ::
  []
def addrs1 : List Addr := [2, 3, 47, 48, 52, 53, 69, 75, 76, 82, 83, 120, 121, 178, 179, 181, 182, 192, 193, 197, 202, 209, 210, 216, 217, 218, 224, 225, 232, 233, 239, 240, 246, 247, 269, 270, 272, 273, 281, 282, 288, 289, 293, 294, 300, 301, 305, 306]
noncomputable abbrev hook1 : Hook := kmHook K1 addrs1 (fun _ => by kernel_rfl) [235, 242]
noncomputable def view0 : Program := { prg1 with main := { prg1.main with body := [stAt prg1.main.body 0, stAt prg1.main.body 19] } }
def loose0 : List Str := [Str.ofString "_sre", Str.ofString "_wall", Str.ofString "tspecials", Str.ofString "_name_disallowed_re", Str.ofString "_value_disallowed_re", Str.ofString "_formatparam", Str.ofString "Headers", Str.ofString "ELLIPSIS_MARKER", Str.ofString "_ellipsis_match", Str.ofString "EMPTYSTRING", Str.ofString "_Accumulator", Str.ofString "_law_spelled", Str.ofString "_law_led", Str.ofString "_law_parts", Str.ofString "_law_some"]
theorem left1 : LeftO prg1 view0 loose0 (fun s => xlAt view0 [] s && recOk (RowW.records (OpenRow.toRowW (PySem.Challenge.rw_wb0072_01).row)) s) hook1.obs hook1.val 3622 true := by
  intro w
  kernel_rfl
end
section
open PySem PySem.W PySem.Calls PyProof.Rows
abbrev Led := List (Addr × Obj)
abbrev Mp := Str → Option Value
section
variable {prog : Program} {w : World} {A : Around} {E : Value → Shared → Prop} {s : Shared} {env : Env} {h₀ : Heap} {x : Str} {body : List Stmt} {Q : Flow → Shared → Prop}

/-- a turn's end: the frame, the ledger, the loop's word -/
def TEnd (h₀ : Heap) (L : Addr) (I : Addr) (oI : Obj) (keep : Led) (J : Mp → Led → Prop) (s₁ s₂ : Shared) : Prop :=
  ∃ h' tk m' news', s₂ = { s₁ with heap := h', toks := tk } ∧ Fr h₀ L h' m' ∧ News h₀ L h' ((I, oI) :: news') ∧ (∀ p ∈ news', p.1 ≠ I) ∧ (∀ p ∈ keep, p ∈ news') ∧ J m' news'
def TPost (h₀ : Heap) (L : Addr) (I : Addr) (oI : Obj) (keep : Led) (J : Mp → Led → Prop) (s₁ : Shared) (Q : Flow → Shared → Prop) (f : Flow) (s₂ : Shared) : Prop :=
  match f with
  | .ret v => Q (.ret v) s₂
  | .brk => Q .next s₂
  | _ => TEnd h₀ L I oI keep J s₁ s₂

theorem loop_led {I : Addr} {fp : List Addr} {n : Nat} {P : Nat → Value → Prop} {St : Nat → Heap → Prop} {m₀ : Mp} {news : Led} (keep : Led) (J : Nat → Mp → Led → Prop)
    (W : Walks prog w A I fp [I] n P St) (hfp : ∀ b ∈ fp, b = I ∨ (∃ q, h₀.get? b = some q) ∨ ∃ q, (b, q) ∈ keep) (hI0 : h₀.get? I = none) (hob : ∀ i h, St i h → ∃ o, h.get? I = some o)
    (hLf : env.locals ∉ fp) (hnw : ∀ p ∈ news, p.1 ≠ I) (hst : St 0 s.heap) (F : Fr h₀ env.locals s.heap m₀) (N : News h₀ env.locals s.heap news) (hk : ∀ p ∈ keep, p ∈ news) (hj : J 0 m₀ news)
    (turn : ∀ i v m₁ news₁ h tk oI, i < n → P i v → J i m₁ news₁ → (∀ p ∈ news₁, p.1 ≠ I) → (∀ p ∈ keep, p ∈ news₁) → Fr h₀ env.locals h (fun y => if y = x then some v else m₁ y) → News h₀ env.locals h ((I, oI) :: news₁) →
      wpAny (model prog w) A (execs body env) (TPost h₀ env.locals I oI keep (J (i + 1)) { s with heap := h, toks := tk } Q) E { s with heap := h, toks := tk })
    (done : ∀ m₁ news₁ h tk, J n m₁ news₁ → (∀ p ∈ keep, p ∈ news₁) → Fr h₀ env.locals h m₁ → News h₀ env.locals h news₁ → Q .next { s with heap := h, toks := tk }) :
    LoopAtV prog w A h₀ env x body Q E (.ref I) s := by
  refine ⟨I, fp, [I], n, P, St, m₀, news, (fun i m l => (∀ p ∈ keep, p ∈ l) ∧ J i m l), rfl, W, hLf, ?_, ?_, hst, F, N, ⟨hk, hj⟩, ?_, ?_⟩
  · intro b hb; rw [List.mem_singleton.mp hb]; exact hI0
  · intro p hp hI; exact hnw p hp (List.mem_singleton.mp hI)
  · rintro i v m₁ news₁ s₁ own ⟨hh', tk', rfl⟩ hin hP ⟨hk₁, hJ⟩ hoff hown hat hall hst' F₁ N₁
    obtain ⟨oI, ho⟩ := hob _ _ hst'
    have hio : (I, oI) ∈ own := hall I (W.sub I (List.mem_singleton.mpr rfl)) hI0 oI ho
    have hsub : ∀ p ∈ own, p = (I, oI) ∨ p ∈ keep := by
      intro p hp
      have g := (N₁ p (List.mem_append_left _ hp))
      rcases hfp p.1 (hown p hp) with e | ⟨q, hq⟩ | ⟨q, hq⟩
      · left
        have : p.2 = oI := by have := g.1; rw [e] at this; exact Option.some.inj (this.symm.trans ho)
        exact Prod.ext e this
      · have := g.2.2; rw [hq] at this; cases this
      · right
        have h1 := (N₁ _ (List.mem_append_right own (hk₁ _ hq))).1
        have h2 := g.1
        have : p.2 = q := Option.some.inj (h2.symm.trans h1)
        have e : p = (p.1, q) := Prod.ext rfl this
        rw [e]; exact hq
    have N₂ : News h₀ env.locals hh' ((I, oI) :: news₁) := fun p hp => by
      rcases List.mem_cons.mp hp with rfl | hp
      · exact N₁ _ (List.mem_append_left _ hio)
      · exact N₁ _ (List.mem_append_right _ hp)
    refine wpAny_mono (turn i v m₁ news₁ hh' tk' oI hin hP hJ (fun p hp e => hoff p hp (List.mem_singleton.mpr e)) hk₁ F₁ N₂) (fun f s₂ p => ?_) fun _ _ e => e
    have fin : TEnd h₀ env.locals I oI keep (J (i + 1)) { s with heap := hh', toks := tk' } s₂ → LoopStepU h₀ env.locals [I] own (fun m l => (∀ p ∈ keep, p ∈ l) ∧ J (i + 1) m l) { s with heap := hh', toks := tk' } .next s₂ := by
      rintro ⟨h', tk, m', news', e, F', N', hoff', hk', hm⟩
      refine ⟨rfl, h', tk, m', news', e, F', fun p hp => ?_, fun p hp hq => hoff' p hp (List.mem_singleton.mp hq), hk', hm⟩
      rcases List.mem_append.mp hp with hp | hp
      · rcases hsub p hp with rfl | hp
        · exact N' _ (.head _)
        · exact N' _ (.tail _ (hk' p hp))
      · exact N' _ (.tail _ hp)
    cases f with
    | ret v => exact .ret p
    | brk => exact .brk p
    | next => exact .next (fin p)
    | cont => exact .cont (fin p)
  · rintro h' tk m' news' F' N' _ ⟨hk', hJ⟩
    exact done m' news' h' tk hJ hk' F' N'

/-- a for over a list of the ledger -/
theorem loop_list {D : Addr} {k : Nat} {vs : List Value} {m₀ : Mp} {news : Led} (J : Nat → Mp → Led → Prop)
    (hh : A.handled = none) (hD : (D, listOf vs.toArray k) ∈ news) (F : Fr h₀ env.locals s.heap m₀) (N : News h₀ env.locals s.heap news) (hj : J 0 m₀ news)
    (turn : ∀ I i v m₁ news₁ h tk oI, vs[i]? = some v → J i m₁ news₁ → (∀ p ∈ news₁, p.1 ≠ I) → (D, listOf vs.toArray k) ∈ news₁ → Fr h₀ env.locals h (fun y => if y = x then some v else m₁ y) → News h₀ env.locals h ((I, oI) :: news₁) →
      wpAny (model prog w) A (execs body env) (TPost h₀ env.locals I oI [(D, listOf vs.toArray k)] (J (i + 1)) { s with heap := h, toks := tk } Q) E { s with heap := h, toks := tk })
    (done : ∀ m₁ news₁ h tk, J vs.length m₁ news₁ → (D, listOf vs.toArray k) ∈ news₁ → Fr h₀ env.locals h m₁ → News h₀ env.locals h news₁ → Q .next { s with heap := h, toks := tk }) :
    wpAny (model prog w) A (pyIter (.ref D)) (fun it s₂ => LoopAtV prog w A h₀ env x body Q E it s₂) E s := by
  have hls : s.heap.IsList D vs.toArray := ⟨_, (N _ hD).1, rfl, k, rfl⟩
  have hlt : D < s.heap.objs.size := Heap.lt_size (N _ hD).1
  have hne : D ≠ s.heap.objs.size := Nat.ne_of_lt hlt
  refine wpAny_pyIter_list hls ?_
  have W := Walks.list (prog := prog) (w := w) hh s.heap.objs.size D hne vs.toArray
  have hlen : vs.toArray.size = vs.length := by simp
  rw [hlen] at W
  refine loop_led [(D, listOf vs.toArray k)] J W ?_ (next_is_new F) ?_ ?_ ?_ ⟨⟨_, Heap.get?_push_size _ rfl, rfl, rfl⟩, hls.at fun o e => Heap.get?_push_of_some _ e⟩ (F.push _) (fun p hp => ⟨Heap.get?_push_of_some _ (N p hp).1, (N p hp).2⟩) ?_ hj ?_ ?_
  · intro b hb
    rcases List.mem_cons.mp hb with e | hb
    · exact .inl e
    · rw [List.mem_singleton.mp hb]; exact .inr (.inr ⟨_, List.mem_singleton.mpr rfl⟩)
  · rintro i h ⟨⟨o, ho, _⟩, _⟩; exact ⟨o, ho⟩
  · intro hm
    rcases List.mem_cons.mp hm with e | hm
    · exact absurd F.ns.lt (e ▸ Nat.lt_irrefl _)
    · exact (N _ hD).2.1 (List.mem_singleton.mp hm).symm
  · intro p hp e; exact absurd (Heap.lt_size (N p hp).1) (e ▸ Nat.lt_irrefl _)
  · intro p hp; rw [List.mem_singleton.mp hp]; exact hD
  · intro i v m₁ news₁ h tk oI hin hP hJ hoff hk F₁ N₁
    exact turn _ i v m₁ news₁ h tk oI (by simpa using hP) hJ hoff (hk _ (List.mem_singleton.mpr rfl)) F₁ N₁
  · intro m₁ news₁ h tk hJ hk F₁ N₁
    exact done m₁ news₁ h tk hJ (hk _ (List.mem_singleton.mpr rfl)) F₁ N₁
end
/-- the names' map under a name of its own: the terms stay small -/
theorem Fr.foldc {h₀ h : Heap} {L : Addr} {m : Mp} {P : Prop} (F : Fr h₀ L h m) (k : let m' := m; Fr h₀ L h m' → P) : P := k F
end
section
open PySem PySem.W PySem.Calls PyProof.Rows PySem.Builtin PySem.Builtin.Str
section
variable {prog : Program} {w : World} {A : Around} {E : Value → Shared → Prop} {s : Shared} {env : Env} {h₀ : Heap} {L : Addr} {m : Mp} {news news' : Led} {K : Frag}

theorem led_list {D : Addr} {n : Nat} {vs : List Value} (N : News h₀ L s.heap news) (hm : (D, listOf vs.toArray n) ∈ news) : s.heap.IsList D vs.toArray := ⟨_, (N _ hm).1, rfl, n, rfl⟩

theorem getItem_at {D : Addr} {vs : List Value} {i : Int} {u : Tok} {j : Nat} {v : Value} {Q : Value → Shared → Prop} (hl : s.heap.IsList D vs.toArray)
    (hlo : -(2 ^ 63) ≤ i) (hhi : i < 2 ^ 63) (hj : seqIndex? i vs.length = some j) (hx : vs[j]? = some v) (h : Q v s) : wpAny (model prog w) A (getItem (.ref D) (.int i u)) Q E s := by
  by_cases h0 : 0 ≤ i
  · refine wpAny_getItem_list hl h0 hhi ?_ h
    have hn : ¬ i < 0 := by omega
    unfold seqIndex? at hj
    simp only [hn, if_false] at hj
    split at hj
    · cases hj; simpa using hx
    · cases hj
  · have hn : i < 0 := by omega
    have h1 : -(vs.length : Int) ≤ i := by
      unfold seqIndex? at hj
      simp only [hn, if_true] at hj
      split at hj
      · rename_i h2; simp only [Bool.and_eq_true, decide_eq_true_eq] at h2; omega
      · cases hj
    refine wpAny_getItem_list_neg hl (by omega) (by simpa using h1) hlo ?_ h
    have := PySem.seqIndex_neg (by omega) h1
    rw [hj] at this
    cases this
    simpa using hx

theorem led_item {value slice : Expr} {D : Addr} {n : Nat} {vs : List Value} {i : Int} {u : Tok} {j : Nat} {v : Value} {Q : Value → Shared → Prop} (N : News h₀ L s.heap news) (hm : (D, listOf vs.toArray n) ∈ news)
    (hlo : -(2 ^ 63) ≤ i) (hhi : i < 2 ^ 63) (hj : seqIndex? i vs.length = some j) (hx : vs[j]? = some v) (h : Q v s)
    (hs : subscripted slice false (.ref D) (.int i u) = operate [.ref D, .int i u] (getItem (.ref D) (.int i u)) := by with_unfolding_all rfl) :
    wpAny (model prog w) A (subscriptTail value slice (.ref D) (.int i u)) Q E s :=
  tail_any (led_list N hm).typeIs slot_list_getitem.lookup (getItem_at (led_list N hm) hlo hhi hj hx h) hs

theorem gives_find4 (x y : Str) (i k : Int) (t u v v' : Tok) : Gives («str.find» ⟨[.str x t, .str y u, .int i v, .int k v'], []⟩) (.int (match occurrences x y (fromIndex x.length i) (min (fromIndex x.length k) x.length) 1 with | k :: _ => (k : Int) | [] => -1)) := by
  show Gives (match occurrences x y (fromIndex x.length i) (min (fromIndex x.length k) x.length) 1 with | k :: _ => retInt k | [] => (do rule "str.find.not-found"; retInt (-1))) _
  cases occurrences x y (fromIndex x.length i) (min (fromIndex x.length k) x.length) 1 with
  | nil => exact .rule (.of_eq rfl)
  | cons k _ => exact .of_eq rfl
theorem find4_of {x y : Str} {i k : Int} {t u v v' : Tok} {Q : Value → Shared → Prop}
    (hq : Q (.int (match occurrences x y (fromIndex x.length i) (min (fromIndex x.length k) x.length) 1 with | k :: _ => (k : Int) | [] => -1) s.toks) { s with toks := s.toks + 1 }) :
    wpAny (model prog w) A (call (.builtin "str.find") [.str x t, .str y u, .int i v, .int k v']) Q E s :=
  call_gives F.slot_str_find (typeIs_str _ _ _) F.entry_str_find (F.args_str_find_4 _ _ _ _) (gives_find4 x y i k t u v v') hq
/-- str.find of CPython, with both ends -/
def find4 (x y : Str) (i k : Int) : Int := match occurrences x y (fromIndex x.length i) (min (fromIndex x.length k) x.length) 1 with | k :: _ => (k : Int) | [] => -1
theorem find4_r {x y : Str} {i k : Int} {t u v v' : Tok} {Q : Value → Shared → Prop}
    (hq : Q (.int (find4 x y i k) s.toks) { s with toks := s.toks + 1 }) :
    wpAny (model prog w) A (call (.builtin "str.find") [.str x t, .str y u, .int i v, .int k v']) Q E s := find4_of hq

theorem truth_str {x : Str} {t : Tok} {Q : Bool → Shared → Prop} (hl : x.length ≤ 100000) (h : ∀ k, Q (!x.cps.isEmpty) { s with toks := k }) : wpAny (model prog w) A (truthy (.str x t)) Q E s := by
  refine P.truthy_str (by omega) ?_
  have e : ((x.length : Int) != 0) = !x.cps.isEmpty := by
    unfold Str.length
    rw [Bool.eq_iff_iff]; simp
  rw [e]
  exact h _
end
section
variable {prog : Program} {w : World} {A : Around} {E : Value → Shared → Prop} {s : Shared} {env : Env} {h₀ : Heap} {L : Addr} {m : Mp} {news news' : Led} {K : Frag} {D : Addr} {n : Nat} {vs q : List Value} {v : Value} {u : Tok}
theorem led_item0 {value slice : Expr} {Q : Value → Shared → Prop} (N : News h₀ L s.heap news) (hm : (D, listOf vs.toArray n) ∈ news) (hx : vs.head? = some v) (h : Q v s)
    (hs : subscripted slice false (.ref D) (.int 0 u) = operate [.ref D, .int 0 u] (getItem (.ref D) (.int 0 u)) := by with_unfolding_all rfl) :
    wpAny (model prog w) A (subscriptTail value slice (.ref D) (.int 0 u)) Q E s := by
  cases vs with
  | nil => cases hx
  | cons x r =>
    refine led_item N hm (by decide) (by decide) (j := 0) ?_ (by simpa using hx) h hs
    unfold seqIndex?
    simp
theorem led_itemL {value slice : Expr} {Q : Value → Shared → Prop} (N : News h₀ L s.heap news) (hm : (D, listOf vs.toArray n) ∈ news) (hx : vs.getLast? = some v) (h : Q v s)
    (hs : subscripted slice false (.ref D) (.int (-1) u) = operate [.ref D, .int (-1) u] (getItem (.ref D) (.int (-1) u)) := by with_unfolding_all rfl) :
    wpAny (model prog w) A (subscriptTail value slice (.ref D) (.int (-1) u)) Q E s := by
  have hne : 0 < vs.length := by cases vs with | nil => cases hx | cons x r => simp
  refine led_item N hm (by decide) (by decide) (j := vs.length - 1) ?_ (by rw [List.getLast?_eq_getElem?] at hx; exact hx) h hs
  rw [PySem.seqIndex_neg (by omega) (by omega)]
  congr 1; omega
theorem led_del {i : Int} {k : Nat} {Q : Unit → Shared → Prop} (F : Fr h₀ L s.heap m) (N : News h₀ L s.heap news) (U : Upd D (listOf vs.toArray n) (listOf q.toArray (n + 1)) news news')
    (hf : Builtin.List.listFitsIndex i = true) (hk : seqIndex? i vs.length = some k) (e : vs.eraseIdx k = q) (hq : q.length + 1 = vs.length) (hz : vs.length ≤ sizeLine)
    (h : ∀ h', Fr h₀ L h' m → News h₀ L h' news' → Q () { s with heap := h' }) : wpAny (model prog w) A (delItem (.ref D) (.int i u)) Q E s := by
  obtain ⟨pre, post, rfl, rfl, a, b⟩ := U.split
  have z := N (D, listOf vs.toArray n) (List.mem_append.mpr (.inr (.head _)))
  refine P.delItem_list (n := n) z.1 hf (by simpa using hk) (h _ (F.change (Heap.SameBut.update ..) z.2.1 z.2.2) (ki_turn _ N a b ?_ ?_)) (by simpa using hz)
  · show vs.toArray.eraseIdxIfInBounds k = q.toArray
    rw [← e]
    apply Array.toList_inj.mp
    simp
  · have hq : q.toArray.size ≠ vs.toArray.size := by rw [List.size_toArray, List.size_toArray]; omega
    rw [if_neg (by simpa using hq)]
theorem led_del0 {Q : Unit → Shared → Prop} (F : Fr h₀ L s.heap m) (N : News h₀ L s.heap news) (U : Upd D (listOf vs.toArray n) (listOf q.toArray (n + 1)) news news')
    (e : vs = v :: q) (hz : vs.length ≤ sizeLine)
    (h : ∀ h', Fr h₀ L h' m → News h₀ L h' news' → Q () { s with heap := h' }) : wpAny (model prog w) A (delItem (.ref D) (.int 0 u)) Q E s := by
  subst e
  refine led_del F N U rfl (k := 0) ?_ rfl rfl hz h
  unfold seqIndex?; simp
theorem led_delL {Q : Unit → Shared → Prop} (F : Fr h₀ L s.heap m) (N : News h₀ L s.heap news) (U : Upd D (listOf vs.toArray n) (listOf q.toArray (n + 1)) news news')
    (e : vs = q ++ [v]) (hz : vs.length ≤ sizeLine)
    (h : ∀ h', Fr h₀ L h' m → News h₀ L h' news' → Q () { s with heap := h' }) : wpAny (model prog w) A (delItem (.ref D) (.int (-1) u)) Q E s := by
  subst e
  refine led_del F N U rfl (k := q.length) ?_ (by rw [List.eraseIdx_append_of_length_le (Nat.le_refl _)]; simp) (by simp) hz h
  rw [PySem.seqIndex_neg (by omega) (by simp; omega)]
  congr 1; simp; omega
theorem last_s {α : Type} {l : List α} {a : α} : (l ++ [a]).getLast? = some a := by simp
theorem last_cs {α : Type} {l : List α} {a b : α} : (b :: (l ++ [a])).getLast? = some a := by rw [← List.cons_append]; exact last_s
theorem snoc_cs {α : Type} {l : List α} {a b : α} : (b :: (l ++ [a])) = (b :: l) ++ [a] := rfl
end
end
section
open PySem PySem.W PySem.Calls PyProof.Rows PySem.Builtin PySem.Builtin.Str
theorem len_r {prog : Program} {w : World} {A : Around} {E : Value → Shared → Prop} {s : Shared} {h₀ : Heap} {L : Addr} {news : Led} {D : Addr} {n k : Nat} {vs : List Value} {Q : Value → Shared → Prop} (N : News h₀ L s.heap news) (hm : (D, listOf vs.toArray n) ∈ news) (hk : vs.length = k) (hz : k ≤ sizeLine)
    (h : ∀ t k', Q (.int (k : Int) t) { s with toks := k' }) : wpAny (model prog w) A (call (.builtin "len") [.ref D]) Q E s := by
  subst hk
  have hs := sizeLine_eq
  refine PyProof.Rows.len_list (led_list N hm) (by simp; omega) ?_
  have := h (s.toks + 1) (s.toks + 1 + 1)
  simpa using this
def emLoop (got : Str) (ep : Int) : List Str → Int → Bool
  | [], _ => true
  | w :: r, sp => if find4 got w sp ep < 0 then false else emLoop got ep r (find4 got w sp ep + w.length)
/-- the match behind the split: the first part, those between, the last -/
def emParts (got a b : Str) (mid : List Str) : Bool :=
  if !a.cps.isEmpty && !(Txt.startswith got a) then false
  else if !b.cps.isEmpty && !(Txt.endswith got b) then false
  else
    let sp : Int := if !a.cps.isEmpty then (a.length : Int) else 0
    let ep : Int := if !b.cps.isEmpty then (got.length : Int) - (b.length : Int) else (got.length : Int)
    if sp > ep then false else emLoop got ep ((if !a.cps.isEmpty then [] else [a]) ++ mid ++ (if !b.cps.isEmpty then [] else [b])) sp
def em (want got : Str) : Bool :=
  if (occurrences want (Str.ofString "...") 0 want.length 1).isEmpty then want == got
  else match Txt.split want (Str.ofString "...") with
    | [] => false
    | a :: r => emParts got a (r.getLastD Str.empty) r.dropLast

section
variable {prog : Program} {w : World} {A : Around} {E : Value → Shared → Prop} {s : Shared} {env : Env} {h₀ : Heap} {body : List Stmt} {Q : Flow → Shared → Prop}
/-- the loop over the parts: a search with one int -/
theorem em_loop {D : Addr} {k : Nat} {vs : List Value} {l : List (Str × Tok)} {m₀ : Mp} {news : Led} {got : Str} {ep sp0 : Int} {t0 tg te : Tok}
    (hh : A.handled = none) (hv : vs = strValues l) (hD : (D, listOf vs.toArray k) ∈ news) (F : Fr h₀ env.locals s.heap m₀) (N : News h₀ env.locals s.heap news)
    (_hg : m₀ (Str.ofString "got") = some (.str got tg)) (_he : m₀ (Str.ofString "endpos") = some (.int ep te)) (h0 : m₀ (Str.ofString "startpos") = some (.int sp0 t0)) (hlen : ∀ p ∈ l, p.1.length ≤ 1000)
    (turn : ∀ (I : Addr) (oI : Obj) (x : Str) (t : Tok) (rest : List Str) (sp : Int) (tsp : Tok) (u : Mp) (h : Heap) (tk : Nat), x.length ≤ 1000 → (∀ p ∈ news, p.1 ≠ I) →
      emLoop got ep (l.map (·.1)) sp0 = (if find4 got x sp ep < 0 then false else emLoop got ep rest (find4 got x sp ep + x.length)) →
      Fr h₀ env.locals h (fun y => if y = Str.ofString "w" then some (.str x t) else if y = Str.ofString "startpos" then some (.int sp tsp) else if y = Str.ofString "w" then u y else m₀ y) → News h₀ env.locals h ((I, oI) :: news) →
      wpAny (model prog w) A (execs body env) (TPost h₀ env.locals I oI [(D, listOf vs.toArray k)] (fun m' l' => l' = news ∧ ¬ find4 got x sp ep < 0 ∧ (∃ t', m' (Str.ofString "startpos") = some (.int (find4 got x sp ep + x.length) t')) ∧ ∀ z, z ≠ Str.ofString "w" → z ≠ Str.ofString "startpos" → m' z = m₀ z) { s with heap := h, toks := tk } Q) E { s with heap := h, toks := tk })
    (done : ∀ (m₁ : Mp) h tk, emLoop got ep (l.map (·.1)) sp0 = true → Fr h₀ env.locals h m₁ → News h₀ env.locals h news → Q .next { s with heap := h, toks := tk }) :
    wpAny (model prog w) A (pyIter (.ref D)) (fun it s₂ => LoopAtV prog w A h₀ env (Str.ofString "w") body Q E it s₂) E s := by
  subst hv
  refine loop_list (fun i m' l' => l' = news ∧ ∃ (sp : Int) (t : Tok), m' (Str.ofString "startpos") = some (.int sp t) ∧ (∀ z, z ≠ Str.ofString "w" → z ≠ Str.ofString "startpos" → m' z = m₀ z) ∧ emLoop got ep (l.map (·.1)) sp0 = emLoop got ep ((l.drop i).map (·.1)) sp) hh hD F N ⟨rfl, sp0, t0, h0, fun _ _ _ => rfl, rfl⟩ ?_ ?_
  · rintro I i v m₁ news₁ h tk oI hiv ⟨rfl, sp, tsp, h1, h2, h3⟩ hoff hDm F₁ N₁
    have hi : i < l.length := by
      by_cases hc : i < l.length
      · exact hc
      · simp [strValues, List.getElem?_eq_none (Nat.not_lt.mp hc)] at hiv
    have hx : l[i]? = some l[i] := List.getElem?_eq_getElem hi
    have hv : v = .str l[i].1 l[i].2 := by
      simp only [strValues, List.getElem?_map, hx, Option.map_some] at hiv
      exact (Option.some.inj hiv).symm
    subst hv
    have hd : l.drop i = l[i] :: l.drop (i + 1) := List.drop_eq_getElem_cons hi
    have e : (fun y => if y = Str.ofString "w" then some (Value.str l[i].1 l[i].2) else m₁ y) = fun y => if y = Str.ofString "w" then some (Value.str l[i].1 l[i].2) else if y = Str.ofString "startpos" then some (.int sp tsp) else if y = Str.ofString "w" then m₁ y else m₀ y := by
      funext y
      by_cases e1 : y = Str.ofString "w"
      · simp [e1]
      · simp only [if_neg e1]
        by_cases e2 : y = Str.ofString "startpos"
        · subst e2; simp [h1]
        · simp only [if_neg e2]; exact h2 y e1 e2
    rw [e] at F₁
    have h3' := h3
    rw [hd, List.map_cons, emLoop] at h3'
    refine wpAny_mono (turn I oI l[i].1 l[i].2 ((l.drop (i + 1)).map (·.1)) sp tsp m₁ h tk (hlen _ (List.getElem_mem hi)) hoff h3' F₁ N₁) (fun f s₂ p => ?_) fun _ _ e => e
    have fin : TEnd h₀ env.locals I oI [(D, listOf (strValues l).toArray k)] (fun m' l' => l' = news₁ ∧ ¬ find4 got l[i].1 sp ep < 0 ∧ (∃ t', m' (Str.ofString "startpos") = some (.int (find4 got l[i].1 sp ep + l[i].1.length) t')) ∧ ∀ z, z ≠ Str.ofString "w" → z ≠ Str.ofString "startpos" → m' z = m₀ z) { s with heap := h, toks := tk } s₂ →
        TEnd h₀ env.locals I oI [(D, listOf (strValues l).toArray k)] (fun m' l' => l' = news₁ ∧ ∃ (sp : Int) (t : Tok), m' (Str.ofString "startpos") = some (.int sp t) ∧ (∀ z, z ≠ Str.ofString "w" → z ≠ Str.ofString "startpos" → m' z = m₀ z) ∧ emLoop got ep (l.map (·.1)) sp0 = emLoop got ep ((l.drop (i + 1)).map (·.1)) sp) { s with heap := h, toks := tk } s₂ := by
      rintro ⟨h', tk', m', news', e1, F', N', ho, hk, rfl, hf, ⟨t', ht⟩, hm⟩
      refine ⟨h', tk', m', _, e1, F', N', ho, hk, rfl, _, t', ht, hm, ?_⟩
      rw [h3', if_neg hf]
    cases f with
    | ret v => exact p
    | brk => exact p
    | next => exact fin p
    | cont => exact fin p
  · rintro m₁ news₁ h tk ⟨rfl, sp, t, _, _, h3⟩ hDm F₁ N₁
    refine done m₁ h tk ?_ F₁ N₁
    rw [h3]
    simp [strValues, emLoop]
end
theorem sv0 {a b : Str} {ta tb : Tok} {l : List (Str × Tok)} : Value.str a ta :: (strValues l ++ [Value.str b tb]) = strValues ((a, ta) :: (l ++ [(b, tb)])) := by simp [strValues]
theorem sv1 {b : Str} {tb : Tok} {l : List (Str × Tok)} : strValues l ++ [Value.str b tb] = strValues (l ++ [(b, tb)]) := by simp [strValues]
theorem sv2 {a : Str} {ta : Tok} {l : List (Str × Tok)} : Value.str a ta :: strValues l = strValues ((a, ta) :: l) := by simp [strValues]
theorem allLt_ne {d : Addr} {l : Led} (h : AllLt d l) : ∀ p ∈ l, p.1 ≠ d := by
  induction l with
  | nil => intro p hp; cases hp
  | cons q r ih =>
    intro p hp
    rcases List.mem_cons.mp hp with rfl | hp
    · exact Nat.ne_of_lt h.1
    · exact ih h.2 p hp
theorem lt_ne {d : Addr} {l : Led} (h : ∀ p ∈ l, p.1 < d) : ∀ p ∈ l, p.1 ≠ d := fun p hp => Nat.ne_of_lt (h p hp)
section
variable {got a b : Str} {ta tb : Tok} {mid : List (Str × Tok)}
theorem em_c1 (ha : a.cps.isEmpty = false) (hs : Txt.startswith got a = false) {m : List Str} : emParts got a b m = false := by simp [emParts, ha, hs]
theorem em_c2 (ha : a.cps.isEmpty = true) (hb : b.cps.isEmpty = false) (he : Txt.endswith got b = false) {m : List Str} : emParts got a b m = false := by simp [emParts, ha, hb, he]
theorem em_c3 (ha : a.cps.isEmpty = false) (hs : Txt.startswith got a = true) (hb : b.cps.isEmpty = false) (he : Txt.endswith got b = false) {m : List Str} : emParts got a b m = false := by simp [emParts, ha, hs, hb, he]
theorem em_c4 (ha : a.cps.isEmpty = true) (hb : b.cps.isEmpty = false) (he : Txt.endswith got b = true) (h : (got.length : Int) - (b.length : Int) < 0) {m : List Str} : emParts got a b m = false := by simp [emParts, ha, hb, he]; omega
theorem em_c5 (ha : a.cps.isEmpty = false) (hs : Txt.startswith got a = true) (hb : b.cps.isEmpty = true) (h : (got.length : Int) < (a.length : Int)) {m : List Str} : emParts got a b m = false := by simp [emParts, ha, hb, hs]; omega
theorem em_c6 (ha : a.cps.isEmpty = false) (hs : Txt.startswith got a = true) (hb : b.cps.isEmpty = false) (he : Txt.endswith got b = true) (h : (got.length : Int) - (b.length : Int) < (a.length : Int)) {m : List Str} : emParts got a b m = false := by simp [emParts, ha, hb, hs, he]; omega
theorem em_L0 (ha : a.cps.isEmpty = true) (hb : b.cps.isEmpty = true) : emParts got a b (mid.map (·.1)) = emLoop got (got.length : Int) (((a, ta) :: (mid ++ [(b, tb)])).map (·.1)) 0 := by
  simp [emParts, ha, hb]
theorem em_L1 (ha : a.cps.isEmpty = true) (hb : b.cps.isEmpty = false) (he : Txt.endswith got b = true) (h : ¬ (got.length : Int) - (b.length : Int) < 0) : emParts got a b (mid.map (·.1)) = emLoop got ((got.length : Int) - (b.length : Int)) (((a, ta) :: mid).map (·.1)) 0 := by
  simp [emParts, ha, hb, he]; omega
theorem em_L2 (ha : a.cps.isEmpty = false) (hs : Txt.startswith got a = true) (hb : b.cps.isEmpty = true) (h : ¬ (got.length : Int) < (a.length : Int)) : emParts got a b (mid.map (·.1)) = emLoop got (got.length : Int) ((mid ++ [(b, tb)]).map (·.1)) (a.length : Int) := by
  simp [emParts, ha, hb, hs]; omega
theorem em_L3 (ha : a.cps.isEmpty = false) (hs : Txt.startswith got a = true) (hb : b.cps.isEmpty = false) (he : Txt.endswith got b = true) (h : ¬ (got.length : Int) - (b.length : Int) < (a.length : Int)) : emParts got a b (mid.map (·.1)) = emLoop got ((got.length : Int) - (b.length : Int)) (mid.map (·.1)) (a.length : Int) := by
  simp [emParts, ha, hb, hs, he]; omega
end
end
section
open PySem PySem.W PySem.Calls PyProof.Rows PySem.Builtin PySem.Builtin.Str
theorem dots_eq : Str.ofString "..." = Str.mk #[46, 46, 46] := by decide +kernel
theorem dots_len : (Str.ofString "...").length = 3 := by rw [dots_eq]; rfl
theorem dots_kind : strKind (Str.ofString "...") = 1 := by decide +kernel
theorem strSub_len (x : Str) (i j : Nat) : (strSub x i j).length ≤ x.length := by
  unfold strSub Str.length; simp; omega
theorem split_shape (want : Str) (l : List (Str × Tok)) (e : l.map (·.1) = Txt.split want (Str.ofString "...")) (h : (occurrences want (Str.ofString "...") 0 want.length 1).isEmpty = false) :
    ∃ a ta mid b tb, strValues l = .str a ta :: (strValues mid ++ [.str b tb]) ∧ (∀ got, em want got = emParts got a b (mid.map (·.1))) ∧ a.length ≤ want.length ∧ b.length ≤ want.length ∧ mid.length ≤ want.length ∧ ∀ p ∈ mid, p.1.length ≤ want.length := by
  have hf := (StrLaws.found_iff want (Str.ofString "...")).mp (by rw [h]; rfl)
  obtain ⟨i, hi, hs⟩ := hf
  have h1 : (decide (want.length < (Str.ofString "...").length) || decide (strKind want < strKind (Str.ofString "..."))) = false := by
    rw [dots_kind]
    have : 1 ≤ strKind want := by unfold Builtin.Str.strKind; split <;> (try split) <;> decide
    simp; omega
  have h2 : (occurrences want (Str.ofString "...") 0 want.length (want.length + 1)).isEmpty = false := by
    obtain ⟨f, hc, hn⟩ := StrLaws.occ_tight want (Str.ofString "...") (by rw [dots_len]; omega)
    cases ho : occurrences want (Str.ofString "...") 0 want.length (want.length + 1) with
    | cons => rfl
    | nil =>
      rw [ho] at hc
      have hf0 : f = 0 := by first | exact hc.symm | exact hc | (simp [StrLaws.ChainG] at hc; omega)
      exact absurd ⟨hi, hs⟩ (hn i (by omega))
  have hsp : Txt.split want (Str.ofString "...") = partsBetween want (occurrences want (Str.ofString "...") 0 want.length (want.length + 1)) (Str.ofString "...").length := by
    unfold Txt.split
    rw [if_neg (by rw [h1]; decide), if_neg (by rw [h2]; decide)]
  have hlen : (l.map (·.1)).length = (occurrences want (Str.ofString "...") 0 want.length (want.length + 1)).length + 1 := by
    rw [e, hsp]; unfold partsBetween; simp
  have hub := StrLaws.occ_length_le_len want (Str.ofString "...") 0 want.length (want.length + 1)
  have hne : 1 ≤ (occurrences want (Str.ofString "...") 0 want.length (want.length + 1)).length := by
    cases ho : occurrences want (Str.ofString "...") 0 want.length (want.length + 1) with
    | cons => simp
    | nil => rw [ho] at h2; cases h2
  have hall : ∀ p ∈ l, p.1.length ≤ want.length := by
    intro p hp
    have hm : p.1 ∈ l.map (·.1) := List.mem_map.mpr ⟨p, hp, rfl⟩
    rw [e, hsp] at hm
    unfold partsBetween at hm
    obtain ⟨⟨i, j⟩, _, hq⟩ := List.mem_map.mp hm
    rw [← hq]
    exact strSub_len _ _ _
  rw [List.length_map] at hlen
  cases l with
  | nil => simp at hlen
  | cons p r =>
    obtain ⟨a, ta⟩ := p
    have hr : r ≠ [] := by intro q; subst q; simp only [List.length_cons, List.length_nil] at hlen; omega
    obtain ⟨mid, q, rfl⟩ : ∃ mid q, r = mid ++ [q] := ⟨r.dropLast, r.getLast hr, (List.dropLast_concat_getLast hr).symm⟩
    obtain ⟨b, tb⟩ := q
    refine ⟨a, ta, mid, b, tb, sv0.symm, ?_, hall _ (.head _), hall (b, tb) (by simp), ?_, fun p hp => hall p (by simp [hp])⟩
    · intro got
      unfold em
      rw [if_neg (by rw [h]; decide), ← e]
      simp
    · simp at hlen; omega
theorem lt_ne1 {d : Addr} {l : Led} (h : ∀ p ∈ l, p.1 < d) : ∀ p ∈ l, p.1 ≠ d + 1 := fun p hp => Nat.ne_of_lt (Nat.lt_succ_of_lt (h p hp))
theorem lt_ne2 {d : Addr} {l : Led} (h : ∀ p ∈ l, p.1 < d) : ∀ p ∈ l, p.1 ≠ d + 2 := fun p hp => Nat.ne_of_lt (Nat.lt_succ_of_lt (Nat.lt_succ_of_lt (h p hp)))
end
section
open PySem PySem.W PySem.Calls PyProof.Rows PySem.Builtin PySem.Builtin.Str
def Clean (x : Str) : Prop := x.length ≤ 1000 ∧ ∀ c ∈ x.cps.toList, 32 ≤ c ∧ c < 127
def nameCode : Array Nat := #[14, 10, 4, 1, 1, 22, 0, 31, 16, 127, 0, 13, 7, 22, 0, 31, 16, 127, 0, 1]
def valueCode : Array Nat := #[14, 14, 4, 1, 1, 9, 4294966783, 0, 0, 2147483648, 0, 0, 0, 0, 0, 13, 11, 9, 4294966783, 0, 0, 2147483648, 0, 0, 0, 0, 0, 1]
theorem inSet_name (c : Nat) (h1 : 32 ≤ c) (h2 : c < 127) (seen : Sre.Seen) : ∃ q, Sre.inSet nameCode c nameCode.size 5 true seen = .ok (false, q) := by
  have a1 : ¬ c ≤ 31 := by omega
  have a2 : ¬ c = 127 := by omega
  exact ⟨_, by simp [Sre.inSet, nameCode, Sre.ops, a1, a2]; rfl⟩
theorem bits_value : ∀ c, c < 127 → 32 ≤ c → ((valueCode.getD (5 + (1 + c / 32)) 0).testBit (c % 32)) = false := by decide +kernel
theorem inSet_value (c : Nat) (h1 : 32 ≤ c) (h2 : c < 127) (seen : Sre.Seen) : ∃ q, Sre.inSet valueCode c valueCode.size 5 true seen = .ok (false, q) := by
  have a1 := bits_value c h2 h1
  refine ⟨(seen.add 9).add 0, ?_⟩
  show Sre.inSet valueCode c (27 + 1) 5 true seen = _
  unfold Sre.inSet
  have e0 : valueCode.getD (5 + 0) 0 = 9 := rfl
  have e1 : Sre.ops[9]? = some .CHARSET := rfl
  simp only [e0, e1]
  rw [if_neg (by rw [a1]; simp)]
  show Sre.inSet valueCode c (26 + 1) 14 true (seen.add 9) = _
  unfold Sre.inSet
  rfl
theorem admitted_none (m : Sre.M) (hset : ∀ i, i < m.lim → ∀ seen, ∃ q, Sre.inSet m.code (m.text.getD i 0) m.code.size 5 true seen = .ok (false, q)) : ∀ fuel s seen, ∃ q, Sre.M.admitted m fuel s seen = .ok (none, q)
  | 0, s, seen => ⟨seen, rfl⟩
  | fuel + 1, s, seen => by
    unfold Sre.M.admitted
    by_cases h : s ≥ m.lim
    · exact ⟨seen, by rw [if_pos h]⟩
    · rw [if_neg h]
      obtain ⟨q, hq⟩ := hset s (by omega) seen
      rw [hq]
      exact admitted_none m hset fuel (s + 1) q
theorem admitted_of {m : Sre.M} {fuel s : Nat} {seen : Sre.Seen} {r} (h : Sre.M.admitted m fuel s seen = r) (hset : ∀ i, i < m.lim → ∀ seen, ∃ q, Sre.inSet m.code (m.text.getD i 0) m.code.size 5 true seen = .ok (false, q)) : ∃ q, r = .ok (none, q) := by
  obtain ⟨q, hq⟩ := admitted_none m hset fuel s seen
  exact ⟨q, h.symm.trans hq⟩
structure Ended (m : Sre.M) : Prop where
  a : m.answer = some false
  f : m.frames = []
  o : m.outcome = none
theorem runFor_false (m : Sre.M) (h : Ended m) : (m.runFor 4).outcome = some .failed := by
  have hs : m.step = { m with outcome := some .failed } := by
    unfold Sre.M.step
    rw [h.o]
    simp [h.a, h.f]
  show (Sre.M.runFor (3 + 1) m).outcome = _
  unfold Sre.M.runFor
  rw [h.o, hs]
  rfl
theorem search_ended (code text : Array Nat) (hc : code = nameCode ∨ code = valueCode) (ht : ∀ i, i < text.size → 32 ≤ text.getD i 0 ∧ text.getD i 0 < 127) : Ended (Sre.forSearch code text 0 0 text.size false) := by
  have hset : ∀ i, i < text.size → ∀ seen, ∃ q, Sre.inSet code (text.getD i 0) code.size 5 true seen = .ok (false, q) := by
    intro i hi seen
    obtain ⟨h1, h2⟩ := ht i hi
    rcases hc with rfl | rfl
    · exact inSet_name _ h1 h2 seen
    · exact inSet_value _ h1 h2 seen
  have hfs : ∀ m : Sre.M, m.code = code → m.hasFirstSet = true := by
    intro m hm
    unfold Sre.M.hasFirstSet
    rw [hm]
    rcases hc with rfl | rfl <;> rfl
  unfold Sre.forSearch
  dsimp only
  split
  · exact ⟨rfl, rfl, rfl⟩
  · unfold Sre.M.attemptFrom
    rw [hfs _ rfl]
    simp only [Bool.not_true, Bool.false_eq_true, if_false]
    split
    · rename_i heq
      obtain ⟨q, hq⟩ := admitted_of heq (by exact hset)
      cases hq
    · exact ⟨rfl, rfl, rfl⟩
    · rename_i heq
      obtain ⟨q, hq⟩ := admitted_of heq (by exact hset)
      cases hq
section
variable {prog : Program} {w : World} {A : Around} {E : Value → Shared → Prop} {s : Shared}
theorem slot_search : Slot "re.Pattern" "search" "re.Pattern.search" :=
  .of (owner := "re.Pattern") (n := "search") (by rw [typeLookup_type, builtinLookup_eq_fast]; kernel_rfl) (by decide +kernel) (by decide +kernel) (by decide +kernel)
    (by first | exact .inl (by decide +kernel) | exact .inr (by decide +kernel)) (by rw [isSubtype_type]; kernel_rfl)
theorem type_search : typeOf (.builtin "re.Pattern.search") = pure (.type "method_descriptor") := by show builtinType _ = _; rw [builtinType_eq_fast]; kernel_rfl
theorem entry_search : entryFor table "re.Pattern.search" = some Builtin.«re.Pattern.search» := entryFor_of_tree (by kernel_rfl)
theorem args_search (a b : Value) : argsOk "re.Pattern.search" ⟨[a, b], []⟩ := by
  unfold argsOk; kernel_rfl
theorem plainAttrs_pat : PlainAttrs "re.Pattern" :=
  ⟨⟨"object.__getattribute__", by rw [typeLookup_type, builtinLookup_eq_fast]; kernel_rfl, by decide +kernel⟩, by rw [typeLookup_type, builtinLookup_eq_fast]; kernel_rfl⟩
theorem rules_skip {m' : Sre.M} {Q : PUnit → Shared → Prop} (h : Q ⟨⟩ s) : ∀ l : List Nat, wpAny (model prog w) A (forIn l PUnit.unit fun i _ =>
      if m'.seen.has i = true then do
        rule (Sre.names.getD i "")
        pure (ForInStep.yield PUnit.unit)
      else pure (ForInStep.yield PUnit.unit)) Q E s
  | [] => wpAny_pure h
  | i :: l => by
    rw [List.forIn_cons]
    refine wpAny_bind ?_
    split
    · refine wpAny_bind (wpAny_rule ?_)
      exact wpAny_pure (rules_skip h l)
    · exact wpAny_pure (rules_skip h l)
theorem drive_false {m : Sre.M} (h : Ended m) {Q : Option Sre.M → Shared → Prop} (hq : Q none s) : wpAny (model prog w) A (Re.reRunToEnd m) Q E s := by
  unfold Re.reRunToEnd
  have hd : Re.reDrive (2 ^ 64) m = pure (m.runFor 4) := by
    have e : (2 : Nat) ^ 64 = (2 ^ 64 - 1) + 1 := by decide
    rw [e]
    unfold Re.reDrive
    have := runFor_false m h
    simp only [Re.reTurnSteps, this]
    rfl
  rw [hd]
  refine wpAny_bind (wpAny_pure ?_)
  generalize hm' : m.runFor 4 = m'
  have ho : m'.outcome = some .failed := by rw [← hm']; exact runFor_false m h
  refine wpAny_bind (rules_skip ?_ _)
  rw [ho]
  exact wpAny_pure hq
theorem re_search {a T : Addr} {fs ws : Array Value} {n : Nat} {x : Str} {t : Tok} {Q : Value → Shared → Prop} (ho : s.heap.get? a = some { cls := .type "re.Pattern", data := .fields fs }) (h5 : fs.getD 5 .none = .ref T)
    (h2 : Re.reRawNat (fs.getD 2 .none) = 0) (h6 : Re.reRawNat (fs.getD 6 .none) = 0) (hT : s.heap.get? T = some { cls := .type "tuple", data := .seq ws n })
    (hc : ((ws.map Re.reRawOf).map (·.toNat)) = nameCode ∨ ((ws.map Re.reRawOf).map (·.toNat)) = valueCode) (hx : Clean x) (hq : Q .none s) :
    wpAny (model prog w) A (call (.builtin "re.Pattern.search") [.ref a, .str x t]) Q E s := by
  refine wpAny_call (codeAny_call_builtin slot_search.plain entry_search (slot_search.check _ _ _ _ _ _ _ _ ⟨_, ho, rfl⟩ (args_search _ _) ?_))
  unfold Builtin.«re.Pattern.search»
  refine wpAny_bind ?_
  unfold Re.reTarget
  have e1 : Re.reNamed "re.Pattern.search" "search" ["string", "pos", "endpos"] 1 [Value.str x t] [] = pure [some (Value.str x t), none, none] := by with_unfolding_all rfl
  have e2 : Re.reTextOf (Value.str x t) = pure (x.cps, 0) := by with_unfolding_all rfl
  have e3 : Re.reNoCollectionInside (Value.str x t) 0 = pure () := by with_unfolding_all rfl
  dsimp only
  rw [e1]
  refine wpAny_bind (wpAny_pure ?_)
  dsimp only
  refine wpAny_bind (wpAny_pure ?_)
  refine wpAny_bind (wpAny_pure ?_)
  unfold fieldsOf
  refine wpAny_bind (wpAny_bind (wpAny_load ho ?_))
  dsimp only
  refine wpAny_pure ?_
  rw [e2]
  refine wpAny_bind (wpAny_pure ?_)
  dsimp only
  rw [h6, h2, h5]
  rw [if_neg (by decide), if_neg (by decide), e3]
  refine wpAny_bind (wpAny_pure ?_)
  unfold Re.reRawItems seqItems?
  refine wpAny_bind (wpAny_bind (wpAny_bind (wpAny_load hT ?_)))
  dsimp only
  refine wpAny_pure (wpAny_pure ?_)
  refine wpAny_pure ?_
  dsimp only [Option.getD]
  have hsz : x.cps.size ≤ 1000 := hx.1
  have hl : min ((2 ^ 63 - 1 : Int)).toNat x.cps.size = x.cps.size := Nat.min_eq_right (by have : ((2 ^ 63 - 1 : Int)).toNat = 9223372036854775807 := by decide
                                                                                           omega)
  have hp : min ((0 : Int)).toNat x.cps.size = 0 := by simp
  rw [hl, hp]
  have hE := search_ended _ x.cps hc (fun i hi => by
    have hg : x.cps.getD i 0 = x.cps[i] := by simp [Array.getD, hi]
    rw [hg]
    exact hx.2 _ (by simp))
  unfold Re.reAnswer
  exact wpAny_bind (drive_false hE (wpAny_pure hq))
/-- the very pattern of the written part -/
structure PatIn (K : Frag) (a : Addr) : Prop where
  out : ∃ (fs ws : Array Value) (T : Addr) (n : Nat), K.lookup a = some ⟨.type "re.Pattern", none, .fields fs, #[]⟩ ∧ fs.getD 5 .none = .ref T ∧ Re.reRawNat (fs.getD 2 .none) = 0 ∧ Re.reRawNat (fs.getD 6 .none) = 0 ∧
    K.lookup T = some ⟨.type "tuple", none, .seq ws n, #[]⟩ ∧ (((ws.map Re.reRawOf).map (·.toNat)) = nameCode ∨ ((ws.map Re.reRawOf).map (·.toNat)) = valueCode)
theorem re_search_K {K : Frag} {h₀ : Heap} {L : Addr} {m : Mp} {a : Addr} {x : Str} {t : Tok} {Q : Value → Shared → Prop} (F : Fr h₀ L s.heap m) (X : K.In h₀) (P : PatIn K a) (hx : Clean x) (hq : Q .none s) :
    wpAny (model prog w) A (call (.builtin "re.Pattern.search") [.ref a, .str x t]) Q E s := by
  obtain ⟨fs, ws, T, n, h1, h2, h3, h4, h5, h6⟩ := P.out
  exact re_search (F.keep _ _ (X _ _ h1)) h2 h3 h4 (F.keep _ _ (X _ _ h5)) h6 hx hq
theorem re_method {a : Addr} {fs : Array Value} {pl : Sem Bool} {Q : Value × List Value → Shared → Prop} (ho : s.heap.get? a = some { cls := .type "re.Pattern", data := .fields fs }) (h : Q (.builtin "re.Pattern.search", [.ref a]) s) :
    wpAny (model prog w) A (getMethod (.ref a) (Str.ofString "search") pl) Q E s :=
  getMethod_builtin ⟨_, ho, rfl⟩ plainAttrs_pat slot_search type_search (fun a e => by cases e; exact ⟨_, ho, rfl⟩) h
theorem re_method_K {K : Frag} {h₀ : Heap} {L : Addr} {m : Mp} {a : Addr} {pl : Sem Bool} {Q : Value × List Value → Shared → Prop} (F : Fr h₀ L s.heap m) (X : K.In h₀) (P : PatIn K a) (h : Q (.builtin "re.Pattern.search", [.ref a]) s) :
    wpAny (model prog w) A (getMethod (.ref a) (Str.ofString "search") pl) Q E s := by
  obtain ⟨fs, ws, T, n, h1, h2, h3, h4, h5, h6⟩ := P.out
  exact re_method (F.keep _ _ (X _ _ h1)) h
end
end
section
open PySem PySem.W PySem.Calls PyProof.Rows PySem.Builtin PySem.Builtin.Str
inductive OutsAre {α : Type} (out : α → Tok → Value) : List α → List Value → Prop
  | nil : OutsAre out [] []
  | cons {a : α} {t : Tok} {as : List α} {vs : List Value} : OutsAre out as vs → OutsAre out (a :: as) (out a t :: vs)
theorem OutsAre.snoc {α : Type} {out : α → Tok → Value} {as : List α} {vs : List Value} (h : OutsAre out as vs) (a : α) (t : Tok) : OutsAre out (as ++ [a]) (vs ++ [out a t]) := by
  induction h with
  | nil => exact .cons .nil
  | cons _ ih => exact .cons ih
theorem OutsAre.strs {α : Type} {g : α → Str} {as : List α} {vs : List Value} (h : OutsAre (fun a t => .str (g a) t) as vs) : ∃ l, vs = strValues l ∧ l.map (·.1) = as.map g := by
  induction h with
  | nil => exact ⟨[], rfl, rfl⟩
  | cons _ ih =>
    rename_i a t as vs _
    obtain ⟨l, e1, e2⟩ := ih
    exact ⟨(g a, t) :: l, by rw [e1]; rfl, by rw [List.map_cons, e2]; rfl⟩
theorem OutsAre.length {α : Type} {out : α → Tok → Value} {as : List α} {vs : List Value} (h : OutsAre out as vs) : vs.length = as.length := by
  induction h with
  | nil => rfl
  | cons _ ih => simp [ih]
def LcEl {α : Type} (p : α → Bool) (out : α → Tok → Value) (a : α) (news : Led) (y : Value) (news' : Led) : Prop := news' = news ∧ p a = true ∧ ∃ t, y = out a t
def LcNo {α : Type} (p : α → Bool) (a : α) (news news' : Led) : Prop := news' = news ∧ p a = false
theorem LcEl.mk {α : Type} {p : α → Bool} {out : α → Tok → Value} {a : α} {news news' : Led} {y : Value} {t : Tok} (h : p a = true) (hn : news' = news) (hy : y = out a t) : LcEl p out a news y news' := ⟨hn, h, t, hy⟩
theorem LcNo.mk {α : Type} {p : α → Bool} {a : α} {news news' : Led} (h : p a = false) (hn : news' = news) : LcNo p a news news' := ⟨hn, h⟩
section
variable {prog : Program} {w : World} {A : Around} {h₀ : Heap} {L : Addr} {m : Mp} {env : Env} {ct elt : Expr} {x : Str} {scope : Scope} {cl : List (Str × Addr)} {s : Shared} {S : Led → Prop} {P : Nat → Value → Prop} {Fin : List Value → Led → Prop} {news : Led}
/-- a comprehension with one test over items of any kind -/
theorem lct_rest {α : Type} {items : List α} {n : Nat} (IsIt : α → Value → Prop) (p : α → Bool) (out : α → Tok → Value) (hn : items.length = n) (hP : ∀ i v, i < n → P i v → ∃ a, items[i]? = some a ∧ IsIt a v) (hS : S news)
    (turn : ∀ a v I oI C oC D m₂ ys h tk (E' : Value → Shared → Prop), a ∈ items → IsIt a v → LCg.NsObj oC m₂ → m₂ x = some v → Fr h₀ L h m → News h₀ L h ((I, oI) :: (C, oC) :: (D, LCg.lst ys) :: news) → LCg.Off3 I C D news → ((@Ne Nat I C) ∧ (@Ne Nat I D) ∧ (@Ne Nat C D)) →
      wpAny (model prog w) A (isTrue ct (compEnvC scope cl C env) (eval ct (compEnvC scope cl C env))) (fun b s' => if b = true then wpAny (model prog w) A (eval elt (compEnvC scope cl C env)) (LCg.CompEnd h₀ L m { s with heap := h, toks := tk } I oI C oC D (LCg.lst ys) S (LcEl p out a news)) E' s'
        else LCg.CompEnd h₀ L m { s with heap := h, toks := tk } I oI C oC D (LCg.lst ys) S (fun _ => LcNo p a news) Value.none s') E' { s with heap := h, toks := tk })
    (fin : ∀ ys, OutsAre out (items.filter p) ys → Fin ys news) : LCt.CompRestT prog w A h₀ L m env ct elt x scope cl s S P Fin n 0 [] news := by
  have key : ∀ (j i : Nat) (ys : List Value), i + j = n → OutsAre out ((items.take i).filter p) ys → LCt.CompRestT prog w A h₀ L m env ct elt x scope cl s S P Fin j i ys news := by
    intro j
    induction j with
    | zero =>
      intro i ys hi hy
      have e : i = items.length := by omega
      subst e
      rw [List.take_length] at hy
      exact LCt.CompRestT.zero (fin ys hy)
    | succ j ih =>
      intro i ys hi hy
      refine LCt.CompRestT.succ ?_
      intro v I oI C oC D m₂ h tk E' hv hC hx F N off ne
      obtain ⟨a, ha, hv'⟩ := hP i v (by omega) hv
      have ht : items.take (i + 1) = items.take i ++ [a] := by rw [List.take_add_one, ha]; rfl
      refine wpAny_mono (turn a v I oI C oC D m₂ ys h tk E' (List.mem_of_getElem? ha) hv' hC hx F N off ne) (fun b s₂ hq => ?_) fun _ _ e => e
      cases b with
      | true =>
        simp only [if_true] at hq ⊢
        refine wpAny_mono hq (fun y s₃ hr => ?_) fun _ _ e => e
        obtain ⟨h', tk', nw, e, F', N', off', hS', hn, hp, t, hy'⟩ := hr
        rw [hn] at N' off' hS'
        refine ⟨h', tk', news, e, F', N', off', hS', ?_⟩
        rw [hy']
        refine ih (i + 1) _ (by omega) ?_
        rw [ht, List.filter_append]
        have : [a].filter p = [a] := by simp [hp]
        rw [this]
        exact hy.snoc a t
      | false =>
        simp only [Bool.false_eq_true, if_false] at hq ⊢
        obtain ⟨h', tk', nw, e, F', N', off', hS', hn, hp⟩ := hq
        rw [hn] at N' off' hS'
        refine ⟨h', tk', news, e, F', N', off', hS', ih (i + 1) _ (by omega) ?_⟩
        rw [ht, List.filter_append]
        have : [a].filter p = [] := by simp [hp]
        rw [this, List.append_nil]
        exact hy
  exact key n 0 [] (by omega) (by simp only [List.take_zero, List.filter_nil]; exact .nil)
/-- a comprehension without a test -/
theorem lcu_rest {α : Type} {items : List α} {n : Nat} (IsIt : α → Value → Prop) (out : α → Tok → Value) (hn : items.length = n) (hP : ∀ i v, i < n → P i v → ∃ a, items[i]? = some a ∧ IsIt a v) (hS : S news)
    (turn : ∀ a v I oI C oC D m₂ ys h tk (E' : Value → Shared → Prop), a ∈ items → IsIt a v → LCg.NsObj oC m₂ → m₂ x = some v → Fr h₀ L h m → News h₀ L h ((I, oI) :: (C, oC) :: (D, LCg.lst ys) :: news) → LCg.Off3 I C D news → ((@Ne Nat I C) ∧ (@Ne Nat I D) ∧ (@Ne Nat C D)) →
      wpAny (model prog w) A (eval elt (compEnvC scope cl C env)) (LCg.CompEnd h₀ L m { s with heap := h, toks := tk } I oI C oC D (LCg.lst ys) S (LcEl (fun _ => true) out a news)) E' { s with heap := h, toks := tk })
    (fin : ∀ ys, OutsAre out items ys → Fin ys news) : LCg.CompRest prog w A h₀ L m env elt x scope cl s S P Fin n 0 [] news := by
  have key : ∀ (j i : Nat) (ys : List Value), i + j = n → OutsAre out (items.take i) ys → LCg.CompRest prog w A h₀ L m env elt x scope cl s S P Fin j i ys news := by
    intro j
    induction j with
    | zero =>
      intro i ys hi hy
      have e : i = items.length := by omega
      subst e
      rw [List.take_length] at hy
      exact LCg.CompRest.zero (fin ys hy)
    | succ j ih =>
      intro i ys hi hy
      refine LCg.CompRest.succ ?_
      intro v I oI C oC D m₂ h tk E' hv hC hx F N off ne
      obtain ⟨a, ha, hv'⟩ := hP i v (by omega) hv
      have ht : items.take (i + 1) = items.take i ++ [a] := by rw [List.take_add_one, ha]; rfl
      refine wpAny_mono (turn a v I oI C oC D m₂ ys h tk E' (List.mem_of_getElem? ha) hv' hC hx F N off ne) (fun y s₃ hr => ?_) fun _ _ e => e
      obtain ⟨h', tk', nw, e, F', N', off', hS', hn, hp, t, hy'⟩ := hr
      rw [hn] at N' off' hS'
      refine ⟨h', tk', news, e, F', N', off', hS', ?_⟩
      rw [hy']
      refine ih (i + 1) _ (by omega) ?_
      rw [ht]
      exact hy.snoc a t
  exact key n 0 [] (by omega) (by simp only [List.take_zero]; exact .nil)
end
theorem off1_ne {D : Addr} : ∀ {l : Led}, LCg.Off1 D l → ∀ p ∈ l, p.1 ≠ D
  | [], _, _, hp => nomatch hp
  | q :: r, h, p, hp => by
    rcases List.mem_cons.mp hp with rfl | hp
    · exact h.1
    · exact off1_ne h.2 p hp
theorem allLt_mem {d : Addr} {l : Led} (h : AllLt d l) : ∀ p ∈ l, p.1 < d := by
  induction l with
  | nil => intro p hp; cases hp
  | cons q r ih =>
    intro p hp
    rcases List.mem_cons.mp hp with rfl | hp
    · exact h.1
    · exact ih h.2 p hp
end
section
open PySem PySem.W PySem.Calls PyProof.Rows PySem.Builtin
theorem entry_lga : entryFor table "list.__getattribute__" = some Builtin.«object.__getattribute__» := by first | exact F.entry_list_ga | exact F.am_entry_list_getattribute | exact entry_list_ga | exact am_entry_list_getattribute
theorem canon_lga : (Manifest.canonical "list.__getattribute__" != "object.__getattribute__") = false := by decide +kernel
section
variable {prog : Program} {w : World} {A : Around} {E : Value → Shared → Prop} {s : Shared} {K : Frag} {x C : Addr} {ox : Obj} {od : Option Obj} {name : Str} {expr : Bool} {pl : Sem Bool}
theorem acc_get {v : Value} {Q : Value → Shared → Prop} (X : K.In s.heap) (I : InstAt s.heap x ox C od) (hga : findIn K (.ref C) "__getattribute__" = some (some (.builtin "list.__getattribute__")))
    (hb : findIn K (.ref C) "__getattr__" = some none) (hi : subIn K (.ref C) (.type "list") = some true) (hf : findObj K C od name = some (.value v)) (hh : handedIn v = true) (h : Q v { s with toks := s.toks + 1 }) :
    wpAny (model prog w) A (getAttr (.ref x) name expr) Q E s := by
  have hook : Looks (model prog w) s.heap (hookBefore (.ref C)) none := looks_hook X (by rw [if_pos (by rfl)]; exact hb)
  refine wpAny_bind (wpAny_mkText (wpAny_holding (wpAny_bind (I.type _ _ _ _ (fun _ _ e => e) (wpAny_bind (looks_findIn X hga _ _ _ _ (fun _ _ e => e) ?_))))))
  dsimp only
  rw [show (onTheHeap (Value.ref C) && Value.builtin "list.__getattribute__" == Value.builtin "object.__getattribute__") = false from by rw [show (Value.builtin "list.__getattribute__" == Value.builtin "object.__getattribute__") = false from by decide +kernel, Bool.and_false], if_neg (by decide)]
  refine wpAny_bind (hook _ _ _ _ (fun _ _ e => e) (wpAny_bind (wpAny_attempt (wpAny_holding ?_))))
  unfold callGetattribute
  rw [show (expr && onTheHeap (Value.builtin "list.__getattribute__")) = false from Bool.and_false _, if_neg (by decide)]
  unfold boundAndCalled
  rw [F.slot_list_getattribute.bind]
  refine wpAny_bind (wpAny_pure ?_)
  show wpAny _ _ (call (.builtin "list.__getattribute__") [.ref x, .str name s.toks]) _ _ _
  refine wpAny_call ?_
  refine codeAny_call_builtin F.slot_list_getattribute.plain entry_lga ?_
  refine @check_slot (model prog w) _ _ { s with toks := s.toks + 1 } "list.__getattribute__" "list" "__getattribute__" (.ref x) [.str name s.toks] [] _ (by decide +kernel) (by decide +kernel) (I.type.andThen (looks_subIn X hi)) (F.args_list_getattribute_2 (.ref x) (.str name s.toks)) ?_
  unfold Builtin.«object.__getattribute__»
  have L0 := I.type (M := model prog w)
  have L1 := looks_find (M := model prog w) X I hf
  refine wpAny_bind (wpAny_pure (wpAny_bind (wpAny_pure (wpAny_bind (L0 _ _ _ _ (fun _ _ e => e) (wpAny_bind (L1 _ _ _ _ (fun _ _ e => e) ?_)))))))
  refine wpAny_pure ?_
  show wpAny _ _ (handedOut v) _ _ _
  rw [handedOut_of hh]; exact wpAny_pure h
theorem acc_method {f : Value} {Q : Value × List Value → Shared → Prop} (X : K.In s.heap) (I : InstAt s.heap x ox C od) (hga : findIn K (.ref C) "__getattribute__" = some (some (.builtin "list.__getattribute__")))
    (hk : findIn K (.ref C) "__getattr__" = some none) (hf : findIn K (.ref C) name = some (some f)) (ht : (typeIn K f).any (fun t => t == .type "function" || t == .type "method_descriptor") = true) (hs : shadowIn od name = some false) (h : Q (f, [.ref x]) s) :
    wpAny (model prog w) A (getMethod (.ref x) name pl) Q E s := by
  obtain ⟨tt, ht1, ht2⟩ := any_some ht
  unfold getMethod specialOf
  refine wpAny_bind (wpAny_bind (I.type.here ((looks_findIn X hga).here ?_)))
  dsimp only
  rw [canon_lga, if_neg (by decide)]
  refine wpAny_bind (wpAny_bind (I.type.here ((looks_findIn X hk).here ?_)))
  refine wpAny_bind (wpAny_bind (I.type.here ((looks_findIn X hf).here (wpAny_bind ((looks_typeIn X ht1).here ?_)))))
  have hc : (tt != .type "function" && tt != .type "method_descriptor" && tt != .type "wrapper_descriptor") = false := by
    rcases Bool.or_eq_true_iff.mp ht2 with e | e <;> (rw [beq_iff_eq.mp e]; decide +kernel)
  rw [if_neg (by rw [hc]; decide)]
  refine wpAny_bind (wpAny_loadPart I.at_ ?_)
  have hd := I.dict
  cases e : ox.dict with
  | none => exact wpAny_bind (wpAny_rule (wpAny_pure h))
  | some dx =>
    cases od with
    | none => rw [e] at hd; exact hd.elim
    | some o =>
      rw [e] at hd
      obtain ⟨r, a, b⟩ := Option.map_eq_some_iff.mp hs
      refine wpAny_bind (wpAny_bind (wpAny_loadPart hd ?_))
      rw [nsLook_of a]
      refine wpAny_pure ?_
      rw [b]
      exact wpAny_bind (wpAny_rule (wpAny_pure h))
end
/-- an object of a class over list -/
abbrev accO (C D : Addr) (vs : List Value) (n : Nat) : Obj := { cls := .ref C, dict := some D, data := .seq vs.toArray n }
abbrev but (D : Addr) (news : Led) : Led := news.filter fun p => p.1 != D
theorem mem_but {D : Addr} {news : Led} {p : Addr × Obj} : p ∈ but D news ↔ p ∈ news ∧ p.1 ≠ D := by simp [but]
theorem News.head {h₀ h : Heap} {L D : Addr} {news : Led} {o : Obj} (N : News h₀ L h news) (hm : (D, o) ∈ news) : News h₀ L h ((D, o) :: but D news) := fun p hp => by
  rcases List.mem_cons.mp hp with rfl | hp
  · exact N _ hm
  · exact N _ (mem_but.mp hp).1
theorem Upd.but {D : Addr} {o o' : Obj} {news : Led} : Upd D o o' ((D, o) :: but D news) ((D, o') :: but D news) := .head fun _ hp => (mem_but.mp hp).2
theorem News.ne {h₀ h : Heap} {L a b : Addr} {news : Led} {o o' : Obj} (N : News h₀ L h news) (h1 : (a, o) ∈ news) (h2 : (b, o') ∈ news) (hne : o ≠ o') : a ≠ b := fun e => by
  have e1 := (N _ h1).1
  have e2 := (N _ h2).1
  rw [show a = b from e] at e1
  exact hne (Option.some.inj (e1.symm.trans e2))
theorem InstAt.acc {h₀ h : Heap} {L P C D : Addr} {news : Led} {od : Obj} {vs : List Value} {n : Nat} (N : News h₀ L h news) (h1 : (P, accO C D vs n) ∈ news) (h2 : (D, od) ∈ news) :
    InstAt h P (accO C D vs n) C (some od) := ⟨(N _ h1).1, rfl, rfl, (N _ h2).1⟩
theorem check_method {M : Model} {A : Around} {E : Value → Shared → Prop} {s : Shared} {i owner n : String} {self : Value} {rest : List Value} {kw : List (Str × Value)} {Q : Unit → Shared → Prop}
    (hk : builtinKind i = some .method) (hs : splitId i = some (owner, n)) (hi : Looks M s.heap (isInstance self (.type owner)) true) (ha : argsOk i ⟨self :: rest, kw⟩) (q : Q () s) :
    wpAny M A (checkBuiltinCall i ⟨self :: rest, kw⟩) Q E s := by
  simp only [checkBuiltinCall, hk, hs]
  refine wpAny_bind (hi.here ?_)
  simp only [Bool.not_true, Bool.false_eq_true, if_false]
  cases hsig : Manifest.signature? i with
  | none => exact wpAny_pure q
  | some sig =>
    simp only [argsOk, hsig] at ha
    have h2 : Bind.checkArgs i sig ⟨self :: rest, kw⟩ = pure () := ha
    show wpAny M A (Bind.checkArgs i sig ⟨self :: rest, kw⟩) Q E s
    rw [h2]; exact wpAny_pure q
section
variable {prog : Program} {w : World} {A : Around} {E : Value → Shared → Prop} {s : Shared} {K : Frag} {h₀ : Heap} {L P C D : Addr} {m : Mp} {news : Led} {od : Obj} {vs : List Value} {n : Nat}
theorem acc_update {A : Around} {vs' : List Value} {Q : Unit → Shared → Prop} (F : Fr h₀ L s.heap m) (N : News h₀ L s.heap news) (h1 : (P, accO C D vs n) ∈ news) (f : Array Value → Array Value) (hf : f vs.toArray = vs'.toArray) (hne : vs'.length ≠ vs.length) (hz : vs.length ≤ sizeLine) (hz' : vs'.length ≤ sizeLine + 1)
    (h : ∀ h', Fr h₀ L h' m → News h₀ L h' ((P, accO C D vs' (n + 1)) :: but P news) → Q () { s with heap := h' }) : wpAny (model prog w) A (Builtin.List.listUpdate (.ref P) f) Q E s := by
  have z := N _ h1
  have ho' : (s.heap.update P (Obj.mapSeq f)).get? P = some (accO C D vs' (n + 1)) := by
    refine (Heap.get?_update_self _ z.1 ?_).trans ?_
    · rfl
    · show some (Obj.mapSeq f (accO C D vs n)) = _
      unfold Obj.mapSeq
      simp only [hf]
      have : (vs'.toArray.size == vs.toArray.size) = false := by simp; omega
      rw [this]
      rfl
  unfold Builtin.List.listUpdate
  refine wpAny_updateSeq z.1 rfl (h _ (F.change (Heap.SameBut.update ..) z.2.1 z.2.2) (news_set (pre := []) (post := but P news) (Mine.News.head N h1) (fun _ hp => nomatch hp) (fun _ hp => (mem_but.mp hp).2) (Heap.SameBut.update ..) ho')) (by simpa using hz) (by rw [hf]; simpa using hz')
theorem acc_append {v : Value} {Q : Value → Shared → Prop} (F : Fr h₀ L s.heap m) (X₀ : K.In h₀) (N : News h₀ L s.heap news) (h1 : (P, accO C D vs n) ∈ news) (h2 : (D, od) ∈ news) (hi : subIn K (.ref C) (.type "list") = some true) (hz : vs.length ≤ 100000)
    (h : ∀ h', Fr h₀ L h' m → News h₀ L h' ((P, accO C D (vs ++ [v]) (n + 1)) :: but P news) → Q .none { s with heap := h' }) : wpAny (model prog w) A (call (.builtin "list.append") [.ref P, v]) Q E s := by
  have I := InstAt.acc N h1 h2
  refine wpAny_call ?_
  refine codeAny_call_builtin PySem.F.slot_list_append.plain PySem.F.entry_list_append ?_
  refine check_method (owner := "list") (n := "append") (by decide +kernel) (by decide +kernel) (I.type.andThen (looks_subIn (X₀.keeps F.keep) hi)) (PySem.F.args_list_append_2 _ _) ?_
  unfold Builtin.«list.append»
  refine wpAny_bind (m := selfAndOne _ _) (wpAny_pure ?_)
  refine wpAny_bind (m := Builtin.List.listUpdate _ _) ?_
  have hs := sizeLine_eq
  refine acc_update F N h1 (fun xs => xs.push v) (vs' := vs ++ [v]) (by simp) (by simp) (by omega) (by simp; omega) fun h' F' N' => wpAny_pure (h h' F' N')
end
section
variable {prog : Program} {w : World} {A : Around} {E : Value → Shared → Prop} {s : Shared} {K : Frag} {h₀ : Heap} {L P C D : Addr} {m : Mp} {news : Led} {od : Obj} {vs : List Value} {n : Nat} {name : Str}
theorem acc_method_K {pl : Sem Bool} {f : Value} {Q : Value × List Value → Shared → Prop} (F : Fr h₀ L s.heap m) (X₀ : K.In h₀) (N : News h₀ L s.heap news) (h1 : (P, accO C D vs n) ∈ news) (h2 : (D, od) ∈ news) (hga : findIn K (.ref C) "__getattribute__" = some (some (.builtin "list.__getattribute__")))
    (hk : findIn K (.ref C) "__getattr__" = some none) (hf : findIn K (.ref C) name = some (some f)) {tt : Value} (ht1 : typeIn K f = some tt) (ht2 : (tt == .type "function" || tt == .type "method_descriptor") = true) (hs : shadowIn (some od) name = some false) (h : Q (f, [.ref P]) s) :
    wpAny (model prog w) A (getMethod (.ref P) name pl) Q E s := acc_method (X₀.keeps F.keep) (InstAt.acc N h1 h2) hga hk hf (by rw [ht1]; exact ht2) hs h
theorem acc_get_K {v : Value} {expr : Bool} {Q : Value → Shared → Prop} (F : Fr h₀ L s.heap m) (X₀ : K.In h₀) (N : News h₀ L s.heap news) (h1 : (P, accO C D vs n) ∈ news) (h2 : (D, od) ∈ news) (hga : findIn K (.ref C) "__getattribute__" = some (some (.builtin "list.__getattribute__")))
    (hb : findIn K (.ref C) "__getattr__" = some none) (hi : subIn K (.ref C) (.type "list") = some true) (hf : findObj K C (some od) name = some (.value v)) (hh : handedIn v = true) (h : Q v { s with toks := s.toks + 1 }) :
    wpAny (model prog w) A (getAttr (.ref P) name expr) Q E s := acc_get (X₀.keeps F.keep) (InstAt.acc N h1 h2) hga hb hi hf hh h
end
def Kept (D : Addr) (news news' : Led) : Prop := ∀ p ∈ news, p.1 ≠ D → p ∈ news'
abbrev sizeO (hs : Int) (t : Tok) (k : Int) (u : Tok) : Obj := dictOf [⟨hs, .str (Str.ofString "_initial_size") t, .int k u⟩] 1
end
section
open PySem PySem.W PySem.Calls PyProof.Rows PySem.Builtin
theorem slot_wrap_get : Slot "wrapper_descriptor" "__get__" "wrapper_descriptor.__get__" := .of (owner := "wrapper_descriptor") (n := "__get__") (by rw [typeLookup_type, builtinLookup_eq_fast]; kernel_rfl) (by decide +kernel) (by decide +kernel) (by decide +kernel)
  (by first | exact .inl (by decide +kernel) | exact .inr (by decide +kernel)) (by rw [isSubtype_type]; kernel_rfl)
theorem entry_wrap_get : entryFor table "wrapper_descriptor.__get__" = some Builtin.«wrapper_descriptor.__get__» := entryFor_of_tree (by kernel_rfl)
theorem args_wrap_get (a b c : Value) : argsOk "wrapper_descriptor.__get__" ⟨[a, b, c], []⟩ := by unfold argsOk; kernel_rfl
theorem slot_meth_get : Slot "method_descriptor" "__get__" "method_descriptor.__get__" := .of (owner := "method_descriptor") (n := "__get__") (by rw [typeLookup_type, builtinLookup_eq_fast]; kernel_rfl) (by decide +kernel) (by decide +kernel) (by decide +kernel)
  (by first | exact .inl (by decide +kernel) | exact .inr (by decide +kernel)) (by rw [isSubtype_type]; kernel_rfl)
theorem entry_meth_get : entryFor table "method_descriptor.__get__" = some Builtin.«method_descriptor.__get__» := entryFor_of_tree (by kernel_rfl)
theorem args_meth_get (a b c : Value) : argsOk "method_descriptor.__get__" ⟨[a, b, c], []⟩ := by unfold argsOk; kernel_rfl
theorem type_len : typeOf (.builtin "list.__len__") = pure (.type "wrapper_descriptor") := by show builtinType _ = _; rw [builtinType_eq_fast]; kernel_rfl
theorem type_init : typeOf (.builtin "list.__init__") = pure (.type "wrapper_descriptor") := by show builtinType _ = _; rw [builtinType_eq_fast]; kernel_rfl
theorem type_pop : typeOf (.builtin "list.pop") = pure (.type "method_descriptor") := by show builtinType _ = _; rw [builtinType_eq_fast]; kernel_rfl
section
variable {prog : Program} {w : World} {M : Model} {A : Around} {E : Value → Shared → Prop} {h : Heap} {g : Array GenState} {d : Drawn} {t : Nat} {os : OsState}
theorem sup_ga {so D x C : Addr} {id T get : String} {Bg : Builtin} {l₀ l : List Value} {K : Frag} {name : Str} {tk : Tok} {cT : String} {Q : Fin → Shared → Prop}
    (hso : h.get? so = some { cls := .type "super", dict := none, data := .fields #[.ref D, .ref x, .ref C], slots := #[] }) (hno : Looks (model prog w) h (opaqueClassAbove (.ref C)) none)
    (hC : Looks (model prog w) h (mroOf (.ref C)) l₀) (hl : (l₀.dropWhile (· != .ref D)).drop 1 = l) (X : K.In h)
    (hf : alongIn K name l = some (some (.builtin id))) (hT : typeOf (.builtin id) = pure (.type T)) (hsl : Slot T "__get__" get) (he : entryFor table get = some Bg) (ha : argsOk get ⟨[.builtin id, .ref x, .ref C], []⟩)
    (hB : ∀ {A : Around} {Q : Fin → Shared → Prop} {E : Value → Shared → Prop}, Q (.done (.ret (.ref h.objs.size))) ⟨h.push { cls := .type cT, data := .fields #[.builtin id, .ref x] }, g, d, t, os⟩ → wpAny (model prog w) A (Bg ⟨[.builtin id, .ref x, .ref C], []⟩) Q E ⟨h, g, d, t, os⟩)
    (hxC : x ≠ C) (hn : (name == ("__class__" : Str)) = false)
    (hq : Q (.done (.ret (.ref h.objs.size))) ⟨h.push { cls := .type cT, data := .fields #[.builtin id, .ref x] }, g, d, t, os⟩) :
    wpAny (model prog w) A (Builtin.«super.__getattribute__» ⟨[.ref so, .str name tk], []⟩) Q E ⟨h, g, d, t, os⟩ := by
  have hne : (Value.ref x == Value.ref C) = false := by simp [hxC]
  have hTf : (⟨h, g, d, t, os⟩ : Shared).TypeIs (.builtin id) T := hT
  have hdt : ({ cls := .type "super", dict := none, data := .fields #[.ref D, .ref x, .ref C], slots := #[] } : Obj).data = .fields #[.ref D, .ref x, .ref C] := rfl
  have f0 : (#[.ref D, .ref x, .ref C] : Array Value)[0]? = some (.ref D) := rfl
  have f1 : (#[.ref D, .ref x, .ref C] : Array Value)[1]? = some (.ref x) := rfl
  have f2 : (#[.ref D, .ref x, .ref C] : Array Value)[2]? = some (.ref C) := rfl
  unfold Builtin.«super.__getattribute__»
  repeat (first
    | (with_reducible refine wpAny_field hso hdt f0 ?_) | (with_reducible refine wpAny_field hso hdt f1 ?_) | (with_reducible refine wpAny_field hso hdt f2 ?_)
    | (with_reducible refine ks_wpAny_notOpaque hno ?_)
    | (with_reducible refine Looks.at hC ?_; rw [hl])
    | (refine ks_forIn_along X (fun _ _ => rfl) rfl ?_ hf)
    | (with_reducible refine wpAny_typeOf hTf ?_)
    | (with_reducible refine wpAny_call_entry hsl hTf he (hB ?_) ha)
    | (with_reducible refine ⟨_, rfl, ?_⟩)
    | (refine wpAny_of_eq hsl.lookup ?_)
    | (simp only [hn, hne, Bool.or_false, Bool.false_eq_true, if_false])
    | wp_step
    | dsimp only)
  all_goals exact hq
theorem sup_method {so D x C : Addr} {id T get : String} {Bg : Builtin} {l₀ l : List Value} {K : Frag} {name : Str} {cT : String} {pl : Sem Bool} {Q : Value × List Value → Shared → Prop}
    (hso : h.get? so = some { cls := .type "super", dict := none, data := .fields #[.ref D, .ref x, .ref C], slots := #[] }) (hno : Looks (model prog w) h (opaqueClassAbove (.ref C)) none)
    (hC : Looks (model prog w) h (mroOf (.ref C)) l₀) (hl : (l₀.dropWhile (· != .ref D)).drop 1 = l) (X : K.In h)
    (hf : alongIn K name l = some (some (.builtin id))) (hTi : typeOf (.builtin id) = pure (.type T)) (hsl : Slot T "__get__" get) (he : entryFor table get = some Bg) (ha : argsOk get ⟨[.builtin id, .ref x, .ref C], []⟩)
    (hB : ∀ {A : Around} {Q : Fin → Shared → Prop} {E : Value → Shared → Prop} {t : Nat}, Q (.done (.ret (.ref h.objs.size))) ⟨h.push { cls := .type cT, data := .fields #[.builtin id, .ref x] }, g, d, t, os⟩ → wpAny (model prog w) A (Bg ⟨[.builtin id, .ref x, .ref C], []⟩) Q E ⟨h, g, d, t, os⟩)
    (hxC : x ≠ C) (hn : (name == ("__class__" : Str)) = false)
    (hq : Q (.ref h.objs.size, []) ⟨h.push { cls := .type cT, data := .fields #[.builtin id, .ref x] }, g, d, t + 1, os⟩) :
    wpAny (model prog w) A (getMethod (.ref so) name pl) Q E ⟨h, g, d, t, os⟩ := by
  have hlk := F.ks_slot_super_ga.lookup
  have hcan := F.ks_canon_super_ga
  have hT : ∀ t', (⟨h, g, d, t', os⟩ : Shared).TypeIs (.ref so) "super" := fun _ => ⟨_, hso, rfl⟩
  unfold getMethod
  refine wpAny_bind (wpAny_specialOf (hT _) hlk ?_)
  show wpAny _ _ (if (Manifest.canonical "super.__getattribute__" != "object.__getattribute__") = true then _ else _) _ _ _
  rw [if_pos hcan]
  unfold getAttr getAttrBy
  refine wpAny_bind (wpAny_bind (wpAny_mkText (wpAny_holding (wpAny_bind (wpAny_typeOf (hT _) (wpAny_bind (wpAny_of_eq hlk ?_)))))))
  show wpAny _ _ (getAttrByItsOwn (.ref so) (.str name t) (.type "super") (.builtin "super.__getattribute__") true false) _ _ _
  unfold getAttrByItsOwn hookBefore callGetattribute boundAndCalled
  refine wpAny_bind (wpAny_of_eq (show (if onTheHeap (.type "super") then typeLookup (.type "super") "__getattr__" else pure none) = pure none from rfl) ?_)
  refine wpAny_bind (wpAny_attempt (wpAny_holding ?_))
  show wpAny _ _ (bindSpecial (.builtin "super.__getattribute__") (.ref so) >>= _) _ _ _
  refine wpAny_bind (wpAny_of_eq (F.ks_slot_super_ga.bind _) ?_)
  refine wpAny_mono (Q := fun v s' => v = .ref h.objs.size ∧ s' = ⟨h.push { cls := .type cT, data := .fields #[.builtin id, .ref x] }, g, d, t + 1, os⟩) (E := fun _ _ => False)
    (wpAny_call_entry F.ks_slot_super_ga (hT _) F.ks_entry_super_ga (sup_ga (t := t + 1) hso hno hC hl X hf hTi hsl he ha (fun q => hB q) hxC hn ⟨_, rfl, rfl, rfl⟩) (F.ks_gaArgs_super _ _)) (fun v s' hv => ?_) fun _ _ z => z.elim
  obtain ⟨rfl, rfl⟩ := hv
  exact wpAny_pure (wpAny_pure hq)
theorem wrap_len {K : Frag} {x C : Addr} {ox : Obj} {od : Option Obj} (X : K.In h) (I : InstAt h x ox C od) (hi : subIn K (.ref C) (.type "list") = some true) {A : Around} {Q : Fin → Shared → Prop} {E : Value → Shared → Prop} {t : Nat}
    (hq : Q (.done (.ret (.ref h.objs.size))) ⟨h.push { cls := .type "method-wrapper", data := .fields #[.builtin "list.__len__", .ref x] }, g, d, t, os⟩) : wpAny (model prog w) A (Builtin.«wrapper_descriptor.__get__» ⟨[.builtin "list.__len__", .ref x, .ref C], []⟩) Q E ⟨h, g, d, t, os⟩ := by
  unfold Builtin.«wrapper_descriptor.__get__»
  refine wpAny_bind (wpAny_of_eq (a := (Value.builtin "list.__len__", some (Value.ref x), some (Value.ref C))) rfl ?_)
  dsimp only
  refine wpAny_bind (wpAny_bind (wpAny_of_eq (a := (Str.ofString "__len__", Value.type "list")) (by kernel_rfl) ?_))
  dsimp only
  have hisi : Looks (model prog w) h (isInstance (.ref x) (.type "list")) true := I.type.andThen (looks_subIn X hi)
  refine wpAny_bind (hisi.at ?_)
  refine wpAny_pure ?_
  exact wpAny_bind (wpAny_newObj_type (wpAny_pure hq) (by show (2 : Nat) ≤ _; decide))
theorem wrap_init {K : Frag} {x C : Addr} {ox : Obj} {od : Option Obj} (X : K.In h) (I : InstAt h x ox C od) (hi : subIn K (.ref C) (.type "list") = some true) {A : Around} {Q : Fin → Shared → Prop} {E : Value → Shared → Prop} {t : Nat}
    (hq : Q (.done (.ret (.ref h.objs.size))) ⟨h.push { cls := .type "method-wrapper", data := .fields #[.builtin "list.__init__", .ref x] }, g, d, t, os⟩) : wpAny (model prog w) A (Builtin.«wrapper_descriptor.__get__» ⟨[.builtin "list.__init__", .ref x, .ref C], []⟩) Q E ⟨h, g, d, t, os⟩ := by
  unfold Builtin.«wrapper_descriptor.__get__»
  refine wpAny_bind (wpAny_of_eq (a := (Value.builtin "list.__init__", some (Value.ref x), some (Value.ref C))) rfl ?_)
  dsimp only
  refine wpAny_bind (wpAny_bind (wpAny_of_eq (a := (Str.ofString "__init__", Value.type "list")) (by kernel_rfl) ?_))
  dsimp only
  have hisi : Looks (model prog w) h (isInstance (.ref x) (.type "list")) true := I.type.andThen (looks_subIn X hi)
  refine wpAny_bind (hisi.at ?_)
  refine wpAny_pure ?_
  exact wpAny_bind (wpAny_newObj_type (wpAny_pure hq) (by show (2 : Nat) ≤ _; decide))
theorem wrap_pop {K : Frag} {x C : Addr} {ox : Obj} {od : Option Obj} (X : K.In h) (I : InstAt h x ox C od) (hi : subIn K (.ref C) (.type "list") = some true) {A : Around} {Q : Fin → Shared → Prop} {E : Value → Shared → Prop} {t : Nat}
    (hq : Q (.done (.ret (.ref h.objs.size))) ⟨h.push { cls := .type "builtin_function_or_method", data := .fields #[.builtin "list.pop", .ref x] }, g, d, t, os⟩) : wpAny (model prog w) A (Builtin.«method_descriptor.__get__» ⟨[.builtin "list.pop", .ref x, .ref C], []⟩) Q E ⟨h, g, d, t, os⟩ := by
  unfold Builtin.«method_descriptor.__get__»
  refine wpAny_bind (wpAny_of_eq (a := (Value.builtin "list.pop", some (Value.ref x), some (Value.ref C))) rfl ?_)
  dsimp only
  rw [if_neg (by decide +kernel)]
  refine wpAny_bind (wpAny_bind (wpAny_of_eq (a := (Str.ofString "pop", Value.type "list")) (by kernel_rfl) ?_))
  dsimp only
  have hisi : Looks (model prog w) h (isInstance (.ref x) (.type "list")) true := I.type.andThen (looks_subIn X hi)
  refine wpAny_bind (hisi.at ?_)
  refine wpAny_pure ?_
  exact wpAny_bind (wpAny_newObj_type (wpAny_pure hq) (by show (2 : Nat) ≤ _; decide))
end
section
variable {prog : Program} {w : World} {A : Around} {E : Value → Shared → Prop} {s : Shared} {K : Frag} {h₀ : Heap} {L P C D : Addr} {m : Mp} {news : Led} {od : Obj} {vs : List Value} {n : Nat} {q : Addr}
abbrev wrapO (id : String) (P : Addr) : Obj := { cls := .type "method-wrapper", data := .fields #[.builtin id, .ref P] }
abbrev boundO (id : String) (P : Addr) : Obj := { cls := .type "builtin_function_or_method", data := .fields #[.builtin id, .ref P] }
theorem call_len {Q : Value → Shared → Prop} (N : News h₀ L s.heap news) (hq : (q, wrapO "list.__len__" P) ∈ news) (h1 : (P, accO C D vs n) ∈ news)
    (h : ∀ t k, Q (.int vs.length t) { s with toks := k }) : wpAny (model prog w) A (call (.ref q) []) Q E s := by
  refine wpAny_call (codeAny_of_tree ?_)
  show wpAny _ _ (callAny (.ref q) ⟨[], []⟩) _ _ _
  unfold callAny
  refine wpAny_bind (wpAny_load (N _ hq).1 ?_)
  dsimp only
  rw [if_pos (by decide +kernel)]
  show wpAny _ _ (if (Value.type "method-wrapper" != Value.type "method") = true then (do checkBoundCall "list.__len__" ⟨[.ref P], []⟩; again (.builtin "list.__len__" ⟨[.ref P], []⟩)) else _) _ _ _
  rw [if_pos (by decide +kernel)]
  have hc : checkBoundCall "list.__len__" ⟨[.ref P], []⟩ = pure () := by kernel_rfl
  refine wpAny_bind (wpAny_of_eq hc (wpAny_pure ⟨plainId_quiet PySem.F.slot_list_len.plain _, codeAny_builtin PySem.F.entry_list_len ?_⟩))
  unfold Builtin.«list.__len__»
  refine wpAny_bind (wpAny_of_eq (a := (Value.ref P, ([] : List Value))) (by rfl) ?_)
  dsimp only
  refine wpAny_bind (m := seqSize P) ?_
  unfold seqSize
  refine wpAny_bind (wpAny_loadPart (N _ h1).1 ?_)
  dsimp only
  refine wpAny_pure ?_
  rw [List.size_toArray]
  exact wpAny_bind (wpAny_mkInt (wpAny_pure (h _ _)))
/-- list.__init__ of an empty list over a class: nothing turns -/
theorem call_init {Q : Value → Shared → Prop} (F : Fr h₀ L s.heap m) (N : News h₀ L s.heap news) (hq : (q, wrapO "list.__init__" P) ∈ news) (h1 : (P, accO C D [] n) ∈ news)
    (h : ∀ h', Fr h₀ L h' m → News h₀ L h' ((P, accO C D [] n) :: but P news) → Q .none { s with heap := h' }) : wpAny (model prog w) A (call (.ref q) []) Q E s := by
  refine wpAny_call (codeAny_of_tree ?_)
  show wpAny _ _ (callAny (.ref q) ⟨[], []⟩) _ _ _
  unfold callAny
  refine wpAny_bind (wpAny_load (N _ hq).1 ?_)
  dsimp only
  rw [if_pos (by decide +kernel)]
  show wpAny _ _ (if (Value.type "method-wrapper" != Value.type "method") = true then (do checkBoundCall "list.__init__" ⟨[.ref P], []⟩; again (.builtin "list.__init__" ⟨[.ref P], []⟩)) else _) _ _ _
  rw [if_pos (by decide +kernel)]
  have hc : checkBoundCall "list.__init__" ⟨[.ref P], []⟩ = pure () := by kernel_rfl
  refine wpAny_bind (wpAny_of_eq hc (wpAny_pure ⟨plainId_quiet PySem.F.slot_list_init.plain _, codeAny_builtin PySem.F.entry_list_init ?_⟩))
  unfold Builtin.«list.__init__»
  dsimp only
  have z := N _ h1
  refine wpAny_bind (m := Builtin.List.listItems _) (wpAny_listItems z.1 rfl ?_)
  refine wpAny_bind (m := Builtin.List.listUpdate _ _) ?_
  have ho' : (s.heap.update P (Obj.mapSeq fun _ => #[])).get? P = some (accO C D [] n) := by
    refine (Heap.get?_update_self _ z.1 ?_).trans ?_
    · rfl
    · rfl
  unfold Builtin.List.listUpdate
  refine wpAny_updateSeq z.1 rfl ?_ (by simp) (by simp)
  exact wpAny_pure (h _ (F.change (Heap.SameBut.update ..) z.2.1 z.2.2) (news_set (pre := []) (post := but P news) (Mine.News.head N h1) (fun _ hp => nomatch hp) (fun _ hp => (mem_but.mp hp).2) (Heap.SameBut.update ..) ho'))
def sigPop : Manifest.Signature := ⟨.positional, "list.pop", "pop", .self, [{ name := "index", kind := .posOnly, required := false }]⟩
theorem sig_pop : Manifest.signature? "list.pop" = some sigPop := by
  rw [signature?_of (id := "list.pop") (n := ['p', 'o', 'p']) (o := ['t', 's', 'i', 'l']) (by kernel_rfl) PySem.F.owner_list]; kernel_rfl
/-- list.pop of the last item -/
theorem call_pop {K : Frag} {cd : ClassData} {v : Value} {Q : Value → Shared → Prop} (F : Fr h₀ L s.heap m) (X₀ : K.In h₀) (N : News h₀ L s.heap news) (hq : (q, boundO "list.pop" P) ∈ news) (h1 : (P, accO C D (vs ++ [v]) n) ∈ news) (h2 : (D, od) ∈ news) (hz : vs.length ≤ 100000)
    (hi : subIn K (.ref C) (.type "module") = some false) (hc : clsIn K C = some cd) (ht : typeIn K (.ref C) = some (.type "type"))
    (hk : Bind.checkArgs "list.pop" { sigPop with full := s!"{cd.qualname.toString}.{Bind.lastOf "list.pop"}" } ⟨[.ref P], []⟩ = pure ())
    (h : ∀ h', Fr h₀ L h' m → News h₀ L h' ((P, accO C D vs (n + 1)) :: but P news) → Q v { s with heap := h' }) : wpAny (model prog w) A (call (.ref q) []) Q E s := by
  have I := InstAt.acc N h1 h2
  refine wpAny_call (codeAny_of_tree ?_)
  show wpAny _ _ (callAny (.ref q) ⟨[], []⟩) _ _ _
  unfold callAny
  refine wpAny_bind (wpAny_load (N _ hq).1 ?_)
  dsimp only
  rw [if_pos (by decide +kernel)]
  show wpAny _ _ (if (Value.type "builtin_function_or_method" != Value.type "method") = true then (do checkBoundCall "list.pop" ⟨[.ref P], []⟩; again (.builtin "list.pop" ⟨[.ref P], []⟩)) else _) _ _ _
  rw [if_pos (by decide +kernel)]
  have X := X₀.keeps F.keep
  have hmod : Looks (model prog w) s.heap (isInstance (.ref P) (.type "module")) false := I.type.andThen (looks_subIn X hi)
  have hkind : builtinKind "list.pop" = some .method := by decide +kernel
  refine wpAny_bind ?_
  unfold checkBoundCall
  rw [sig_pop]
  dsimp only
  rw [hkind]
  dsimp only
  rw [if_neg (by decide +kernel)]
  refine wpAny_bind (hmod.here ?_)
  rw [if_neg (by decide +kernel)]
  refine wpAny_bind ?_
  obtain ⟨hh, g, d, tk, os⟩ := s
  refine ks_wpAny_isType_inst (N _ h1).1 (fun c e => by cases e) ?_
  rw [if_neg (by decide)]
  refine wpAny_bind (I.type.here ?_)
  dsimp only
  refine wpAny_bind ((looks_clsIn X hc).here ?_)
  refine wpAny_bind ((looks_typeIn X ht).here ?_)
  rw [if_pos (by decide +kernel)]
  refine wpAny_of_eq hk ?_
  refine wpAny_pure ⟨plainId_quiet PySem.F.slot_list_pop.plain _, codeAny_builtin PySem.F.entry_list_pop ?_⟩
  unfold Builtin.«list.pop»
  refine wpAny_bind (wpAny_of_eq (a := (Value.ref P, ([] : List Value))) (by rfl) ?_)
  dsimp only
  refine wpAny_bind (wpAny_pure ?_)
  rw [if_neg (by decide)]
  refine wpAny_bind (m := Builtin.List.listItems _) (wpAny_listItems (N _ h1).1 rfl ?_)
  have he : (vs ++ [v]).toArray.isEmpty = false := by simp
  rw [he, if_neg (by decide)]
  have hj : seqIndex? (-1) (vs ++ [v]).toArray.size = some vs.length := by
    rw [PySem.seqIndex_neg (by omega) (by simp; omega)]
    congr 1; simp; omega
  rw [hj]
  have hx : (vs ++ [v]).toArray[vs.length]? = some v := by simp
  simp only [Option.bind_some, hx, Option.map_some]
  have hs := sizeLine_eq
  refine wpAny_bind (m := Builtin.List.listUpdate _ _) (acc_update (vs' := vs) F N h1 (fun xs => xs.eraseIdxIfInBounds vs.length) ?_ (by simp) (by simp; omega) (by omega) fun h' F' N' => wpAny_pure (h h' F' N'))
  apply Array.toList_inj.mp
  simp only [Array.toList_eraseIdxIfInBounds]
  rw [List.eraseIdx_append_of_length_le (Nat.le_refl _)]
  simp
end
end
section
open PySem PySem.W PySem.Calls PyProof.Rows PySem.Builtin
section
variable {prog : Program} {w : World} {A : Around} {E : Value → Shared → Prop} {s : Shared} {K : Frag} {h₀ : Heap} {L P C D so Dc : Addr} {m : Mp} {news : Led} {od : Obj} {vs : List Value} {n : Nat} {name : Str} {pl : Sem Bool}
theorem sup_K {id T get cT : String} {Bg : Builtin} {Q : Value × List Value → Shared → Prop} (F : Fr h₀ L s.heap m) (X₀ : K.In h₀) (N : News h₀ L s.heap news) (hso : (so, ks_superObj Dc P C) ∈ news) (h1 : (P, accO C D vs n) ∈ news) (h2 : (D, od) ∈ news)
    (ho : nsIn K cStatics "thirdparty.any" = some none) (hm : ks_superIn K C Dc name = some (some (.builtin id))) (hn : (name == ("__class__" : Str)) = false)
    (hTi : typeOf (.builtin id) = pure (.type T)) (hsl : Slot T "__get__" get) (he : entryFor table get = some Bg) (ha : argsOk get ⟨[.builtin id, .ref P, .ref C], []⟩)
    (hB : ∀ {A : Around} {Q : Fin → Shared → Prop} {E : Value → Shared → Prop} {t : Nat}, Q (.done (.ret (.ref s.heap.objs.size))) ⟨s.heap.push { cls := .type cT, data := .fields #[.builtin id, .ref P] }, s.gens, s.drawn, t, s.os⟩ → wpAny (model prog w) A (Bg ⟨[.builtin id, .ref P, .ref C], []⟩) Q E ⟨s.heap, s.gens, s.drawn, t, s.os⟩)
    (h : ∀ q h', Fr h₀ L h' m → News h₀ L h' ((q, { cls := .type cT, data := .fields #[.builtin id, .ref P] }) :: news) → (∀ p ∈ news, p.1 < q) → Q (.ref q, []) { s with heap := h', toks := s.toks + 1 }) : wpAny (model prog w) A (getMethod (.ref so) name pl) Q E s := by
  have X : K.In s.heap := X₀.keeps F.keep
  have I := InstAt.acc N h1 h2
  obtain ⟨hh, g, d, t, os⟩ := s
  cases hc : clsIn K C with
  | none => unfold ks_superIn at hm; rw [hc] at hm; cases hm
  | some cd =>
    unfold ks_superIn at hm
    rw [hc] at hm
    refine sup_method (l₀ := cd.mro) (N _ hso).1 (looks_opaque X ho) ?_ rfl X hm hTi hsl he ha hB (ks_ne X I hc) hn ?_
    · exact fun A Q E s k q => wpAny_bind ((looks_clsIn X hc) A _ E s k (wpAny_pure q))
    · obtain ⟨F', N', l'⟩ := ks_newsPush (s := ⟨hh, g, d, t, os⟩) (o := { cls := .type cT, data := .fields #[.builtin id, .ref P] }) F N rfl (Heap.get?_push_at rfl rfl) (fun b o e => Heap.get?_push_of_some _ e)
      exact h _ _ F' N' l'
variable {Q : Value × List Value → Shared → Prop} (F : Fr h₀ L s.heap m) (X₀ : K.In h₀) (N : News h₀ L s.heap news) (hso : (so, ks_superObj Dc P C) ∈ news) (h1 : (P, accO C D vs n) ∈ news) (h2 : (D, od) ∈ news)
    (ho : nsIn K cStatics "thirdparty.any" = some none) (hi : subIn K (.ref C) (.type "list") = some true)
include F X₀ N hso h1 h2 ho hi
theorem sup_len (hm : ks_superIn K C Dc (Str.ofString "__len__") = some (some (.builtin "list.__len__")))
    (h : ∀ q h', Fr h₀ L h' m → News h₀ L h' ((q, wrapO "list.__len__" P) :: news) → (∀ p ∈ news, p.1 < q) → Q (.ref q, []) { s with heap := h', toks := s.toks + 1 }) : wpAny (model prog w) A (getMethod (.ref so) (Str.ofString "__len__") pl) Q E s :=
  sup_K F X₀ N hso h1 h2 ho hm (by decide) type_len slot_wrap_get entry_wrap_get (args_wrap_get _ _ _) (fun q => wrap_len (X₀.keeps F.keep) (InstAt.acc N h1 h2) hi q) h
theorem sup_init (hm : ks_superIn K C Dc (Str.ofString "__init__") = some (some (.builtin "list.__init__")))
    (h : ∀ q h', Fr h₀ L h' m → News h₀ L h' ((q, wrapO "list.__init__" P) :: news) → (∀ p ∈ news, p.1 < q) → Q (.ref q, []) { s with heap := h', toks := s.toks + 1 }) : wpAny (model prog w) A (getMethod (.ref so) (Str.ofString "__init__") pl) Q E s :=
  sup_K F X₀ N hso h1 h2 ho hm (by decide) type_init slot_wrap_get entry_wrap_get (args_wrap_get _ _ _) (fun q => wrap_init (X₀.keeps F.keep) (InstAt.acc N h1 h2) hi q) h
theorem sup_pop (hm : ks_superIn K C Dc (Str.ofString "pop") = some (some (.builtin "list.pop")))
    (h : ∀ q h', Fr h₀ L h' m → News h₀ L h' ((q, boundO "list.pop" P) :: news) → (∀ p ∈ news, p.1 < q) → Q (.ref q, []) { s with heap := h', toks := s.toks + 1 }) : wpAny (model prog w) A (getMethod (.ref so) (Str.ofString "pop") pl) Q E s :=
  sup_K F X₀ N hso h1 h2 ho hm (by decide) type_pop slot_meth_get entry_meth_get (args_meth_get _ _ _) (fun q => wrap_pop (X₀.keeps F.keep) (InstAt.acc N h1 h2) hi q) h
end
section
variable {prog : Program} {w : World} {M : Model} {A : Around} {E : Value → Shared → Prop} {s : Shared} {h₀ : Heap} {L u P : Addr} {news : Led} {id : String}
theorem callWith_b {cT : String} {vs : Array Value} {pos : Pos} {env : Env} {Q : Value → Shared → Prop} (ho : s.heap.get? u = some { cls := .type cT, data := .fields vs }) (h1 : (Value.type cT != Value.type "method") = true) (h2 : (Value.type cT == Value.type "builtin_function_or_method" || Value.type cT == Value.type "method-wrapper") = true)
    (h : wpAny M A (call (.ref u) []) Q E s) : wpAny M A (callWith pos (.ref u) [] (backTo pos (starEach [] env)) []) Q E s := by
  unfold callWith
  refine wpAny_bind (wpAny_holding ?_)
  have he : evalArgs (.ref u) true (backTo pos (starEach [] env)) [] = pure ⟨[], []⟩ := by rfl
  rw [he]
  refine wpAny_pure (wpAny_bind (wpAny_standAt ?_))
  have hp : (backTo pos (starEach [] env)).any (·.1) = false := rfl
  simp only [hp, List.any_nil, Bool.or_false]
  refine wpAny_bind (m := keeperOf (.ref u)) ?_
  unfold keeperOf
  refine wpAny_bind (wpAny_load ho ?_)
  simp only [h1, h2, if_true]
  refine wpAny_pure ?_
  exact wpAny_bind (wpAny_mono h (fun r s₂ hr => wpAny_bind (wpAny_holding (wpAny_point (wpAny_pure hr)))) fun _ _ x => x)
theorem callWith_wrap {pos : Pos} {env : Env} {Q : Value → Shared → Prop} (N : News h₀ L s.heap news) (hm : (u, wrapO id P) ∈ news) (h : wpAny M A (call (.ref u) []) Q E s) : wpAny M A (callWith pos (.ref u) [] (backTo pos (starEach [] env)) []) Q E s :=
  callWith_b (N _ hm).1 (by decide +kernel) (by decide +kernel) h
theorem callWith_bnd {pos : Pos} {env : Env} {Q : Value → Shared → Prop} (N : News h₀ L s.heap news) (hm : (u, boundO id P) ∈ news) (h : wpAny M A (call (.ref u) []) Q E s) : wpAny M A (callWith pos (.ref u) [] (backTo pos (starEach [] env)) []) Q E s :=
  callWith_b (N _ hm).1 (by decide +kernel) (by decide +kernel) h
end
end
section
open PySem PySem.W PySem.Calls PyProof.Rows PySem.Builtin
section
variable {prog : Program} {w : World} {A : Around} {E : Value → Shared → Prop} {s : Shared} {K : Frag} {h₀ : Heap} {L P C D : Addr} {m : Mp} {news : Led} {od : Obj} {vs : List Value} {n : Nat}
theorem kind_getitem : builtinKind "list.__getitem__" = some .method := by decide +kernel
theorem split_getitem : splitId "list.__getitem__" = some ("list", "__getitem__") := by decide +kernel
theorem kind_setitem : builtinKind "list.__setitem__" = some .slot := by decide +kernel
theorem split_setitem : splitId "list.__setitem__" = some ("list", "__setitem__") := by decide +kernel
theorem check_slot {M : Model} {A : Around} {E : Value → Shared → Prop} {s : Shared} {i owner n : String} {self : Value} {rest : List Value} {kw : List (Str × Value)} {Q : Unit → Shared → Prop}
    (hk : builtinKind i = some .slot) (hs : splitId i = some (owner, n)) (hi : Looks M s.heap (isInstance self (.type owner)) true) (ha : argsOk i ⟨self :: rest, kw⟩) (q : Q () s) :
    wpAny M A (checkBuiltinCall i ⟨self :: rest, kw⟩) Q E s := by
  simp only [checkBuiltinCall, hk, hs]
  refine wpAny_bind (hi.here ?_)
  simp only [Bool.not_true, Bool.false_eq_true, if_false]
  cases hsig : Manifest.signature? i with
  | none => exact wpAny_pure q
  | some sig =>
    simp only [argsOk, hsig] at ha
    have h2 : Bind.checkArgs i sig ⟨self :: rest, kw⟩ = pure () := ha
    show wpAny M A (Bind.checkArgs i sig ⟨self :: rest, kw⟩) Q E s
    rw [h2]; exact wpAny_pure q
theorem slice_head {s : Shared} {sl : Addr} {k : Int} {tk : Tok} (hs : s.heap.IsSliceOf sl (.int k tk) .none .none) {B : Option Int → Sem Fin} {Q : Fin → Shared → Prop} 
    (h : wpAny (model prog w) A (B none) Q E s) : wpAny (model prog w) A (Builtin.List.listSubscript? (.ref sl) >>= B) Q E s := by
  obtain ⟨os, hos, hcs, hds⟩ := id hs
  have hTs : s.TypeIs (.ref sl) "slice" := ⟨os, hos, hcs⟩
  refine wpAny_bind ?_
  unfold Builtin.List.listSubscript?
  refine wpAny_bind (wpAny_specialOf hTs slice_no_index ?_)
  simp only [Option.isNone_none, if_true]
  exact wpAny_pure h
theorem slice_parts {s : Shared} {sl : Addr} {k : Int} {tk : Tok} (hs : s.heap.IsSliceOf sl (.int k tk) .none .none) {B : Value × Value × Value → Sem Fin} {Q : Fin → Shared → Prop}
    (h : wpAny (model prog w) A (B (rawPart (some k), rawPart none, rawPart none)) Q E s) : wpAny (model prog w) A (Builtin.List.listSliceParts (.ref sl) >>= B) Q E s := by
  obtain ⟨os, hos, hcs, hds⟩ := id hs
  rw [listSliceParts_eq]
  refine wpAny_bind (wpAny_bind (wpAny_field hos hds (x := .none) rfl (wpAny_bind (wpAny_listPart IsPart.none ?_))))
  rw [if_neg (show ¬ ((rawPart none == rawInt 0) = true) from Bool.false_ne_true)]
  refine wpAny_bind (wpAny_field hos hds (x := .int k tk) rfl (wpAny_bind (wpAny_listPart (IsPart.int k tk) ?_)))
  exact wpAny_bind (wpAny_field hos hds (x := .none) rfl (wpAny_bind (wpAny_listPart IsPart.none (wpAny_pure h))))
theorem acc_items {s : Shared} (hm : s.heap.get? P = some (accO C D vs n)) {Q : Array Value → Shared → Prop} (h : Q vs.toArray s) : wpAny (model prog w) A (Builtin.List.listItems (.ref P)) Q E s := by
  unfold Builtin.List.listItems
  exact wpAny_bind (wpAny_seqItems hm rfl (wpAny_pure h))
theorem call_getslice_k {s : Shared} {sl : Addr} {k : Int} {tk : Tok} {Q : Value → Shared → Prop} (hm : s.heap.get? P = some (accO C D vs n)) (hi : Looks (model prog w) s.heap (isInstance (.ref P) (.type "list")) true) (hsl : s.heap.IsSliceOf sl (.int k tk) .none .none) (hz : vs.length ≤ 100000)
    (h : Q (.ref s.heap.objs.size) { s with heap := s.heap.push { cls := .type "list", data := .seq (slicePick vs.toArray (some k) none none) } }) : wpAny (model prog w) A (call (.builtin "list.__getitem__") [.ref P, .ref sl]) Q E s := by
  refine wpAny_call ?_
  refine codeAny_call_builtin PySem.F.slot_list_getitem.plain PySem.F.entry_list_getitem ?_
  have ha : argsOk "list.__getitem__" ⟨.ref P :: [.ref sl], []⟩ := PySem.F.args_list_getitem_2 _ _
  refine check_method (i := "list.__getitem__") (owner := "list") (n := "__getitem__") (self := .ref P) (rest := [.ref sl]) (kw := []) ?a1 ?a2 ?a3 ?a4 ?_
  case a1 => exact kind_getitem
  case a2 => exact split_getitem
  case a3 => exact hi
  case a4 => exact ha
  show wpAny _ _ (Builtin.List.listSubscript? (.ref sl) >>= _) _ _ _
  refine slice_head hsl ?_
  obtain ⟨os, hos, hcs, hds⟩ := id hsl
  refine wpAny_bind (wpAny_typeOf ⟨os, hos, hcs⟩ ?_)
  rw [if_neg (by decide)]
  refine slice_parts hsl ?_
  refine wpAny_bind (acc_items hm ?_)
  refine wpAny_bind (wpAny_of_eq (sliceIndices_raw (some k) none none vs.toArray.size (by simp)) ?_)
  have hs := sizeLine_eq
  refine wpAny_bind (wpAny_newObj_type (wpAny_pure h) (Nat.le_trans (slicePick_size_le vs.toArray (some k) none none) (by simp; omega)))
theorem call_getslice {s : Shared} {sl : Addr} {tk : Tok} {Q : Value → Shared → Prop} (hm : s.heap.get? P = some (accO C D vs n)) (hi : Looks (model prog w) s.heap (isInstance (.ref P) (.type "list")) true) (hsl : s.heap.IsSliceOf sl (.int 0 tk) .none .none) (hz : vs.length ≤ 100000)
    (h : Q (.ref s.heap.objs.size) { s with heap := s.heap.push (listOf vs.toArray 0) }) : wpAny (model prog w) A (call (.builtin "list.__getitem__") [.ref P, .ref sl]) Q E s := by
  have e : slicePick vs.toArray (some ((0 : Nat) : Int)) none none = vs.toArray := by rw [slicePick_from _ 0 (Nat.zero_le _)]; simp
  refine call_getslice_k (k := ((0 : Nat) : Int)) hm hi hsl hz ?_
  rw [e]
  exact h
theorem gi_acc {s : Shared} {ox : Obj} {k : Value} {Q : Value → Shared → Prop} (X : K.In s.heap) (I : InstAt s.heap P ox C (some od)) (hq : noSeq K C = true) (hs : findIn K (.ref C) "__getitem__" = some (some (.builtin "list.__getitem__")))
    (h : wpAny (model prog w) A (call (.builtin "list.__getitem__") [.ref P, k]) Q E s) : wpAny (model prog w) A (getItem (.ref P) k) Q E s := by
  unfold getItem sequenceKey
  refine wpAny_holding (wpAny_bind (wpAny_bind (I.type.here ?_)))
  refine wpAny_bind ((anyM_none X hq).here ?_)
  rw [if_pos (show (!false) = true from rfl)]
  exact wpAny_pure (wpAny_bind (kfo_special (name := Str.ofString "__getitem__") X I hs PySem.F.slot_list_getitem.bind (wpAny_mono h (fun _ _ z => wpAny_pure z) fun _ _ z => z)))
theorem si_acc {s : Shared} {ox : Obj} {k v : Value} {Q : Unit → Shared → Prop} (X : K.In s.heap) (I : InstAt s.heap P ox C (some od)) (hq : noSeq K C = true) (hs : findIn K (.ref C) "__setitem__" = some (some (.builtin "list.__setitem__")))
    (h : wpAny (model prog w) A (call (.builtin "list.__setitem__") [.ref P, k, v]) (fun _ s' => Q () s') E s) : wpAny (model prog w) A (setItem (.ref P) k v) Q E s := by
  unfold setItem sequenceKey
  refine wpAny_holding (wpAny_bind (wpAny_bind (I.type.here ?_)))
  refine wpAny_bind ((anyM_none X hq).here ?_)
  rw [if_pos (show (!false) = true from rfl)]
  exact wpAny_pure (wpAny_bind (kfo_special (name := Str.ofString "__setitem__") X I hs PySem.F.slot_list_setitem.bind (wpAny_mono h (fun _ _ z => wpAny_pure z) fun _ _ z => z)))
theorem acc_slice {value slice : PySem.Expr} {tk : Tok} {ops : List Value} {Q : Value → Shared → Prop} (F : Fr h₀ L s.heap m) (X₀ : K.In h₀) (N : News h₀ L s.heap news) (h1 : (P, accO C D vs n) ∈ news) (h2 : (D, od) ∈ news) (hq : noSeq K C = true)
    (hs : findIn K (.ref C) "__getitem__" = some (some (.builtin "list.__getitem__"))) (hi : subIn K (.ref C) (.type "list") = some true) (hz : vs.length ≤ 100000)
    (h : ∀ q h', Fr h₀ L h' m → News h₀ L h' ((q, listOf vs.toArray 0) :: news) → (∀ p ∈ news, p.1 < q) → Q (.ref q) { s with heap := h' })
    (hb : subscripted slice false (.ref P) (.ref s.heap.objs.size) = operate ops (getItem (.ref P) (.ref s.heap.objs.size))) (ht : ∀ r, letTemporaryGo value (.ref P) r = pure ()) :
    wpAny (model prog w) A (subscriptTail value slice (.ref P) (.ref s.heap.objs.size)) Q E { s with heap := s.heap.push { cls := .type "slice", data := .fields #[.int 0 tk, .none, .none] } } := by
  have F1 := F.push { cls := .type "slice", data := .fields #[.int 0 tk, .none, .none] }
  have N1 : News h₀ L (s.heap.push { cls := .type "slice", data := .fields #[.int 0 tk, .none, .none] }) news := N.grown fun _ _ e => Heap.get?_push_of_some _ e
  have X : K.In (s.heap.push { cls := .type "slice", data := .fields #[.int 0 tk, .none, .none] }) := X₀.keeps F1.keep
  have hsl : (s.heap.push { cls := .type "slice", data := .fields #[.int 0 tk, .none, .none] }).IsSliceOf s.heap.objs.size (.int 0 tk) .none .none := Heap.IsSliceOf.new ..
  have I := InstAt.acc N1 h1 h2
  have hsz : (s.heap.push { cls := .type "slice", data := .fields #[.int 0 tk, .none, .none] }).objs.size = s.heap.objs.size + 1 := Heap.size_push ..
  have hG : wpAny (model prog w) A (getItem (.ref P) (.ref s.heap.objs.size)) Q E { s with heap := s.heap.push { cls := .type "slice", data := .fields #[.int 0 tk, .none, .none] } } := by
    refine gi_acc X I hq hs (call_getslice (N1 _ h1).1 (I.type.andThen (looks_subIn X hi)) hsl hz ?_)
    have N2 := News.push F1 N1 (listOf vs.toArray 0)
    refine h _ _ (F1.push _) N2 fun p hp => Nat.lt_of_lt_of_le (Heap.lt_size (N p hp).1) ?_
    show s.heap.objs.size ≤ (s.heap.push _).objs.size
    rw [hsz]
    exact Nat.le_succ _
  unfold subscriptTail
  refine wpAny_bind ?_
  unfold getitemInPython
  refine wpAny_bind (wpAny_bind (I.type.here ((looks_findIn X hs).here ?_)))
  refine wpAny_pure ?_
  refine wpAny_bind ?_
  rw [hb]
  exact wpAny_operating (wpAny_mono hG (fun r s₃ h₃ => wpAny_bind (wpAny_of_eq (ht r) (wpAny_pure h₃))) fun _ _ x => x)
theorem acc_update' {s : Shared} {vs' : List Value} {Q : Unit → Shared → Prop} (F : Fr h₀ L s.heap m) (N : News h₀ L s.heap news) (h1 : (P, accO C D vs n) ∈ news) (f : Array Value → Array Value) (hf : f vs.toArray = vs'.toArray) (hz : vs.length ≤ sizeLine) (hz' : vs'.length ≤ sizeLine + 1)
    (h : ∀ h' j, Fr h₀ L h' m → News h₀ L h' ((P, accO C D vs' j) :: but P news) → Q () { s with heap := h' }) : wpAny (model prog w) A (Builtin.List.listUpdate (.ref P) f) Q E s := by
  have z := N _ h1
  obtain ⟨j, ho'⟩ : ∃ j, (s.heap.update P (Obj.mapSeq f)).get? P = some (accO C D vs' j) := by
    have e1 : (s.heap.update P (Obj.mapSeq f)).get? P = some (Obj.mapSeq f (accO C D vs n)) := Heap.get?_update_self _ z.1 rfl
    have e2 : ∃ j, Obj.mapSeq f (accO C D vs n) = accO C D vs' j := by
      unfold Obj.mapSeq
      simp only [hf]
      exact ⟨_, rfl⟩
    obtain ⟨j, e2⟩ := e2
    exact ⟨j, e1.trans (congrArg some e2)⟩
  unfold Builtin.List.listUpdate
  refine wpAny_updateSeq z.1 rfl (h _ j (F.change (Heap.SameBut.update ..) z.2.1 z.2.2) (news_set (pre := []) (post := but P news) (Mine.News.head N h1) (fun _ hp => nomatch hp) (fun _ hp => (mem_but.mp hp).2) (Heap.SameBut.update ..) ho')) (by simpa using hz) (by rw [hf]; simpa using hz')
theorem call_setslice {s : Shared} {sl e : Addr} {tk : Tok} {j : Nat} {Q : Value → Shared → Prop} (F : Fr h₀ L s.heap m) (N : News h₀ L s.heap news) (h1 : (P, accO C D vs n) ∈ news) (he : (e, listOf #[] j) ∈ news) (hi : Looks (model prog w) s.heap (isInstance (.ref P) (.type "list")) true) (hsl : s.heap.IsSliceOf sl (.int 0 tk) .none .none) (hz : vs.length ≤ 100000)
    (h : ∀ h' j, Fr h₀ L h' m → News h₀ L h' ((P, accO C D [] j) :: but P news) → Q .none { s with heap := h' }) : wpAny (model prog w) A (call (.builtin "list.__setitem__") [.ref P, .ref sl, .ref e]) Q E s := by
  have hne : P ≠ e := fun he' => by subst he'; exact absurd (Option.some.inj ((N _ h1).1.symm.trans (N _ he).1)) fun z => by cases congrArg Obj.cls z
  refine wpAny_call ?_
  refine codeAny_call_builtin PySem.F.slot_list_setitem.plain PySem.F.entry_list_setitem ?_
  refine check_slot (i := "list.__setitem__") (owner := "list") (n := "__setitem__") (self := .ref P) (rest := [.ref sl, .ref e]) (kw := []) ?a1 ?a2 ?a3 ?a4 ?_
  case a1 => exact kind_setitem
  case a2 => exact split_setitem
  case a3 => exact hi
  case a4 => exact PySem.F.args_list_setitem_3 _ _ _
  unfold Builtin.«list.__setitem__»
  refine wpAny_bind (wpAny_of_eq (a := (Value.ref P, [Value.ref sl, .ref e])) (by rfl) ?_)
  dsimp only
  refine slice_head hsl ?_
  obtain ⟨os, hos, hcs, hds⟩ := id hsl
  refine wpAny_bind (wpAny_typeOf ⟨os, hos, hcs⟩ ?_)
  rw [if_neg (by decide)]
  refine slice_parts hsl ?_
  rw [if_neg (show ¬ (Builtin.List.listSameRef (.ref P) (.ref e) = true) by unfold Builtin.List.listSameRef; simp [hne])]
  have hme := (N _ he).1
  refine wpAny_bind ?_
  unfold Builtin.List.listAllItems
  refine wpAny_bind (wpAny_typeOf ⟨_, hme, rfl⟩ ?_)
  rw [if_pos (by decide)]
  refine wpAny_bind (wpAny_seqItems hme rfl (wpAny_pure ?_))
  refine wpAny_bind (acc_items (N _ h1).1 ?_)
  refine wpAny_bind (wpAny_of_eq (sliceIndices_raw (some 0) none none vs.toArray.size (by simp)) ?_)
  have eb : sliceBounds (some 0) none none vs.toArray.size = (0, (vs.toArray.size : Int), 1) := by simp [sliceBounds]; omega
  rw [eb]
  dsimp only
  rw [if_pos (by decide)]
  have hs := sizeLine_eq
  refine wpAny_bind (wpAny_rule ?_)
  rw [if_neg (by unfold Builtin.List.listTooLong; simp; omega)]
  refine wpAny_bind (m := Builtin.List.listUpdate _ _) (acc_update' F N h1 _ (vs' := []) ?_ (by omega) (by simp) fun h' j F' N' => ?_)
  · simp
  · exact wpAny_bind (wpAny_letGo (wpAny_pure (h h' j F' N')))
theorem acc_setslice {e : Addr} {tk : Tok} {j : Nat} {Q : Unit → Shared → Prop} (F : Fr h₀ L s.heap m) (X₀ : K.In h₀) (N : News h₀ L s.heap news) (h1 : (P, accO C D vs n) ∈ news) (h2 : (D, od) ∈ news) (he : (e, listOf #[] j) ∈ news) (hq : noSeq K C = true)
    (hs : findIn K (.ref C) "__setitem__" = some (some (.builtin "list.__setitem__"))) (hi : subIn K (.ref C) (.type "list") = some true) (hz : vs.length ≤ 100000)
    (h : ∀ h' j, Fr h₀ L h' m → News h₀ L h' ((P, accO C D [] j) :: but P news) → Q () { s with heap := h' }) :
    wpAny (model prog w) A (setItem (.ref P) (.ref s.heap.objs.size) (.ref e)) Q E { s with heap := s.heap.push { cls := .type "slice", data := .fields #[.int 0 tk, .none, .none] } } := by
  have F1 := F.push { cls := .type "slice", data := .fields #[.int 0 tk, .none, .none] }
  have N1 : News h₀ L (s.heap.push { cls := .type "slice", data := .fields #[.int 0 tk, .none, .none] }) news := N.grown fun _ _ e => Heap.get?_push_of_some _ e
  have X : K.In (s.heap.push { cls := .type "slice", data := .fields #[.int 0 tk, .none, .none] }) := X₀.keeps F1.keep
  have hsl : (s.heap.push { cls := .type "slice", data := .fields #[.int 0 tk, .none, .none] }).IsSliceOf s.heap.objs.size (.int 0 tk) .none .none := Heap.IsSliceOf.new ..
  have I := InstAt.acc N1 h1 h2
  exact si_acc X I hq hs (call_setslice F1 N1 h1 he (I.type.andThen (looks_subIn X hi)) hsl hz h)
end
end
section
open PySem PySem.W PySem.Calls PyProof.Rows PySem.Builtin
/-- a class over list that is made by list.__new__ -/
def lmakesIn (K : Frag) (C : Addr) : Bool := match K.lookup C with
  | some ⟨_, _, .cls cd, sl⟩ => !cd.abstract && !cd.hasDel && (sl.toList[4]?).join == some (.builtin "list.__new__") && !cd.mro.isEmpty && cd.mro.contains (.ref C) &&
      specialIn K (.ref C) "__call__" == some (some (.builtin "type.__call__")) && instIn K (.ref C) (.type "type") == some true && subIn K (.ref C) (.type "list") == some true
  | _ => false
structure LMakes (M : Model) (h : Heap) (C : Addr) : Prop where
  obj : ∃ oc od cd sl, h.get? C = some ⟨oc, od, .cls cd, sl⟩ ∧ cd.abstract = false ∧ cd.hasDel = false ∧ cd.mro.isEmpty = false
  made : Looks M h (Bind.madeBy (.ref C)) (some "list.__new__")
  base : Looks M h (Bind.staticBase (.ref C)) (.ref C)
  self : Looks M h (isSubtype (.ref C) (.ref C)) true
  top : Looks M h (isSubtype (.ref C) (.type "list")) true
  call : Looks M h (specialOf (.ref C) "__call__") (some (.builtin "type.__call__"))
  typ : Looks M h (isInstance (.ref C) (.type "type")) true
theorem lmakes_of {K : Frag} {M : Model} {h : Heap} (X : K.In h) {C : Addr} (e : lmakesIn K C = true) : LMakes M h C := by
  unfold lmakesIn at e
  split at e
  · rename_i oc od cd sl ho
    simp only [Bool.and_eq_true, Bool.not_eq_true', beq_iff_eq] at e
    obtain ⟨⟨⟨⟨⟨⟨⟨e1, e2⟩, e3⟩, e4⟩, e5⟩, e7⟩, e8⟩, e9⟩ := e
    have hc : clsIn K C = some cd := by unfold clsIn; rw [ho]
    have hm : Looks M h (mroOf (.ref C)) cd.mro := (looks_clsIn X hc).andThen .now
    obtain ⟨c, l, hl⟩ : ∃ c l, cd.mro = c :: l := by cases q : cd.mro with | nil => rw [q] at e4; cases e4 | cons c l => exact ⟨c, l, rfl⟩
    have made : Looks M h (Bind.madeBy (.ref C)) (some "list.__new__") := by
      intro A Q E s k q
      unfold Bind.madeBy
      refine wpAny_bind (hm A _ E s k ?_)
      rw [hl, List.forIn_cons]
      refine wpAny_bind (wpAny_bind (wpAny_bind (wpAny_bind (wpAny_loadPart (k _ _ (X _ _ ho)) (wpAny_pure ?_)))))
      dsimp only
      rw [← Array.getElem?_toList, e3]
      exact wpAny_pure (wpAny_pure (wpAny_pure q))
    refine ⟨⟨oc, od, cd, sl, X _ _ ho, e1, e2, e4⟩, made, ?_, looks_mroIn X ?_, looks_subIn X e9, looks_specialIn X e7, looks_instIn X e8⟩
    · intro A Q E s k q
      unfold Bind.staticBase
      refine wpAny_bind (hm A _ E s k ?_)
      rw [hl, List.forIn_cons]
      exact wpAny_bind (wpAny_bind (wpAny_bind (made A _ E s k (wpAny_pure (wpAny_pure (wpAny_pure q))))))
    · unfold mroIn; rw [hc, Option.bind_some, if_neg (by rw [e4]; decide), e5]
  · cases e
section
variable {prog : Program} {w : World} {A : Around} {K : Frag} {C : Addr} {R : Result → Shared → Prop} {h : Heap} {g : Array GenState} {d : Drawn} {t : Nat} {os : OsState}
theorem kind_lnew : builtinKind "list.__new__" = some .builtinFn := by decide +kernel
theorem split_lnew : splitId "list.__new__" = some ("list", "__new__") := by decide +kernel
theorem args_lnew (a b : Value) : argsOk "list.__new__" ⟨[a, b], []⟩ := by unfold argsOk; kernel_rfl
theorem lnew_K {v : Value} (Y : LMakes (model prog w) h C)
    (hq : R (.ok (.ret (.ref (h.objs.size + 1)))) ⟨(h.push emptyDict).push (accO C h.objs.size [] 0), g, d, t, os⟩) :
    codeAny (model prog w) A (.call (.builtin "list.__new__") ⟨[.ref C, v], []⟩) R ⟨h, g, d, t, os⟩ := by
  obtain ⟨⟨oc, od, cd, sl, hC, e1, e2, e4⟩, made, base, self, top, call, typ⟩ := Y
  refine codeAny_call_builtin_code (Code.quiet_builtin _ (by decide +kernel)) ?_
  simp only [checkBuiltinCall, kind_lnew, split_lnew]
  have here : Looks (model prog w) h (Bind.madeHere "list.__new__" (.ref C)) () := base.andThen (made.andThen (Looks.of_pure (by simp only [Option.map_some, bne_self_eq_false, Bool.false_eq_true, if_false])))
  have ha : argsOk "list.__new__" ⟨[.ref C, v], []⟩ := args_lnew _ _
  have fin : codeAny (model prog w) A (.builtin "list.__new__" ⟨[.ref C, v], []⟩) R ⟨h, g, d, t, os⟩ := by
    refine codeAny_builtin_stack PySem.F.entry_list_new rfl fun p st => ?_
    rw [Around.under_plainId PySem.F.plain_list_new _]
    have hown := PySem.owner_list_new
    dsimp only
    simp only [hown]
    repeat (first | simp only [beq_self_eq_true, if_true, Bool.not_true, bne_self_eq_false, Bool.false_eq_true, if_false] | lk)
    refine wpAny_load (Heap.get?_push_of_some _ (Heap.get?_push_of_some _ hC)) ?_
    dsimp only
    refine wpAny_pure ?_
    rw [e2]
    refine wpAny_pure (wpAny_pure ?_)
    show R _ _
    rw [Heap.size_push]
    exact hq
  cases hsig : Manifest.signature? "list.__new__" with
  | none =>
    repeat (first | simp only [beq_self_eq_true, if_true, Bool.not_true, bne_self_eq_false, Bool.false_eq_true, if_false] | lk)
    exact fin
  | some sig =>
    simp only [argsOk, hsig] at ha
    have args : Bind.checkArgs "list.__new__" sig ⟨[.ref C, v], []⟩ = pure () := ha
    simp only [args]
    repeat (first | simp only [beq_self_eq_true, if_true, Bool.not_true, bne_self_eq_false, Bool.false_eq_true, if_false] | lk)
    exact fin
theorem lmake_core {v init : Value} (Y : LMakes (model prog w) h C) (hi : Looks (model prog w) h (typeLookup (.ref C) "__init__") (some init))
    (hb : ∀ self, Looks (model prog w) h (bindSpecial init self) (init, [self]))
    (hq : codeAny (model prog w) (A.under (.builtin "type.__call__" ⟨[.ref C, v], []⟩)) (.call init ⟨[.ref (h.objs.size + 1), v], []⟩) (InitBack (h.objs.size + 1) R) ⟨(h.push emptyDict).push (accO C h.objs.size [] 0), g, d, t, os⟩) :
    codeAny (model prog w) A (.call (.ref C) ⟨[v], []⟩) R ⟨h, g, d, t, os⟩ := by
  have Y' := Y
  obtain ⟨⟨oc, od, cd, sl, hC, e1, e2, e4⟩, made, base, self, top, call, typ⟩ := Y
  refine codeAny_of_tree ?_
  show wpAny _ _ (callAny (.ref C) _) _ _ _
  refine nd_load hC ?_
  show wpAny _ _ (callAny.viaDunder (.ref C) _) _ _ _
  unfold callAny.viaDunder
  refine wpAny_bind (call.at ?_)
  dsimp only
  rw [tc_bind]
  refine wpAny_bind (wpAny_pure (wpAny_bind (wpAny_pure ?_)))
  refine wpAny_pure (a := Fin.again (.call (.builtin "type.__call__") ⟨[.ref C, v], []⟩)) (And.intro rfl ?_)
  refine codeAny_call_builtin_at (Code.quiet_builtin _ (by decide +kernel)) entry_typeCall (PySem.W.check_slot tc_kind tc_split typ (tc_args _ _ _) ?_)
  unfold Builtin.«type.__call__»
  have hm : Looks (model prog w) h (mroOf (.ref C)) cd.mro := ((Looks.ld (part := none) hC).andThen .now).andThen .now
  repeat (first | simp only [e4, Bool.false_eq_true, if_false] | with_reducible refine wpAny_call ?_ | lk)
  refine lnew_K Y' ?_
  have k : ∀ b o, h.get? b = some o → ((h.push emptyDict).push (accO C h.objs.size [] 0)).get? b = some o := fun b o e => Heap.get?_push_of_some _ (Heap.get?_push_of_some _ e)
  have hx : ((h.push emptyDict).push (accO C h.objs.size [] 0)).get? (h.objs.size + 1) = some (accO C h.objs.size [] 0) := by heap_get
  have t1 : Looks (model prog w) ((h.push emptyDict).push (accO C h.objs.size [] 0)) (typeOf (.ref (h.objs.size + 1))) (.ref C) := (Looks.ld hx).andThen .now
  have s1 := self.keeps k
  have i1 := hi.keeps k
  have b1 := (hb (.ref (h.objs.size + 1))).keeps k
  unfold isInstance callSpecial? specialOf
  repeat (first | with_reducible refine wpAny_call ?_ | lk)
  refine codeAny_mono hq fun r s' z => ?_
  rcases r with e | (v | _ | _ | _) <;> first | exact z | exact z.elim | skip
  obtain ⟨rfl, z⟩ := z
  exact wpAny_pure (wpAny_pure z)
end
section
variable {prog : Program} {w : World} {A : Around} {E : Value → Shared → Prop} {K : Frag} {C : Addr} {s : Shared} {h₀ : Heap} {L : Addr} {m : Mp} {news : Led}
theorem call_acc {v : Value} {fI : Addr} {Q : Value → Shared → Prop} (F : Fr h₀ L s.heap m) (X₀ : K.In h₀) (N : News h₀ L s.heap news) (hm : lmakesIn K C = true) (hi : findIn K (.ref C) "__init__" = some (some (.ref fI))) (hf : isFn K (.ref fI) = true)
    (h : ∀ x dx h', Fr h₀ L h' m → News h₀ L h' ((x, accO C dx [] 0) :: (dx, emptyDict) :: news) → (∀ p ∈ news, p.1 < dx) → dx < x →
      codeAny (model prog w) (A.under (.builtin "type.__call__" ⟨[.ref C, v], []⟩)) (.call (.ref fI) ⟨[.ref x, v], []⟩) (InitBack x fun r s' => match r with | .ok (.ret v) => Q v s' | .ok _ => False | .error e => E e s') { s with heap := h' }) :
    wpAny (model prog w) A (call (.ref C) [v] []) Q E s := by
  have X := X₀.keeps F.keep
  obtain ⟨hh, g, d, t, os⟩ := s
  have := (N.push F emptyDict).push (F.push _) (accO C hh.objs.size [] 0)
  rw [Heap.size_push] at this
  exact wpAny_call (lmake_core (lmakes_of X hm) (looks_findIn X hi) (fun self => bind_fn X self (beq_iff_eq.mp hf)) (h _ hh.objs.size _ ((F.push _).push _) this (fun p hp => Heap.lt_size (N p hp).1) (Nat.lt_succ_self _)))
end
end
section
open PySem PySem.W PySem.Calls PyProof.Rows PySem.Builtin PySem.Builtin.ObjectAttr
theorem refuse_list (self : Value) : refuseLoop self "__setattr__" [.type "list", .type "object"] = pure () := by
  first | kernel_rfl | rfl
/-- a class right over list -/
def lplain (K : Frag) (C : Addr) : Bool := (clsIn K C).any fun cd => cd.mro == [.ref C, .type "list", .type "object"]
section
variable {prog : Program} {w : World} {A : Around} {K : Frag} {C x : Addr} {s : Shared} {h₀ : Heap} {L : Addr} {m : Mp} {news : Led} {R : Result → Shared → Prop}
theorem lsa_open {ox : Obj} {od : Option Obj} {name : Str} {tk : Tok} {v : Value} {r : Option Value} (X : K.In s.heap) (I : InstAt s.heap x ox C od) (hp : lplain K C = true) (ht : takerIn K C name = some r)
    (h : ∀ b, wpAny (model prog w) A.in1 (match r with | some a => setByDescriptor a (.ref x) v | none => storeInOwnDict (.ref x) (.ref C) (.str name tk) name v b)
      (fun fin s' => match fin with | .done f => R (.ok f) s' | .again c' => c'.quiet = true ∧ codeAny (model prog w) A c' R s') (fun e s' => R (.error e) s') s) :
    codeAny (model prog w) A (.call (.builtin "object.__setattr__") ⟨[.ref x, .str name tk, v], []⟩) R s := by
  have SF := PySem.F.store_object
  obtain ⟨cd, hc, ho⟩ := any_some hp
  have hmro : cd.mro = [.ref C, .type "list", .type "object"] := beq_iff_eq.mp ho
  have sub : Looks (model prog w) s.heap (isInstance (.ref x) (.type "object")) true := I.type.andThen (looks_mroIn X (by unfold mroIn; rw [hc, Option.bind_some, hmro]; rfl))
  refine codeAny_call_builtin SF.slot.plain SF.entry (@PySem.W.check_slot (model prog w) _ _ s "object.__setattr__" "object" "__setattr__" (.ref x) [.str name tk, v] [] _ SF.kind SF.split sub (SF.args (.ref x) (.str name tk) v) ?_)
  obtain ⟨attr, ha, hr⟩ := Option.bind_eq_some_iff.mp ht
  have hm : Looks (model prog w) s.heap (mroOf (.ref C)) cd.mro := (looks_clsIn X hc).andThen .now
  have L3 : Looks (model prog w) s.heap (storeTaker? attr) r := by
    cases attr with
    | none => cases hr; exact .now
    | some a =>
      obtain ⟨b, hb, rfl⟩ := Option.map_eq_some_iff.mp hr
      refine (looks_takesIn X hb).andThen ?_
      cases b <;> exact .now
  rw [osa_eq, refuse_eq]
  refine wpAny_bind (wpAny_bind (I.type.here (wpAny_bind (hm.here ?_))))
  rw [hmro, refuseLoop_ref, refuse_list]
  refine wpAny_pure (wpAny_bind (I.type.here (wpAny_bind ((looks_findIn X ha).here (wpAny_bind (L3.here ?_))))))
  exact h _
theorem lsa_dict {ox od od' : Obj} {dx : Addr} {name : Str} {tk : Tok} {v : Value} {es : List DictEntry} {n : Nat} (F : Fr h₀ L s.heap m) (N : News h₀ L s.heap news) (X : K.In s.heap)
    (I : InstAt s.heap x ox C (some od)) (hd : ox.dict = some dx) (hp : lplain K C = true) (ht : takerIn K C name = some none) (hh : (clsIn K C).any (·.hasDict) = true)
    (hl : (lookIn name od).isSome = true) (hm : (dx, od) ∈ news)
    (e : Obj.putName name (PyData.keyHash w.params name) (.str name s.toks) v od = od') (e' : od'.data = .dict es.toArray n) (hz : es.length ≤ 1000)
    (h : ∀ h', Fr h₀ L h' m → News h₀ L h' ((dx, od') :: but dx news) → R (.ok (.ret .none)) { s with heap := h', toks := s.toks + 1 }) :
    codeAny (model prog w) A (.call (.builtin "object.__setattr__") ⟨[.ref x, .str name tk, v], []⟩) R s := by
  refine lsa_open X I hp ht fun b => ?_
  obtain ⟨cd, hc, hd'⟩ := any_some hh
  obtain ⟨U1, U2⟩ := news_upd (pre := []) (post := but dx news) (f := Obj.putName name (PyData.keyHash w.params name) (.str name s.toks) v) F (Mine.News.head N hm) (fun _ hp => nomatch hp) (fun _ hp => (mem_but.mp hp).2) e (by obtain ⟨_, _, dd, _⟩ := od'; cases e'; rfl)
  have D := (N (dx, od) hm).1
  have D' := (U2 (dx, od') (by simp)).1
  obtain ⟨hx, hcl, hn, -⟩ := I
  obtain ⟨oc, odi, oda, osl⟩ := ox
  dsimp only at hcl hd
  subst hcl hd
  refine wpAny_bind (wpAny_pure (wpAny_bind (wpAny_bind (wpAny_loadPart hx (wpAny_bind ((looks_clsIn X hc).here ?_))))))
  rw [hd']
  refine wpAny_pure (a := some dx) (wpAny_bind (wpAny_pure (wpAny_bind ?_)))
  unfold nsSet
  refine wpAny_bind (wpAny_bind (wpAny_askSetting (wpAny_pure (wpAny_bind (wpAny_mkText (wpAny_bind (wpAny_loadPart D ?_)))))))
  unfold lookIn at hl
  split at hl
  · rename_i es₀ n₀ q
    rw [q]
    dsimp only
    have c : (!es₀.any (·.key.isStr name) && es₀.any (·.refKey)) = false := by
      rw [← Array.any_toList, ← Array.any_toList]
      split at hl
      · rename_i en he
        rw [List.any_eq_true.mpr ⟨en, List.mem_of_find?_eq_some he, List.find?_some he⟩]; rfl
      · split at hl
        · cases hl
        · rename_i z; rw [Bool.not_eq_true] at z; rw [z, Bool.and_false]
    rw [aRefKeyMayBeTheName_at, c]
    refine wpAny_updatePart D ?_
    refine wpAny_bind (wpAny_lookBehind D' (by rw [e']; exact pastItsLine_dict (by rw [List.size_toArray, sizeLine_eq]; omega)) ?_)
    exact wpAny_pure (h _ U1 U2)
  · cases hl
theorem acc_set {E : Value → Shared → Prop} {name : Str} {v : Value} {dx : Addr} {vs : List Value} {n : Nat} {Q : Unit → Shared → Prop} (F : Fr h₀ L s.heap m) (X₀ : K.In h₀) (N : News h₀ L s.heap news) (h1 : (x, accO C dx vs n) ∈ news) (h2 : (dx, emptyDict) ∈ news)
    (hs : findIn K (.ref C) "__setattr__" = some (some (.builtin "object.__setattr__"))) (hp : lplain K C = true) (ht : takerIn K C name = some none) (hh : (clsIn K C).any (·.hasDict) = true)
    (h : ∀ h' hsh tk k, Fr h₀ L h' m → News h₀ L h' ((dx, dictOf [⟨hsh, .str name tk, v⟩] 1) :: but dx news) → (x, accO C dx vs n) ∈ but dx news → Q () { s with heap := h', toks := k }) : wpAny (model prog w) A (setAttr (.ref x) name v) Q E s := by
  have I := InstAt.acc N h1 h2
  refine set_plain (X₀.keeps F.keep) I hs ?_
  exact lsa_dict (s := { s with toks := s.toks + 1 }) F N (X₀.keeps F.keep) I rfl hp ht hh rfl h2 rfl rfl (by simp) fun h' F' N' => h h' _ _ _ F' N' (mem_but.mpr ⟨h1, Ne.symm (News.ne N h2 h1 fun z => by cases congrArg Obj.cls z)⟩)
end
end
section
open PySem PySem.W PySem.Calls PyProof.Rows PySem.Builtin PySem.Builtin.Str
noncomputable abbrev prog1 : Program := Challenge.rw_wb0072_01.row.prog
/-- a text without defs: `Top` of it says only what the walk's lines read -/
def view1 : Program := { main := { body := [.Import [⟨Str.ofString "sys", none, default⟩] default], scope := default, futureAnnotations := false, file := default }, modules := [], parses := [], absent := [] }
abbrev loose1 : List Str := [Str.ofString "_sre", Str.ofString "_wall", Str.ofString "tspecials", Str.ofString "_name_disallowed_re", Str.ofString "_value_disallowed_re", Str.ofString "_formatparam", Str.ofString "Headers", Str.ofString "ELLIPSIS_MARKER", Str.ofString "_ellipsis_match", Str.ofString "EMPTYSTRING", Str.ofString "_Accumulator", Str.ofString "_law_spelled", Str.ofString "_law_led", Str.ofString "_law_parts", Str.ofString "_law_some", Str.ofString "law"]
noncomputable abbrev Claim1 (w : World) (mean : ExcName → Option Value) (mg mb : Str → Option Value) := CbClaim prog1 w (Mine.K1 w.params) view1 loose1 mean mg mb
/-- a contract whose end is told by the statement: what the call wants of the state, how it goes on -/
abbrev GClaim1 (w : World) (mean : ExcName → Option Value) (mg mb : Str → Option Value) (room : Nat) (f : Addr) (args : List Value) (kw : List (Str × Value)) (pre : Led → Params → Prop) (post : Heap → Addr → Mp → Led → (Value → Heap → Nat → Prop) → Prop) : Prop :=
  ∀ (dp un : Nat) (gd : Option (List Code)) (cn : Str) (cs : Scope) (a : Addr) (ccd : Value) (cl : List (Str × Addr)) (outer : List Env) (A₀ : Around) (base h₀ : Heap) (L : Addr) (m : Mp) (news : Led) (s : Shared) (Q E : Value → Shared → Prop),
    Below A₀ base outer h₀ → Fr h₀ L s.heap m → (Mine.K1 w.params).In h₀ → News h₀ L s.heap news → Top view1 loose1 mean mg mb h₀ → cs.kind = .function →
    pre news w.params → dp + room < recursionLimit → un + 8 * room < cLine →
    post h₀ L m news (fun v h' tk' => Q v { s with heap := h', toks := tk' }) →
      wpAny (model prog1 w) (ktrTop dp un gd cn cs L a ccd cl outer) (call (.ref f) args kw) Q E s

abbrev instO (C : Addr) (D : Addr) : Obj := { cls := .ref C, dict := some D, data := .plain }
abbrev tupO (vs : List Value) : Obj := { cls := .type "tuple", data := .seq vs.toArray }
structure Row4 where
  a : Addr
  x : Str
  t : Tok
  y : Str
  u : Tok
abbrev Row4.ent (r : Row4) : Addr × Obj := (r.a, tupO [.str r.x r.t, .str r.y r.u])
def TabAt (C : Addr) (_P : Params) (T TD HL : Addr) (n : Nat) (rows : List Row4) (news : Led) : Prop :=
  (T, instO C TD) ∈ news ∧ (∃ h t, (TD, dictOf [⟨h, .str (Str.ofString "_headers") t, .ref HL⟩] 1) ∈ news) ∧ (HL, listOf (rows.map fun r => Value.ref r.a).toArray n) ∈ news ∧ ∀ r ∈ rows, r.ent ∈ news
/-- an accumulator: its items, its first size -/
def AccAt (C : Addr) (P D : Addr) (k : Int) (n : Nat) (rows : List Row4) (news : Led) : Prop :=
  (P, accO C D (rows.map fun r => Value.ref r.a) n) ∈ news ∧ (∃ h t u, (D, sizeO h t k u) ∈ news) ∧ ∀ r ∈ rows, r.ent ∈ news
theorem tup_ne_acc {vs : List Value} {C D : Addr} {us : List Value} {n : Nat} : tupO vs ≠ accO C D us n := fun e => by cases congrArg Obj.cls e
theorem dict_ne_acc {es : List DictEntry} {j : Nat} {C D : Addr} {us : List Value} {n : Nat} : dictOf es j ≠ accO C D us n := fun e => by cases congrArg Obj.cls e
theorem AccAt.grown {C P D : Addr} {k : Int} {n : Nat} {rows : List Row4} {news news' : Led} (H : AccAt C P D k n rows news) (h : ∀ p ∈ news, p ∈ news') : AccAt C P D k n rows news' := by
  obtain ⟨h1, ⟨a, b, c, h2⟩, h3⟩ := H
  exact ⟨h _ h1, ⟨a, b, c, h _ h2⟩, fun r hr => h _ (h3 r hr)⟩
/-- what stands when the accumulator alone is turned -/
theorem AccAt.turned {C P D : Addr} {k : Int} {n n' : Nat} {rows rows' : List Row4} {news : Led} {h₀ h : Heap} {L : Addr} (N : News h₀ L h news) (H : AccAt C P D k n rows news) (hr : ∀ r ∈ rows', r.ent ∈ news) :
    AccAt C P D k n' rows' ((P, accO C D (rows'.map fun r => Value.ref r.a) n') :: but P news) ∧ Kept P news ((P, accO C D (rows'.map fun r => Value.ref r.a) n') :: but P news) := by
  obtain ⟨h1, ⟨a, b, c, h2⟩, h3⟩ := H
  refine ⟨⟨.head _, ⟨a, b, c, .tail _ (mem_but.mpr ⟨h2, News.ne N h2 h1 dict_ne_acc⟩)⟩, fun r hr' => .tail _ (mem_but.mpr ⟨hr r hr', News.ne N (hr r hr') h1 tup_ne_acc⟩)⟩, fun p hp hne => .tail _ (mem_but.mpr ⟨hp, hne⟩)⟩
theorem AccAt.pushed {C P D : Addr} {k : Int} {n : Nat} {rows : List Row4} {news : Led} {h₀ h : Heap} {L a : Addr} {x y : Str} {t u : Tok} (N : News h₀ L h ((a, tupO [.str x t, .str y u]) :: news)) (H : AccAt C P D k n rows news) :
    AccAt C P D k (n + 1) (rows ++ [⟨a, x, t, y, u⟩]) ((P, accO C D ((rows.map fun r => Value.ref r.a) ++ [.ref a]) (n + 1)) :: but P ((a, tupO [.str x t, .str y u]) :: news)) ∧ Kept P news ((P, accO C D ((rows.map fun r => Value.ref r.a) ++ [.ref a]) (n + 1)) :: but P ((a, tupO [.str x t, .str y u]) :: news)) := by
  have H' := H.grown (news' := (a, tupO [.str x t, .str y u]) :: news) fun p hp => .tail _ hp
  have z := H'.turned (n' := n + 1) (rows' := rows ++ [⟨a, x, t, y, u⟩]) N (by
    intro r hr
    rcases List.mem_append.mp hr with hr | hr
    · exact H'.2.2 r hr
    · rw [List.mem_singleton.mp hr]; exact .head _)
  simp only [List.map_append, List.map_cons, List.map_nil] at z
  exact ⟨z.1, fun p hp hne => z.2 p (.tail _ hp) hne⟩
end
section
open PySem PySem.W PySem.Calls PyProof.Rows PySem.Builtin
/-- an object that bears items, of whatever class -/
def SeqAt (h : Heap) (a : Addr) (items : Array Value) : Prop := ∃ o n, h.get? a = some o ∧ o.data = .seq items n
theorem SeqAt.ext {h h' : Heap} {a b : Addr} {items : Array Value} (x : SeqAt h a items) (hs : Heap.ExtBut b h h') (hab : a ≠ b) : SeqAt h' a items :=
  let ⟨o, n, ho, r⟩ := x; ⟨o, n, hs a o hab ho, r⟩
theorem SeqAt.mv {h h' : Heap} {a : Addr} {items : Array Value} (x : SeqAt h a items) (e : ∀ o, h.get? a = some o → h'.get? a = some o) : SeqAt h' a items :=
  let ⟨o, n, ho, r⟩ := x; ⟨o, n, e o ho, r⟩
section
variable {prog : Program} {w : World} {A : Around} {E : Value → Shared → Prop} {s : Shared}
theorem next_item {it l : Addr} {i : Nat} {items : Array Value} {x : Value} {Q : Option Value → Shared → Prop} (hit : s.heap.IsListIter it l i) (hl : SeqAt s.heap l items) (hx : items[i]? = some x)
    (hQ : ∀ h', h'.IsListIter it l (i + 1) → Heap.SameBut it s.heap h' → Q (some x) { s with heap := h' }) : wpAny (model prog w) A (pyNext (.ref it)) Q E s := by
  obtain ⟨o, ho, hc, hd⟩ := id hit
  obtain ⟨ol, nl, hol, hdl⟩ := hl
  unfold pyNext
  refine wpAny_bind (wpAny_attempt (wpAny_callSpecial?_slot (name := Str.ofString "__next__") hit.typeIs slot_listiter_next (wpAny_call_entry slot_listiter_next hit.typeIs entry_listiter_next ?_ (args_listiter_next _))))
  show wpAny _ _ (field (.ref it) 0 >>= _) _ _ s
  refine wpAny_bind (wpAny_field ho hd (x := .ref l) rfl ?_)
  show wpAny _ _ (if (Value.ref l == Value.none) = true then _ else _) _ _ s
  rw [if_neg (show ¬ ((Value.ref l == Value.none) = true) from Bool.false_ne_true)]
  show wpAny _ _ (field (.ref it) 1 >>= _) _ _ s
  refine wpAny_bind (wpAny_field ho hd (x := .int i 0) rfl ?_)
  show wpAny _ _ (seqItems? (.ref l) >>= _) _ _ s
  refine wpAny_bind (wpAny_seqItems hol hdl ?_)
  simp only [Int.toNat_natCast, hx]
  refine wpAny_bind (wpAny_setField ho hd (by simp) (wpAny_pure ⟨x, rfl, wpAny_pure (hQ _ ?_ (Heap.SameBut.update ..))⟩))
  exact ⟨_, Heap.get?_update_self _ ho (Obj.isFreed_of_fields (Obj.data_mapFields hd _)), (Obj.cls_mapFields ..).trans hc, by rw [Obj.data_mapFields hd]; simp [rawInt]⟩
theorem next_end {it l : Addr} {i : Nat} {items : Array Value} {Q : Option Value → Shared → Prop} (hh : A.handled = none) (hit : s.heap.IsListIter it l i) (hl : SeqAt s.heap l items) (hx : items[i]? = none)
    (hQ : ∀ h', Heap.ExtBut it s.heap h' → Q none { s with heap := h' }) : wpAny (model prog w) A (pyNext (.ref it)) Q E s := by
  obtain ⟨o, ho, hc, hd⟩ := id hit
  obtain ⟨ol, nl, hol, hdl⟩ := hl
  unfold pyNext
  refine wpAny_bind (wpAny_attempt (wpAny_callSpecial?_slot (name := Str.ofString "__next__") hit.typeIs slot_listiter_next (wpAny_call_entry slot_listiter_next hit.typeIs entry_listiter_next ?_ (args_listiter_next _))))
  show wpAny _ _ (field (.ref it) 0 >>= _) _ _ s
  refine wpAny_bind (wpAny_field ho hd (x := .ref l) rfl ?_)
  show wpAny _ _ (if (Value.ref l == Value.none) = true then _ else _) _ _ s
  rw [if_neg (show ¬ ((Value.ref l == Value.none) = true) from Bool.false_ne_true)]
  show wpAny _ _ (field (.ref it) 1 >>= _) _ _ s
  refine wpAny_bind (wpAny_field ho hd (x := .int i 0) rfl ?_)
  show wpAny _ _ (seqItems? (.ref l) >>= _) _ _ s
  refine wpAny_bind (wpAny_seqItems hol hdl ?_)
  simp only [Int.toNat_natCast, hx]
  refine wpAny_bind (wpAny_rule (wpAny_bind (wpAny_setField ho hd (by simp) ?_)))
  show wpAny _ _ (newExc (.type "StopIteration") [] >>= _) _ _ _
  refine wpAny_bind ?_
  simp only [newExc, newTuple]
  refine wpAny_bind (wpAny_newObj_type ?_ (by size_fits))
  refine wpAny_bind (m := firstArgMember _ _) (wpAny_of_eq (a := Value.none) (by first | rfl | (simp only [firstArgMember]; rfl)) ?_)
  refine wpAny_newObj_type ?_ (by size_fits)
  simp only [raiseNew]
  refine wpAny_bind (wpAny_handled ?_)
  rw [show A.in1.handled = none from hh]
  refine wpAny_bind (wpAny_pure (wpAny_throw ?_))
  refine wpAny_bind (wpAny_isInstance (T := "StopIteration") (b := true) ⟨_, Heap.get?_push_size _ rfl, rfl⟩ isSubtype_stop ?_)
  exact wpAny_pure (hQ _ (((Heap.SameBut.update ..).extBut.push _).push _))
end
/-- a walk over the tuples that an object bears, by a list iterator -/
theorem walksAcc {prog : Program} {w : World} {A : Around} (hh : A.handled = none) (I ax : Addr) (hne : ax ≠ I) (items : Array Value) (Ts : Nat → Addr) (vals : Nat → Array Value)
    (hit : ∀ j, j < items.size → items[j]? = some (.ref (Ts j))) (hTI : ∀ j, j < items.size → Ts j ≠ I) :
    WalksU prog w A I (I :: ax :: (List.range items.size).map Ts) [I] items.size (fun j v => j < items.size ∧ v = vals j)
      (fun j h => h.IsListIter I ax j ∧ SeqAt h ax items ∧ ∀ k, k < items.size → h.IsTuple (Ts k) (vals k))
      (fun j T h => (j < items.size ∧ T = Ts j) ∧ h.IsListIter I ax (j + 1) ∧ SeqAt h ax items ∧ ∀ k, k < items.size → h.IsTuple (Ts k) (vals k)) where
  sub := fun b hb => by simp at hb; simp [hb]
  frame := fun _ _ _ st hk => ⟨st.1.at fun o e => hk I (by simp) o e, st.2.1.mv fun o e => hk ax (by simp) o e,
    fun k hk' => (st.2.2 k hk').at fun o e => hk (Ts k) (List.mem_cons_of_mem _ (List.mem_cons_of_mem _ (List.mem_map.mpr ⟨k, List.mem_range.mpr hk', rfl⟩))) o e⟩
  item := fun i s Q E hi st hQ => by
    refine next_item st.1 st.2.1 (x := .ref (Ts i)) (hit i hi) fun h' hit' hs' => ?_
    have tup : ∀ k, k < items.size → h'.IsTuple (Ts k) (vals k) := fun k hk' => (st.2.2 k hk').extBut hs'.extBut (hTI k hk')
    exact hQ (Ts i) (vals i) h' s.toks ⟨hi, rfl⟩ (tup i hi) ⟨⟨hi, rfl⟩, hit', st.2.1.ext hs'.extBut hne, tup⟩ fun b o hb e => hs'.extBut b o (fun h => hb (by simp [h])) e
  go := fun _ _ _ _ _ s Q _ hm hQ => wpAny_letOwnedTupleGo_listiter hm.2.1 (hQ s.heap hm.2 fun _ _ _ e => e)
  apart := fun j T _ hm hmem => by
    rcases List.mem_cons.mp hmem with e | e
    · exact hTI j hm.1.1 (hm.1.2 ▸ e)
    · cases e
  done := fun s Q E st hQ => next_end hh st.1 st.2.1 (by simp) fun h' he' => hQ h' s.toks fun b o hb e => he' b o (fun h => hb (by simp [h])) e
  self := fun _ _ _ _ st hQ => wpAny_pyIter_listiter st.1 hQ
section
variable {prog : Program} {w : World} {A : Around} {E : Value → Shared → Prop} {s : Shared} {K : Frag} {P C : Addr} {ox : Obj} {od : Option Obj}
theorem kind_iter : builtinKind "list.__iter__" = some .slot := by decide +kernel
theorem split_iter : splitId "list.__iter__" = some ("list", "__iter__") := by decide +kernel
theorem call_iter {Q : Value → Shared → Prop} (hi : Looks (model prog w) s.heap (isInstance (.ref P) (.type "list")) true)
    (h : Q (.ref s.heap.objs.size) { s with heap := s.heap.push { cls := .type "list_iterator", data := .fields #[.ref P, .int 0 0] } }) : wpAny (model prog w) A (call (.builtin "list.__iter__") [.ref P]) Q E s := by
  refine wpAny_call ?_
  refine codeAny_call_builtin slot_list_iter.plain entry_list_iter ?_
  refine check_slot (i := "list.__iter__") (owner := "list") (n := "__iter__") (self := .ref P) (rest := []) (kw := []) kind_iter split_iter hi (args_list_iter _) ?_
  show wpAny _ _ (do ret (← newFields "list_iterator" [.ref P, rawInt 0])) _ _ s
  exact wpAny_bind (wpAny_newObj_type (wpAny_pure h) (by size_fits))
theorem iter_acc {Q : Value → Shared → Prop} (X : K.In s.heap) (I : InstAt s.heap P ox C od) (hs : findIn K (.ref C) "__iter__" = some (some (.builtin "list.__iter__"))) (hi : subIn K (.ref C) (.type "list") = some true)
    (h : Q (.ref s.heap.objs.size) { s with heap := s.heap.push { cls := .type "list_iterator", data := .fields #[.ref P, .int 0 0] } }) : wpAny (model prog w) A (pyIter (.ref P)) Q E s := by
  unfold pyIter
  refine wpAny_bind (wpAny_bind (I.type.here ((looks_findIn X hs).here ?_)))
  show wpAny _ A (callSpecialIfBoundUnlessNone? (.ref P) "__iter__" _ >>= _) Q E s
  refine wpAny_bind ?_
  simp only [callSpecialIfBoundUnlessNone?, bindSpecialIfBound?]
  refine wpAny_holding (wpAny_bind (wpAny_bind (wpAny_bind (I.type.here ((looks_findIn X hs).here ?_)))))
  simp only [slot_list_iter.bind]
  refine wpAny_bind (wpAny_askSetting (wpAny_ite ?_))
  have fin : ∀ (rf : Sem Value) (Q' : Option Value → Shared → Prop), Q' (some (.ref s.heap.objs.size)) { s with heap := s.heap.push { cls := .type "list_iterator", data := .fields #[.ref P, .int 0 0] } } → wpAny (model prog w) A (if (Value.builtin "list.__iter__" == Value.none) = true then (rf >>= fun v => pure (some v)) else (call (.builtin "list.__iter__") [.ref P] >>= fun v => pure (some v))) Q' E s := by
    intro rf Q' hq
    simp only [builtin_beq_none, Bool.false_eq_true, if_false]
    exact wpAny_bind (call_iter (I.type.andThen (looks_subIn X hi)) (wpAny_pure hq))
  split
  · refine wpAny_bind (wpAny_pure (wpAny_pure (fin _ _ ?_)))
    exact wpAny_bind (wpAny_specialOf (T := "list_iterator") ⟨_, Heap.get?_push_size _ rfl, rfl⟩ slot_listiter_next.lookup (wpAny_pure h))
  · refine wpAny_tryCatch (wpAny_bind (wpAny_pure (wpAny_pure (fin _ _ ?_))))
    exact wpAny_bind (wpAny_specialOf (T := "list_iterator") ⟨_, Heap.get?_push_size _ rfl, rfl⟩ slot_listiter_next.lookup (wpAny_pure h))
end
end
section
open PySem PySem.W PySem.Calls PyProof.Rows PySem.Builtin
/-- a code object's table -/
abbrev tabO (ps : Array Value) : Obj := { cls := .none, data := .fields ps }
def CodeK (K : Frag) (c Pt : Addr) : Prop := ∃ o vs file tf flags tg inF text tt, K.lookup c = some o ∧ o.cls = .type "code" ∧ o.data = .fields vs ∧ vs[11]? = some (.ref Pt) ∧ vs.getD 11 .none = .ref Pt ∧ vs.getD 18 .none = .str file tf ∧ vs.getD 7 .none = .int flags tg ∧ vs.getD 9 .none = .bool inF ∧ vs.getD 10 .none = .int text tt
section
variable {prog : Program} {w : World} {A : Around} {E : Value → Shared → Prop} {s : Shared} {K : Frag} {h₀ : Heap} {L P C D c Pt : Addr} {m : Mp} {news : Led} {od : Obj} {n : Nat} {ps : Array Value} {p : Program} {loose : List Str} {mean : ExcName → Option Value} {mg mb : Mp}
theorem passing_all (k : Nat) : passing (fun _ => true) k 0 = List.range k := by unfold passing; simp
theorem WalksS_mono {I : Addr} {fp wr : List Addr} {G : Array GenState → Array GenState → Prop} {n : Nat} {P P' : Nat → Value → Prop} {St : Nat → Shared → Prop} (W : WalksS prog w A I fp wr G n P St) (h : ∀ i v, P i v → P' i v) : WalksS prog w A I fp wr G n P' St where
  sub := W.sub
  grefl := W.grefl
  gtrans := W.gtrans
  frame := W.frame
  item := fun i s Q E hi st hQ => W.item i s Q E hi st fun v s' hp => hQ v s' (h _ _ hp)
  done := W.done
  self := W.self
theorem codeK_at {h : Heap} (H : CodeK K c Pt) (X : K.In h) (ht : h.get? Pt = some (tabO ps)) (ok : TriplesOk ps.toList) (hne : c ≠ Pt) : h.IsCode c Pt ps ∧ h.TableAt c Pt ps := by
  obtain ⟨o, vs, file, tf, flags, tg, inF, text, tt, h1, h2, h3, h4, h5, h6, h7, h8, h9⟩ := H
  exact ⟨⟨o, vs, file, tf, flags, tg, inF, text, tt, _, X _ _ h1, h3, h5, h6, h7, h8, h9, ht, rfl, ok, hne⟩, ⟨⟨o, vs, X _ _ h1, h2, h3, h4⟩, ht⟩⟩
theorem gen_acc {env : Env} {elt iter : Expr} {xa xb : Str} {pa pb pt : Pos} {kt : Nat} {scope : Scope} {cl : List (Str × Addr)} {pos : Pos} {rows : List Row4} {Fv : Row4 → Value → Prop} {Q : Value → Shared → Prop}
    (F : Fr h₀ L s.heap m) (X₀ : K.In h₀) (T : Top p loose mean mg mb h₀) (N : News h₀ L s.heap news) (h1 : (P, accO C D (rows.map fun r => Value.ref r.a) n) ∈ news) (h2 : (D, od) ∈ news) (h3 : ∀ r ∈ rows, r.ent ∈ news)
    (ht : (Pt, tabO ps) ∈ news) (hc : CodeK K c Pt) (ok : TriplesOk ps.toList) (hnf : codeAmong pos ps.toList = none) (G : AllBare s.gens) (hcode : env.code = .ref c) (hglob : env.globals = mainGlobals)
    (hs : findIn K (.ref C) "__iter__" = some (some (.builtin "list.__iter__"))) (hi : subIn K (.ref C) (.type "list") = some true)
    (hh : A.handled = none) (hco : scope.isCoroutine = false) (hclos : closureFor scope env = pure cl) (hcell : ∀ y ∈ scope.names, y.2 ≠ .cell) (h0 : scope.names.lookup (".0" : Str) = some NameKind.local)
    (hxa : scope.names.lookup xa = some .local) (hxb : scope.names.lookup xb = some .local) (hab : xa ≠ xb) (hkind : scope.kind = .function) (hroom : A.depth < recursionLimit)
    (hit : ∀ Q', Q' (.ref P) s → wpAny (model prog w) A (eval iter env) Q' E s)
    (helt : ∀ (c' Cc : Addr) (A' : Around) E' (r : Row4) (t : Shared) m₂, A'.handled = none → r ∈ rows → Fr h₀ Cc t.heap m₂ → m₂ xa = some (.str r.x r.t) → m₂ xb = some (.str r.y r.u) →
      wpAny (model prog w) A' (eval elt (genEnv scope cl Cc (.ref c') builtinsNs env)) (fun y s₃ => Fv r y ∧ Keeps t s₃) E' t)
    (h : ∀ a s₅ c', Fr h₀ L s₅.heap m → News h₀ L s₅.heap ((Pt, tabO (ps ++ #[rawInt pos.line, rawInt pos.col, .ref c'])) :: but Pt news) → AllBare s₅.gens → s₅.os = s.os → s₅.drawn = s.drawn →
      Gen prog w A (s.heap.objs.size - 1) a rows.length (fun j y => ∃ r, rows[j]? = some r ∧ Fv r y) s₅ → Q (.ref a) s₅)
    (hsf : ∀ x, genFold iter env x = pure x) :
    wpAny (model prog w) A (eval (.GeneratorExp elt [⟨.Tuple [.Name xa pa, .Name xb pb] kt pt, iter, [], 0⟩] scope pos) env) Q E s := by
  have X : K.In s.heap := X₀.keeps F.keep
  have I := InstAt.acc N h1 h2
  obtain ⟨bm, ob, M⟩ := bmod_of_top T
  have hcPt : c ≠ Pt := fun e => by
    obtain ⟨o, _, _, _, _, _, _, _, _, hk, _⟩ := hc
    have := X₀ _ _ hk
    rw [e, (N _ ht).2.2] at this; cases this
  have hlim : s.heap.NoLimit := T.nolimit.keeps F.keep
  have hcs : cStatics ≠ Pt := fun e => by
    obtain ⟨_, hns, _⟩ := T.nolimit
    obtain ⟨o, es, ep, ho, hd, _⟩ := hns
    rw [e, (N _ ht).2.2] at ho; cases ho
  have hlt : ∀ q ∈ news, q.1 < s.heap.objs.size := fun q hq => Heap.lt_size (N q hq).1
  have hPI : P ≠ s.heap.objs.size := Nat.ne_of_lt (hlt _ h1)
  have hL : L < s.heap.objs.size := F.ns.lt
  let Ts : Nat → Addr := fun j => ((rows[j]?).map (·.a)).getD 0
  let vals : Nat → Array Value := fun j => ((rows[j]?).map fun r => #[Value.str r.x r.t, Value.str r.y r.u]).getD #[.none, .none]
  have hsz : ((rows.map fun r => Value.ref r.a).toArray).size = rows.length := by simp
  have hTs : ∀ j, j < rows.length → ∃ r, r ∈ rows ∧ rows[j]? = some r ∧ Ts j = r.a ∧ vals j = #[.str r.x r.t, .str r.y r.u] := fun j hj => by
    refine ⟨rows[j], List.getElem_mem hj, List.getElem?_eq_getElem hj, ?_, ?_⟩
    · show ((rows[j]?).map (·.a)).getD 0 = _
      rw [List.getElem?_eq_getElem hj]; rfl
    · show ((rows[j]?).map _).getD _ = _
      rw [List.getElem?_eq_getElem hj]; rfl
  have F2 := F.push { cls := .type "list_iterator", data := .fields #[.ref P, .int 0 0] }
  have N2 : News h₀ L (s.heap.push { cls := .type "list_iterator", data := .fields #[.ref P, .int 0 0] }) news := N.grown fun _ _ e => Heap.get?_push_of_some _ e
  have hsz2 : (s.heap.push { cls := .type "list_iterator", data := .fields #[.ref P, .int 0 0] }).objs.size = s.heap.objs.size + 1 := Heap.size_push ..
  have cod := codeK_at hc (X₀.keeps F2.keep) (N2 _ ht).1 ok hcPt
  refine wpAny_GeneratorExp_walksQTD hh hco hclos hcell h0 hxa hxb hab hkind hroom (hit _ (iter_acc X I hs hi ?_)) hsf
  refine ⟨hlim.push _, wpAny_genexprCodeX hcode cod.1 cod.2 hnf fun c' h₃ tk₃ hx₃ hge hlt₃ hcode₃ _ htab₃ _ => ?_⟩
  have hszz : s.heap.objs.size + 1 ≤ h₃.objs.size := by rw [← hsz2]; exact Nat.le_trans hge (Nat.le_of_lt hlt₃)
  have hPtn : ∀ b o, h₀.get? b = some o → b ≠ Pt := fun b o e e' => by rw [e', (N _ ht).2.2] at e; cases e
  have F3 : Fr h₀ L h₃ m := ⟨F2.ns.extBut hx₃ (Ne.symm (N _ ht).2.1), fun b o e => hx₃ b o (hPtn b o e) (F2.keep b o e), F.above⟩
  have N3 : News h₀ L h₃ ((Pt, tabO (ps ++ #[rawInt pos.line, rawInt pos.col, .ref c'])) :: but Pt news) := fun q hq => by
    rcases List.mem_cons.mp hq with rfl | hq
    · exact ⟨htab₃.2, (N _ ht).2⟩
    · have z := mem_but.mp hq
      exact ⟨hx₃ _ _ z.2 (N2 _ z.1).1, (N2 _ z.1).2⟩
  have M3 : BMod h₃ env.globals mg bm ob := hglob ▸ M.keeps F3.keep
  refine wpAny_builtinsFor M3.ns M3.name M3.ne M3.obj M3.cls M3.dict M3.data ?_
  have hPP : P ≠ Pt := News.ne N h1 ht fun e => by cases congrArg Obj.cls e
  refine ⟨s.heap.objs.size, _, [s.heap.objs.size], _, _, _, _, fun _ => true, fun i y => ∃ r, rows[i]? = some r ∧ Fv r y, rfl,
    fun A' hA => walksAcc hA s.heap.objs.size P hPI (rows.map fun r => Value.ref r.a).toArray Ts vals (fun j hj => ?g1) (fun j hj => ?g2), ?g3, ?g4, ?g5, ?g6, ?g7, fun href hhref => ⟨?g8, ?g9⟩, ?g10⟩
  case g1 =>
    have hj' : j < rows.length := hsz ▸ hj
    obtain ⟨r, _, e, e2, _⟩ := hTs j hj'
    rw [e2]
    simp [e]
  case g2 =>
    have hj' : j < rows.length := hsz ▸ hj
    obtain ⟨r, hr, e, e2, _⟩ := hTs j hj'
    rw [e2]
    exact Nat.ne_of_lt (hlt _ (h3 r hr))
  case g3 =>
    rintro i v ⟨hi', rfl⟩
    obtain ⟨r, _, _, _, e3⟩ := hTs i (hsz ▸ hi')
    exact ⟨_, _, e3⟩
  case g4 =>
   refine ⟨?_, ?_, ?_⟩
   · exact ⟨_, hx₃ _ _ (Ne.symm (Nat.ne_of_lt (hlt _ ht))) (Heap.get?_push_size _ rfl), rfl, rfl⟩
   · exact ⟨_, _, (N3 _ (.tail _ (mem_but.mpr ⟨h1, hPP⟩))).1, rfl⟩
   · intro k hk
     obtain ⟨r, hr, e, e2, e3⟩ := hTs k (hsz ▸ hk)
     rw [e2, e3]
     exact ⟨_, (N3 _ (.tail _ (mem_but.mpr ⟨h3 r hr, News.ne N (h3 r hr) ht fun z => by cases congrArg Obj.cls z⟩))).1, rfl, _, rfl⟩
  case g5 =>
    intro b hb
    rcases List.mem_cons.mp hb with rfl | hb
    · exact hszz
    · rcases List.mem_cons.mp hb with rfl | hb
      · exact Nat.lt_of_lt_of_le (hlt _ h1) (Nat.le_of_succ_le hszz)
      · obtain ⟨k, hk, rfl⟩ := List.mem_map.mp hb
        obtain ⟨r, hr, e, e2, e3⟩ := hTs k (hsz ▸ List.mem_range.mp hk)
        rw [e2]
        exact Nat.lt_of_lt_of_le (hlt _ (h3 r hr)) (Nat.le_of_succ_le hszz)
  case g6 =>
    exact T.nolimit.keeps F3.keep
  case g7 =>
    intro hm
    obtain ⟨_, hn, _⟩ := hlim
    rcases List.mem_cons.mp hm with e | e
    · exact absurd (e ▸ hn.lt) (Nat.lt_irrefl _)
    · cases e
  case g8 =>
    intro A' E' i va vb t m₂ hA hD hU hP hn hma hmb hkp
    exact wpAny_pure ⟨rfl, _, _, rfl, fun _ _ e => e⟩
  case g9 =>
    intro A' E' i va vb t m₂ hA hD hU hP _ hn hma hmb hkp
    obtain ⟨hi', hv⟩ := hP
    obtain ⟨r, hr, e, e2, e3⟩ := hTs i (hsz ▸ hi')
    have ev : (#[va, vb] : Array Value) = #[.str r.x r.t, .str r.y r.u] := hv.trans e3
    obtain ⟨rfl, rfl⟩ : va = .str r.x r.t ∧ vb = .str r.y r.u := by simpa using congrArg Array.toList ev
    refine wpAny_mono (helt c' h₃.objs.size A' E' r t m₂ hA hr ⟨hn, fun b o e => ?_, ?_⟩ hma hmb) (fun y s₃ hy => ⟨⟨r, e, hy.1⟩, hy.2⟩) fun _ _ z => z
    · have e3' := F3.keep b o e
      refine hkp b (List.mem_range.mpr (Heap.lt_size e3')) (fun hm => ?_) o (hhref b o e3')
      rcases List.mem_cons.mp hm with e' | e'
      · exact absurd (e' ▸ (Nat.lt_of_lt_of_le (Heap.lt_size e) (Nat.le_trans F.above (Nat.le_of_lt hL)))) (Nat.lt_irrefl _)
      · cases e'
    · exact Nat.le_trans F.above (Nat.le_of_lt (Nat.lt_of_lt_of_le hL (Nat.le_of_succ_le hszz)))
  case g10 =>
    intro a h₅ tk gs hgb hag hsz₅ hk₅ W hat
    have W2 := WalksS_mono (P' := fun j y => ∃ r, rows[j]? = some r ∧ Fv r y) W (fun j y hj => by
      obtain ⟨i, e, hr⟩ := hj
      rw [passing_all] at e
      have : i = j := by
        obtain ⟨hl, e'⟩ := List.getElem?_eq_some_iff.mp e
        rw [List.getElem_range] at e'
        exact e'.symm
      exact this ▸ hr)
    have hlen : (passing (fun _ => true) ((rows.map fun r => Value.ref r.a).toArray).size 0).length = rows.length := by rw [passing_all, List.length_range, hsz]
    rw [hlen] at W2
    refine h a _ c' (F3.keeps hk₅) (N3.grown fun _ _ e => hk₅ _ _ e) (G.push hgb) rfl rfl ⟨_, _, _, _, W2, hat, fun i s' st => st.1.typeIs, List.mem_cons_self, ?_, ?_⟩
    · intro b hb
      show b < h₅.objs.size
      rw [hsz₅]
      rcases List.mem_cons.mp hb with rfl | hb
      · exact Nat.lt_succ_self _
      · rcases List.mem_cons.mp hb with rfl | hb
        · exact Nat.lt_succ_of_lt hag
        · exact Nat.lt_succ_of_lt (Nat.lt_trans (List.mem_range.mp hb) hag)
    · intro b hb
      rcases List.mem_cons.mp hb with rfl | hb
      · show s.heap.objs.size - 1 < h₃.objs.size
        omega
      · rcases List.mem_cons.mp hb with rfl | hb
        · exact Nat.sub_lt (Nat.zero_lt_of_lt hL) Nat.one_pos
        · cases hb
end
end
section
open PySem PySem.W PySem.Calls PyProof.Rows PySem.Builtin
section
variable {prog : Program} {w : World} {A : Around} {E : Value → Shared → Prop} {s : Shared} {h₀ : Heap} {L a Kb : Addr} {m : Mp} {news : Led} {n : Nat}
def shSt (St : Nat → Shared → Prop) : Nat → Shared → Prop
  | 0, _ => False
  | i + 1, s => St i s
def shP (P : Nat → Value → Prop) : Nat → Value → Prop
  | 0, _ => False
  | i + 1, v => P i v
def shV (k : Int) (val : Nat → Int) : Nat → Int
  | 0 => k
  | i + 1 => val i
theorem shV_sum (k : Int) (val : Nat → Int) : ∀ n, preSum (shV k val) (n + 1) = k + preSum val n
  | 0 => by show (0 : Int) + k = k + 0; omega
  | n + 1 => by
    show preSum (shV k val) (n + 1) + val n = k + (preSum val n + val n)
    rw [shV_sum k val n]; omega
theorem WalksS_shift {I : Addr} {fp wr : List Addr} {G : Array GenState → Array GenState → Prop} {P : Nat → Value → Prop} {St : Nat → Shared → Prop} (W : WalksS prog w A I fp wr G n P St) : WalksS prog w A I fp wr G (n + 1) (shP P) (shSt St) where
  sub := W.sub
  grefl := W.grefl
  gtrans := W.gtrans
  frame := fun i s h' tk hst ht hk => match i, hst with
    | i + 1, hst => W.frame i s h' tk hst ht hk
  item := fun i s Q E hi hst hQ => match i, hst, hi, hQ with
    | i + 1, hst, hi, hQ => W.item i s Q E (by omega) hst fun v s' hp hs hm => hQ v s' hp hs hm
  done := fun s Q E hst hQ => W.done s Q E hst hQ
  self := fun i s Q E hst hQ => match i, hst with
    | i + 1, hst => W.self i s Q E hst hQ
theorem News.grownB {h₀ h h' : Heap} {L : Addr} {news : Led} (N : News h₀ L h news) (hk : ∀ q ∈ news, h'.get? q.1 = some q.2) : News h₀ L h' news := fun q hq => ⟨hk q hq, (N q hq).2⟩
theorem args_sum2 (a b : Value) : argsOk "sum" ⟨[a, b], []⟩ := by unfold argsOk; kernel_rfl
theorem call_sum_start {I : Addr} {fp wr : List Addr} {G : Array GenState → Array GenState → Prop} {P : Nat → Value → Prop} {St : Nat → Shared → Prop} {k : Int} {tk : Tok} {val : Nat → Int} {Q : Value → Shared → Prop}
    (W : WalksS prog w A.in1 I fp wr G n P St) (hst : St 0 s) (hfp : ∀ b ∈ fp, b < s.heap.objs.size) (hval : ∀ i v, P i v → ∃ t, v = .int (val i) t)
    (hQ : ∀ s' t', Moved wr G s s' → Q (.int (k + preSum val n) t') s') : wpAny (model prog w) A (call (.builtin "sum") [.ref I, .int k tk]) Q E s := by
  refine call_function_tree F.kind_sum F.plain_sum F.entry_sum (args_sum2 _ _) ?_
  unfold Builtin.«sum»
  simp only [List.length_cons, List.length_nil]
  rw [if_neg (by decide)]
  refine wpAny_bind (wpAny_of_eq (show Builtin.Builtins.bindParams "sum" ["start"] 0 ⟨[.int k tk], []⟩ = pure [some (.int k tk)] from rfl) ?_)
  refine wpAny_bind (W.self 0 _ _ _ hst ?_)
  dsimp only
  have W' := WalksS_shift W
  have hval' : ∀ i v, shP P i v → ∃ t, v = .int (shV k val i) t := fun i v => match i with
    | 0 => fun h => h.elim
    | i + 1 => hval i v
  have hSf : s.heap.objs.size ∉ fp := fun hm => Nat.lt_irrefl _ (hfp _ hm)
  have e1 : preSum (shV k val) 1 = k := by show (0 : Int) + k = k; omega
  split
  · refine wpAny_bind (wpAny_rule (wpAny_bind (wpAny_mkInt (wpAny_bind (wpAny_pure ?_)))))
    simp only [List.forIn_cons, List.forIn_nil]
    refine wpAny_bind (wpAny_bind (wpAny_bind (wpAny_isInstance (T := "int") (b := false) (typeIs_int _ _ _) PySem.sub_int_str ?_)))
    simp only [Bool.false_eq_true, if_false]
    refine wpAny_pure (wpAny_bind (wpAny_bind (wpAny_isInstance (T := "int") (b := false) (typeIs_int _ _ _) PySem.sub_int_bytes ?_)))
    simp only [Bool.false_eq_true, if_false]
    refine wpAny_pure (wpAny_bind (wpAny_bind (wpAny_isInstance (T := "int") (b := false) (typeIs_int _ _ _) PySem.sub_int_bytearray ?_)))
    simp only [Bool.false_eq_true, if_false]
    refine wpAny_pure (wpAny_pure ?_)
    refine wpAny_bind (wpAny_newObj_type ?_)
    refine wpAny_pure ⟨plainId_quiet F.plain_sum_loop _, codeAny_sum_loopAnyS W' (shV k val) hval' s.heap.objs.size hSf n 1 _ s.toks 0 0 (.inl rfl) (by omega) (by omega)
      (W.frame 0 s _ _ hst (by first | exact Nat.le_refl _ | exact Nat.le_succ _ | omega) fun b _ o e => Heap.get?_push_of_some _ e) ((Heap.get?_push_size _ rfl).trans (by rw [e1])) fun s' t' hm => ?_⟩
    rw [shV_sum]
    exact hQ s' t' (hm.drop_new (by first | exact Nat.le_refl _ | exact Nat.le_succ _ | omega))
  · refine wpAny_bind (wpAny_pure ?_)
    simp only [List.forIn_cons, List.forIn_nil]
    refine wpAny_bind (wpAny_bind (wpAny_bind (wpAny_isInstance (T := "int") (b := false) (typeIs_int _ _ _) PySem.sub_int_str ?_)))
    simp only [Bool.false_eq_true, if_false]
    refine wpAny_pure (wpAny_bind (wpAny_bind (wpAny_isInstance (T := "int") (b := false) (typeIs_int _ _ _) PySem.sub_int_bytes ?_)))
    simp only [Bool.false_eq_true, if_false]
    refine wpAny_pure (wpAny_bind (wpAny_bind (wpAny_isInstance (T := "int") (b := false) (typeIs_int _ _ _) PySem.sub_int_bytearray ?_)))
    simp only [Bool.false_eq_true, if_false]
    refine wpAny_pure (wpAny_pure ?_)
    refine wpAny_bind (wpAny_newObj_type ?_)
    refine wpAny_pure ⟨plainId_quiet F.plain_sum_loop _, codeAny_sum_loopAnyS W' (shV k val) hval' s.heap.objs.size hSf n 1 _ tk 0 2 (.inr rfl) (by omega) (by omega)
      (W.frame 0 s _ _ hst (by first | exact Nat.le_refl _ | exact Nat.le_succ _ | omega) fun b _ o e => Heap.get?_push_of_some _ e) ((Heap.get?_push_size _ rfl).trans (by rw [e1])) fun s' t' hm => ?_⟩
    rw [shV_sum]
    exact hQ s' t' (hm.drop_new (by first | exact Nat.le_refl _ | exact Nat.le_succ _ | omega))

theorem sum_gen {F : Nat → Value → Prop} {k : Int} {tk : Tok} {val : Nat → Int} {Q : Value → Shared → Prop} (Fh : Fr h₀ L s.heap m) (N : News h₀ L s.heap news) (hb : ∀ q ∈ news, q.1 ≤ Kb) (hLK : L ≤ Kb) (G : AllBare s.gens) (X : Gen prog w A Kb a n F s)
    (hval : ∀ j v, F j v → ∃ t, v = .int (val j) t)
    (hQ : ∀ s' t', Fr h₀ L s'.heap m → News h₀ L s'.heap news → AllBare s'.gens → s'.os = s.os → s'.drawn = s.drawn → Q (.int (k + preSum val n) t') s') : wpAny (model prog w) A (call (.builtin "sum") [.ref a, .int k tk]) Q E s := by
  obtain ⟨fp, wr, g, St, W, hst, _, _, hfp, hwr⟩ := X
  exact call_sum_start W.in4_1 hst hfp hval fun s' t' hm => hQ s' t' (Fh.moved hm fun b hb => Nat.lt_of_le_of_lt hLK (hwr b hb))
    (News.grownB N fun q hq => hm.heap _ _ (fun hmem => Nat.lt_irrefl _ (Nat.lt_of_lt_of_le (hwr _ hmem) (hb q hq))) (N q hq).1) (G.movedS hm) hm.os hm.drawn
theorem elt_len {E : Value → Shared → Prop} {scope : Scope} {cl : List (Str × Addr)} {Cc c' : Addr} {env : Env} {fa fb : Str} {p1 p2 p3 p4 p5 p6 p7 : Pos} {x y : Str} {t u : Tok} {m₂ mg mb : Mp} {p : Program} {loose : List Str} {mean : ExcName → Option Value} {t₀ : Shared}
    (F₂ : Fr h₀ Cc t₀.heap m₂) (T : Top p loose mean mg mb h₀) (ma : m₂ fa = some (.str x t)) (mb' : m₂ fb = some (.str y u)) (hx : x.length ≤ 100000) (hy : y.length ≤ 100000)
    (hlen : mg "len" = none) (hg : env.globals = mainGlobals) (hk : scope.kind = .function)
    (ka : (genEnv scope cl Cc (.ref c') builtinsNs env).kindOf fa = some .local) (kb : (genEnv scope cl Cc (.ref c') builtinsNs env).kindOf fb = some .local) (kl : (genEnv scope cl Cc (.ref c') builtinsNs env).kindOf "len" = some .globalImplicit)
    (da : (fa == ("__debug__" : Str)) = false) (db : (fb == ("__debug__" : Str)) = false) :
    wpAny (model prog w) A (eval (.BinOp (.Call (.Name "len" p1) [.Name fa p2] [] p3) .Add (.Call (.Name "len" p4) [.Name fb p5] [] p6) p7) (genEnv scope cl Cc (.ref c') builtinsNs env)) (fun y' s₃ => (∃ t, y' = .int (x.length + y.length) t) ∧ Keeps t₀ s₃) E t₀ := by
  have lenName : ∀ {pp : Pos} {s' : Shared} {Q : Value → Shared → Prop}, (∀ b o, t₀.heap.get? b = some o → s'.heap.get? b = some o) → Q (.builtin "len") s' → wpAny (model prog w) A (eval (.Name "len" pp) (genEnv scope cl Cc (.ref c') builtinsNs env)) Q E s' := by
    intro pp s' Q hkk hq
    refine Name_function_global hk kl (loadGlobal_builtin (env := genEnv scope cl Cc (.ref c') builtinsNs env) (show s'.heap.Ns env.globals mg from hg ▸ T.g.keeps fun b o e => hkk b o (F₂.keep b o e)) hlen (T.b.keeps fun b o e => hkk b o (F₂.keep b o e)) ((T.builtins "len" (by decide)).trans (by boot_fast)) hq) (by decide)
  refine wpAny_BinOp ?_
  refine Call_Name1 (lenName (fun _ _ e => e) (callWith_builtin1 (ldVarG F₂ ma ?_ hk ka da))) (by rfl)
  refine len_str (by omega) ?_
  refine Call_Name1 (lenName (fun _ _ e => e) (callWith_builtin1 (ldVarG (s := { t₀ with toks := t₀.toks + 1 + 1 }) F₂ mb' ?_ hk kb db))) (by rfl)
  refine len_str (by omega) ?_
  exact wpAny_add_int ⟨⟨_, rfl⟩, _, _, rfl, fun _ _ e => e⟩
theorem Gen_later {F : Nat → Value → Prop} {tk : Nat} (X : Gen prog w A Kb a n F s) (h : s.toks ≤ tk) : Gen prog w A Kb a n F { s with toks := tk } := by
  obtain ⟨fp, wr, g, St, W, hst, hT, ha, hfp, hwr⟩ := X
  exact ⟨fp, wr, g, St, W, W.frame 0 s s.heap tk hst h (fun _ _ _ e => e), hT, ha, hfp, hwr⟩
theorem preSum_rows (rows : List Row4) (f : Row4 → Int) : ∀ n, preSum (fun j => ((rows[j]?).map f).getD 0) n = ((rows.take n).map f).sum
  | 0 => rfl
  | n + 1 => by
    show preSum _ n + ((rows[n]?).map f).getD 0 = _
    rw [preSum_rows rows f n, List.take_add_one, List.map_append, List.sum_append]
    cases rows[n]? with
    | none => simp
    | some r => simp
end
end
section
open PySem PySem.W PySem.Calls PyProof.Rows PySem.Builtin
section
variable {prog : Program} {w : World} {A : Around} {s : Shared} {h₀ : Heap}
theorem elt_join {E : Value → Shared → Prop} {scope : Scope} {cl : List (Str × Addr)} {Cc c' : Addr} {env : Env} {fa fb fe : Str} {p1 p2 p3 p4 p5 p6 : Pos} {kt : Nat} {x y : Str} {t u te : Tok} {m₂ mg mb : Mp} {p : Program} {loose : List Str} {mean : ExcName → Option Value} {t₀ : Shared}
    (F₂ : Fr h₀ Cc t₀.heap m₂) (T : Top p loose mean mg mb h₀) (ma : m₂ fa = some (.str x t)) (mb' : m₂ fb = some (.str y u)) (hx : x.length ≤ 100000) (hy : y.length ≤ 100000)
    (hE : mg fe = some (.str "" te)) (hg : env.globals = mainGlobals) (hk : scope.kind = .function)
    (ka : (genEnv scope cl Cc (.ref c') builtinsNs env).kindOf fa = some .local) (kb : (genEnv scope cl Cc (.ref c') builtinsNs env).kindOf fb = some .local) (ke : (genEnv scope cl Cc (.ref c') builtinsNs env).kindOf fe = some .globalImplicit)
    (da : (fa == ("__debug__" : Str)) = false) (db : (fb == ("__debug__" : Str)) = false) (de : (fe == ("__debug__" : Str)) = false) (hline : (p2.endLine == p6.line) = true) :
    wpAny (model prog w) A (eval (.Call (.Attribute (.Name fe p1) "join" p2) [.Tuple [.Name fa p3, .Name fb p4] kt p5] [] p6) (genEnv scope cl Cc (.ref c') builtinsNs env)) (fun y' s₃ => (∃ t, y' = .str (Txt.join "" [x, y]) t) ∧ Keeps t₀ s₃) E t₀ := by
  refine Call_method1 (by rfl) (by rfl) hline ?_
  refine Name_function_global hk ke (loadGlobal_global (env := genEnv scope cl Cc (.ref c') builtinsNs env) (show t₀.heap.Ns env.globals mg from hg ▸ T.g.keeps fun b o e => F₂.keep b o e) hE ?_) de
  refine ⟨"str", "str.join", PySem.F.plainAttrs_str, PySem.F.slot_str_join, PySem.F.type_str_join, typeIs_str _ _ _, (fun _ e => nomatch e), ?_⟩
  refine callWith_builtin_kwB rfl rfl ?_
  refine evalArgs_plain (spliced_cons ?_)
  refine wpAny_Tuple_spliced ?_
  refine spliced_cons (ldVarG F₂ ma ?_ hk ka da)
  refine spliced_cons (ldVarG F₂ mb' ?_ hk kb db)
  refine spliced_nil ⟨by have := sizeLine_eq; simp; omega, ?_⟩
  refine spliced_nil ?_
  refine join_tuple (ys := [x, y]) (D := t₀.heap.objs.size) (items := #[.str x t, .str y u]) ⟨_, Heap.get?_push_size _ rfl, rfl, _, rfl⟩ (.cons _ _ (.cons _ _ .nil)) ?_ fun t' k => ?_
  · have e0 : (Str.ofString "").length = 0 := by rfl
    simp [e0]; omega
  · exact ⟨⟨_, rfl⟩, _, _, rfl, fun b o e => Heap.get?_push_of_some _ e⟩
theorem join_gen' {L a Kb : Addr} {m : Mp} {news : Led} {n : Nat} {E : Value → Shared → Prop} {F : Nat → Value → Prop} {sep : Str} {t : Tok} {tx : Nat → Str} {Q : Value → Shared → Prop} (Fh : Fr h₀ L s.heap m) (N : News h₀ L s.heap news) (hb : ∀ q ∈ news, q.1 ≤ Kb) (hLK : L ≤ Kb) (G : AllBare s.gens) (X : Gen prog w A Kb a n F s)
    (htx : ∀ j v, F j v → ∃ u, v = .str (tx j) u) (hok : JoinOk sep ((List.range n).map tx) = true) (hz : n ≤ 1000)
    (hQ : ∀ s' t', Fr h₀ L s'.heap m → News h₀ L s'.heap news → AllBare s'.gens → s'.os = s.os → Q (.str (Txt.join sep ((List.range n).map tx)) t') s') : wpAny (model prog w) A (call (.builtin "str.join") [.str sep t, .ref a]) Q E s :=
  join_rowsK Fh G X hLK tx htx hok (fun s' t' F' G' hos hk => hQ s' t' F' (News.grownB N fun q hq => hk _ _ (hb q hq) (N q hq).1) G' hos) (by have := sizeLine_eq; omega)
theorem range_rows (rows : List Row4) (f : Row4 → Str) : (List.range rows.length).map (fun j => ((rows[j]?).map f).getD "") = rows.map f := by
  apply List.ext_getElem
  · simp
  · intro i h1 h2
    simp at h1 h2
    simp [h1]
end
end
section
open PySem PySem.W PySem.Calls PyProof.Rows PySem.Builtin
theorem join2 (x y : Str) : Txt.join "" [x, y] = x ++ y := by
  show PySem.Builtin.Str.glued _ _ = _
  rw [StrLaws.glued_eq_join]
  exact congrArg (· ++ y) (Str.append_right_empty (x := x) (y := Str.ofString "") (by rfl))
theorem len_join2 (x y : Str) : (Txt.join "" [x, y]).length = x.length + y.length := by
  rw [join2]
  show (x.cps ++ y.cps).size = _
  rw [Array.size_append]
  rfl
theorem joinOk_rows (rows : List Row4) (hr : rows.length ≤ 900) (hz : ∀ r ∈ rows, r.x.length ≤ 1000 ∧ r.y.length ≤ 1000) : JoinOk "" (rows.map fun r => Txt.join "" [r.x, r.y]) = true := by
  refine joinOk_of ?_
  have e0 : (Str.ofString "").length = 0 := by rfl
  have h : ∀ l : List Row4, (∀ r ∈ l, r.x.length ≤ 1000 ∧ r.y.length ≤ 1000) → ((l.map fun r => Txt.join "" [r.x, r.y]).map (·.length)).sum ≤ 2000 * l.length := by
    intro l
    induction l with
    | nil => intro _; simp
    | cons r rs ih =>
      intro hl
      have h1 := ih fun q hq => hl q (.tail _ hq)
      have h2 := hl r (.head _)
      simp only [List.map_cons, List.sum_cons, List.length_cons, len_join2]
      omega
  have := h rows hz
  rw [e0]
  omega
end
section
open PySem PySem.W PySem.Calls PyProof.Rows PySem.Builtin PySem.Builtin.Str
section
variable {prog : Program} {w : World} {A : Around} {E : Value → Shared → Prop} {s : Shared} {env : Env} {h₀ : Heap} {target : Expr} {body : List Stmt} {Q : Flow → Shared → Prop}

/-- a for with any target over an iterator with one object of its own -/
theorem turns_led {cn : String} {I : Addr} {fp : List Addr} {n : Nat} {P : Nat → Value → Prop} {St : Nat → Heap → Prop} {m₀ : Mp} {news : Led} (keep : Led) (J : Nat → Mp → Led → Prop)
    (W : Walks prog w A I fp [I] n P St) (hgo : ∀ i v (s : Shared) (Q : Unit → Shared → Prop) (E : Value → Shared → Prop), St i s.heap → Q () s → wpAny (model prog w) A (letOwnedTupleGo target (.ref I) v) Q E s)
    (hfp : ∀ b ∈ fp, b = I ∨ (∃ q, h₀.get? b = some q) ∨ ∃ q, (b, q) ∈ keep) (hI0 : h₀.get? I = none) (hob : ∀ i h, St i h → ∃ o, h.get? I = some o ∧ o.cls = .type cn)
    (hLf : env.locals ∉ fp) (hnw : ∀ p ∈ news, p.1 ≠ I) (hst : St 0 s.heap) (F : Fr h₀ env.locals s.heap m₀) (N : News h₀ env.locals s.heap news) (hk : ∀ p ∈ keep, p ∈ news) (hj : J 0 m₀ news)
    (turn : ∀ i v m₁ news₁ h tk oI, oI.cls = .type cn → i < n → P i v → J i m₁ news₁ → (∀ p ∈ news₁, p.1 ≠ I) → (∀ p ∈ keep, p ∈ news₁) → Fr h₀ env.locals h m₁ → News h₀ env.locals h ((I, oI) :: news₁) →
      wpAny (model prog w) A (assign target env v) (fun _ s₃ => wpAny (model prog w) A (execs body env) (TPost h₀ env.locals I oI keep (J (i + 1)) { s with heap := h, toks := tk } Q) E s₃) E { s with heap := h, toks := tk })
    (done : ∀ m₁ news₁ h tk, J n m₁ news₁ → (∀ p ∈ keep, p ∈ news₁) → Fr h₀ env.locals h m₁ → News h₀ env.locals h news₁ → Q .next { s with heap := h, toks := tk }) :
    TurnsAt prog w A h₀ env target body Q E (.ref I) s := by
  refine ⟨I, fp, [I], n, _, _, St, m₀, news, (fun i m l => (∀ p ∈ keep, p ∈ l) ∧ J i m l), rfl, KTurns.ofWalks W hgo, hLf, ?_, ?_, hst, F, N, ⟨hk, hj⟩, ?_, ?_⟩
  · intro b hb; rw [List.mem_singleton.mp hb]; exact hI0
  · intro p hp hI; exact hnw p hp (List.mem_singleton.mp hI)
  · rintro i v m₁ news₁ hh' tk' own hin hP ⟨hk₁, hJ⟩ hoff hown hat hall hst' F₁ N₁
    obtain ⟨oI, ho, hoc⟩ := hob _ _ hst'
    have hio : (I, oI) ∈ own := hall I (W.sub I (List.mem_singleton.mpr rfl)) hI0 oI ho
    have hsub : ∀ p ∈ own, p = (I, oI) ∨ p ∈ keep := by
      intro p hp
      have g := (N₁ p (List.mem_append_left _ hp))
      rcases hfp p.1 (hown p hp) with e | ⟨q, hq⟩ | ⟨q, hq⟩
      · left
        have : p.2 = oI := by have := g.1; rw [e] at this; exact Option.some.inj (this.symm.trans ho)
        exact Prod.ext e this
      · have := g.2.2; rw [hq] at this; cases this
      · right
        have h1 := (N₁ _ (List.mem_append_right own (hk₁ _ hq))).1
        have h2 := g.1
        have : p.2 = q := Option.some.inj (h2.symm.trans h1)
        have e : p = (p.1, q) := Prod.ext rfl this
        rw [e]; exact hq
    have N₂ : News h₀ env.locals hh' ((I, oI) :: news₁) := fun p hp => by
      rcases List.mem_cons.mp hp with rfl | hp
      · exact N₁ _ (List.mem_append_left _ hio)
      · exact N₁ _ (List.mem_append_right _ hp)
    refine wpAny_mono (turn i v m₁ news₁ hh' tk' oI hoc hin hP hJ (fun p hp e => hoff p hp (List.mem_singleton.mpr e)) hk₁ F₁ N₂) (fun _ s₂ p => wpAny_mono p (fun f s₃ p => ?_) fun _ _ e => e) fun _ _ e => e
    have fin : TEnd h₀ env.locals I oI keep (J (i + 1)) { s with heap := hh', toks := tk' } s₃ → LoopStepU h₀ env.locals [I] own (fun m l => (∀ p ∈ keep, p ∈ l) ∧ J (i + 1) m l) { s with heap := hh', toks := tk' } .next s₃ := by
      rintro ⟨h', tk, m', news', e, F', N', hoff', hk', hm⟩
      refine ⟨rfl, h', tk, m', news', e, F', fun p hp => ?_, fun p hp hq => hoff' p hp (List.mem_singleton.mp hq), hk', hm⟩
      rcases List.mem_append.mp hp with hp | hp
      · rcases hsub p hp with rfl | hp
        · exact N' _ (.head _)
        · exact N' _ (.tail _ (hk' p hp))
      · exact N' _ (.tail _ hp)
    cases f with
    | ret v => exact .ret p
    | brk => exact .brk p
    | next => exact .next (fin p)
    | cont => exact .cont (fin p)
  · rintro h' tk m' news' F' N' _ ⟨hk', hJ⟩
    exact done m' news' h' tk hJ hk' F' N'

/-- over a list of the ledger -/
theorem turns_list {D : Addr} {k : Nat} {vs : List Value} {m₀ : Mp} {news : Led} (J : Mp → Led → Nat → Mp → Led → Prop)
    (hh : A.handled = none) (hD : (D, listOf vs.toArray k) ∈ news) (F : Fr h₀ env.locals s.heap m₀) (N : News h₀ env.locals s.heap news) (hj : J m₀ news 0 m₀ news)
    (turn : ∀ I i v m₁ news₁ h tk oI, oI.cls = .type "list_iterator" → vs[i]? = some v → J m₀ news i m₁ news₁ → (∀ p ∈ news₁, p.1 ≠ I) → (D, listOf vs.toArray k) ∈ news₁ → Fr h₀ env.locals h m₁ → News h₀ env.locals h ((I, oI) :: news₁) →
      wpAny (model prog w) A (assign target env v) (fun _ s₃ => wpAny (model prog w) A (execs body env) (TPost h₀ env.locals I oI [(D, listOf vs.toArray k)] (J m₀ news (i + 1)) { s with heap := h, toks := tk } Q) E s₃) E { s with heap := h, toks := tk })
    (done : ∀ m₁ news₁ h tk, J m₀ news vs.length m₁ news₁ → (D, listOf vs.toArray k) ∈ news₁ → Fr h₀ env.locals h m₁ → News h₀ env.locals h news₁ → Q .next { s with heap := h, toks := tk }) :
    wpAny (model prog w) A (pyIter (.ref D)) (fun it s₂ => TurnsAt prog w A h₀ env target body Q E it s₂) E s := by
  have hls : s.heap.IsList D vs.toArray := ⟨_, (N _ hD).1, rfl, k, rfl⟩
  have hlt : D < s.heap.objs.size := Heap.lt_size (N _ hD).1
  have hne : D ≠ s.heap.objs.size := Nat.ne_of_lt hlt
  refine wpAny_pyIter_list hls ?_
  have W := Walks.list (prog := prog) (w := w) hh s.heap.objs.size D hne vs.toArray
  have hlen : vs.toArray.size = vs.length := by simp
  rw [hlen] at W
  refine turns_led (cn := "list_iterator") [(D, listOf vs.toArray k)] (J m₀ news) W (fun i v s Q E st q => letGo_listiter st.1 q) ?_ (next_is_new F) ?_ ?_ ?_ ⟨⟨_, Heap.get?_push_size _ rfl, rfl, rfl⟩, hls.at fun o e => Heap.get?_push_of_some _ e⟩ (F.push _) (fun p hp => ⟨Heap.get?_push_of_some _ (N p hp).1, (N p hp).2⟩) ?_ hj ?_ ?_
  · intro b hb
    rcases List.mem_cons.mp hb with e | hb
    · exact .inl e
    · rw [List.mem_singleton.mp hb]; exact .inr (.inr ⟨_, List.mem_singleton.mpr rfl⟩)
  · rintro i h ⟨⟨o, ho, hc, _⟩, _⟩; exact ⟨o, ho, hc⟩
  · intro hm
    rcases List.mem_cons.mp hm with e | hm
    · exact absurd F.ns.lt (e ▸ Nat.lt_irrefl _)
    · exact (N _ hD).2.1 (List.mem_singleton.mp hm).symm
  · intro p hp e; exact absurd (Heap.lt_size (N p hp).1) (e ▸ Nat.lt_irrefl _)
  · intro p hp; rw [List.mem_singleton.mp hp]; exact hD
  · intro i v m₁ news₁ h tk oI hoc hin hP hJ hoff hk F₁ N₁
    exact turn _ i v m₁ news₁ h tk oI hoc (by simpa using hP) hJ hoff (hk _ (List.mem_singleton.mpr rfl)) F₁ N₁
  · intro m₁ news₁ h tk hJ hk F₁ N₁
    exact done m₁ news₁ h tk hJ (hk _ (List.mem_singleton.mpr rfl)) F₁ N₁
/-- over a tuple of the ledger -/
theorem turns_tuple {D : Addr} {o : Obj} {k : Nat} {vs : List Value} {m₀ : Mp} {news : Led} (J : Mp → Led → Nat → Mp → Led → Prop)
    (hh : A.handled = none) (hD : (D, o) ∈ news) (hoc : o.cls = .type "tuple") (hod : o.data = .seq vs.toArray k) (F : Fr h₀ env.locals s.heap m₀) (N : News h₀ env.locals s.heap news) (hj : J m₀ news 0 m₀ news)
    (turn : ∀ I i v m₁ news₁ h tk oI, oI.cls = .type "tuple_iterator" → vs[i]? = some v → J m₀ news i m₁ news₁ → (∀ p ∈ news₁, p.1 ≠ I) → (D, o) ∈ news₁ → Fr h₀ env.locals h m₁ → News h₀ env.locals h ((I, oI) :: news₁) →
      wpAny (model prog w) A (assign target env v) (fun _ s₃ => wpAny (model prog w) A (execs body env) (TPost h₀ env.locals I oI [(D, o)] (J m₀ news (i + 1)) { s with heap := h, toks := tk } Q) E s₃) E { s with heap := h, toks := tk })
    (done : ∀ m₁ news₁ h tk, J m₀ news vs.length m₁ news₁ → (D, o) ∈ news₁ → Fr h₀ env.locals h m₁ → News h₀ env.locals h news₁ → Q .next { s with heap := h, toks := tk }) :
    wpAny (model prog w) A (pyIter (.ref D)) (fun it s₂ => TurnsAt prog w A h₀ env target body Q E it s₂) E s := by
  have hls : s.heap.IsTuple D vs.toArray := ⟨_, (N _ hD).1, hoc, k, hod⟩
  have hlt : D < s.heap.objs.size := Heap.lt_size (N _ hD).1
  have hne : D ≠ s.heap.objs.size := Nat.ne_of_lt hlt
  refine wpAny_pyIter_tuple hls ?_
  have W := Walks.tuple (prog := prog) (w := w) hh s.heap.objs.size D hne vs.toArray
  have hlen : vs.toArray.size = vs.length := by simp
  rw [hlen] at W
  refine turns_led (cn := "tuple_iterator") [(D, o)] (J m₀ news) W (fun i v s Q E st q => letGo_tupleiter st.1 q) ?_ (next_is_new F) ?_ ?_ ?_ ⟨⟨_, Heap.get?_push_size _ rfl, rfl, rfl⟩, hls.at fun o e => Heap.get?_push_of_some _ e⟩ (F.push _) (fun p hp => ⟨Heap.get?_push_of_some _ (N p hp).1, (N p hp).2⟩) ?_ hj ?_ ?_
  · intro b hb
    rcases List.mem_cons.mp hb with e | hb
    · exact .inl e
    · rw [List.mem_singleton.mp hb]; exact .inr (.inr ⟨_, List.mem_singleton.mpr rfl⟩)
  · rintro i h ⟨⟨o, ho, hc, _⟩, _⟩; exact ⟨o, ho, hc⟩
  · intro hm
    rcases List.mem_cons.mp hm with e | hm
    · exact absurd F.ns.lt (e ▸ Nat.lt_irrefl _)
    · exact (N _ hD).2.1 (List.mem_singleton.mp hm).symm
  · intro p hp e; exact absurd (Heap.lt_size (N p hp).1) (e ▸ Nat.lt_irrefl _)
  · intro p hp; rw [List.mem_singleton.mp hp]; exact hD
  · intro i v m₁ news₁ h tk oI hoc hin hP hJ hoff hk F₁ N₁
    exact turn _ i v m₁ news₁ h tk oI hoc (by simpa using hP) hJ hoff (hk _ (List.mem_singleton.mpr rfl)) F₁ N₁
  · intro m₁ news₁ h tk hJ hk F₁ N₁
    exact done m₁ news₁ h tk hJ (hk _ (List.mem_singleton.mpr rfl)) F₁ N₁

theorem letGo_name {x : Str} {px : Pos} {I v : Value} {Q' : Unit → Shared → Prop} (q : Q' () s) : wpAny (model prog w) A (letOwnedTupleGo (.Name x px) I v) Q' E s := by
  unfold letOwnedTupleGo; exact wpAny_pure q
/-- over the signs of a text -/
theorem turns_str {x : Str} {px : Pos} {y : Str} {t : Tok} {m₀ : Mp} {news : Led} (J : Mp → Led → Nat → Mp → Led → Prop)
    (hh : A.handled = none) (F : Fr h₀ env.locals s.heap m₀) (N : News h₀ env.locals s.heap news) (hj : J m₀ news 0 m₀ news)
    (turn : ∀ I i c u m₁ news₁ h tk oI, (∃ cn, cn ∈ ["str_iterator", "str_ascii_iterator"] ∧ oI.cls = .type cn) → y.cps[i]? = some c → J m₀ news i m₁ news₁ → (∀ p ∈ news₁, p.1 ≠ I) → Fr h₀ env.locals h m₁ → News h₀ env.locals h ((I, oI) :: news₁) →
      wpAny (model prog w) A (assign (.Name x px) env (.str ⟨#[c]⟩ u)) (fun _ s₃ => wpAny (model prog w) A (execs body env) (TPost h₀ env.locals I oI [] (J m₀ news (i + 1)) { s with heap := h, toks := tk } Q) E s₃) E { s with heap := h, toks := tk })
    (done : ∀ m₁ news₁ h tk, J m₀ news y.cps.size m₁ news₁ → Fr h₀ env.locals h m₁ → News h₀ env.locals h news₁ → Q .next { s with heap := h, toks := tk }) :
    wpAny (model prog w) A (pyIter (.str y t)) (fun it s₂ => TurnsAt prog w A h₀ env (.Name x px) body Q E it s₂) E s := by
  have key : ∀ cn, cn ∈ ["str_iterator", "str_ascii_iterator"] → (W : Walks prog w A s.heap.objs.size [s.heap.objs.size] [s.heap.objs.size] y.cps.size (SignAt y) (fun i h => h.IsStrIter s.heap.objs.size cn y t i)) →
      TurnsAt prog w A h₀ env (.Name x px) body Q E (.ref s.heap.objs.size) { s with heap := s.heap.push { cls := .type cn, data := .fields #[.str y t, .int 0 0] } } := by
    intro cn hcn W
    refine turns_led [] (J m₀ news) W (fun i v s Q E st q => letGo_name q) (fun b hb => .inl (List.mem_singleton.mp hb)) (next_is_new F) (fun i h st => let ⟨o, ho, hc, _⟩ := st; ⟨o, ho, hc⟩) ?_ ?_ ⟨_, Heap.get?_push_size _ rfl, rfl, rfl⟩ (F.push _) (fun p hp => ⟨Heap.get?_push_of_some _ (N p hp).1, (N p hp).2⟩) (fun p hp => nomatch hp) hj ?_ ?_
    · intro hm; exact absurd F.ns.lt (List.mem_singleton.mp hm ▸ Nat.lt_irrefl _)
    · intro p hp e; exact absurd (Heap.lt_size (N p hp).1) (e ▸ Nat.lt_irrefl _)
    · rintro i v m₁ news₁ h tk oI hoc hin ⟨c, u, hc, rfl⟩ hJ hoff hk F₁ N₁
      exact turn _ i c u m₁ news₁ h tk oI ⟨cn, hcn, hoc⟩ hc hJ hoff F₁ N₁
    · intro m₁ news₁ h tk hJ hk F₁ N₁
      exact done m₁ news₁ h tk hJ F₁ N₁
  cases ha : y.cps.all (· < 128)
  · exact wpAny_pyIter_wide ha (key _ (by simp) (Walks.strWide hh _ y t))
  · exact wpAny_pyIter_ascii ha (key _ (by simp) (Walks.strAscii hh _ y t))
/-- over range(a, b) -/
theorem turns_range {x : Str} {px : Pos} {r : Addr} {a b : Int} {ta tb tc : Tok} {m₀ : Mp} {news : Led} (J : Mp → Led → Nat → Mp → Led → Prop)
    (hh : A.handled = none) (hr : IsRange s.heap r a b 1 ta tb tc) (hlo : -1000 ≤ a) (hhi : b ≤ 1000) (hab : a ≤ b) (F : Fr h₀ env.locals s.heap m₀) (N : News h₀ env.locals s.heap news) (hj : J m₀ news 0 m₀ news)
    (turn : ∀ I i v m₁ news₁ h tk oI, oI.cls = .type "range_iterator" → i < (b - a).toNat → v = a + (i : Int) → (J m₀ news i m₁ news₁) → (∀ p ∈ news₁, p.1 ≠ I) → Fr h₀ env.locals h m₁ → News h₀ env.locals h ((I, oI) :: news₁) →
      ∀ u, wpAny (model prog w) A (assign (.Name x px) env (.int v u)) (fun _ s₃ => wpAny (model prog w) A (execs body env) (TPost h₀ env.locals I oI [] (J m₀ news (i + 1)) { s with heap := h, toks := tk } Q) E s₃) E { s with heap := h, toks := tk })
    (done : ∀ m₁ news₁ h tk, J m₀ news (b - a).toNat m₁ news₁ → Fr h₀ env.locals h m₁ → News h₀ env.locals h news₁ → Q .next { s with heap := h, toks := tk }) :
    wpAny (model prog w) A (pyIter (.ref r)) (fun it s₂ => TurnsAt prog w A h₀ env (.Name x px) body Q E it s₂) E s := by
  have hsz : Builtin.Range.rangeSize a b 1 = ((b - a).toNat : Int) := by rw [rangeSize_one]; split <;> omega
  refine wpAny_pyIter_range hr (small_one ?_ ?_ ?_ ?_) ?_
  all_goals try omega
  rw [hsz]
  have W := Walks.range (prog := prog) (w := w) (A := A) hh s.heap.objs.size a 1 (b - a).toNat
  refine turns_led [] (J m₀ news) W (fun i v s Q E st q => letGo_name q) (fun b hb => .inl (List.mem_singleton.mp hb)) (next_is_new F) (fun i h st => ⟨_, st, rfl⟩) ?_ ?_ ?_ (F.push _) (fun p hp => ⟨Heap.get?_push_of_some _ (N p hp).1, (N p hp).2⟩) (fun p hp => nomatch hp) hj ?_ ?_
  · intro hm; exact absurd F.ns.lt (List.mem_singleton.mp hm ▸ Nat.lt_irrefl _)
  · intro p hp e; exact absurd (Heap.lt_size (N p hp).1) (e ▸ Nat.lt_irrefl _)
  · have e1 : (a + ((0 : Nat) : Int) * 1) = a := by simp
    have e2 : (((b - a).toNat : Int) - ((0 : Nat) : Int)) = ((b - a).toNat : Int) := by simp
    rw [e1, e2]
    exact Heap.get?_push_size _ rfl
  · rintro i v m₁ news₁ h tk oI hoc hin ⟨u, rfl⟩ hJ hoff hk F₁ N₁
    exact turn _ i _ m₁ news₁ h tk oI hoc hin (by omega) hJ hoff F₁ N₁ u
  · intro m₁ news₁ h tk hJ hk F₁ N₁
    exact done m₁ news₁ h tk hJ F₁ N₁
end
/-- locals with some names open -/
def over (names : List Str) (u m₀ : Mp) : Mp := fun z => names.foldr (fun a r => if z = a then u z else r) (m₀ z)
theorem eq_over {names : List Str} {m m₀ : Mp} (h : ∀ z, z ∉ names → m z = m₀ z) : m = over names m m₀ := by
  funext z
  unfold over
  induction names with
  | nil => exact h z (by simp)
  | cons a r ih =>
    simp only [List.foldr_cons]
    by_cases e : z = a
    · simp [e]
    · rw [if_neg e]
      by_cases hr : z ∈ r
      · clear ih h
        induction r with
        | nil => cases hr
        | cons b q ihq =>
          simp only [List.foldr_cons]
          by_cases e2 : z = b
          · simp [e2]
          · rw [if_neg e2]
            rcases List.mem_cons.mp hr with rfl | hr
            · exact absurd rfl e2
            · exact ihq hr
      · have := h z (by simp [e, hr])
        rw [this]
        clear ih h this
        induction r with
        | nil => rfl
        | cons b q ihq =>
          simp only [List.foldr_cons]
          rw [if_neg (fun e2 => hr (by simp [e2]))]
          exact ihq (fun h => hr (by simp [h]))
theorem eq_at {x : Str} {v : Value} {m m' : Mp} (h : m x = some v) (e : m = m') : m = fun z => if z = x then some v else m' z := by
  funext z
  by_cases hz : z = x
  · rw [if_pos hz, hz, h]
  · rw [if_neg hz, e]
theorem units_under_make (A : Around) (C : Addr) (vals : List Value) : (A.under (.builtin "type.__call__" ⟨.ref C :: vals, []⟩)).units = A.units + 1 := by
  first | rfl | simp [Around.under, Code.cUnits, Code.frames, Code.isFrame]
end
section
open PySem PySem.W PySem.Calls PyProof.Rows PySem.Builtin
section
variable {prog : Program} {w : World} {A : Around} {E : Value → Shared → Prop} {s : Shared} {h₀ : Heap} {L : Addr} {news : Led}
theorem led_join {D : Addr} {k : Nat} {items : Array Value} {ys : List Str} {x : Str} {t : Tok} {Q : Value → Shared → Prop} (N : News h₀ L s.heap news) (hm : (D, listOf items k) ∈ news) (hi : StrsAre items.toList ys) (hok : (ys.map (·.length)).sum + ys.length * x.length ≤ 16777216)
    (h : ∀ t' k, Q (.str (Txt.join x ys) t') { s with toks := k }) : wpAny (model prog w) A (call (.builtin "str.join") [.str x t, .ref D]) Q E s :=
  join_list ⟨_, (N _ hm).1, rfl, _, rfl⟩ hi hok h
theorem join1 (s x : Str) : Txt.join s [x] = x := by
  show PySem.Builtin.Str.glued _ _ = _
  rw [StrLaws.glued_eq_join]
  rfl
theorem led_append {m : Mp} {D : Addr} {vs : List Value} {n : Nat} {x : Value} {Q : Value → Shared → Prop} (F : Fr h₀ L s.heap m) (N : News h₀ L s.heap news) (hm : (D, listOf vs.toArray n) ∈ news) (hz : vs.length ≤ 1000)
    (h : ∀ h', Fr h₀ L h' m → News h₀ L h' ((D, listOf (vs ++ [x]).toArray (n + 1)) :: but D news) → Q .none { s with heap := h' }) : wpAny (model prog w) A (call (.builtin "list.append") [.ref D, x]) Q E s := by
  refine append_K F (News.head N hm) Upd.but (fun h' F' N' => h h' F' ?_) ?_
  · rw [List.push_toArray] at N'; exact N'
  · have := sizeLine_eq; simp; omega
end
end
section
open PySem PySem.W PySem.Calls PyProof.Rows PySem.Builtin PySem.Builtin.Str
section
variable {prog : Program} {w : World} {A : Around} {E : Value → Shared → Prop} {s : Shared} {env : Env} {h₀ : Heap} {body : List Stmt} {Q : Flow → Shared → Prop}
/-- the end of a turn of a loop over enumerate -/
def TEnd2 (h₀ : Heap) (L : Addr) (I : Addr) (oE oI : Obj) (J : Mp → Led → Prop) (s₁ s₂ : Shared) : Prop :=
  ∃ h' tk m' news', s₂ = { s₁ with heap := h', toks := tk } ∧ Fr h₀ L h' m' ∧ News h₀ L h' ((I + 1, oE) :: (I, oI) :: news') ∧ (∀ p ∈ news', p.1 ≠ I + 1 ∧ p.1 ≠ I) ∧ J m' news'
def TPost2 (h₀ : Heap) (L : Addr) (I : Addr) (oE oI : Obj) (J : Mp → Led → Prop) (s₁ : Shared) (Q : Flow → Shared → Prop) (f : Flow) (s₂ : Shared) : Prop :=
  match f with
  | .ret v => Q (.ret v) s₂
  | .brk => Q .next s₂
  | _ => TEnd2 h₀ L I oE oI J s₁ s₂
theorem turns_enum {elts : List Expr} {k : Nat} {pos : Pos} {l : Addr} {vs : List Value} {n : Nat} {m₀ : Mp} {news : Led} (J : Mp → Led → Nat → Mp → Led → Prop)
    (hh : A.handled = none) (F : Fr h₀ env.locals s.heap m₀) (N : News h₀ env.locals s.heap news) (hm : (l, listOf vs.toArray n) ∈ news) (hj : J m₀ news 0 m₀ news)
    (turn : ∀ I i v T t m₁ news₁ h tk oE oI, vs[i]? = some v → J m₀ news i m₁ news₁ → (l, listOf vs.toArray n) ∈ news₁ → (∀ p ∈ news, p.1 < I) → IsTup h T #[.int (i : Int) t, v] → Fr h₀ env.locals h m₁ → oE.cls = .type "enumerate" → oI.cls = .type "list_iterator" →
      (∀ p ∈ news₁, p.1 ≠ I + 1 ∧ p.1 ≠ I) → News h₀ env.locals h ((I + 1, oE) :: (I, oI) :: news₁) →
      wpAny (model prog w) A (assign (.Tuple elts k pos) env (.ref T)) (fun _ s₃ => wpAny (model prog w) A (execs body env) (TPost2 h₀ env.locals I oE oI (fun m' l' => (l, listOf vs.toArray n) ∈ l' ∧ J m₀ news (i + 1) m' l') { s with heap := h, toks := tk } Q) E s₃) E { s with heap := h, toks := tk })
    (done : ∀ m₁ news₁ h tk, J m₀ news vs.length m₁ news₁ → (l, listOf vs.toArray n) ∈ news₁ → Fr h₀ env.locals h m₁ → News h₀ env.locals h news₁ → Q .next { s with heap := h, toks := tk }) :
    wpAny (model prog w) A (call (.type "enumerate") [.ref l]) (fun xv s₁ => wpAny (model prog w) A (pyIter xv) (fun it s₂ => TurnsAt prog w A h₀ env (.Tuple elts k pos) body Q E it s₂) E s₁) E s := by
  refine ktu_enum (xs := enumItems 0 vs) hh F N hm rfl rfl rfl fun I hI => ?_
  have key : ∀ (j i : Nat) m₁ news₁, i + j = vs.length → J m₀ news i m₁ news₁ → (l, listOf vs.toArray n) ∈ news₁ → (∀ p ∈ news₁, p.1 ≠ I + 1 ∧ p.1 ≠ I) →
      ItemsRest prog w A E h₀ env (.Tuple elts k pos) body Q s [(I + 1, "enumerate"), (I, "list_iterator")] [(l, listOf vs.toArray n)] (enumItems i (vs.drop i)) m₁ news₁ := by
    intro j
    induction j with
    | zero =>
      intro i m₁ news₁ hi hj' hl _
      have e : i = vs.length := by omega
      subst e
      rw [List.drop_length]
      intro h tk F₁ N₁
      exact done m₁ news₁ h tk hj' hl F₁ N₁
    | succ j ih =>
      intro i m₁ news₁ hi hj' hl hoff
      have hlt : i < vs.length := by omega
      rw [List.drop_eq_getElem_cons hlt]
      refine ItemsRest.pair fun T t h tk hT F₁ => ?_
      intro oE hE oI hI' N₁
      refine wpAny_mono (turn I i vs[i] T t m₁ news₁ h tk oE oI (List.getElem?_eq_getElem hlt) hj' hl hI hT F₁ hE hI' hoff N₁) (fun _ s₂ p => wpAny_mono p (fun f s₃ p => ?_) fun _ _ e => e) fun _ _ e => e
      have fin : TEnd2 h₀ env.locals I oE oI (fun m' l' => (l, listOf vs.toArray n) ∈ l' ∧ J m₀ news (i + 1) m' l') { s with heap := h, toks := tk } s₃ → UnrEndW h₀ env.locals { s with heap := h, toks := tk } [(I + 1, oE), (I, oI)] (fun m' n' => SubL [(l, listOf vs.toArray n)] n' ∧ ItemsRest prog w A E h₀ env (.Tuple elts k pos) body Q s [(I + 1, "enumerate"), (I, "list_iterator")] [(l, listOf vs.toArray n)] (enumItems (i + 1) (vs.drop (i + 1))) m' n') s₃ := by
        rintro ⟨h', tk', m', news', e, F', N', ho, hk, hj2⟩
        refine ⟨h', tk', m', news', e, F', N', fun p hp q hq => ?_, And.intro hk trivial, ih (i + 1) m' news' (by omega) hj2 hk ho⟩
        rcases List.mem_cons.mp hq with rfl | hq
        · exact (ho p hp).1
        · rw [List.mem_singleton.mp hq]; exact (ho p hp).2
      cases f with
      | ret v => exact p
      | brk => exact p
      | next => exact fin p
      | cont => exact fin p
  exact key vs.length 0 m₀ news (by omega) hj hm fun p hp => ⟨Nat.ne_of_lt (Nat.lt_succ_of_lt (hI p hp)), Nat.ne_of_lt (hI p hp)⟩
end
section
variable {prog : Program} {w : World} {A : Around} {E : Value → Shared → Prop} {s : Shared} {h₀ : Heap} {L D : Addr} {m : Mp} {news : Led} {vs : List Value} {ns : List Int} {n : Nat} {k x : Int} {t u : Tok}
theorem led_seti {Q : Unit → Shared → Prop} (F : Fr h₀ L s.heap m) (N : News h₀ L s.heap news) (hm : (D, listOf vs.toArray n) ∈ news) (hi : IntsAre vs ns) (h0 : 0 ≤ k) (h1 : k < ns.length) (hfit : k < 2 ^ 63)
    (h : ∀ h', Fr h₀ L h' m → News h₀ L h' ((D, listOf (vs.set k.toNat (.int x u)).toArray n) :: but D news) → IntsAre (vs.set k.toNat (.int x u)) (ns.set k.toNat x) → Q () { s with heap := h' }) :
    wpAny (model prog w) A (setItem (.ref D) (.int k t) (.int x u)) Q E s :=
  ksa_set F (News.head N hm) Upd.but hi h0 h1 hfit fun h' F' N' hi' _ _ => h h' F' N' hi'
theorem intsAre_get {i : Nat} {v : Value} (h : IntsAre vs ns) (hv : vs[i]? = some v) : ∃ k t, v = .int k t ∧ ns[i]? = some k := by
  induction h generalizing i with
  | nil => simp at hv
  | cons => 
    cases i with
    | zero => simp at hv; exact ⟨_, _, hv.symm, rfl⟩
    | succ i => rename_i ih; exact ih (by simpa using hv)
end
theorem News.drop2 {h₀ h : Heap} {L NL : Addr} {o : Obj} {q1 q2 : Addr × Obj} {news : Led} (N : News h₀ L h ((NL, o) :: but NL (q1 :: q2 :: news))) (h1 : q1.1 ≠ NL) (h2 : q2.1 ≠ NL) : News h₀ L h (q1 :: q2 :: (NL, o) :: but NL news) := fun p hp => by
  rcases List.mem_cons.mp hp with rfl | hp
  · exact N _ (.tail _ (mem_but.mpr ⟨.head _, h1⟩))
  · rcases List.mem_cons.mp hp with rfl | hp
    · exact N _ (.tail _ (mem_but.mpr ⟨.tail _ (.head _), h2⟩))
    · rcases List.mem_cons.mp hp with rfl | hp
      · exact N _ (.head _)
      · exact N _ (.tail _ (mem_but.mpr ⟨.tail _ (.tail _ (mem_but.mp hp).1), (mem_but.mp hp).2⟩))
theorem News.drop1 {h₀ h : Heap} {L NL : Addr} {o : Obj} {q1 : Addr × Obj} {news : Led} (N : News h₀ L h ((NL, o) :: but NL (q1 :: news))) (h1 : q1.1 ≠ NL) : News h₀ L h (q1 :: (NL, o) :: but NL news) := fun p hp => by
  rcases List.mem_cons.mp hp with rfl | hp
  · exact N _ (.tail _ (mem_but.mpr ⟨.head _, h1⟩))
  · rcases List.mem_cons.mp hp with rfl | hp
    · exact N _ (.head _)
    · exact N _ (.tail _ (mem_but.mpr ⟨.tail _ (mem_but.mp hp).1, (mem_but.mp hp).2⟩))
theorem set_bound {zs : List Int} {j i : Nat} {y : Int} (hb : ∀ z ∈ zs, 0 ≤ z ∧ z ≤ 4 + 5 * (i : Int)) (hj : j < zs.length) (hy : 0 ≤ y ∧ y ≤ 5) : ∀ z ∈ zs.set j (zs.getD j 0 + y), 0 ≤ z ∧ z ≤ 4 + 5 * ((i + 1 : Nat) : Int) := by
  intro z hz
  rcases List.mem_or_eq_of_mem_set hz with h | h
  · have := hb z h; omega
  · have hm : zs.getD j 0 ∈ zs := by
      rw [List.getD_eq_getElem?_getD, List.getElem?_eq_getElem hj]
      exact List.getElem_mem hj
    have := hb _ hm
    omega
theorem fmod6 (k : Int) : 0 ≤ k.fmod 6 ∧ k.fmod 6 ≤ 5 := by
  rw [Int.fmod_eq_emod_of_nonneg _ (by decide)]; omega
end
section
open PySem PySem.W PySem.Calls PyProof.Rows PySem.Builtin
theorem str_ext {x y : Str} (h : x.cps.toList = y.cps.toList) : x = y := by
  cases x; cases y
  congr 1
  exact Array.toList_inj.mp h
theorem cps_append (x y : Str) : (x ++ y).cps.toList = x.cps.toList ++ y.cps.toList := by
  show (x.cps ++ y.cps).toList = _
  simp
theorem sjoin_toList : ∀ l : List Str, (Str.join (Str.ofString "") l).cps.toList = l.flatMap (·.cps.toList)
  | [] => rfl
  | [x] => by simp [Str.join]
  | x :: y :: r => by
    show (x ++ Str.ofString "" ++ Str.join (Str.ofString "") (y :: r)).cps.toList = _
    rw [cps_append, cps_append, sjoin_toList (y :: r)]
    simp only [List.flatMap_cons]
    have : (Str.ofString "").cps.toList = [] := by rfl
    rw [this, List.append_nil]
theorem join_flat (l : List Str) : Txt.join (Str.ofString "") l = ⟨(l.flatMap (·.cps.toList)).toArray⟩ := by
  show PySem.Builtin.Str.glued _ _ = _
  rw [StrLaws.glued_eq_join]
  refine str_ext ?_
  rw [sjoin_toList]
theorem join_signs (l : List Nat) : Txt.join (Str.ofString "") (l.map fun c => (⟨#[c]⟩ : Str)) = ⟨l.toArray⟩ := by
  rw [join_flat]
  congr 1
  induction l with
  | nil => rfl
  | cons a r ih => 
    have ih' := congrArg Array.toList ih
    simp only [] at ih'
    simp only [List.map_cons, List.flatMap_cons]
    rw [show ([a] ++ List.flatMap _ _ : List Nat) = a :: r from congrArg (a :: ·) ih']
end
section
open PySem PySem.W PySem.Calls PyProof.Rows PySem.Builtin PySem.Builtin.Str
/-- the part of a word that a number's bits tell, dots behind each letter -/
def bitAt (b k : Nat) : Bool := decide ((((b : Int).fdiv ((2 : Int) ^ ((k : Int)).toNat)).fmod 2) ≠ 0)
def pieceL (w0 w1 w2 w3 : Nat) (k : Nat) : List Nat := [[w0, 46, 46, 46], [w1, 46, 46, 46], [w2, 46, 46, 46], [w3, 46, 46, 46]].getD k []
def partL (w0 w1 w2 w3 : Nat) (b : Nat) : List Nat := ([0, 1, 2, 3].filter (bitAt b)).flatMap (pieceL w0 w1 w2 w3)
def PS (w0 w1 w2 w3 n : Nat) (j : Nat) (s : List (Str × Tok)) : Prop := s.length ≤ n ∧ ∀ x, x ∈ s.map (·.1) ↔ ∃ b, b < n ∧ x = ⟨(partL w0 w1 w2 w3 b).toArray⟩ ∧ (partL w0 w1 w2 w3 b).length = 4 * j
theorem part_eq {w0 w1 w2 w3 b : Nat} {l : List (Str × Tok)} (h : l.map (·.1) = ([0, 1, 2, 3].filter (bitAt b)).map fun k : Nat => Txt.item ⟨#[w0, w1, w2, w3]⟩ (k : Int) ++ Str.ofString "...") : Txt.join (Str.ofString "") (l.map (·.1)) = ⟨(partL w0 w1 w2 w3 b).toArray⟩ := by
  rw [h, join_flat]
  congr 2
  unfold partL
  rw [List.flatMap_map]
  have key : ∀ l : List Nat, (∀ k ∈ l, k < 4) → List.flatMap (fun k : Nat => (Txt.item ⟨#[w0, w1, w2, w3]⟩ (k : Int) ++ Str.ofString "...").cps.toList) l = List.flatMap (pieceL w0 w1 w2 w3) l := by
    intro l hl
    induction l with
    | nil => rfl
    | cons a r ih =>
      rw [List.flatMap_cons, List.flatMap_cons, ih fun k hk => hl k (.tail _ hk)]
      congr 1
      have := hl a (.head _)
      have : a = 0 ∨ a = 1 ∨ a = 2 ∨ a = 3 := by omega
      rcases this with rfl | rfl | rfl | rfl <;> rfl
  exact key _ fun k hk => by
    have := (List.mem_filter.mp hk).1
    simp at this; omega
theorem partL_len (w0 w1 w2 w3 b : Nat) : (partL w0 w1 w2 w3 b).length = 4 * ([0, 1, 2, 3].filter (bitAt b)).length ∧ ([0, 1, 2, 3].filter (bitAt b)).length ≤ 4 := by
  unfold partL
  cases h0 : bitAt b 0 <;> cases h1 : bitAt b 1 <;> cases h2 : bitAt b 2 <;> cases h3 : bitAt b 3 <;> simp [List.filter_cons, h0, h1, h2, h3, pieceL]
theorem parts_small {w0 w1 w2 w3 b : Nat} : ((([0, 1, 2, 3].filter (bitAt b)).map fun k : Nat => Txt.item ⟨#[w0, w1, w2, w3]⟩ (k : Int) ++ Str.ofString "...").map (·.length)).sum + (([0, 1, 2, 3].filter (bitAt b)).map fun k : Nat => Txt.item ⟨#[w0, w1, w2, w3]⟩ (k : Int) ++ Str.ofString "...").length * (Str.ofString "").length ≤ 16777216 := by
  have e : ∀ k : Nat, (Txt.item ⟨#[w0, w1, w2, w3]⟩ (k : Int) ++ Str.ofString "...").length = 4 := fun k => by
    show ((Txt.item ⟨#[w0, w1, w2, w3]⟩ (k : Int)).cps ++ (Str.ofString "...").cps).size = 4
    rw [Array.size_append]; rfl
  have e0 : (Str.ofString "").length = 0 := by rfl
  rw [e0]
  cases h0 : bitAt b 0 <;> cases h1 : bitAt b 1 <;> cases h2 : bitAt b 2 <;> cases h3 : bitAt b 3 <;> simp only [List.filter_cons, List.filter_nil, h0, h1, h2, h3, List.map_cons, List.map_nil, List.sum_cons, List.sum_nil, e, if_true, Bool.false_eq_true, if_false] <;> omega
theorem chain_of {l0 l1 l2 l3 l4 l5 l6 L : Addr} {news : Led} (hn : ∀ p ∈ news, p.1 < L) (h6 : L + 1 + 1 < l6 ∧ L + 1 < l6 ∧ AllLt l6 news) (h5 : l6 < l5 ∧ L + 1 + 1 < l5 ∧ L + 1 < l5 ∧ AllLt l5 news) (h4 : l5 < l4 ∧ l6 < l4 ∧ L + 1 + 1 < l4 ∧ L + 1 < l4 ∧ AllLt l4 news)
    (h3 : l4 < l3 ∧ l5 < l3 ∧ l6 < l3 ∧ L + 1 + 1 < l3 ∧ L + 1 < l3 ∧ AllLt l3 news) (h2 : l3 < l2 ∧ l4 < l2 ∧ l5 < l2 ∧ l6 < l2 ∧ L + 1 + 1 < l2 ∧ L + 1 < l2 ∧ AllLt l2 news) (h1 : l2 < l1 ∧ l3 < l1 ∧ l4 < l1 ∧ l5 < l1 ∧ l6 < l1 ∧ L + 1 + 1 < l1 ∧ L + 1 < l1 ∧ AllLt l1 news)
    (h0 : l1 < l0 ∧ l2 < l0 ∧ l3 < l0 ∧ l4 < l0 ∧ l5 < l0 ∧ l6 < l0 ∧ L + 1 + 1 < l0 ∧ L + 1 < l0 ∧ AllLt l0 news) : l1 < l0 ∧ l2 < l1 ∧ l3 < l2 ∧ l4 < l3 ∧ l5 < l4 ∧ l6 < l5 ∧ L + 1 + 1 < l6 ∧ L + 1 < L + 1 + 1 ∧ ∀ q ∈ news, q.1 < L + 1 :=
  ⟨h0.1, h1.1, h2.1, h3.1, h4.1, h5.1, h6.1, Nat.lt_succ_self _, fun q hq => Nat.lt_succ_of_lt (hn q hq)⟩
theorem News.upd {h₀ h : Heap} {L D : Addr} {o o' : Obj} {q : Addr × Obj} {l l' : Led} (U : Upd D o o' l l') (N : News h₀ L h ((D, o') :: but D (q :: l))) : News h₀ L h l' := fun p hp => by
  obtain ⟨pre, post, rfl, rfl, a, b⟩ := U.split
  rcases List.mem_append.mp hp with hp | hp
  · exact N _ (.tail _ (mem_but.mpr ⟨.tail _ (List.mem_append_left _ hp), a p hp⟩))
  · rcases List.mem_cons.mp hp with rfl | hp
    · exact N _ (.head _)
    · exact N _ (.tail _ (mem_but.mpr ⟨.tail _ (List.mem_append_right _ (.tail _ hp)), b p hp⟩))
theorem PS_other {w0 w1 w2 w3 n j c : Nat} {s : List (Str × Tok)} (h : PS w0 w1 w2 w3 n j s) (hl : (partL w0 w1 w2 w3 n).length = 4 * c) (hne : c ≠ j) : PS w0 w1 w2 w3 (n + 1) j s := by
  refine ⟨Nat.le_succ_of_le h.1, fun x => (h.2 x).trans ⟨?_, ?_⟩⟩
  · rintro ⟨b, h1, h2, h3⟩; exact ⟨b, Nat.lt_succ_of_lt h1, h2, h3⟩
  · rintro ⟨b, h1, h2, h3⟩
    refine ⟨b, ?_, h2, h3⟩
    rcases Nat.lt_succ_iff_lt_or_eq.mp h1 with h | rfl
    · exact h
    · omega
theorem PS_in {w0 w1 w2 w3 n j : Nat} {s : List (Str × Tok)} (h : PS w0 w1 w2 w3 n j s) (hc : ((s.map (·.1)).any (· == ⟨(partL w0 w1 w2 w3 n).toArray⟩)) = true) : PS w0 w1 w2 w3 (n + 1) j s := by
  refine ⟨Nat.le_succ_of_le h.1, fun x => ⟨fun hx => ?_, ?_⟩⟩
  · obtain ⟨b, h1, h2, h3⟩ := (h.2 x).mp hx; exact ⟨b, Nat.lt_succ_of_lt h1, h2, h3⟩
  · rintro ⟨b, h1, h2, h3⟩
    rcases Nat.lt_succ_iff_lt_or_eq.mp h1 with h4 | rfl
    · exact (h.2 x).mpr ⟨b, h4, h2, h3⟩
    · obtain ⟨y, hy, he⟩ := List.any_eq_true.mp hc
      rw [h2, ← eq_of_beq he]; exact hy
theorem PS_new {w0 w1 w2 w3 n j : Nat} {s : List (Str × Tok)} {t : Tok} (h : PS w0 w1 w2 w3 n j s) (hl : (partL w0 w1 w2 w3 n).length = 4 * j) : PS w0 w1 w2 w3 (n + 1) j (s ++ [(⟨(partL w0 w1 w2 w3 n).toArray⟩, t)]) := by
  refine ⟨by rw [List.length_append]; exact Nat.add_le_add h.1 (Nat.le_refl 1), fun x => ?_⟩
  rw [List.map_append, List.mem_append]
  constructor
  · rintro (hx | hx)
    · obtain ⟨b, h1, h2, h3⟩ := (h.2 x).mp hx; exact ⟨b, Nat.lt_succ_of_lt h1, h2, h3⟩
    · rw [List.map_singleton, List.mem_singleton] at hx
      exact ⟨n, Nat.lt_succ_self _, hx, hl⟩
  · rintro ⟨b, h1, h2, h3⟩
    rcases Nat.lt_succ_iff_lt_or_eq.mp h1 with h4 | rfl
    · exact .inl ((h.2 x).mpr ⟨b, h4, h2, h3⟩)
    · right; rw [List.map_singleton, List.mem_singleton]; exact h2
theorem strV_snoc (s : List (Str × Tok)) (x : Str) (t : Tok) : strValues s ++ [.str x t] = strValues (s ++ [(x, t)]) := by simp [strValues]
theorem len_strk {prog : Program} {w : World} {A : Around} {E : Value → Shared → Prop} {s : Shared} {x : Str} {t : Tok} {k : Int} {Q : Value → Shared → Prop} (hk : (x.length : Int) = k) (hz : k < 1000000) (h : ∀ t' k', Q (.int k t') { s with toks := k' }) : wpAny (model prog w) A (call (.builtin "len") [.str x t]) Q E s := by
  refine P.len_str (by omega) ?_
  rw [hk]; exact h _ _
theorem News.tail1 {h₀ h : Heap} {L : Addr} {q : Addr × Obj} {l : Led} (N : News h₀ L h (q :: l)) : News h₀ L h l := fun p hp => N p (.tail _ hp)
theorem any_of {b : Bool} (h : (!b) = false) : b = true := by cases b <;> simp_all
theorem News.last2 {h₀ h : Heap} {L : Addr} {q1 q2 q3 q4 q5 q6 q7 a b : Addr × Obj} {l : Led} (N : News h₀ L h (q1 :: q2 :: q3 :: q4 :: q5 :: q6 :: q7 :: a :: b :: l)) : News h₀ L h (q1 :: q2 :: q3 :: q4 :: q5 :: q6 :: q7 :: l) := fun p hp => by
  simp only [List.mem_cons] at hp
  refine N p ?_
  simp only [List.mem_cons]
  rcases hp with h | h | h | h | h | h | h | h <;> simp [h]
end
section
/-- the length of a longest common part of two lists -/
def lcs : List Nat → List Nat → Nat
  | [], _ => 0
  | _ :: _, [] => 0
  | c :: w, d :: t => if c = d then lcs w t + 1 else max (lcs (c :: w) t) (lcs w (d :: t))
theorem lcs_nil (w : List Nat) : lcs w [] = 0 := by cases w <;> simp [lcs]
theorem lcs_le : ∀ (w t : List Nat), lcs w t ≤ w.length
  | [], _ => by simp [lcs]
  | _ :: _, [] => by simp [lcs]
  | c :: w, d :: t => by
    rw [lcs]
    split
    · have := lcs_le w t; simp; omega
    · have h1 := lcs_le (c :: w) t
      have h2 := lcs_le w (d :: t)
      simp only [List.length_cons] at *
      omega
termination_by w t => w.length + t.length
theorem lcs_some : ∀ (w t : List Nat), ∃ u : List Nat, u.Sublist w ∧ u.Sublist t ∧ u.length = lcs w t
  | [], t => ⟨[], .slnil, List.nil_sublist _, by simp [lcs]⟩
  | c :: w, [] => ⟨[], List.nil_sublist _, .slnil, by simp [lcs]⟩
  | c :: w, d :: t => by
    rw [lcs]
    split
    · rename_i h
      subst h
      obtain ⟨u, h1, h2, h3⟩ := lcs_some w t
      exact ⟨c :: u, h1.cons_cons _, h2.cons_cons _, by simp [h3]⟩
    · obtain ⟨u, h1, h2, h3⟩ := lcs_some (c :: w) t
      obtain ⟨v, k1, k2, k3⟩ := lcs_some w (d :: t)
      by_cases hm : lcs w (d :: t) ≤ lcs (c :: w) t
      · exact ⟨u, h1, h2.cons _, by omega⟩
      · exact ⟨v, k1.cons _, k2, by omega⟩
termination_by w t => w.length + t.length
theorem lcs_most : ∀ (w t u : List Nat), u.Sublist w → u.Sublist t → u.length ≤ lcs w t
  | [], t, u, h1, _ => by have := List.sublist_nil.mp h1; subst this; simp
  | c :: w, [], u, _, h2 => by have := List.sublist_nil.mp h2; subst this; simp
  | c :: w, d :: t, u, h1, h2 => by
    rw [lcs]
    split
    · have := lcs_most w t u.tail (h1.tail) (h2.tail)
      have : u.tail.length = u.length - 1 := List.length_tail
      omega
    · rename_i hne
      rcases List.sublist_cons_iff.mp h1 with h | ⟨r, rfl, h⟩
      · have := lcs_most w (d :: t) u h h2
        omega
      · rcases List.sublist_cons_iff.mp h2 with k | ⟨r', e, k⟩
        · have := lcs_most (c :: w) t (c :: r) h1 k
          omega
        · simp only [List.cons.injEq] at e
          exact absurd e.1 hne
termination_by w t => w.length + t.length
/-- one letter goes over the gaps -/
def pass (c : Nat) : List Nat → List Nat → Nat → List Nat
  | g :: gs, s :: ss, held => if s = c ∨ held > g then held :: pass c gs ss g else g :: pass c gs ss held
  | _, _, _ => []
/-- what the gaps say of a word and the letters from f on -/
def Says (f : Nat) (w : List Nat) : List Nat → List Nat → List Nat → Prop
  | t, g :: gs, s :: ss => lcs w (s :: t) = lcs w t + (if g ≤ f then 1 else 0) ∧ Says f w (s :: t) gs ss
  | _, _, _ => True
theorem says_pass {f c : Nat} {w : List Nat} : ∀ (gs ss t : List Nat) (held : Nat), Says f w t gs ss → lcs (c :: w) t = lcs w t + (if held > f then 1 else 0) → Says f (c :: w) t (pass c gs ss held) ss
  | [], _, _, _, _, _ => by simp [pass, Says]
  | _ :: _, [], _, _, _, _ => by simp [pass, Says]
  | g :: gs, s :: ss, t, held, ⟨h1, h2⟩, hv => by
    rw [pass]
    by_cases hm : s = c
    · subst hm
      have e : lcs (s :: w) (s :: t) = lcs w t + 1 := by rw [lcs, if_pos rfl]
      rw [if_pos (.inl rfl)]
      refine ⟨?_, says_pass gs ss (s :: t) g h2 ?_⟩
      · rw [e, hv]; split <;> split <;> omega
      · rw [e, h1]; split <;> split <;> omega
    · have e : lcs (c :: w) (s :: t) = max (lcs (c :: w) t) (lcs w (s :: t)) := by rw [lcs, if_neg fun q => hm q.symm]
      by_cases hg : held > g
      · rw [if_pos (.inr hg)]
        refine ⟨?_, says_pass gs ss (s :: t) g h2 ?_⟩
        · rw [e, h1, hv]; split <;> split <;> split <;> omega
        · rw [e, h1, hv]; split <;> split <;> split <;> omega
      · rw [if_neg (by simp [hm, hg])]
        refine ⟨?_, says_pass gs ss (s :: t) held h2 ?_⟩
        · rw [e, h1, hv]; split <;> split <;> omega
        · rw [e, h1, hv]; split <;> split <;> omega
/-- each gap is no longer than its place says -/
def Low : Nat → List Nat → Prop
  | _, [] => True
  | j, g :: gs => g ≤ j + 1 ∧ Low (j + 1) gs
theorem low_pass {c : Nat} : ∀ (gs ss : List Nat) (j held : Nat), Low j gs → held ≤ j → Low j (pass c gs ss held)
  | [], _, _, _, _, _ => by simp [pass, Low]
  | _ :: _, [], _, _, _, _ => by simp [pass, Low]
  | g :: gs, s :: ss, j, held, ⟨h1, h2⟩, hh => by
    rw [pass]
    split
    · exact ⟨by omega, low_pass gs ss (j + 1) g h2 h1⟩
    · exact ⟨h1, low_pass gs ss (j + 1) held h2 (by omega)⟩
theorem pass_drop {c : Nat} : ∀ (n : Nat) (gs ss : List Nat) (j held : Nat), Low j gs → held ≤ j → ∃ held', held' ≤ j + n ∧ (pass c gs ss held).drop n = pass c (gs.drop n) (ss.drop n) held'
  | 0, gs, ss, j, held, _, hh => ⟨held, hh, rfl⟩
  | n + 1, [], ss, j, held, _, hh => ⟨0, by omega, by simp [pass]⟩
  | n + 1, g :: gs, [], j, held, _, hh => ⟨0, by omega, by cases h : List.drop (n + 1) (g :: gs) <;> simp [pass]⟩
  | n + 1, g :: gs, s :: ss, j, held, ⟨h1, h2⟩, hh => by
    rw [pass]
    split
    · obtain ⟨h', a, b⟩ := pass_drop n gs ss (j + 1) g h2 h1
      exact ⟨h', by omega, b⟩
    · obtain ⟨h', a, b⟩ := pass_drop n gs ss (j + 1) held h2 (by omega)
      exact ⟨h', by omega, b⟩
theorem pass_len {c : Nat} : ∀ (gs ss : List Nat) (held : Nat), gs.length = ss.length → (pass c gs ss held).length = ss.length
  | [], [], _, _ => rfl
  | g :: gs, s :: ss, held, h => by
    rw [pass]
    split <;> simp [pass_len gs ss _ (by simpa using h)]
/-- the gaps behind a word -/
def Told (ss : List Nat) (w gs : List Nat) : Prop := gs.length = ss.length ∧ Low 0 gs ∧ ∀ f, Says f w [] (gs.drop f) (ss.drop f)
theorem told_step {ss w gs : List Nat} {c : Nat} (H : Told ss w gs) : Told ss (c :: w) (pass c gs ss 0) := by
  obtain ⟨h1, h2, h3⟩ := H
  refine ⟨pass_len gs ss 0 h1, low_pass gs ss 0 0 h2 (Nat.le_refl _), fun f => ?_⟩
  obtain ⟨h', a, b⟩ := pass_drop (c := c) f gs ss 0 0 h2 (Nat.le_refl _)
  rw [b]
  refine says_pass _ _ _ _ (h3 f) ?_
  rw [lcs_nil, lcs_nil, if_neg (by omega)]
theorem told_fold {ss : List Nat} : ∀ (l w gs : List Nat), Told ss w gs → Told ss (l.reverse ++ w) (l.foldl (fun g c => pass c g ss 0) gs)
  | [], _, _, H => H
  | c :: l, w, gs, H => by
    have := told_fold l (c :: w) _ (told_step (c := c) H)
    simpa using this
theorem says_count {f : Nat} {w : List Nat} : ∀ (n : Nat) (gs ss t : List Nat), gs.length = ss.length → Says f w t gs ss → lcs w t + ((gs.take n).filter (fun g => decide (g ≤ f))).length = lcs w ((ss.take n).reverse ++ t)
  | 0, _, _, t, _, _ => by simp
  | n + 1, [], [], t, _, _ => by simp
  | n + 1, g :: gs, s :: ss, t, hl, ⟨h1, h2⟩ => by
    have ih := says_count n gs ss (s :: t) (by simpa using hl) h2
    rw [h1] at ih
    simp only [List.take_succ_cons, List.reverse_cons, List.append_assoc, List.singleton_append, List.filter_cons]
    rw [← ih]
    by_cases hg : g ≤ f
    · simp [hg]; omega
    · simp [hg]
theorem told_count {ss w gs : List Nat} (H : Told ss w gs) (f n : Nat) : (((gs.drop f).take n).filter (fun g => decide (g ≤ f))).length = lcs w ((ss.drop f).take n).reverse := by
  have := says_count (f := f) (w := w) n (gs.drop f) (ss.drop f) [] (by simp [H.1]) (H.2.2 f)
  rw [lcs_nil] at this
  simpa using this
theorem says_zero {f : Nat} : ∀ (gs ss t : List Nat), (∀ g ∈ gs, f < g) → Says f [] t gs ss
  | [], _, _, _ => by simp [Says]
  | _ :: _, [], _, _ => by simp [Says]
  | g :: gs, s :: ss, t, h => by
    refine ⟨?_, says_zero gs ss _ fun x hx => h x (.tail _ hx)⟩
    rw [if_neg (by have := h g (.head _); omega)]
    simp [lcs]
theorem told_first (ss : List Nat) (hl : ss.length = 5) : Told ss [] [1, 2, 3, 4, 5] := by
  refine ⟨by simp [hl], by simp [Low], fun f => says_zero _ _ _ fun g hg => ?_⟩
  match f with
  | 0 => simp at hg; omega
  | 1 => simp at hg; omega
  | 2 => simp at hg; omega
  | 3 => simp at hg; omega
  | 4 => simp at hg; omega
  | n + 5 => simp at hg
end
section
open PySem PySem.W PySem.Calls PyProof.Rows PySem.Builtin PySem.Builtin.Str
abbrev mk (l : List Nat) : Str := ⟨l.toArray⟩
theorem mk_append (a b : List Nat) : mk a ++ mk b = mk (a ++ b) := Str.ext' (by rw [Str.cps_append]; simp)
theorem mk_len (a : List Nat) : (mk a).length = a.length := by show a.toArray.size = _; simp
theorem dots_mk : Str.ofString "..." = mk [46, 46, 46] := by decide +kernel
theorem at_iff (x : Str) (y : List Nat) (hi i : Nat) : StrLaws.At x (mk y) hi i ↔ i + y.length ≤ hi ∧ (x.cps.toList.drop i).take y.length = y := by
  unfold StrLaws.At
  rw [StrLaws.subAt_eq, mk_len]
  simp
theorem at_dot {x : Str} {hi i : Nat} (h : StrLaws.At x (mk [46, 46, 46]) hi i) : x.cps.toList[i]? = some 46 := by
  have := congrArg (·[0]?) ((at_iff _ _ _ _).mp h).2
  simpa using this
theorem sub_mk (x : Str) (a c : Nat) : strSub x a c = mk ((x.cps.toList.drop a).take (c - a)) := by
  refine Str.ext' (Array.toList_inj.mp ?_)
  rw [StrLaws.strSub_toList]
theorem x_len (x : Str) : x.cps.toList.length = x.length := by simp [Str.length]
theorem parts_pieces (x : Str) : ∀ (ps : List (List Nat)) (last : List Nat) (a f : Nat) (cuts : List Nat), (∀ p ∈ ps, 46 ∉ p) → 46 ∉ last → x.cps.toList.drop a = ps.flatMap (· ++ [46, 46, 46]) ++ last → a ≤ x.length →
    StrLaws.ChainG x (mk [46, 46, 46]) x.length a cuts f → (∀ k, f ≤ k → ¬ StrLaws.At x (mk [46, 46, 46]) x.length k) → StrLaws.partsFrom x 3 a cuts = ps.map mk ++ [mk last]
  | [], last, a, f, [], _, _, hd, ha, _, _ => by
    show [strSub x a x.length] = _
    rw [sub_mk, hd, List.take_of_length_le]
    · rfl
    · have := congrArg List.length hd
      rw [List.length_drop, x_len] at this
      omega
  | [], last, a, f, c :: r, _, hl, hd, _, hc, _ => by
    exfalso
    have h := at_dot hc.2.1
    have e : (x.cps.toList.drop a)[c - a]? = some 46 := by
      rw [List.getElem?_drop, show a + (c - a) = c from by have := hc.1; omega]; exact h
    rw [hd] at e
    exact hl (by simpa using List.mem_of_getElem? e)
  | p :: ps, last, a, f, cuts, hp, hl, hd, ha, hc, hn => by
    have hd' : x.cps.toList.drop a = p ++ ([46, 46, 46] ++ (ps.flatMap (· ++ [46, 46, 46]) ++ last)) := by rw [hd]; simp
    have hlen : x.length - a = p.length + (3 + ((ps.flatMap (· ++ [46, 46, 46]) ++ last).length)) := by
      have := congrArg List.length hd'
      rw [List.length_drop, x_len, List.length_append, List.length_append] at this
      exact this
    have hdrop : x.cps.toList.drop (a + p.length) = [46, 46, 46] ++ (ps.flatMap (· ++ [46, 46, 46]) ++ last) := by
      rw [← List.drop_drop, hd', List.drop_left]
    have hA : StrLaws.At x (mk [46, 46, 46]) x.length (a + p.length) := (at_iff _ _ _ _).mpr ⟨by simp; omega, by rw [hdrop]; rfl⟩
    have hb : ∀ k, a ≤ k → k < a + p.length → ¬ StrLaws.At x (mk [46, 46, 46]) x.length k := fun k h1 h2 h => by
      have e : (x.cps.toList.drop a)[k - a]? = some 46 := by
        rw [List.getElem?_drop, show a + (k - a) = k from by omega]; exact at_dot h
      rw [hd', List.getElem?_append_left (by omega)] at e
      exact hp p (.head _) (List.mem_of_getElem? e)
    match cuts, hc with
    | [], hc =>
      have e : f = a := hc
      exact absurd hA (hn _ (by omega))
    | c :: r, hc =>
      obtain ⟨h1, h2, h3, h4⟩ := hc
      have e : c = a + p.length := by
        by_cases q1 : c < a + p.length
        · exact absurd h2 (hb c h1 q1)
        · by_cases q2 : a + p.length < c
          · exact absurd hA (h3 _ (by omega) q2)
          · omega
      subst e
      show strSub x a (a + p.length) :: StrLaws.partsFrom x 3 (a + p.length + 3) r = _
      rw [parts_pieces x ps last (a + p.length + 3) f r (fun q hq => hp q (.tail _ hq)) hl (by rw [← List.drop_drop, hdrop]; rfl) (by omega) h4 hn, sub_mk, hd']
      simp
theorem split_pieces (ps : List (List Nat)) (last : List Nat) (hp : ∀ p ∈ ps, 46 ∉ p) (hl : 46 ∉ last) (hne : ps ≠ []) :
    (occurrences (mk (ps.flatMap (· ++ [46, 46, 46]) ++ last)) (mk [46, 46, 46]) 0 (mk (ps.flatMap (· ++ [46, 46, 46]) ++ last)).length 1).isEmpty = false ∧
    Txt.split (mk (ps.flatMap (· ++ [46, 46, 46]) ++ last)) (mk [46, 46, 46]) = ps.map mk ++ [mk last] := by
  generalize hx : mk (ps.flatMap (· ++ [46, 46, 46]) ++ last) = x
  have hd : x.cps.toList = ps.flatMap (· ++ [46, 46, 46]) ++ last := by rw [← hx]
  obtain ⟨p, ps', rfl⟩ := List.exists_cons_of_ne_nil hne
  have hd' : x.cps.toList = p ++ ([46, 46, 46] ++ (ps'.flatMap (· ++ [46, 46, 46]) ++ last)) := by rw [hd]; simp
  have hlen : x.length = p.length + (3 + ((ps'.flatMap (· ++ [46, 46, 46]) ++ last).length)) := by
    have := congrArg List.length hd'
    rw [x_len, List.length_append, List.length_append] at this
    exact this
  have hA : StrLaws.At x (mk [46, 46, 46]) x.length p.length := (at_iff _ _ _ _).mpr ⟨by simp; omega, by rw [hd', List.drop_left]; rfl⟩
  have h1 := (StrLaws.found_iff x (mk [46, 46, 46])).mpr ⟨p.length, hA.1, hA.2⟩
  obtain ⟨f, hG, hn⟩ := StrLaws.occ_tight x (mk [46, 46, 46]) (by decide)
  have key := parts_pieces x (p :: ps') last 0 f _ hp hl (by rw [List.drop_zero]; exact hd) (Nat.zero_le _) hG hn
  refine ⟨by simpa using h1, ?_⟩
  unfold Txt.split
  rw [if_neg, if_neg]
  · rw [StrLaws.partsBetween_eq]; exact key
  · intro he
    have : occurrences x (mk [46, 46, 46]) 0 x.length (x.length + 1) = [] := by simpa using he
    rw [this] at hG
    have e : f = 0 := hG
    exact hn p.length (by omega) hA
  · simp only [Bool.or_eq_true, decide_eq_true_eq, not_or, Nat.not_lt]
    refine ⟨by show 3 ≤ x.length; omega, ?_⟩
    have e : Builtin.Str.strKind (mk [46, 46, 46]) = 1 := by decide +kernel
    rw [e]
    unfold Builtin.Str.strKind
    split
    · exact Nat.le_refl _
    · split <;> decide
theorem fromIdx (n i : Nat) : fromIndex n (i : Int) = i := by unfold fromIndex; split <;> omega
theorem find4_one (x : Str) (c sp ep : Nat) (h : sp ≤ ep) (he : ep ≤ x.length) :
    (find4 x (mk [c]) sp ep = -1 ∧ c ∉ (x.cps.toList.drop sp).take (ep - sp)) ∨
      ∃ i : Nat, find4 x (mk [c]) sp ep = i ∧ i < ep ∧ ∃ pre, (x.cps.toList.drop sp).take (ep - sp) = pre ++ c :: (x.cps.toList.drop (i + 1)).take (ep - (i + 1)) ∧ c ∉ pre := by
  have at1 : ∀ i, StrLaws.At x (mk [c]) ep i ↔ i + 1 ≤ ep ∧ x.cps.toList[i]? = some c := fun i => by
    rw [at_iff]
    refine and_congr_right fun _ => ?_
    have := StrLaws.take1_drop (l := x.cps.toList) (c := c) (i := i)
    rw [← this]; simp
  unfold find4
  rw [fromIdx, fromIdx, Nat.min_eq_left he, StrLaws.occ_eq]
  rcases StrLaws.occ_first x (mk [c]) ep 1 (Nat.le_refl 1) (List.range' sp (ep + 1 - sp)) sp (fun i hi => by have := List.mem_range'_1.mp hi; omega) with ⟨h0, hn⟩ | ⟨pre, a, post, e, h0, ha, hn⟩
  · left
    rw [h0]
    refine ⟨rfl, fun hm => ?_⟩
    obtain ⟨j, hj⟩ := List.getElem?_of_mem hm
    have hlt : j < ep - sp := by
      have h1 := (List.getElem?_eq_some_iff.mp hj).1
      simp at h1; omega
    rw [List.getElem?_take_of_lt hlt, List.getElem?_drop] at hj
    exact hn (sp + j) (by rw [List.mem_range'_1]; omega) ((at1 _).mpr ⟨by omega, hj⟩)
  · right
    have hs := StrLaws.range'_split_from e
    obtain ⟨ha1, ha2⟩ := (at1 a).mp ha
    refine ⟨a, ?_, by omega, (x.cps.toList.drop sp).take (a - sp), ?_, ?_⟩
    · generalize (forIn (List.range' sp (ep + 1 - sp)) ((#[] : Array Nat), sp) (StrLaws.occBody x (mk [c]) ep 1)).run.fst = arr at h0
      have h1 : arr.toList[0]? = some a := by simpa using h0
      cases hL : arr.toList with
      | nil => rw [hL] at h1; cases h1
      | cons b t => rw [hL] at h1; simp at h1; rw [h1]
    · have hlt : a < x.cps.toList.length := by rw [x_len]; omega
      have e1 : x.cps.toList.drop a = c :: x.cps.toList.drop (a + 1) := by
        rw [List.drop_eq_getElem_cons hlt]
        congr 1
        exact Option.some.inj ((List.getElem?_eq_getElem hlt).symm.trans ha2)
      have e2 : (x.cps.toList.drop sp).take (ep - sp) = (x.cps.toList.drop sp).take (a - sp) ++ (x.cps.toList.drop a).take (ep - a) := by
        rw [show ep - sp = (a - sp) + (ep - a) from by omega, List.take_add, List.drop_drop, show sp + (a - sp) = a from by omega]
      rw [e2, e1, show ep - a = (ep - (a + 1)) + 1 from by omega, List.take_succ_cons]
    · intro hm
      obtain ⟨j, hj⟩ := List.getElem?_of_mem hm
      have hlt : j < a - sp := by
        have h1 := (List.getElem?_eq_some_iff.mp hj).1
        simp at h1; omega
      rw [List.getElem?_take_of_lt hlt, List.getElem?_drop] at hj
      exact hn (sp + j) (hs.2 _ (by omega) (by omega)) ((at1 _).mpr ⟨by omega, hj⟩)
theorem find4_nil (x : Str) (sp ep : Nat) (h : sp ≤ ep) (he : ep ≤ x.length) : find4 x (mk []) sp ep = sp := by
  unfold find4
  rw [fromIdx, fromIdx, Nat.min_eq_left he, StrLaws.occ_eq]
  have hA : StrLaws.At x (mk []) ep sp := (at_iff _ _ _ _).mpr ⟨by simpa using h, by simp⟩
  rcases StrLaws.occ_first x (mk []) ep 1 (Nat.le_refl 1) (List.range' sp (ep + 1 - sp)) sp (fun i hi => by have := List.mem_range'_1.mp hi; omega) with ⟨h0, hn⟩ | ⟨pre, a, post, e, h0, ha, hn⟩
  · exact absurd hA (hn sp (by rw [List.mem_range'_1]; omega))
  · have hs := StrLaws.range'_split_from e
    have : a = sp := by
      by_cases q : sp < a
      · exact absurd hA (hn sp (hs.2 sp (Nat.le_refl _) q))
      · omega
    subst this
    generalize (forIn (List.range' a (ep + 1 - a)) ((#[] : Array Nat), a) (StrLaws.occBody x (mk []) ep 1)).run.fst = arr at h0
    have h1 : arr.toList[0]? = some a := by simpa using h0
    cases hL : arr.toList with
    | nil => rw [hL] at h1; cases h1
    | cons b t => rw [hL] at h1; simp at h1; rw [h1]
theorem isSub_skip {c : Nat} {ws rest : List Nat} : ∀ {pre : List Nat}, c ∉ pre → (c :: ws).isSublist (pre ++ c :: rest) = ws.isSublist rest
  | [], _ => by simp [List.isSublist]
  | a :: pre, h => by
    have h1 : c ≠ a := fun e => h (e ▸ .head _)
    have ih := isSub_skip (c := c) (ws := ws) (rest := rest) (pre := pre) fun hm => h (.tail _ hm)
    rw [List.cons_append, List.isSublist, if_neg (by simpa using h1), ih]
theorem isSub_none {c : Nat} {ws t : List Nat} (h : c ∉ t) : (c :: ws).isSublist t = false := by
  rw [Bool.eq_false_iff]
  intro e
  exact h ((List.isSublist_iff_sublist.mp e).subset (.head _))
theorem loop_sub (got : Str) (ep : Nat) (he : ep ≤ got.length) : ∀ (ws : List Nat) (sp : Nat), sp ≤ ep → emLoop got ep (ws.map fun c => mk [c]) sp = ws.isSublist ((got.cps.toList.drop sp).take (ep - sp))
  | [], _, _ => by simp [emLoop, List.isSublist]
  | c :: ws, sp, h => by
    rw [List.map_cons, emLoop]
    rcases find4_one got c sp ep h he with ⟨e, hn⟩ | ⟨i, e, hi, pre, e2, hn⟩
    · rw [e, if_pos (by decide), isSub_none hn]
    · rw [e, if_neg (by omega), e2, isSub_skip hn, ← loop_sub got ep he ws (i + 1) (by omega)]
      rfl
theorem em_sub {front back ws text : List Nat} (hf : 46 ∉ front) (hb : 46 ∉ back) (hw : 46 ∉ ws) :
    em (mk front ++ Str.ofString "..." ++ mk (ws.flatMap fun c => [c, 46, 46, 46]) ++ mk back) (mk front ++ mk text ++ mk back) = ws.isSublist text := by
  have e1 : mk front ++ Str.ofString "..." ++ mk (ws.flatMap fun c => [c, 46, 46, 46]) ++ mk back = mk ((front :: ws.map fun c => [c]).flatMap (· ++ [46, 46, 46]) ++ back) := by
    rw [dots_mk, mk_append, mk_append, mk_append]
    congr 2
    rw [List.flatMap_cons, List.flatMap_map]
    simp
  obtain ⟨h1, h2⟩ := split_pieces (front :: ws.map fun c => [c]) back (by
    intro p hp
    rcases List.mem_cons.mp hp with rfl | hp
    · exact hf
    · obtain ⟨c, hc, rfl⟩ := List.mem_map.mp hp
      intro hm
      exact hw (List.mem_singleton.mp hm ▸ hc)) hb (by simp)
  rw [e1, mk_append, mk_append]
  unfold em
  rw [dots_mk, h1, h2]
  simp only [Bool.false_eq_true, if_false, List.map_cons, List.cons_append, List.map_map]
  have e3 : (List.map (mk ∘ fun c => [c]) ws ++ [mk back]).getLastD Str.empty = mk back := by simp
  have e4 : (List.map (mk ∘ fun c => [c]) ws ++ [mk back]).dropLast = ws.map fun c => mk [c] := by simp [Function.comp_def]
  rw [e3, e4]
  generalize hg : mk (front ++ text ++ back) = got
  have hgl : got.cps.toList = front ++ text ++ back := by rw [← hg]
  have hlen : got.length = front.length + text.length + back.length := by rw [← x_len, hgl]; simp; omega
  have hsw : Txt.startswith got (mk front) = true := by
    unfold Txt.startswith
    rw [StrLaws.subAt_eq, mk_len front, hgl, hlen]
    simp; omega
  have hew : Txt.endswith got (mk back) = true := by
    unfold Txt.endswith
    rw [StrLaws.subAt_eq, mk_len back, hgl, hlen, show front.length + text.length + back.length - back.length = (front ++ text).length from by simp, List.drop_left]
    simp
  have hmid : ∀ sp ep : Nat, sp = front.length → ep = front.length + text.length → (got.cps.toList.drop sp).take (ep - sp) = text := by
    rintro sp ep rfl rfl
    rw [hgl, List.append_assoc, List.drop_left, show front.length + text.length - front.length = text.length from by omega, List.take_left]
  unfold emParts
  rw [hsw, hew]
  simp only [Bool.not_true, Bool.and_false, Bool.false_eq_true, if_false]
  have ha : (mk front).cps.isEmpty = front.isEmpty := by simp
  have hb' : (mk back).cps.isEmpty = back.isEmpty := by simp
  rw [ha, hb', mk_len front, mk_len back, hlen]
  have hsp : (if (!front.isEmpty) = true then (front.length : Int) else 0) = ((front.length : Nat) : Int) := by cases front <;> simp
  have hep : (if (!back.isEmpty) = true then ((front.length + text.length + back.length : Nat) : Int) - (back.length : Int) else ((front.length + text.length + back.length : Nat) : Int)) = ((front.length + text.length : Nat) : Int) := by cases back <;> simp
  rw [hsp, hep]
  rw [if_neg (by omega)]
  have hfin : ∀ l : List Nat, emLoop got ((front.length + text.length : Nat) : Int) (ws.map (fun c => mk [c]) ++ (if (!back.isEmpty) = true then [] else [mk back])) ((front.length : Nat) : Int) = ws.isSublist text := by
    intro _
    by_cases hbk : back = []
    · subst hbk
      simp only [List.isEmpty_nil, Bool.not_true, Bool.false_eq_true, if_false]
      have key : ∀ (us : List Nat) (sp : Nat), sp ≤ front.length + text.length → emLoop got ((front.length + text.length : Nat) : Int) (us.map (fun c => mk [c]) ++ [mk []]) (sp : Int) = emLoop got ((front.length + text.length : Nat) : Int) (us.map (fun c => mk [c])) (sp : Int) := by
        intro us
        induction us with
        | nil =>
          intro sp hs
          simp only [List.map_nil, List.nil_append, emLoop]
          rw [find4_nil got sp _ hs (by omega), if_neg (by omega)]
        | cons c us ih =>
          intro sp hs
          simp only [List.map_cons, List.cons_append, emLoop]
          rcases find4_one got c sp _ hs (by omega) with ⟨e, _⟩ | ⟨i, e, hi, _⟩
          · rw [e]; rfl
          · rw [e, if_neg (by omega), if_neg (by omega)]
            exact ih (i + 1) (by omega)
      rw [key ws _ (by omega), loop_sub got _ (by omega) ws _ (by omega), hmid _ _ rfl rfl]
    · have : back.isEmpty = false := by cases back <;> simp_all
      rw [this]
      simp only [Bool.not_false, if_true, List.append_nil]
      rw [loop_sub got _ (by omega) ws _ (by omega), hmid _ _ rfl rfl]
  by_cases hfr : front = []
  · subst hfr
    simp only [List.isEmpty_nil, Bool.not_true, Bool.false_eq_true, if_false, List.singleton_append, List.cons_append, emLoop]
    have hz := find4_nil got 0 (([] : List Nat).length + text.length) (by omega) (by omega)
    have hz' : find4 got (mk []) ((([] : List Nat).length : Nat) : Int) ((([] : List Nat).length + text.length : Nat) : Int) = 0 := hz
    rw [hz', if_neg (by decide)]
    exact hfin []
  · have : front.isEmpty = false := by cases front <;> simp_all
    rw [this]
    simp only [Bool.not_false, if_true, List.nil_append]
    exact hfin []
end
section
open PySem PySem.W PySem.Calls PyProof.Rows PySem.Builtin PySem.Builtin.Str
/-- the base without the two code tables -/
abbrev hid (h : Heap) : Heap := hideAll h [235, 242]
theorem hid_get {h : Heap} {a : Addr} {o : Obj} (e : h.get? a = some o) (h1 : a ≠ 235) (h2 : a ≠ 242) : (hid h).get? a = some o := hideAll_get _ e (by simp [h1, h2])
theorem hid_lit {h : Heap} {a : Addr} {o : Obj} (e : h.get? a = some o) (h1 : a ∉ [235, 242]) : (hid h).get? a = some o := hideAll_get _ e h1
theorem hid_top {p : Program} {loose : List Str} {mean : ExcName → Option Value} {mg mb : Mp} {h : Heap} {o1 o2 : Obj} (T : Top p loose mean mg mb h) (e1 : h.get? 235 = some o1) (e2 : h.get? 242 = some o2) (c1 : o1.cls = .none) (c2 : o2.cls = .none)
    (hs : (loose ++ ((recsOf p).map (·.name)) ++ ((litsOf p).map (·.1)) ++ ((clssOf p loose).map (·.name))).all (fun x => loose1.contains x) = true) : Top view1 loose1 mean mg mb (hid h) where
  g := T.g.at' fun o e => hid_lit e (by decide)
  b := T.b.at' fun o e => hid_lit e (by decide)
  nolimit := let ⟨mc, a, b⟩ := T.nolimit; ⟨mc, a.at' fun o e => hid_lit e (by decide), b⟩
  nodigits := let ⟨mc, a, b⟩ := T.nodigits; ⟨mc, a.at' fun o e => hid_lit e (by decide), b⟩
  fn := fun d hd => nomatch hd
  own := fun d hd => nomatch hd
  const := fun x d hd => nomatch hd
  free := fun x h1 h2 h3 h4 h5 => by
    have key : ∀ y ∈ loose ++ ((recsOf p).map (·.name)) ++ ((litsOf p).map (·.1)) ++ ((clssOf p loose).map (·.name)), y ≠ x := fun y hy e => by
      have := List.all_eq_true.mp hs y hy
      rw [e] at this
      exact h2 (by simpa using this)
    refine T.free x h1 (fun hy => key x ?_ rfl) (fun hy => key x ?_ rfl) (fun hy => key x ?_ rfl) (fun hy => key x ?_ rfl)
    · simp only [List.mem_append]; exact .inl (.inl (.inl hy))
    · simp only [List.mem_append]; exact .inl (.inl (.inr hy))
    · simp only [List.mem_append]; exact .inl (.inr hy)
    · simp only [List.mem_append]; exact .inr hy
  builtins := T.builtins
  tab := fun d hd => nomatch hd
  bmain := by
    obtain ⟨bm, ob, a, b, c, d, e⟩ := T.bmain
    refine ⟨bm, ob, a, b, hid_get c ?_ ?_, d, e⟩
    · intro q; rw [q, e1] at c; cases c; rw [c1] at d; cases d
    · intro q; rw [q, e2] at c; cases c; rw [c2] at d; cases d
  seer := fun h => by cases h
theorem frag_mem {a : Addr} {o : Obj} : ∀ {K : Frag}, K.lookup a = some o → a ∈ K.map (·.1)
  | [], e => by cases e
  | (b, x) :: r, e => by
    rw [List.lookup_cons] at e
    cases h : (a == b) with
    | true => rw [eq_of_beq h]; exact .head _
    | false => rw [h] at e; exact .tail _ (frag_mem e)
theorem hid_in {K : Frag} {h : Heap} (X : K.In h) (hk : (K.map (·.1)).all (fun a => a != 235 && a != 242) = true) : K.In (hid h) := fun a o e => by
  refine hid_lit (X a o e) ?_
  have hm : a ∈ K.map (·.1) := frag_mem e
  have := List.all_eq_true.mp hk a hm
  simp at this
  simp [this]
theorem hid_fr {h h₁ : Heap} {L : Addr} {m : Mp} (F : Fr h L h₁ m) : Fr (hid h) L h₁ m := ⟨F.ns, fun b o e => F.keep b o (of_hideAll _ e), by rw [hideAll_size]; exact F.above⟩
theorem hid_news {h h₁ : Heap} {L : Addr} {m : Mp} {news : Led} {o1 o2 : Obj} (F : Fr h L h₁ m) (N : News h L h₁ news) (e1 : h.get? 235 = some o1) (e2 : h.get? 242 = some o2) : News (hid h) L h₁ ((235, o1) :: (242, o2) :: news) := fun p hp => by
  rcases List.mem_cons.mp hp with rfl | hp
  · exact ⟨F.keep _ _ e1, fun q => absurd (Heap.lt_size e1) (Nat.not_lt.mpr (Nat.le_trans F.above (Nat.le_of_eq q.symm))), hideAll_none _ (by simp)⟩
  · rcases List.mem_cons.mp hp with rfl | hp
    · exact ⟨F.keep _ _ e2, fun q => absurd (Heap.lt_size e2) (Nat.not_lt.mpr (Nat.le_trans F.above (Nat.le_of_eq q.symm))), hideAll_none _ (by simp)⟩
    · refine ⟨(N p hp).1, (N p hp).2.1, ?_⟩
      cases q : (hid h).get? p.1 with
      | none => rfl
      | some o => have := of_hideAll _ q; rw [(N p hp).2.2] at this; cases this
end
/-- where the walk is to stop -/
theorem stopHere {P : Prop} (h : id P) : P := h
local macro_rules | `(tactic| k_mem) => `(tactic| assumption)
local macro_rules | `(tactic| k_all) => `(tactic| first | exact lt_ne (by assumption) | exact allLt_ne (by assumption) | exact lt_ne1 (by assumption) | exact lt_ne2 (by assumption))
local macro_rules | `(tactic| k_inst) => `(tactic| (refine' InstAt.acc ?aN ?a1 ?a2; (case aN => k_asm); (case a1 => k_mem); (case a2 => k_mem)))
local macro_rules | `(tactic| walk_at "gclaim") => `(tactic| ((try (case gB => k_asm)); (try (case gF => k_asm)); (try (case gX => k_asm)); (try (case gN => k_asm)); (try (case gT => k_asm)); (try (case gk => first | exact rfl | assumption)); (try (case gd => ktr_room)); (try (case gu => first | ktr_units | ((simp only [units_deeper, units_under_make]); ktr_units)))))
local macro_rules | `(tactic| k_all) => `(tactic| assumption)
section
open PySem PySem.W PySem.Calls PyProof.Rows PySem.Builtin PySem.Builtin.Str
section
set_option maxHeartbeats 1000000 in
theorem conv_ok (w : World) (mean) (mg mb) (x : Str) (t : Tok) (o : Value) (b : Bool) (hx : Clean x) :
    GClaim1 w mean mg mb 2 83 [o, .str x t] [(Str.ofString "name", .bool b)] (fun _ _ => True) (fun h₀ L m news K => ∀ h' tk', Fr h₀ L h' m → News h₀ L h' news → K (.str x t) h' tk') := by
  unfold GClaim1 prog1
  k_fill
  intros; rename_i hpre hdp hun hret
  dsimp only at hret
  have P48 : PatIn (Mine.K1 w.params) 48 := ⟨_, _, 47, _, by k_is, rfl, rfl, rfl, by k_is, .inl (by decide +kernel)⟩
  have P53 : PatIn (Mine.K1 w.params) 53 := ⟨_, _, 52, _, by k_is, rfl, rfl, rfl, by k_is, .inr (by decide +kernel)⟩
  refine wpAny_call ?_
  k_dflt (first | (refine' code_def ?k1 ?k2 ?k3 ?k4 ?k5 ?kA ?kF ?kK ?k6 ?k7 ?k8 ?k9 ?kB ?_ ?c2 ?c3 ?c4 ?c5; (case kA => exact rfl); (case kF => exact rfl); (case kK => assumption); (case k1 => k_asm); (case k2 => k_asm); (case k3 => k_asm); (case k4 => k_asm); (case k5 => k_asm); (case k6 => k_is); (case k7 => k_is); (case k8 => ktr_room); (case k9 => exact binds_K (by k_in) rfl (by k_is) rfl rfl rfl); (case c5 => decide); (case kB => exact locs rfl); (case c2 => exact rfl); (case c3 => exact rfl); (case c4 => exact rfl); k_whole; intro g' L' h' FG' F' N' B' X' T'; (try dsimp only); (try k_lift B'); (try k_fold)) | (refine' ks_code_super ?k1 ?k2 ?k3 ?k4 ?k5 ?kA ?kF ?kK ?k6 ?k7 ?k8 ?k9 ?kB ?_ ?c1 ?c2 ?c3 ?c4; (case kA => exact rfl); (case kF => exact rfl); (case kK => first | exact rfl | assumption); (case k1 => k_asm); (case k2 => k_asm); (case k3 => k_asm); (case k4 => k_asm); (case k5 => k_asm); (case k6 => k_is); (case k7 => k_is); (case k8 => ktr_room); (case k9 => first | exact BindsTo.of_eq rfl | exact binds_K (by k_in) rfl (by k_is) rfl rfl rfl); (case kB => exact locs rfl); (case c1 => decide); (case c2 => exact rfl); (case c3 => exact rfl); (case c4 => exact rfl); intro g' L' h' FG' F' N' B' X' T' lc1; (try k_lt lc1); (try dsimp only); (try k_lift B')) | (refine' code_defC ?k1 ?k2 ?k3 ?k4 ?k5 ?kA ?kF ?kK ?k6 ?k7 ?k8 ?k9 ?kB ?kD ?_ ?c2 ?c3 ?c4; (case kA => exact rfl); (case kF => exact rfl); (case kK => first | exact rfl | assumption); (case k1 => k_asm); (case k2 => k_asm); (case k3 => k_asm); (case k4 => k_asm); (case k5 => k_asm); (case k6 => k_is); (case k7 => k_is); (case k8 => ktr_room); (case k9 => first | exact BindsTo.of_eq rfl | exact binds_K (by k_in) rfl (by k_is) rfl rfl rfl | fail "k_enter: no rule for these arguments"); (case kB => exact rfl); (case kD => decide +kernel); (case c2 => exact rfl); (case c3 => exact rfl); (case c4 => exact rfl); k_whole; intro g' L' h' tk' cells' FG' F' N' Y' B' X' T' lc1; (try k_lt lc1); k_cells Y'; (try simp only [List.cons_append, List.nil_append] at N'); (try dsimp only); (try k_lift B'); (try k_fold)) | cell_enter)
  repeat' (first | (k_unfold; (try dsimp only)) | (k_end; wrow_close) | (with_reducible (first | (k_here; (with_reducible show wpAny _ _ (call (Value.builtin "re.Pattern.search") _ _) _ _ _); k_dflt (refine' re_search_K ?F ?X ?P ?x ?_; (case F => k_asm); (case X => k_asm); (case P => assumption); (case x => assumption))) | (k_here; (with_reducible show wpAny _ _ (getMethod (Value.ref _) (Str.ofString "search") _) _ _ _); k_dflt (refine' re_method_K ?F ?X ?P ?_; (case F => k_asm); (case X => k_asm); (case P => assumption))))) | walk1 | (dsimp only; first | (with_reducible (first | (k_here; (with_reducible show wpAny _ _ (call (Value.builtin "re.Pattern.search") _ _) _ _ _); k_dflt (refine' re_search_K ?F ?X ?P ?x ?_; (case F => k_asm); (case X => k_asm); (case P => assumption); (case x => assumption))) | (k_here; (with_reducible show wpAny _ _ (getMethod (Value.ref _) (Str.ofString "search") _) _ _ _); k_dflt (refine' re_method_K ?F ?X ?P ?_; (case F => k_asm); (case X => k_asm); (case P => assumption))))) | walk1) | (leave1; try dsimp only) | fail "no step")
  all_goals exact hret _ _ (by k_asm) (by k_asm)
end
end
section
open PySem PySem.W PySem.Calls PyProof.Rows PySem.Builtin PySem.Builtin.Str

set_option maxHeartbeats 4000000 in
theorem em_ok (w : World) (mean) (mg mb) (news) (want got : Str) (t1 t2 : Tok) : Claim1 w mean mg mb 193 news [] (want.length ≤ 1000 ∧ got.length ≤ 1000) [.str want t1, .str got t2] (fun _ => .bool (em want got)) := by
  unfold Claim1 prog1
  k_fill
  dsimp only [CbClaim, CbLists, CbRet]; intros; rename_i hpre hdp hun hret
  obtain ⟨hp1, hp2⟩ := hpre
  refine wpAny_call ?_
  k_dflt ktr_enter
  repeat' (first | (k_unfold; (try dsimp only)) | (k_end; wrow_close) | (with_reducible (first | (k_here; (with_reducible show wpAny _ _ (exec (Stmt.For (Expr.Name _ _) (Expr.Name _ _) _ _ _) _) _ _ _); (rename Fr _ _ _ _ => lF'); k_dflt (refine' For_invVF lF' ?k1 ?k2 ?_; (case k1 => exact rfl); (case k2 => exact rfl)); k_whole) | (k_here; (with_reducible show wpAny _ _ (delItem _ (Value.int (-1) _)) _ _ _); k_dflt (refine' led_delL ?F ?N ?U ?e ?z ?_; (case F => k_asm); (case N => k_asm); (case U => k_upd); (case e => first | exact snoc_cs | rfl); (case z => (simp only [strValues, List.length_map, List.length_cons, List.length_append, List.length_nil, sizeLine_eq]; omega)); intro h' F' N')) | (k_here; (with_reducible show wpAny _ _ (delItem _ (Value.int 0 _)) _ _ _); k_dflt (refine' led_del0 ?F ?N ?U ?e ?z ?_; (case F => k_asm); (case N => k_asm); (case U => k_upd); (case e => rfl); (case z => (simp only [strValues, List.length_map, List.length_cons, List.length_append, List.length_nil, sizeLine_eq]; omega)); intro h' F' N')) | (k_here; (with_reducible show wpAny _ _ (call (Value.builtin "len") [Value.ref _]) _ _ _); k_dflt (refine' len_r ?N ?m ?x ?z ?_; (case N => k_asm); (case m => k_mem); (case x => (simp only [List.length_cons, List.length_append, List.length_nil, Nat.zero_add]; rfl)); (case z => (simp only [strValues, List.length_map, sizeLine_eq]; omega)); intro _ _)) | (k_here; (with_reducible show wpAny _ _ (truthy (Value.str _ _)) _ _ _); k_dflt (refine truth_str (by omega) ?_; intro _)) | (k_here; (with_reducible show wpAny _ _ (subscriptTail (Expr.Name _ _) (Expr.UnaryOp _ _ _) (Value.ref _) (Value.int _ _)) _ _ _); k_dflt (refine' led_itemL ?N ?m ?x ?_; (case N => k_asm); (case m => k_mem); (case x => first | exact last_s | exact last_cs))) | (k_here; (with_reducible show wpAny _ _ (subscriptTail (Expr.Name _ _) (Expr.Constant _ _ _) (Value.ref _) (Value.int _ _)) _ _ _); k_dflt (refine' led_item0 ?N ?m ?x ?_; (case N => k_asm); (case m => k_mem); (case x => rfl))) | (k_here; (with_reducible show wpAny _ _ (call (Value.builtin "str.split") [Value.str _ _, Value.str _ _]) _ _ _); k_dflt ((rename_i hocc); refine' KSpl.split1 ?F ?N ?y ?_ ?z; (case F => k_asm); (case N => k_asm); (case y => decide); (case z => (rw [sizeLine_eq]; omega)); intro D l h' k e a F' N' lc1; (clear a); obtain ⟨a, ta, mid, b, tb, hs, hem, hla, hlb, hlm, hlp⟩ := split_shape _ l e hocc; (rw [hs] at N'); (clear hs); (try k_lt lc1))))) | walk1 | (dsimp only; first | (with_reducible (first | (k_here; (with_reducible show wpAny _ _ (exec (Stmt.For (Expr.Name _ _) (Expr.Name _ _) _ _ _) _) _ _ _); (rename Fr _ _ _ _ => lF'); k_dflt (refine' For_invVF lF' ?k1 ?k2 ?_; (case k1 => exact rfl); (case k2 => exact rfl)); k_whole) | (k_here; (with_reducible show wpAny _ _ (delItem _ (Value.int (-1) _)) _ _ _); k_dflt (refine' led_delL ?F ?N ?U ?e ?z ?_; (case F => k_asm); (case N => k_asm); (case U => k_upd); (case e => first | exact snoc_cs | rfl); (case z => (simp only [strValues, List.length_map, List.length_cons, List.length_append, List.length_nil, sizeLine_eq]; omega)); intro h' F' N')) | (k_here; (with_reducible show wpAny _ _ (delItem _ (Value.int 0 _)) _ _ _); k_dflt (refine' led_del0 ?F ?N ?U ?e ?z ?_; (case F => k_asm); (case N => k_asm); (case U => k_upd); (case e => rfl); (case z => (simp only [strValues, List.length_map, List.length_cons, List.length_append, List.length_nil, sizeLine_eq]; omega)); intro h' F' N')) | (k_here; (with_reducible show wpAny _ _ (call (Value.builtin "len") [Value.ref _]) _ _ _); k_dflt (refine' len_r ?N ?m ?x ?z ?_; (case N => k_asm); (case m => k_mem); (case x => (simp only [List.length_cons, List.length_append, List.length_nil, Nat.zero_add]; rfl)); (case z => (simp only [strValues, List.length_map, sizeLine_eq]; omega)); intro _ _)) | (k_here; (with_reducible show wpAny _ _ (truthy (Value.str _ _)) _ _ _); k_dflt (refine truth_str (by omega) ?_; intro _)) | (k_here; (with_reducible show wpAny _ _ (subscriptTail (Expr.Name _ _) (Expr.UnaryOp _ _ _) (Value.ref _) (Value.int _ _)) _ _ _); k_dflt (refine' led_itemL ?N ?m ?x ?_; (case N => k_asm); (case m => k_mem); (case x => first | exact last_s | exact last_cs))) | (k_here; (with_reducible show wpAny _ _ (subscriptTail (Expr.Name _ _) (Expr.Constant _ _ _) (Value.ref _) (Value.int _ _)) _ _ _); k_dflt (refine' led_item0 ?N ?m ?x ?_; (case N => k_asm); (case m => k_mem); (case x => rfl))) | (k_here; (with_reducible show wpAny _ _ (call (Value.builtin "str.split") [Value.str _ _, Value.str _ _]) _ _ _); k_dflt ((rename_i hocc); refine' KSpl.split1 ?F ?N ?y ?_ ?z; (case F => k_asm); (case N => k_asm); (case y => decide); (case z => (rw [sizeLine_eq]; omega)); intro D l h' k e a F' N' lc1; (clear a); obtain ⟨a, ta, mid, b, tb, hs, hem, hla, hlb, hlm, hlp⟩ := split_shape _ l e hocc; (rw [hs] at N'); (clear hs); (try k_lt lc1))))) | walk1) | (leave1; try dsimp only) | fail "no step")
  all_goals try (
    rename Fr _ _ _ _ => FA
    refine Fr.foldc FA ?_
    clear FA
    intro mA FA
    k_dflt (refine' em_loop ?hh ?hv ?hD ?F ?N ?g ?e ?h0 ?hl ?turn ?done)
    case hh => exact rfl
    case F => k_asm
    case N => k_asm
    case hD => k_mem
    case hv => first | exact sv0 | exact sv1 | exact sv2 | exact rfl
    case g => with_unfolding_all rfl
    case e => with_unfolding_all rfl
    case h0 => with_unfolding_all rfl
    case hl =>
      rename (∀ p ∈ (_ : List (Str × Tok)), Str.length p.1 ≤ Str.length want) => hlp
      intro p hp
      (try simp only [List.mem_cons, List.mem_append, List.not_mem_nil, or_false] at hp)
      first
      | (rcases hp with rfl | hp | rfl <;> (try dsimp only) <;> first | omega | (have := hlp _ hp; omega))
      | (rcases hp with rfl | hp <;> (try dsimp only) <;> first | omega | (have := hlp _ hp; omega))
      | (rcases hp with hp | rfl <;> (try dsimp only) <;> first | omega | (have := hlp _ hp; omega))
      | (have := hlp _ hp; omega)
    case turn =>
      intro I oI x t rest sp tsp u h tk hlx hoff hem2 F' N'
      repeat' (first | (k_unfold; (try dsimp only)) | (k_end; wrow_close) | (with_reducible (first | (k_here; (with_reducible show wpAny _ _ (call (Value.builtin "str.find") _ _) _ _ _); k_dflt (refine find4_r ?_)) | (k_here; (with_reducible show TPost _ _ _ _ _ _ _ _ _ _); dsimp only [TPost]))) | walk1 | (dsimp only; first | (with_reducible (first | (k_here; (with_reducible show wpAny _ _ (call (Value.builtin "str.find") _ _) _ _ _); k_dflt (refine find4_r ?_)) | (k_here; (with_reducible show TPost _ _ _ _ _ _ _ _ _ _); dsimp only [TPost]))) | walk1) | (leave1; try dsimp only) | fail "no step")
      · rename (∀ g, em want g = _) => hem
        refine cb_retB hret ?_ (by k_asm) (by first | k_asm | (refine' cb_drop ?cbN ?cbS; (case cbN => assumption); (case cbS => (intro p hp; first | exact .tail _ hp | exact .tail _ (.tail _ hp) | exact .tail _ (.tail _ (.tail _ hp)) | exact .tail _ (.tail _ (.tail _ (.tail _ hp)))))))
        refine ((hem _).trans (Eq.trans ?_ (hem2.trans (if_pos (by assumption))))).symm
        first
        | exact em_L0 (by assumption) (by assumption)
        | exact em_L1 (by assumption) (by assumption) (by assumption) (by assumption)
        | exact em_L2 (by assumption) (by assumption) (by assumption) (by assumption)
        | exact em_L3 (by assumption) (by assumption) (by assumption) (by assumption) (by assumption)
      · refine ⟨_, _, _, _, rfl, by k_asm, by k_asm, hoff, ?_, rfl, ?_, ⟨_, by with_unfolding_all rfl⟩, ?_⟩
        · intro p hp; rw [List.mem_singleton.mp hp]; k_mem
        · assumption
        · intro z h1 h2; simp [h1, h2]
    case done =>
      intro m' h tk hem2 F' N'
      repeat' (first | (k_unfold; (try dsimp only)) | (k_end; wrow_close) | walk1 | (dsimp only; first | walk1) | (leave1; try dsimp only) | fail "no step")
      rename (∀ g, em want g = _) => hem
      refine cb_retB hret ?_ (by k_asm) (by first | k_asm | (refine' cb_drop ?cbN ?cbS; (case cbN => assumption); (case cbS => (intro p hp; first | exact .tail _ hp | exact .tail _ (.tail _ hp) | exact .tail _ (.tail _ (.tail _ hp)) | exact .tail _ (.tail _ (.tail _ (.tail _ hp)))))))
      refine ((hem _).trans (Eq.trans ?_ hem2)).symm
      first
      | exact em_L0 (by assumption) (by assumption)
      | exact em_L1 (by assumption) (by assumption) (by assumption) (by assumption)
      | exact em_L2 (by assumption) (by assumption) (by assumption) (by assumption)
      | exact em_L3 (by assumption) (by assumption) (by assumption) (by assumption) (by assumption))
  · refine cb_retB hret ?_ (by k_asm) (by k_asm)
    unfold em
    rw [if_pos (by assumption)]
  all_goals (
    rename (∀ g, em want g = _) => hem
    refine cb_retB hret ?_ (by k_asm) (by first | k_asm | (refine' cb_drop ?cbN ?cbS; (case cbN => assumption); (case cbS => (intro p hp; first | exact .tail _ hp | exact .tail _ (.tail _ hp) | exact .tail _ (.tail _ (.tail _ hp)) | exact .tail _ (.tail _ (.tail _ (.tail _ hp)))))))
    refine ((hem _).trans ?_).symm
    first
    | exact em_c1 (by assumption) (by assumption)
    | exact em_c2 (by assumption) (by assumption) (by assumption)
    | exact em_c3 (by assumption) (by assumption) (by assumption) (by assumption)
    | exact em_c4 (by assumption) (by assumption) (by assumption) (by assumption)
    | exact em_c5 (by assumption) (by assumption) (by assumption) (by assumption)
    | exact em_c6 (by assumption) (by assumption) (by assumption) (by assumption) (by assumption))
end
section
open PySem PySem.W PySem.Calls PyProof.Rows PySem.Builtin PySem.Builtin.Str
def getAll (name : Str) (rows : List Row4) : List Str := (rows.filter fun r => Txt.lower r.x == Txt.lower name).map (·.y)
set_option maxHeartbeats 1000000 in
theorem get_all_ok (w : World) (mean) (mg mb) (name : Str) (t : Tok) (T TD HL : Addr) (n : Nat) (rows : List Row4) (hn : name.length ≤ 100) (hcl : Clean (Txt.lower name)) (hr : rows.length ≤ 1000) (hx : ∀ r ∈ rows, r.x.length ≤ 100) :
    GClaim1 w mean mg mb 4 121 [.ref T, .str name t] [] (fun news P => TabAt 182 P T TD HL n rows news) (fun h₀ L m news K => ∀ D l k h' tk', l.map (·.1) = getAll name rows → Fr h₀ L h' m → News h₀ L h' ((D, listOf (strValues l).toArray k) :: news) → (∀ p ∈ news, p.1 ≠ D) → K (.ref D) h' tk') := by
  unfold GClaim1 prog1
  k_fill
  intros; rename_i hpre hdp hun hret
  dsimp only at hpre hret
  obtain ⟨hm1, ⟨hh, ht, hm2⟩, hm3, hm4⟩ := hpre
  refine wpAny_call ?_
  k_dflt (first | (refine' code_def ?k1 ?k2 ?k3 ?k4 ?k5 ?kA ?kF ?kK ?k6 ?k7 ?k8 ?k9 ?kB ?_ ?c2 ?c3 ?c4 ?c5; (case kA => exact rfl); (case kF => exact rfl); (case kK => assumption); (case k1 => k_asm); (case k2 => k_asm); (case k3 => k_asm); (case k4 => k_asm); (case k5 => k_asm); (case k6 => k_is); (case k7 => k_is); (case k8 => ktr_room); (case k9 => exact binds_K (by k_in) rfl (by k_is) rfl rfl rfl); (case c5 => decide); (case kB => exact locs rfl); (case c2 => exact rfl); (case c3 => exact rfl); (case c4 => exact rfl); k_whole; intro g' L' h' FG' F' N' B' X' T'; (try dsimp only); (try k_lift B'); (try k_fold)) | (refine' ks_code_super ?k1 ?k2 ?k3 ?k4 ?k5 ?kA ?kF ?kK ?k6 ?k7 ?k8 ?k9 ?kB ?_ ?c1 ?c2 ?c3 ?c4; (case kA => exact rfl); (case kF => exact rfl); (case kK => first | exact rfl | assumption); (case k1 => k_asm); (case k2 => k_asm); (case k3 => k_asm); (case k4 => k_asm); (case k5 => k_asm); (case k6 => k_is); (case k7 => k_is); (case k8 => ktr_room); (case k9 => first | exact BindsTo.of_eq rfl | exact binds_K (by k_in) rfl (by k_is) rfl rfl rfl); (case kB => exact locs rfl); (case c1 => decide); (case c2 => exact rfl); (case c3 => exact rfl); (case c4 => exact rfl); intro g' L' h' FG' F' N' B' X' T' lc1; (try k_lt lc1); (try dsimp only); (try k_lift B')) | (refine' code_defC ?k1 ?k2 ?k3 ?k4 ?k5 ?kA ?kF ?kK ?k6 ?k7 ?k8 ?k9 ?kB ?kD ?_ ?c2 ?c3 ?c4; (case kA => exact rfl); (case kF => exact rfl); (case kK => first | exact rfl | assumption); (case k1 => k_asm); (case k2 => k_asm); (case k3 => k_asm); (case k4 => k_asm); (case k5 => k_asm); (case k6 => k_is); (case k7 => k_is); (case k8 => ktr_room); (case k9 => first | exact BindsTo.of_eq rfl | exact binds_K (by k_in) rfl (by k_is) rfl rfl rfl | fail "k_enter: no rule for these arguments"); (case kB => exact rfl); (case kD => decide +kernel); (case c2 => exact rfl); (case c3 => exact rfl); (case c4 => exact rfl); k_whole; intro g' L' h' tk' cells' FG' F' N' Y' B' X' T' lc1; (try k_lt lc1); k_cells Y'; (try simp only [List.cons_append, List.nil_append] at N'); (try dsimp only); (try k_lift B'); (try k_fold)) | cell_enter)
  repeat' (first | (k_unfold; (try dsimp only)) | (k_end; wrow_close) | (with_reducible (first | (k_here; (with_reducible show LCt.CompSrcT _ _ _ _ _ _ _ _ _ _ _ _ _ _ _); refine stopHere ?_) | (k_here; (with_reducible show wpAny _ _ (eval (Expr.ListComp _ _ _ _) _) _ _ _); lct_look; k_dflt (refine LCt.ListComp_T (F₀ := by k_asm) (by with_unfolding_all rfl) (by decide) (by rfl) (by decide) (by rfl) ?_)) | (k_here; (with_reducible show wpAny _ _ (call (Value.ref 83) _ _) _ _ _); k_dflt (refine' (conv_ok _ _ _ _ _ _ _ _ ?ghx) _ _ _ _ _ _ _ _ _ _ _ _ _ _ _ _ _ _ ?gB ?gF ?gX ?gN ?gT ?gk ?gp ?gd ?gu ?_; walk_at "gclaim"; (case gp => trivial); (case ghx => assumption); intro h' tk' F' N'; (try dsimp only); (try k_fold))))) | walk1 | (dsimp only; first | (with_reducible (first | (k_here; (with_reducible show LCt.CompSrcT _ _ _ _ _ _ _ _ _ _ _ _ _ _ _); refine stopHere ?_) | (k_here; (with_reducible show wpAny _ _ (eval (Expr.ListComp _ _ _ _) _) _ _ _); lct_look; k_dflt (refine LCt.ListComp_T (F₀ := by k_asm) (by with_unfolding_all rfl) (by decide) (by rfl) (by decide) (by rfl) ?_)) | (k_here; (with_reducible show wpAny _ _ (call (Value.ref 83) _ _) _ _ _); k_dflt (refine' (conv_ok _ _ _ _ _ _ _ _ ?ghx) _ _ _ _ _ _ _ _ _ _ _ _ _ _ _ _ _ _ ?gB ?gF ?gX ?gN ?gT ?gk ?gp ?gd ?gu ?_; walk_at "gclaim"; (case gp => trivial); (case ghx => assumption); intro h' tk' F' N'; (try dsimp only); (try k_fold))))) | walk1) | (leave1; try dsimp only) | fail "no step")
  · show LCt.CompSrcT _ _ _ _ _ _ _ _ _ _ _ _ _ _ _
    k_dflt (refine' LCt.CompSrcT.ledger ?hh ?F ?N ?hm ?hz ?_)
    case hh => rfl
    case F => k_asm
    case N => k_asm
    case hm => k_mem
    case hz => simp [sizeLine_eq]; omega
    intro g0
    refine lct_rest (items := rows) (fun r v => v = .ref r.a) (fun r => Txt.lower r.x == Txt.lower name) (fun r t => .str r.y t) ?hn ?hP ?hS ?turn ?fin
    case hn => simp
    case hP => intro i v hi hv; simp only [List.getElem?_toArray, List.getElem?_map, Option.map_eq_some_iff] at hv; obtain ⟨r, h1, h2⟩ := hv; exact ⟨r, h1, h2.symm⟩
    case hS => exact .inr ⟨_, by k_mem, rfl, _, rfl⟩
    case turn =>
      intro r v I oI C oC D m₂ ys h tk E' hr' hv hC hx' F' N' off ne
      subst hv
      have hmr := hm4 r hr'
      have hlx := hx r hr'
      dsimp only
      repeat' (first | (k_unfold; (try dsimp only)) | (k_end; wrow_close) | walk1 | (dsimp only; first | walk1) | (leave1; try dsimp only) | fail "no step")
      · exact LCg.CompEnd.intro (by k_asm) (by k_asm) _ (fun p hp => hp) off (.inr ⟨_, by k_mem, rfl, _, rfl⟩) (LcEl.mk (by assumption) rfl rfl)
      · exact LCg.CompEnd.intro (by k_asm) (by k_asm) _ (fun p hp => hp) off (.inr ⟨_, by k_mem, rfl, _, rfl⟩) (LcNo.mk (by assumption) rfl)
    case fin => 
      intro ys hO
      dsimp only
      obtain ⟨l, rfl, hl⟩ := hO.strs
      repeat' (first | (k_unfold; (try dsimp only)) | (k_end; wrow_close) | walk1 | (dsimp only; first | walk1) | (leave1; try dsimp only) | fail "no step")
      refine hret _ l _ _ _ hl (by k_asm) (by refine cb_drop (by k_asm) ?_; intro p hp; rcases List.mem_cons.mp hp with rfl | hp; exact .head _; exact .tail _ (.tail _ hp)) ?_
      rename (_ ∧ LCg.Off1 _ _) => hlt
      exact off1_ne hlt.2
end
section
open PySem PySem.W PySem.Calls PyProof.Rows PySem.Builtin PySem.Builtin.Str
set_option maxHeartbeats 1000000 in
theorem push_ok (w : World) (mean) (mg mb) (x y : Str) (t u : Tok) (P D : Addr) (k : Int) (n : Nat) (rows : List Row4) (hr : rows.length ≤ 1000) :
    GClaim1 w mean mg mb 2 217 [.ref P, .str x t, .str y u] [] (fun news _ => AccAt 273 P D k n rows news) (fun h₀ L m news K => ∀ a n' news' h' tk', AccAt 273 P D k n' (rows ++ [⟨a, x, t, y, u⟩]) news' → Kept P news news' → Fr h₀ L h' m → News h₀ L h' news' → K .none h' tk') := by
  unfold GClaim1 prog1
  k_fill
  intros; rename_i hpre hdp hun hret
  dsimp only at hpre hret
  obtain ⟨hm1, ⟨hh, ht, hu, hm2⟩, hm3⟩ := hpre
  refine wpAny_call ?_
  k_dflt (first | (refine' code_def ?k1 ?k2 ?k3 ?k4 ?k5 ?kA ?kF ?kK ?k6 ?k7 ?k8 ?k9 ?kB ?_ ?c2 ?c3 ?c4 ?c5; (case kA => exact rfl); (case kF => exact rfl); (case kK => assumption); (case k1 => k_asm); (case k2 => k_asm); (case k3 => k_asm); (case k4 => k_asm); (case k5 => k_asm); (case k6 => k_is); (case k7 => k_is); (case k8 => ktr_room); (case k9 => exact binds_K (by k_in) rfl (by k_is) rfl rfl rfl); (case c5 => decide); (case kB => exact locs rfl); (case c2 => exact rfl); (case c3 => exact rfl); (case c4 => exact rfl); k_whole; intro g' L' h' FG' F' N' B' X' T'; (try dsimp only); (try k_lift B'); (try k_fold)) | (refine' ks_code_super ?k1 ?k2 ?k3 ?k4 ?k5 ?kA ?kF ?kK ?k6 ?k7 ?k8 ?k9 ?kB ?_ ?c1 ?c2 ?c3 ?c4; (case kA => exact rfl); (case kF => exact rfl); (case kK => first | exact rfl | assumption); (case k1 => k_asm); (case k2 => k_asm); (case k3 => k_asm); (case k4 => k_asm); (case k5 => k_asm); (case k6 => k_is); (case k7 => k_is); (case k8 => ktr_room); (case k9 => first | exact BindsTo.of_eq rfl | exact binds_K (by k_in) rfl (by k_is) rfl rfl rfl); (case kB => exact locs rfl); (case c1 => decide); (case c2 => exact rfl); (case c3 => exact rfl); (case c4 => exact rfl); intro g' L' h' FG' F' N' B' X' T' lc1; (try k_lt lc1); (try dsimp only); (try k_lift B')) | (refine' code_defC ?k1 ?k2 ?k3 ?k4 ?k5 ?kA ?kF ?kK ?k6 ?k7 ?k8 ?k9 ?kB ?kD ?_ ?c2 ?c3 ?c4; (case kA => exact rfl); (case kF => exact rfl); (case kK => first | exact rfl | assumption); (case k1 => k_asm); (case k2 => k_asm); (case k3 => k_asm); (case k4 => k_asm); (case k5 => k_asm); (case k6 => k_is); (case k7 => k_is); (case k8 => ktr_room); (case k9 => first | exact BindsTo.of_eq rfl | exact binds_K (by k_in) rfl (by k_is) rfl rfl rfl | fail "k_enter: no rule for these arguments"); (case kB => exact rfl); (case kD => decide +kernel); (case c2 => exact rfl); (case c3 => exact rfl); (case c4 => exact rfl); k_whole; intro g' L' h' tk' cells' FG' F' N' Y' B' X' T' lc1; (try k_lt lc1); k_cells Y'; (try simp only [List.cons_append, List.nil_append] at N'); (try dsimp only); (try k_lift B'); (try k_fold)) | cell_enter)
  repeat' (first | (k_unfold; (try dsimp only)) | (k_end; wrow_close) | (with_reducible (first | (k_here; (with_reducible show wpAny _ _ (call (Value.builtin "list.append") [Value.ref _, _] _) _ _ _); k_dflt (refine' acc_append ?aF ?aX ?aN ?a1 ?a2 ?ai ?az ?_; (case aF => k_asm); (case aX => k_asm); (case aN => k_asm); (case a1 => k_mem); (case a2 => k_mem); (case ai => k_is); (case az => (simp only [List.length_map]; omega)); intro h' F' N')) | (k_here; (with_reducible show wpAny _ _ (getMethod (Value.ref _) _ _) _ _ _); k_dflt (refine' acc_method_K ?aF ?aX ?aN ?a1 ?a2 ?ag ?ak ?af ?aq ?ar ?aw ?_; (case aF => k_asm); (case aX => k_asm); (case aN => k_asm); (case a1 => k_mem); (case a2 => k_mem); (case ag => k_is); (case ak => k_is); (case af => k_is); (case aq => k_is); (case ar => decide +kernel); (case aw => rfl))))) | walk1 | (dsimp only; first | (with_reducible (first | (k_here; (with_reducible show wpAny _ _ (call (Value.builtin "list.append") [Value.ref _, _] _) _ _ _); k_dflt (refine' acc_append ?aF ?aX ?aN ?a1 ?a2 ?ai ?az ?_; (case aF => k_asm); (case aX => k_asm); (case aN => k_asm); (case a1 => k_mem); (case a2 => k_mem); (case ai => k_is); (case az => (simp only [List.length_map]; omega)); intro h' F' N')) | (k_here; (with_reducible show wpAny _ _ (getMethod (Value.ref _) _ _) _ _ _); k_dflt (refine' acc_method_K ?aF ?aX ?aN ?a1 ?a2 ?ag ?ak ?af ?aq ?ar ?aw ?_; (case aF => k_asm); (case aX => k_asm); (case aN => k_asm); (case a1 => k_mem); (case a2 => k_mem); (case ag => k_is); (case ak => k_is); (case af => k_is); (case aq => k_is); (case ar => decide +kernel); (case aw => rfl))))) | walk1) | (leave1; try dsimp only) | fail "no step")
  have z := AccAt.pushed (by assumption) (show AccAt _ _ _ _ _ _ _ from ⟨hm1, ⟨hh, ht, hu, hm2⟩, hm3⟩)
  exact hret _ _ _ _ _ z.1 z.2 (by k_asm) (by k_asm)
end
section
open PySem PySem.W PySem.Calls PyProof.Rows PySem.Builtin PySem.Builtin.Str
set_option maxHeartbeats 1000000 in
theorem count_ok (w : World) (mean) (mg mb) (P D : Addr) (k : Int) (n : Nat) (rows : List Row4) (hr : rows.length ≤ 1000) :
    GClaim1 w mean mg mb 3 270 [.ref P] [] (fun news _ => AccAt 273 P D k n rows news) (fun h₀ L m news K => ∀ t h' tk', Fr h₀ L h' m → News h₀ L h' news → K (.int rows.length t) h' tk') := by
  unfold GClaim1 prog1
  k_fill
  intros; rename_i hpre hdp hun hret
  dsimp only at hpre hret
  obtain ⟨hm1, ⟨hh, ht, hu, hm2⟩, hm3⟩ := hpre
  refine wpAny_call ?_
  k_dflt (first | (refine' code_def ?k1 ?k2 ?k3 ?k4 ?k5 ?kA ?kF ?kK ?k6 ?k7 ?k8 ?k9 ?kB ?_ ?c2 ?c3 ?c4 ?c5; (case kA => exact rfl); (case kF => exact rfl); (case kK => assumption); (case k1 => k_asm); (case k2 => k_asm); (case k3 => k_asm); (case k4 => k_asm); (case k5 => k_asm); (case k6 => k_is); (case k7 => k_is); (case k8 => ktr_room); (case k9 => exact binds_K (by k_in) rfl (by k_is) rfl rfl rfl); (case c5 => decide); (case kB => exact locs rfl); (case c2 => exact rfl); (case c3 => exact rfl); (case c4 => exact rfl); k_whole; intro g' L' h' FG' F' N' B' X' T'; (try dsimp only); (try k_lift B'); (try k_fold)) | (refine' ks_code_super ?k1 ?k2 ?k3 ?k4 ?k5 ?kA ?kF ?kK ?k6 ?k7 ?k8 ?k9 ?kB ?_ ?c1 ?c2 ?c3 ?c4; (case kA => exact rfl); (case kF => exact rfl); (case kK => first | exact rfl | assumption); (case k1 => k_asm); (case k2 => k_asm); (case k3 => k_asm); (case k4 => k_asm); (case k5 => k_asm); (case k6 => k_is); (case k7 => k_is); (case k8 => ktr_room); (case k9 => first | exact BindsTo.of_eq rfl | exact binds_K (by k_in) rfl (by k_is) rfl rfl rfl); (case kB => exact locs rfl); (case c1 => decide); (case c2 => exact rfl); (case c3 => exact rfl); (case c4 => exact rfl); intro g' L' h' FG' F' N' B' X' T' lc1; (try k_lt lc1); (try dsimp only); (try k_lift B')) | (refine' code_defC ?k1 ?k2 ?k3 ?k4 ?k5 ?kA ?kF ?kK ?k6 ?k7 ?k8 ?k9 ?kB ?kD ?_ ?c2 ?c3 ?c4; (case kA => exact rfl); (case kF => exact rfl); (case kK => first | exact rfl | assumption); (case k1 => k_asm); (case k2 => k_asm); (case k3 => k_asm); (case k4 => k_asm); (case k5 => k_asm); (case k6 => k_is); (case k7 => k_is); (case k8 => ktr_room); (case k9 => first | exact BindsTo.of_eq rfl | exact binds_K (by k_in) rfl (by k_is) rfl rfl rfl | fail "k_enter: no rule for these arguments"); (case kB => exact rfl); (case kD => decide +kernel); (case c2 => exact rfl); (case c3 => exact rfl); (case c4 => exact rfl); k_whole; intro g' L' h' tk' cells' FG' F' N' Y' B' X' T' lc1; (try k_lt lc1); k_cells Y'; (try simp only [List.cons_append, List.nil_append] at N'); (try dsimp only); (try k_lift B'); (try k_fold)) | cell_enter)
  repeat' (first | (k_unfold; (try dsimp only)) | (k_end; wrow_close) | (with_reducible (first | (k_here; (with_reducible show wpAny _ _ (call (Value.ref _) []) _ _ _); k_dflt (refine' call_len ?aN ?a1 ?a2 ?_; (case aN => k_asm); (case a1 => k_mem); (case a2 => k_mem); intro _ _)) | (k_here; (with_reducible show wpAny _ _ (callWith _ (Value.ref _) _ _ _) _ _ _); k_dflt (first | (refine' callWith_wrap ?aN ?a1 ?_; (case aN => k_asm); (case a1 => k_mem)) | (refine' callWith_bnd ?aN ?a1 ?_; (case aN => k_asm); (case a1 => k_mem)))) | (k_here; (with_reducible show wpAny _ _ (getMethod (Value.ref _) (Str.ofString "__len__") _) _ _ _); k_dflt (refine' sup_len ?aF ?aX ?aN ?aS ?a1 ?a2 ?ao ?ai ?am ?_; (case aF => k_asm); (case aX => k_asm); (case aN => k_asm); (case aS => k_mem); (case a1 => k_mem); (case a2 => k_mem); (case ao => k_is); (case ai => k_is); (case am => ks_is)); intro q' h' F' N' lc1; (try k_lt lc1)))) | walk1 | (dsimp only; first | (with_reducible (first | (k_here; (with_reducible show wpAny _ _ (call (Value.ref _) []) _ _ _); k_dflt (refine' call_len ?aN ?a1 ?a2 ?_; (case aN => k_asm); (case a1 => k_mem); (case a2 => k_mem); intro _ _)) | (k_here; (with_reducible show wpAny _ _ (callWith _ (Value.ref _) _ _ _) _ _ _); k_dflt (first | (refine' callWith_wrap ?aN ?a1 ?_; (case aN => k_asm); (case a1 => k_mem)) | (refine' callWith_bnd ?aN ?a1 ?_; (case aN => k_asm); (case a1 => k_mem)))) | (k_here; (with_reducible show wpAny _ _ (getMethod (Value.ref _) (Str.ofString "__len__") _) _ _ _); k_dflt (refine' sup_len ?aF ?aX ?aN ?aS ?a1 ?a2 ?ao ?ai ?am ?_; (case aF => k_asm); (case aX => k_asm); (case aN => k_asm); (case aS => k_mem); (case a1 => k_mem); (case a2 => k_mem); (case ao => k_is); (case ai => k_is); (case am => ks_is)); intro q' h' F' N' lc1; (try k_lt lc1)))) | walk1) | (leave1; try dsimp only) | fail "no step")
  simp only [List.length_map]
  exact hret _ _ _ (by k_asm) (by refine cb_drop (by k_asm) ?_; intro p hp; exact .tail _ (.tail _ hp))
section
set_option maxHeartbeats 1000000 in
theorem pop_nil (w : World) (mean) (mg mb) (P D : Addr) (k : Int) (n : Nat) :
    GClaim1 w mean mg mb 6 233 [.ref P] [] (fun news _ => AccAt 273 P D k n [] news) (fun h₀ L m news K => ∀ q h' tk' t u, Fr h₀ L h' m → News h₀ L h' ((q, tupO [.str (Str.ofString "") t, .str (Str.ofString "") u]) :: news) → (∀ p ∈ news, p.1 < q) → K (.ref q) h' tk') := by
  unfold GClaim1 prog1
  k_fill
  intros; rename_i hpre hdp hun hret
  dsimp only at hpre hret
  have hacc := hpre
  obtain ⟨hm1, ⟨hh, ht, hu, hm2⟩, hm3⟩ := hpre
  refine wpAny_call ?_
  k_dflt (first | (refine' code_def ?k1 ?k2 ?k3 ?k4 ?k5 ?kA ?kF ?kK ?k6 ?k7 ?k8 ?k9 ?kB ?_ ?c2 ?c3 ?c4 ?c5; (case kA => exact rfl); (case kF => exact rfl); (case kK => assumption); (case k1 => k_asm); (case k2 => k_asm); (case k3 => k_asm); (case k4 => k_asm); (case k5 => k_asm); (case k6 => k_is); (case k7 => k_is); (case k8 => ktr_room); (case k9 => exact binds_K (by k_in) rfl (by k_is) rfl rfl rfl); (case c5 => decide); (case kB => exact locs rfl); (case c2 => exact rfl); (case c3 => exact rfl); (case c4 => exact rfl); k_whole; intro g' L' h' FG' F' N' B' X' T'; (try dsimp only); (try k_lift B'); (try k_fold)) | (refine' ks_code_super ?k1 ?k2 ?k3 ?k4 ?k5 ?kA ?kF ?kK ?k6 ?k7 ?k8 ?k9 ?kB ?_ ?c1 ?c2 ?c3 ?c4; (case kA => exact rfl); (case kF => exact rfl); (case kK => first | exact rfl | assumption); (case k1 => k_asm); (case k2 => k_asm); (case k3 => k_asm); (case k4 => k_asm); (case k5 => k_asm); (case k6 => k_is); (case k7 => k_is); (case k8 => ktr_room); (case k9 => first | exact BindsTo.of_eq rfl | exact binds_K (by k_in) rfl (by k_is) rfl rfl rfl); (case kB => exact locs rfl); (case c1 => decide); (case c2 => exact rfl); (case c3 => exact rfl); (case c4 => exact rfl); intro g' L' h' FG' F' N' B' X' T' lc1; (try k_lt lc1); (try dsimp only); (try k_lift B')) | (refine' code_defC ?k1 ?k2 ?k3 ?k4 ?k5 ?kA ?kF ?kK ?k6 ?k7 ?k8 ?k9 ?kB ?kD ?_ ?c2 ?c3 ?c4; (case kA => exact rfl); (case kF => exact rfl); (case kK => first | exact rfl | assumption); (case k1 => k_asm); (case k2 => k_asm); (case k3 => k_asm); (case k4 => k_asm); (case k5 => k_asm); (case k6 => k_is); (case k7 => k_is); (case k8 => ktr_room); (case k9 => first | exact BindsTo.of_eq rfl | exact binds_K (by k_in) rfl (by k_is) rfl rfl rfl | fail "k_enter: no rule for these arguments"); (case kB => exact rfl); (case kD => decide +kernel); (case c2 => exact rfl); (case c3 => exact rfl); (case c4 => exact rfl); k_whole; intro g' L' h' tk' cells' FG' F' N' Y' B' X' T' lc1; (try k_lt lc1); k_cells Y'; (try simp only [List.cons_append, List.nil_append] at N'); (try dsimp only); (try k_lift B'); (try k_fold)) | cell_enter)
  repeat' (first | (k_unfold; (try dsimp only)) | (k_end; wrow_close) | (with_reducible (first | (k_here; (with_reducible show wpAny _ _ (call (Value.ref 270) _ _) _ _ _); k_dflt (refine' (count_ok _ _ _ _ _ _ _ _ _ ?ghr) _ _ _ _ _ _ _ _ _ _ _ _ _ _ _ _ _ _ ?gB ?gF ?gX ?gN ?gT ?gk ?gp ?gd ?gu ?_; walk_at "gclaim"; (case gp => assumption); (case ghr => (simp only [List.length_append, List.length_cons, List.length_nil]; omega)); intro t' h' tk' F' N'; (try dsimp only); (try k_fold))) | (k_here; (with_reducible show wpAny _ _ (getMethod (Value.ref _) _ _) _ _ _); k_dflt (refine' acc_method_K ?aF ?aX ?aN ?a1 ?a2 ?ag ?ak ?af ?aq ?ar ?aw ?_; (case aF => k_asm); (case aX => k_asm); (case aN => k_asm); (case a1 => k_mem); (case a2 => k_mem); (case ag => k_is); (case ak => k_is); (case af => k_is); (case aq => k_is); (case ar => decide +kernel); (case aw => rfl))))) | walk1 | (dsimp only; first | (with_reducible (first | (k_here; (with_reducible show wpAny _ _ (call (Value.ref 270) _ _) _ _ _); k_dflt (refine' (count_ok _ _ _ _ _ _ _ _ _ ?ghr) _ _ _ _ _ _ _ _ _ _ _ _ _ _ _ _ _ _ ?gB ?gF ?gX ?gN ?gT ?gk ?gp ?gd ?gu ?_; walk_at "gclaim"; (case gp => assumption); (case ghr => (simp only [List.length_append, List.length_cons, List.length_nil]; omega)); intro t' h' tk' F' N'; (try dsimp only); (try k_fold))) | (k_here; (with_reducible show wpAny _ _ (getMethod (Value.ref _) _ _) _ _ _); k_dflt (refine' acc_method_K ?aF ?aX ?aN ?a1 ?a2 ?ag ?ak ?af ?aq ?ar ?aw ?_; (case aF => k_asm); (case aX => k_asm); (case aN => k_asm); (case a1 => k_mem); (case a2 => k_mem); (case ag => k_is); (case ak => k_is); (case af => k_is); (case aq => k_is); (case ar => decide +kernel); (case aw => rfl))))) | walk1) | (leave1; try dsimp only) | fail "no step")
  exact hret _ _ _ _ _ (by k_asm) (by k_asm) (by first | assumption | (intro p hp; rename AllLt _ _ => hal; exact allLt_mem hal p hp))
end
end
section
local macro_rules | `(tactic| walk_at "wpAt") => `(tactic| (k_here; k_dflt (ks_step "eval Call"; refine ks_wpAt_MethodCall ?_)))
local macro_rules | `(tactic| walk_at "wpAt") => `(tactic| (k_here; k_dflt (dsimp only)))
open PySem PySem.W PySem.Calls PyProof.Rows PySem.Builtin PySem.Builtin.Str
section
set_option maxHeartbeats 1000000 in
theorem pop_snoc (w : World) (mean) (mg mb) (P D : Addr) (k : Int) (n : Nat) (rows : List Row4) (r : Row4) (hr : rows.length ≤ 900) :
    GClaim1 w mean mg mb 6 233 [.ref P] [] (fun news _ => AccAt 273 P D k n (rows ++ [r]) news) (fun h₀ L m news K => ∀ news' h' tk', Fr h₀ L h' m → News h₀ L h' news' → AccAt 273 P D k (n + 1) rows news' → Kept P news news' → K (.ref r.a) h' tk') := by
  unfold GClaim1 prog1
  k_fill
  intros; rename_i hpre hdp hun hret
  dsimp only at hpre hret
  have hacc := hpre
  obtain ⟨hm1, ⟨hh, ht, hu, hm2⟩, hm3⟩ := hpre
  rw [List.map_append, List.map_cons, List.map_nil] at hm1
  refine wpAny_call ?_
  k_dflt (first | (refine' code_def ?k1 ?k2 ?k3 ?k4 ?k5 ?kA ?kF ?kK ?k6 ?k7 ?k8 ?k9 ?kB ?_ ?c2 ?c3 ?c4 ?c5; (case kA => exact rfl); (case kF => exact rfl); (case kK => assumption); (case k1 => k_asm); (case k2 => k_asm); (case k3 => k_asm); (case k4 => k_asm); (case k5 => k_asm); (case k6 => k_is); (case k7 => k_is); (case k8 => ktr_room); (case k9 => exact binds_K (by k_in) rfl (by k_is) rfl rfl rfl); (case c5 => decide); (case kB => exact locs rfl); (case c2 => exact rfl); (case c3 => exact rfl); (case c4 => exact rfl); k_whole; intro g' L' h' FG' F' N' B' X' T'; (try dsimp only); (try k_lift B'); (try k_fold)) | (refine' ks_code_super ?k1 ?k2 ?k3 ?k4 ?k5 ?kA ?kF ?kK ?k6 ?k7 ?k8 ?k9 ?kB ?_ ?c1 ?c2 ?c3 ?c4; (case kA => exact rfl); (case kF => exact rfl); (case kK => first | exact rfl | assumption); (case k1 => k_asm); (case k2 => k_asm); (case k3 => k_asm); (case k4 => k_asm); (case k5 => k_asm); (case k6 => k_is); (case k7 => k_is); (case k8 => ktr_room); (case k9 => first | exact BindsTo.of_eq rfl | exact binds_K (by k_in) rfl (by k_is) rfl rfl rfl); (case kB => exact locs rfl); (case c1 => decide); (case c2 => exact rfl); (case c3 => exact rfl); (case c4 => exact rfl); intro g' L' h' FG' F' N' B' X' T' lc1; (try k_lt lc1); (try dsimp only); (try k_lift B')) | (refine' code_defC ?k1 ?k2 ?k3 ?k4 ?k5 ?kA ?kF ?kK ?k6 ?k7 ?k8 ?k9 ?kB ?kD ?_ ?c2 ?c3 ?c4; (case kA => exact rfl); (case kF => exact rfl); (case kK => first | exact rfl | assumption); (case k1 => k_asm); (case k2 => k_asm); (case k3 => k_asm); (case k4 => k_asm); (case k5 => k_asm); (case k6 => k_is); (case k7 => k_is); (case k8 => ktr_room); (case k9 => first | exact BindsTo.of_eq rfl | exact binds_K (by k_in) rfl (by k_is) rfl rfl rfl | fail "k_enter: no rule for these arguments"); (case kB => exact rfl); (case kD => decide +kernel); (case c2 => exact rfl); (case c3 => exact rfl); (case c4 => exact rfl); k_whole; intro g' L' h' tk' cells' FG' F' N' Y' B' X' T' lc1; (try k_lt lc1); k_cells Y'; (try simp only [List.cons_append, List.nil_append] at N'); (try dsimp only); (try k_lift B'); (try k_fold)) | cell_enter)
  repeat' (first | (k_unfold; (try dsimp only)) | (k_end; wrow_close) | (with_reducible (first | (k_here; (with_reducible show wpAny _ _ (call (Value.ref 270) _ _) _ _ _); k_dflt (refine' (count_ok _ _ _ _ _ _ _ _ _ ?ghr) _ _ _ _ _ _ _ _ _ _ _ _ _ _ _ _ _ _ ?gB ?gF ?gX ?gN ?gT ?gk ?gp ?gd ?gu ?_; walk_at "gclaim"; (case gp => assumption); (case ghr => (simp only [List.length_append, List.length_cons, List.length_nil]; omega)); intro t' h' tk' F' N'; (try dsimp only); (try k_fold))) | (k_here; (with_reducible show wpAny _ _ (call (Value.ref _) []) _ _ _); k_dflt (refine' call_pop ?aF ?aX ?aN ?aq ?a1 ?a2 ?az ?ai ?ac ?at' ?ak ?_; (case aF => k_asm); (case aX => k_asm); (case aN => k_asm); (case aq => k_mem); (case a1 => k_mem); (case a2 => k_mem); (case az => (simp only [List.length_map]; omega)); (case ai => k_is); (case ac => k_is); (case at' => k_is); (case ak => kernel_rfl)); intro h' F' N') | (k_here; (with_reducible show wpAny _ _ (callWith _ (Value.ref _) _ _ _) _ _ _); k_dflt (first | (refine' callWith_wrap ?aN ?a1 ?_; (case aN => k_asm); (case a1 => k_mem)) | (refine' callWith_bnd ?aN ?a1 ?_; (case aN => k_asm); (case a1 => k_mem)))) | (k_here; (with_reducible show wpAny _ _ (getMethod (Value.ref _) (Str.ofString "pop") _) _ _ _); k_dflt (refine' sup_pop ?aF ?aX ?aN ?aS ?a1 ?a2 ?ao ?ai ?am ?_; (case aF => k_asm); (case aX => k_asm); (case aN => k_asm); (case aS => k_mem); (case a1 => k_mem); (case a2 => k_mem); (case ao => k_is); (case ai => k_is); (case am => ks_is)); intro q' h' F' N' lc1; (try k_lt lc1)) | (k_here; (with_reducible show wpAny _ _ (getMethod (Value.ref _) _ _) _ _ _); k_dflt (refine' acc_method_K ?aF ?aX ?aN ?a1 ?a2 ?ag ?ak ?af ?aq ?ar ?aw ?_; (case aF => k_asm); (case aX => k_asm); (case aN => k_asm); (case a1 => k_mem); (case a2 => k_mem); (case ag => k_is); (case ak => k_is); (case af => k_is); (case aq => k_is); (case ar => decide +kernel); (case aw => rfl))))) | walk1 | (dsimp only; first | (with_reducible (first | (k_here; (with_reducible show wpAny _ _ (call (Value.ref 270) _ _) _ _ _); k_dflt (refine' (count_ok _ _ _ _ _ _ _ _ _ ?ghr) _ _ _ _ _ _ _ _ _ _ _ _ _ _ _ _ _ _ ?gB ?gF ?gX ?gN ?gT ?gk ?gp ?gd ?gu ?_; walk_at "gclaim"; (case gp => assumption); (case ghr => (simp only [List.length_append, List.length_cons, List.length_nil]; omega)); intro t' h' tk' F' N'; (try dsimp only); (try k_fold))) | (k_here; (with_reducible show wpAny _ _ (call (Value.ref _) []) _ _ _); k_dflt (refine' call_pop ?aF ?aX ?aN ?aq ?a1 ?a2 ?az ?ai ?ac ?at' ?ak ?_; (case aF => k_asm); (case aX => k_asm); (case aN => k_asm); (case aq => k_mem); (case a1 => k_mem); (case a2 => k_mem); (case az => (simp only [List.length_map]; omega)); (case ai => k_is); (case ac => k_is); (case at' => k_is); (case ak => kernel_rfl)); intro h' F' N') | (k_here; (with_reducible show wpAny _ _ (callWith _ (Value.ref _) _ _ _) _ _ _); k_dflt (first | (refine' callWith_wrap ?aN ?a1 ?_; (case aN => k_asm); (case a1 => k_mem)) | (refine' callWith_bnd ?aN ?a1 ?_; (case aN => k_asm); (case a1 => k_mem)))) | (k_here; (with_reducible show wpAny _ _ (getMethod (Value.ref _) (Str.ofString "pop") _) _ _ _); k_dflt (refine' sup_pop ?aF ?aX ?aN ?aS ?a1 ?a2 ?ao ?ai ?am ?_; (case aF => k_asm); (case aX => k_asm); (case aN => k_asm); (case aS => k_mem); (case a1 => k_mem); (case a2 => k_mem); (case ao => k_is); (case ai => k_is); (case am => ks_is)); intro q' h' F' N' lc1; (try k_lt lc1)) | (k_here; (with_reducible show wpAny _ _ (getMethod (Value.ref _) _ _) _ _ _); k_dflt (refine' acc_method_K ?aF ?aX ?aN ?a1 ?a2 ?ag ?ak ?af ?aq ?ar ?aw ?_; (case aF => k_asm); (case aX => k_asm); (case aN => k_asm); (case a1 => k_mem); (case a2 => k_mem); (case ag => k_is); (case ak => k_is); (case af => k_is); (case aq => k_is); (case ar => decide +kernel); (case aw => rfl))))) | walk1) | (leave1; try dsimp only) | fail "no step")
  · exfalso; rename (_ : Int) = 0 => hz; simp only [List.length_append, List.length_map, List.length_cons, List.length_nil] at hz; omega
  · refine hret _ _ _ (by k_asm) (by k_asm) ?_ (fun p hp hne => .tail _ (mem_but.mpr ⟨.tail _ (.tail _ hp), hne⟩))
    refine' (AccAt.turned (h₀ := ?_) (L := ?_) (h := ?_) ?tN (hacc.grown fun p hp => .tail _ (.tail _ hp)) (fun r' hr' => .tail _ (.tail _ (hm3 r' (List.mem_append.mpr (.inl hr')))))).1
    rotate_right; assumption
end
end
section
open PySem PySem.W PySem.Calls PyProof.Rows PySem.Builtin PySem.Builtin.Str
section
set_option maxHeartbeats 1000000 in
theorem pop_from_ok (w : World) (mean) (mg mb) (P D : Addr) (k : Int) (n : Nat) (rows : List Row4) (hr : rows.length ≤ 900) :
    GClaim1 w mean mg mb 6 225 [.ref P] [] (fun news _ => AccAt 273 P D k n rows news) (fun h₀ L m news K => ∀ news' q j j' h' tk', Fr h₀ L h' m → News h₀ L h' news' → AccAt 273 P D k j [] news' → (q, listOf (rows.map fun r => Value.ref r.a).toArray j') ∈ news' → (∀ p ∈ news, p.1 < q) → Kept P news news' → K (.ref q) h' tk') := by
  unfold GClaim1 prog1
  k_fill
  intros; rename_i hpre hdp hun hret
  dsimp only at hpre hret
  have hacc := hpre
  obtain ⟨hm1, ⟨hh, ht, hu, hm2⟩, hm3⟩ := hpre
  refine wpAny_call ?_
  k_dflt (first | (refine' code_def ?k1 ?k2 ?k3 ?k4 ?k5 ?kA ?kF ?kK ?k6 ?k7 ?k8 ?k9 ?kB ?_ ?c2 ?c3 ?c4 ?c5; (case kA => exact rfl); (case kF => exact rfl); (case kK => assumption); (case k1 => k_asm); (case k2 => k_asm); (case k3 => k_asm); (case k4 => k_asm); (case k5 => k_asm); (case k6 => k_is); (case k7 => k_is); (case k8 => ktr_room); (case k9 => exact binds_K (by k_in) rfl (by k_is) rfl rfl rfl); (case c5 => decide); (case kB => exact locs rfl); (case c2 => exact rfl); (case c3 => exact rfl); (case c4 => exact rfl); k_whole; intro g' L' h' FG' F' N' B' X' T'; (try dsimp only); (try k_lift B'); (try k_fold)) | (refine' ks_code_super ?k1 ?k2 ?k3 ?k4 ?k5 ?kA ?kF ?kK ?k6 ?k7 ?k8 ?k9 ?kB ?_ ?c1 ?c2 ?c3 ?c4; (case kA => exact rfl); (case kF => exact rfl); (case kK => first | exact rfl | assumption); (case k1 => k_asm); (case k2 => k_asm); (case k3 => k_asm); (case k4 => k_asm); (case k5 => k_asm); (case k6 => k_is); (case k7 => k_is); (case k8 => ktr_room); (case k9 => first | exact BindsTo.of_eq rfl | exact binds_K (by k_in) rfl (by k_is) rfl rfl rfl); (case kB => exact locs rfl); (case c1 => decide); (case c2 => exact rfl); (case c3 => exact rfl); (case c4 => exact rfl); intro g' L' h' FG' F' N' B' X' T' lc1; (try k_lt lc1); (try dsimp only); (try k_lift B')) | (refine' code_defC ?k1 ?k2 ?k3 ?k4 ?k5 ?kA ?kF ?kK ?k6 ?k7 ?k8 ?k9 ?kB ?kD ?_ ?c2 ?c3 ?c4; (case kA => exact rfl); (case kF => exact rfl); (case kK => first | exact rfl | assumption); (case k1 => k_asm); (case k2 => k_asm); (case k3 => k_asm); (case k4 => k_asm); (case k5 => k_asm); (case k6 => k_is); (case k7 => k_is); (case k8 => ktr_room); (case k9 => first | exact BindsTo.of_eq rfl | exact binds_K (by k_in) rfl (by k_is) rfl rfl rfl | fail "k_enter: no rule for these arguments"); (case kB => exact rfl); (case kD => decide +kernel); (case c2 => exact rfl); (case c3 => exact rfl); (case c4 => exact rfl); k_whole; intro g' L' h' tk' cells' FG' F' N' Y' B' X' T' lc1; (try k_lt lc1); k_cells Y'; (try simp only [List.cons_append, List.nil_append] at N'); (try dsimp only); (try k_lift B'); (try k_fold)) | cell_enter)
  repeat' (first | (k_unfold; (try dsimp only)) | (k_end; wrow_close) | (with_reducible (first | (k_here; (with_reducible show wpAny _ _ (setItem (Value.ref _) _ _) _ _ _); k_dflt (refine' acc_setslice ?aF ?aX ?aN ?a1 ?a2 ?ae ?aq ?ag ?ai ?az ?_; (case aF => k_asm); (case aX => k_asm); (case aN => k_asm); (case a1 => k_mem); (case a2 => k_mem); (case ae => k_mem); (case aq => k_is); (case ag => k_is); (case ai => k_is); (case az => (simp only [List.length_map]; omega))); intro h' j' F' N') | (k_here; (with_reducible show wpAny _ _ (subscriptTail (Expr.Name _ _) (Expr.Slice _ _ _ _) (Value.ref _) (Value.ref _)) _ _ _); k_dflt (refine' acc_slice ?aF ?aX ?aN ?a1 ?a2 ?aq ?ag ?ai ?az ?_ ?ab ?ac; (case aF => k_asm); (case aX => k_asm); (case aN => k_asm); (case a1 => k_mem); (case a2 => k_mem); (case aq => k_is); (case ag => k_is); (case ai => k_is); (case az => (simp only [List.length_map]; omega)); (case ab => with_unfolding_all rfl); (case ac => (intro _; with_unfolding_all rfl))); intro q' h' F' N' lc1; (try k_lt lc1)))) | walk1 | (dsimp only; first | (with_reducible (first | (k_here; (with_reducible show wpAny _ _ (setItem (Value.ref _) _ _) _ _ _); k_dflt (refine' acc_setslice ?aF ?aX ?aN ?a1 ?a2 ?ae ?aq ?ag ?ai ?az ?_; (case aF => k_asm); (case aX => k_asm); (case aN => k_asm); (case a1 => k_mem); (case a2 => k_mem); (case ae => k_mem); (case aq => k_is); (case ag => k_is); (case ai => k_is); (case az => (simp only [List.length_map]; omega))); intro h' j' F' N') | (k_here; (with_reducible show wpAny _ _ (subscriptTail (Expr.Name _ _) (Expr.Slice _ _ _ _) (Value.ref _) (Value.ref _)) _ _ _); k_dflt (refine' acc_slice ?aF ?aX ?aN ?a1 ?a2 ?aq ?ag ?ai ?az ?_ ?ab ?ac; (case aF => k_asm); (case aX => k_asm); (case aN => k_asm); (case a1 => k_mem); (case a2 => k_mem); (case aq => k_is); (case ag => k_is); (case ai => k_is); (case az => (simp only [List.length_map]; omega)); (case ab => with_unfolding_all rfl); (case ac => (intro _; with_unfolding_all rfl))); intro q' h' F' N' lc1; (try k_lt lc1)))) | walk1) | (leave1; try dsimp only) | fail "no step")
  rename (∀ p : Addr × Obj, p ∈ _ → p.1 < _) => hlt
  refine hret _ _ ?j1 ?j2 _ _ (by k_asm) (by k_asm) ?hA (.tail _ (mem_but.mpr ⟨.tail _ (.head _), Nat.ne_of_gt (hlt _ hm1)⟩)) hlt (fun p hp hne => .tail _ (mem_but.mpr ⟨.tail _ (.tail _ hp), hne⟩))
  case hA => refine' (AccAt.turned (h₀ := ?_) (L := ?_) (h := ?_) (rows' := []) ?tN (hacc.grown fun p hp => .tail _ (.tail _ hp)) (fun r' hr' => nomatch hr')).1
             rotate_right; assumption
end
end
section
open PySem PySem.W PySem.Calls PyProof.Rows PySem.Builtin PySem.Builtin.Str
/-- a contract whose end may stand in any state (generators made on the way) -/
abbrev GClaimS (w : World) (mean : ExcName → Option Value) (mg mb : Str → Option Value) (room : Nat) (f : Addr) (args : List Value) (kw : List (Str × Value)) (pre : Led → Params → Prop) (post : Heap → Addr → Mp → Led → Shared → (Value → Shared → Prop) → Prop) : Prop :=
  ∀ (dp un : Nat) (gd : Option (List Code)) (cn : Str) (cs : Scope) (a : Addr) (ccd : Value) (cl : List (Str × Addr)) (outer : List Env) (A₀ : Around) (base h₀ : Heap) (L : Addr) (m : Mp) (news : Led) (s : Shared) (Q E : Value → Shared → Prop),
    Below A₀ base outer h₀ → Fr h₀ L s.heap m → (Mine.K1 w.params).In h₀ → News h₀ L s.heap news → Top view1 loose1 mean mg mb h₀ → cs.kind = .function →
    pre news w.params → AllBare s.gens → dp + room < recursionLimit → un + 8 * room < cLine →
    post h₀ L m news s Q →
      wpAny (model prog1 w) (ktrTop dp un gd cn cs L a ccd cl outer) (call (.ref f) args kw) Q E s
theorem sum_cast (rows : List Row4) (f : Row4 → Nat) : (rows.map fun r => ((f r : Nat) : Int)).sum = (((rows.map f).sum : Nat) : Int) := by
  induction rows with
  | nil => rfl
  | cons r rs ih => simp only [List.map_cons, List.sum_cons, ih, Int.natCast_add]
def lenR (rows : List Row4) : Nat := (rows.map fun r => r.x.length + r.y.length).sum
section
set_option maxHeartbeats 1000000 in
theorem len_ok (w : World) (mean) (mg mb) (P D : Addr) (k : Int) (n : Nat) (rows : List Row4) (hr : rows.length ≤ 900) (hz : ∀ r ∈ rows, r.x.length ≤ 1000 ∧ r.y.length ≤ 1000) :
    GClaimS w mean mg mb 6 240 [.ref P] [] (fun news _ => AccAt 273 P D k n rows news ∧ (235, tabO #[]) ∈ news) (fun h₀ L m news s K => ∀ s' t ps', s'.os = s.os → AllBare s'.gens → Fr h₀ L s'.heap m → News h₀ L s'.heap ((235, tabO ps') :: but 235 news) → K (.int (k + lenR rows) t) s') := by
  unfold GClaimS prog1
  k_fill
  intros; rename_i hpre hG hdp hun hret
  rename News _ _ _ _ => N₀
  rename Frag.In _ _ => X0
  rename Top _ _ _ _ _ _ => T0
  have hlen := mg_none_of (n := Str.ofString "len") X0 T0.g (by k_is)
  try dsimp only at hpre
  try dsimp only at hret
  obtain ⟨hacc, htab⟩ := hpre
  have hacc' := hacc
  obtain ⟨hm1, ⟨hh, ht, hu, hm2⟩, hm3⟩ := hacc'
  have hc : CodeK (Mine.K1 w.params) 239 235 := ⟨_, _, _, _, _, _, _, _, _, by k_is, rfl, rfl, rfl, rfl, rfl, rfl, rfl, rfl⟩
  refine wpAny_call ?_
  k_dflt (first | (refine' code_def ?k1 ?k2 ?k3 ?k4 ?k5 ?kA ?kF ?kK ?k6 ?k7 ?k8 ?k9 ?kB ?_ ?c2 ?c3 ?c4 ?c5; (case kA => exact rfl); (case kF => exact rfl); (case kK => assumption); (case k1 => k_asm); (case k2 => k_asm); (case k3 => k_asm); (case k4 => k_asm); (case k5 => k_asm); (case k6 => k_is); (case k7 => k_is); (case k8 => ktr_room); (case k9 => exact binds_K (by k_in) rfl (by k_is) rfl rfl rfl); (case c5 => decide); (case kB => exact locs rfl); (case c2 => exact rfl); (case c3 => exact rfl); (case c4 => exact rfl); k_whole; intro g' L' h' FG' F' N' B' X' T'; (try dsimp only); (try k_lift B'); (try k_fold)) | (refine' ks_code_super ?k1 ?k2 ?k3 ?k4 ?k5 ?kA ?kF ?kK ?k6 ?k7 ?k8 ?k9 ?kB ?_ ?c1 ?c2 ?c3 ?c4; (case kA => exact rfl); (case kF => exact rfl); (case kK => first | exact rfl | assumption); (case k1 => k_asm); (case k2 => k_asm); (case k3 => k_asm); (case k4 => k_asm); (case k5 => k_asm); (case k6 => k_is); (case k7 => k_is); (case k8 => ktr_room); (case k9 => first | exact BindsTo.of_eq rfl | exact binds_K (by k_in) rfl (by k_is) rfl rfl rfl); (case kB => exact locs rfl); (case c1 => decide); (case c2 => exact rfl); (case c3 => exact rfl); (case c4 => exact rfl); intro g' L' h' FG' F' N' B' X' T' lc1; (try k_lt lc1); (try dsimp only); (try k_lift B')) | (refine' code_defC ?k1 ?k2 ?k3 ?k4 ?k5 ?kA ?kF ?kK ?k6 ?k7 ?k8 ?k9 ?kB ?kD ?_ ?c2 ?c3 ?c4; (case kA => exact rfl); (case kF => exact rfl); (case kK => first | exact rfl | assumption); (case k1 => k_asm); (case k2 => k_asm); (case k3 => k_asm); (case k4 => k_asm); (case k5 => k_asm); (case k6 => k_is); (case k7 => k_is); (case k8 => ktr_room); (case k9 => first | exact BindsTo.of_eq rfl | exact binds_K (by k_in) rfl (by k_is) rfl rfl rfl | fail "k_enter: no rule for these arguments"); (case kB => exact rfl); (case kD => decide +kernel); (case c2 => exact rfl); (case c3 => exact rfl); (case c4 => exact rfl); k_whole; intro g' L' h' tk' cells' FG' F' N' Y' B' X' T' lc1; (try k_lt lc1); k_cells Y'; (try simp only [List.cons_append, List.nil_append] at N'); (try dsimp only); (try k_lift B'); (try k_fold)) | cell_enter)
  repeat' (first | (k_unfold; (try dsimp only)) | (k_end; wrow_close) | (with_reducible (first | (k_here; (with_reducible show wpAny _ _ (eval (Expr.GeneratorExp _ _ _ _) _) _ _ _); k_dflt (refine stopHere ?_)))) | walk1 | (dsimp only; first | (with_reducible (first | (k_here; (with_reducible show wpAny _ _ (eval (Expr.GeneratorExp _ _ _ _) _) _ _ _); k_dflt (refine stopHere ?_)))) | walk1) | (leave1; try dsimp only) | fail "no step")
  show wpAny _ _ _ _ _ _
  rename News _ _ _ _ => N₁
  rename Fr _ _ _ _ => F₁
  refine' gen_acc (rows := rows) (K := Mine.K1 w.params) (c := 239) (Pt := 235) (ps := #[]) (Fv := fun r y => ∃ t, y = .int (r.x.length + r.y.length) t) ?qF ?qX ?qT ?qN hm1 hm2 hm3 htab hc ?qok ?qnf hG ?qcode ?qglob ?qs ?qi ?qh ?qco ?qcl ?qcell ?q0 ?qxa ?qxb ?qab ?qk ?qroom ?qit ?qelt ?qgo ?qsf
  case qF => k_asm
  case qX => k_asm
  case qT => k_asm
  case qN => k_asm
  case qok => trivial
  case qnf => rfl
  case qcode => rfl
  case qglob => rfl
  case qs => k_is
  case qi => k_is
  case qh => rfl
  case qco => rfl
  case qcl => rfl
  case qcell => decide
  case q0 => rfl
  case qxa => rfl
  case qxb => rfl
  case qab => decide
  case qk => rfl
  case qroom => ktr_room
  case qsf => intro _; rfl
  case qit =>
    intro Q' hq
    repeat' (first | (k_unfold; (try dsimp only)) | (k_end; wrow_close) | walk1 | (dsimp only; first | walk1) | (leave1; try dsimp only) | fail "no step")
    exact hq
  case qelt =>
    intro c' Cc A' E' r t m₂ hh hr' F₂ ma mb'
    exact elt_len F₂ (by assumption) ma mb' (by have := hz r hr'; omega) (by have := hz r hr'; omega) hlen rfl rfl rfl rfl rfl (by decide) (by decide)
  intro ga s₅ c' F₅ N₅ G₅ hos hdr X₅
  have hP1 := (mem_but (D := 235)).mpr ⟨hm1, News.ne N₀ hm1 htab fun z => by cases congrArg Obj.cls z⟩
  have hP2 := (mem_but (D := 235)).mpr ⟨hm2, News.ne N₀ hm2 htab fun z => by cases congrArg Obj.cls z⟩
  repeat' (first | (k_unfold; (try dsimp only)) | (k_end; wrow_close) | (with_reducible (first | (k_here; (with_reducible show wpAny _ _ (getAttr (Value.ref _) _ _) _ _ _); k_dflt (refine' acc_get_K ?aF ?aX ?aN ?a1 ?a2 ?ag ?ak ?ai ?af ?ah ?_; (case aF => k_asm); (case aX => k_asm); (case aN => k_asm); (case a1 => k_mem); (case a2 => k_mem); (case ag => k_is); (case ak => k_is); (case ai => k_is); (case af => exact (by rfl)); (case ah => first | rfl | k_handed))))) | walk1 | (dsimp only; first | (with_reducible (first | (k_here; (with_reducible show wpAny _ _ (getAttr (Value.ref _) _ _) _ _ _); k_dflt (refine' acc_get_K ?aF ?aX ?aN ?a1 ?a2 ?ag ?ak ?ai ?af ?ah ?_; (case aF => k_asm); (case aX => k_asm); (case aN => k_asm); (case a1 => k_mem); (case a2 => k_mem); (case ag => k_is); (case ak => k_is); (case ai => k_is); (case af => exact (by rfl)); (case ah => first | rfl | k_handed))))) | walk1) | (leave1; try dsimp only) | fail "no step")
  refine sum_gen (n := rows.length) (val := fun j => ((rows[j]?).map fun r => ((r.x.length + r.y.length : Nat) : Int)).getD 0) (by k_asm) (by k_asm) (fun q hq => ?_) (Nat.le_sub_one_of_lt F₁.ns.lt) G₅ (Gen_later X₅ (Nat.le_succ _)) (fun j v hv => ?_) fun s₆ t₆ F₆ N₆ G₆ hos₆ hdr₆ => ?_
  · refine Nat.le_sub_one_of_lt ?_
    rcases List.mem_cons.mp hq with rfl | hq
    · exact Heap.lt_size (N₁ _ htab).1
    · exact Heap.lt_size (N₁ _ (mem_but.mp hq).1).1
  · obtain ⟨r, hr1, t, rfl⟩ := hv
    exact ⟨t, by simp [hr1]⟩
  rw [preSum_rows, List.take_length]
  repeat' (first | (k_unfold; (try dsimp only)) | (k_end; wrow_close) | walk1 | (dsimp only; first | walk1) | (leave1; try dsimp only) | fail "no step")
  rw [sum_cast rows fun r => r.x.length + r.y.length]
  exact hret s₆ t₆ _ (hos₆.trans hos) G₆ (by k_asm) (by k_asm)
end
end
section
open PySem PySem.W PySem.Calls PyProof.Rows PySem.Builtin PySem.Builtin.Str
def strR (rows : List Row4) : Str := Txt.join "" (rows.map fun r => Txt.join "" [r.x, r.y])
section
set_option maxHeartbeats 1000000 in
theorem str_ok (w : World) (mean) (mg mb) (P D : Addr) (k : Int) (n : Nat) (rows : List Row4) (hr : rows.length ≤ 900) (hz : ∀ r ∈ rows, r.x.length ≤ 1000 ∧ r.y.length ≤ 1000) :
    GClaimS w mean mg mb 6 247 [.ref P] [] (fun news _ => AccAt 273 P D k n rows news ∧ (242, tabO #[]) ∈ news) (fun h₀ L m news s K => ∀ s' t ps', s'.os = s.os → AllBare s'.gens → Fr h₀ L s'.heap m → News h₀ L s'.heap ((242, tabO ps') :: but 242 news) → K (.str (strR rows) t) s') := by
  unfold GClaimS prog1
  k_fill
  intros; rename_i hpre hG hdp hun hret
  rename News _ _ _ _ => N₀
  rename Frag.In _ _ => X0
  rename Top _ _ _ _ _ _ => T0
  have hE := mg_of (n := Str.ofString "EMPTYSTRING") X0 T0.g (by k_is)
  try dsimp only at hpre
  try dsimp only at hret
  obtain ⟨hacc, htab⟩ := hpre
  have hacc' := hacc
  obtain ⟨hm1, ⟨hh, ht, hu, hm2⟩, hm3⟩ := hacc'
  have hc : CodeK (Mine.K1 w.params) 246 242 := ⟨_, _, _, _, _, _, _, _, _, by k_is, rfl, rfl, rfl, rfl, rfl, rfl, rfl, rfl⟩
  refine wpAny_call ?_
  k_dflt (first | (refine' code_def ?k1 ?k2 ?k3 ?k4 ?k5 ?kA ?kF ?kK ?k6 ?k7 ?k8 ?k9 ?kB ?_ ?c2 ?c3 ?c4 ?c5; (case kA => exact rfl); (case kF => exact rfl); (case kK => assumption); (case k1 => k_asm); (case k2 => k_asm); (case k3 => k_asm); (case k4 => k_asm); (case k5 => k_asm); (case k6 => k_is); (case k7 => k_is); (case k8 => ktr_room); (case k9 => exact binds_K (by k_in) rfl (by k_is) rfl rfl rfl); (case c5 => decide); (case kB => exact locs rfl); (case c2 => exact rfl); (case c3 => exact rfl); (case c4 => exact rfl); k_whole; intro g' L' h' FG' F' N' B' X' T'; (try dsimp only); (try k_lift B'); (try k_fold)) | (refine' ks_code_super ?k1 ?k2 ?k3 ?k4 ?k5 ?kA ?kF ?kK ?k6 ?k7 ?k8 ?k9 ?kB ?_ ?c1 ?c2 ?c3 ?c4; (case kA => exact rfl); (case kF => exact rfl); (case kK => first | exact rfl | assumption); (case k1 => k_asm); (case k2 => k_asm); (case k3 => k_asm); (case k4 => k_asm); (case k5 => k_asm); (case k6 => k_is); (case k7 => k_is); (case k8 => ktr_room); (case k9 => first | exact BindsTo.of_eq rfl | exact binds_K (by k_in) rfl (by k_is) rfl rfl rfl); (case kB => exact locs rfl); (case c1 => decide); (case c2 => exact rfl); (case c3 => exact rfl); (case c4 => exact rfl); intro g' L' h' FG' F' N' B' X' T' lc1; (try k_lt lc1); (try dsimp only); (try k_lift B')) | (refine' code_defC ?k1 ?k2 ?k3 ?k4 ?k5 ?kA ?kF ?kK ?k6 ?k7 ?k8 ?k9 ?kB ?kD ?_ ?c2 ?c3 ?c4; (case kA => exact rfl); (case kF => exact rfl); (case kK => first | exact rfl | assumption); (case k1 => k_asm); (case k2 => k_asm); (case k3 => k_asm); (case k4 => k_asm); (case k5 => k_asm); (case k6 => k_is); (case k7 => k_is); (case k8 => ktr_room); (case k9 => first | exact BindsTo.of_eq rfl | exact binds_K (by k_in) rfl (by k_is) rfl rfl rfl | fail "k_enter: no rule for these arguments"); (case kB => exact rfl); (case kD => decide +kernel); (case c2 => exact rfl); (case c3 => exact rfl); (case c4 => exact rfl); k_whole; intro g' L' h' tk' cells' FG' F' N' Y' B' X' T' lc1; (try k_lt lc1); k_cells Y'; (try simp only [List.cons_append, List.nil_append] at N'); (try dsimp only); (try k_lift B'); (try k_fold)) | cell_enter)
  repeat' (first | (k_unfold; (try dsimp only)) | (k_end; wrow_close) | (with_reducible (first | (k_here; (with_reducible show wpAny _ _ (eval (Expr.GeneratorExp _ _ _ _) _) _ _ _); k_dflt (refine stopHere ?_)))) | walk1 | (dsimp only; first | (with_reducible (first | (k_here; (with_reducible show wpAny _ _ (eval (Expr.GeneratorExp _ _ _ _) _) _ _ _); k_dflt (refine stopHere ?_)))) | walk1) | (leave1; try dsimp only) | fail "no step")
  show wpAny _ _ _ _ _ _
  rename News _ _ _ _ => N₁
  rename Fr _ _ _ _ => F₁
  refine' gen_acc (rows := rows) (K := Mine.K1 w.params) (c := 246) (Pt := 242) (ps := #[]) (Fv := fun r y => ∃ t, y = .str (Txt.join "" [r.x, r.y]) t) ?qF ?qX ?qT ?qN hm1 hm2 hm3 htab hc ?qok ?qnf hG ?qcode ?qglob ?qs ?qi ?qh ?qco ?qcl ?qcell ?q0 ?qxa ?qxb ?qab ?qk ?qroom ?qit ?qelt ?qgo ?qsf
  case qF => k_asm
  case qX => k_asm
  case qT => k_asm
  case qN => k_asm
  case qok => trivial
  case qnf => rfl
  case qcode => rfl
  case qglob => rfl
  case qs => k_is
  case qi => k_is
  case qh => rfl
  case qco => rfl
  case qcl => rfl
  case qcell => decide
  case q0 => rfl
  case qxa => rfl
  case qxb => rfl
  case qab => decide
  case qk => rfl
  case qroom => ktr_room
  case qsf => intro _; rfl
  case qit =>
    intro Q' hq
    repeat' (first | (k_unfold; (try dsimp only)) | (k_end; wrow_close) | walk1 | (dsimp only; first | walk1) | (leave1; try dsimp only) | fail "no step")
    exact hq
  case qelt =>
    intro c' Cc A' E' r t m₂ hh hr' F₂ ma mb'
    exact elt_join F₂ (by assumption) ma mb' (by have := hz r hr'; omega) (by have := hz r hr'; omega) hE rfl rfl rfl rfl rfl (by decide) (by decide) (by decide) (by decide)
  intro ga s₅ c' F₅ N₅ G₅ hos hdr X₅
  have hP1 := (mem_but (D := 242)).mpr ⟨hm1, News.ne N₀ hm1 htab fun z => by cases congrArg Obj.cls z⟩
  have hP2 := (mem_but (D := 242)).mpr ⟨hm2, News.ne N₀ hm2 htab fun z => by cases congrArg Obj.cls z⟩
  repeat' (first | (k_unfold; (try dsimp only)) | (k_end; wrow_close) | walk1 | (dsimp only; first | walk1) | (leave1; try dsimp only) | fail "no step")
  refine join_gen' (n := rows.length) (tx := fun j => ((rows[j]?).map fun r => Txt.join "" [r.x, r.y]).getD "") (by k_asm) (by k_asm) (fun q hq => ?_) (Nat.le_sub_one_of_lt F₁.ns.lt) G₅ X₅ (fun j v hv => ?_) ?_ (by omega) fun s₆ t₆ F₆ N₆ G₆ hos₆ => ?_
  · refine Nat.le_sub_one_of_lt ?_
    rcases List.mem_cons.mp hq with rfl | hq
    · exact Heap.lt_size (N₁ _ htab).1
    · exact Heap.lt_size (N₁ _ (mem_but.mp hq).1).1
  · obtain ⟨r, hr1, t, rfl⟩ := hv
    exact ⟨t, by simp [hr1]⟩
  · rw [range_rows]
    exact joinOk_rows rows hr hz
  rw [range_rows]
  repeat' (first | (k_unfold; (try dsimp only)) | (k_end; wrow_close) | walk1 | (dsimp only; first | walk1) | (leave1; try dsimp only) | fail "no step")
  exact hret s₆ t₆ _ (hos₆.trans hos) G₆ (by k_asm) (by k_asm)
end
end
section
open PySem PySem.W PySem.Calls PyProof.Rows PySem.Builtin PySem.Builtin.Str
set_option maxHeartbeats 1000000 in
theorem acc_new (w : World) (mean) (mg mb) (k : Int) (t : Tok) :
    GClaim1 w mean mg mb 6 273 [.int k t] [] (fun news _ => True) (fun h₀ L m news K => ∀ P D n h' tk', Fr h₀ L h' m → (∃ news', News h₀ L h' news' ∧ AccAt 273 P D k n [] news' ∧ ∀ p ∈ news, p ∈ news') → K (.ref P) h' tk') := by
  unfold GClaim1 prog1
  k_fill
  intros; rename_i hpre hdp hun hret
  try dsimp only at hpre
  try dsimp only at hret
  (refine' call_acc ?aF ?aX ?aN ?am ?ai ?af ?_; (case aF => k_asm); (case aX => k_asm); (case aN => k_asm); (case am => kernel_rfl); (case ai => k_is); (case af => k_is); intro x' d' h' F' N' l1 l2; (try k_lt l1); (try k_lt2 l2); k_dflt (first | (refine' code_def ?k1 ?k2 ?k3 ?k4 ?k5 ?kA ?kF ?kK ?k6 ?k7 ?k8 ?k9 ?kB ?_ ?c2 ?c3 ?c4 ?c5; (case kA => exact rfl); (case kF => exact rfl); (case kK => assumption); (case k1 => k_asm); (case k2 => k_asm); (case k3 => k_asm); (case k4 => k_asm); (case k5 => k_asm); (case k6 => k_is); (case k7 => k_is); (case k8 => ktr_room); (case k9 => exact binds_K (by k_in) rfl (by k_is) rfl rfl rfl); (case c5 => decide); (case kB => exact locs rfl); (case c2 => exact rfl); (case c3 => exact rfl); (case c4 => exact rfl); k_whole; intro g' L' h' FG' F' N' B' X' T'; (try dsimp only); (try k_lift B'); (try k_fold)) | (refine' ks_code_super ?k1 ?k2 ?k3 ?k4 ?k5 ?kA ?kF ?kK ?k6 ?k7 ?k8 ?k9 ?kB ?_ ?c1 ?c2 ?c3 ?c4; (case kA => exact rfl); (case kF => exact rfl); (case kK => first | exact rfl | assumption); (case k1 => k_asm); (case k2 => k_asm); (case k3 => k_asm); (case k4 => k_asm); (case k5 => k_asm); (case k6 => k_is); (case k7 => k_is); (case k8 => ktr_room); (case k9 => first | exact BindsTo.of_eq rfl | exact binds_K (by k_in) rfl (by k_is) rfl rfl rfl); (case kB => exact locs rfl); (case c1 => decide); (case c2 => exact rfl); (case c3 => exact rfl); (case c4 => exact rfl); intro g' L' h' FG' F' N' B' X' T' lc1; (try k_lt lc1); (try dsimp only); (try k_lift B')) | (refine' code_defC ?k1 ?k2 ?k3 ?k4 ?k5 ?kA ?kF ?kK ?k6 ?k7 ?k8 ?k9 ?kB ?kD ?_ ?c2 ?c3 ?c4; (case kA => exact rfl); (case kF => exact rfl); (case kK => first | exact rfl | assumption); (case k1 => k_asm); (case k2 => k_asm); (case k3 => k_asm); (case k4 => k_asm); (case k5 => k_asm); (case k6 => k_is); (case k7 => k_is); (case k8 => ktr_room); (case k9 => first | exact BindsTo.of_eq rfl | exact binds_K (by k_in) rfl (by k_is) rfl rfl rfl | fail "k_enter: no rule for these arguments"); (case kB => exact rfl); (case kD => decide +kernel); (case c2 => exact rfl); (case c3 => exact rfl); (case c4 => exact rfl); k_whole; intro g' L' h' tk' cells' FG' F' N' Y' B' X' T' lc1; (try k_lt lc1); k_cells Y'; (try simp only [List.cons_append, List.nil_append] at N'); (try dsimp only); (try k_lift B'); (try k_fold)) | cell_enter))
  repeat' (first | (k_unfold; (try dsimp only)) | (k_end; wrow_close) | (with_reducible (first | (k_here; (first | with_reducible show PySem.wpAt _ _ _ _ _ _ _ | with_reducible show PyProof.Rows.wpAt _ _ _ _ _ _ _); k_dflt (dsimp only)) | (k_here; (first | with_reducible show PySem.wpAt _ _ _ _ _ _ _ | with_reducible show PyProof.Rows.wpAt _ _ _ _ _ _ _); k_dflt (ks_step "exec Expr"; refine ks_wpAt_Expr_any ?_)) | (k_here; (first | with_reducible show PySem.wpAt _ _ _ _ _ _ _ | with_reducible show PyProof.Rows.wpAt _ _ _ _ _ _ _); k_dflt (ks_step "eval Call"; refine ks_wpAt_MethodCall ?_)) | (k_here; (with_reducible show wpAny _ _ (setAttr (Value.ref _) _ _) _ _ _); k_dflt (refine' acc_set ?aF ?aX ?aN ?a1 ?a2 ?ag ?ap ?at' ?ah ?_; (case aF => k_asm); (case aX => k_asm); (case aN => k_asm); (case a1 => k_mem); (case a2 => k_mem); (case ag => k_is); (case ap => kernel_rfl); (case at' => k_is); (case ah => kernel_rfl)); intro h' hsh' tk' k' F' N' hK') | (k_here; (with_reducible show wpAny _ _ (call (Value.ref _) []) _ _ _); k_dflt (refine' call_init ?aF ?aN ?a1 ?a2 ?_; (case aF => k_asm); (case aN => k_asm); (case a1 => k_mem); (case a2 => k_mem)); intro h' F' N') | (k_here; (with_reducible show wpAny _ _ (callWith _ (Value.ref _) _ _ _) _ _ _); k_dflt (first | (refine' callWith_wrap ?aN ?a1 ?_; (case aN => k_asm); (case a1 => k_mem)) | (refine' callWith_bnd ?aN ?a1 ?_; (case aN => k_asm); (case a1 => k_mem)))) | (k_here; (with_reducible show wpAny _ _ (getMethod (Value.ref _) (Str.ofString "__init__") _) _ _ _); k_dflt (refine' sup_init ?aF ?aX ?aN ?aS ?a1 ?a2 ?ao ?ai ?am ?_; (case aF => k_asm); (case aX => k_asm); (case aN => k_asm); (case aS => k_mem); (case a1 => k_mem); (case a2 => k_mem); (case ao => k_is); (case ai => k_is); (case am => ks_is)); intro q' h' F' N' lc1; (try k_lt lc1)))) | walk1 | (dsimp only; first | (with_reducible (first | (k_here; (first | with_reducible show PySem.wpAt _ _ _ _ _ _ _ | with_reducible show PyProof.Rows.wpAt _ _ _ _ _ _ _); k_dflt (dsimp only)) | (k_here; (first | with_reducible show PySem.wpAt _ _ _ _ _ _ _ | with_reducible show PyProof.Rows.wpAt _ _ _ _ _ _ _); k_dflt (ks_step "exec Expr"; refine ks_wpAt_Expr_any ?_)) | (k_here; (first | with_reducible show PySem.wpAt _ _ _ _ _ _ _ | with_reducible show PyProof.Rows.wpAt _ _ _ _ _ _ _); k_dflt (ks_step "eval Call"; refine ks_wpAt_MethodCall ?_)) | (k_here; (with_reducible show wpAny _ _ (setAttr (Value.ref _) _ _) _ _ _); k_dflt (refine' acc_set ?aF ?aX ?aN ?a1 ?a2 ?ag ?ap ?at' ?ah ?_; (case aF => k_asm); (case aX => k_asm); (case aN => k_asm); (case a1 => k_mem); (case a2 => k_mem); (case ag => k_is); (case ap => kernel_rfl); (case at' => k_is); (case ah => kernel_rfl)); intro h' hsh' tk' k' F' N' hK') | (k_here; (with_reducible show wpAny _ _ (call (Value.ref _) []) _ _ _); k_dflt (refine' call_init ?aF ?aN ?a1 ?a2 ?_; (case aF => k_asm); (case aN => k_asm); (case a1 => k_mem); (case a2 => k_mem)); intro h' F' N') | (k_here; (with_reducible show wpAny _ _ (callWith _ (Value.ref _) _ _ _) _ _ _); k_dflt (first | (refine' callWith_wrap ?aN ?a1 ?_; (case aN => k_asm); (case a1 => k_mem)) | (refine' callWith_bnd ?aN ?a1 ?_; (case aN => k_asm); (case a1 => k_mem)))) | (k_here; (with_reducible show wpAny _ _ (getMethod (Value.ref _) (Str.ofString "__init__") _) _ _ _); k_dflt (refine' sup_init ?aF ?aX ?aN ?aS ?a1 ?a2 ?ao ?ai ?am ?_; (case aF => k_asm); (case aX => k_asm); (case aN => k_asm); (case aS => k_mem); (case a1 => k_mem); (case a2 => k_mem); (case ao => k_is); (case ai => k_is); (case am => ks_is)); intro q' h' F' N' lc1; (try k_lt lc1)))) | walk1) | (leave1; try dsimp only) | fail "no step")
  refine hret _ _ _ _ _ (by k_asm) ⟨_, by k_asm, ⟨.head _, ⟨_, _, _, .tail _ (mem_but.mpr ⟨.tail _ (.tail _ (.head _)), Nat.ne_of_lt l2⟩)⟩, fun r hr => nomatch hr⟩, fun p hp => .tail _ (mem_but.mpr ⟨.tail _ (.tail _ (.tail _ (mem_but.mpr ⟨.tail _ (.tail _ hp), Nat.ne_of_lt (l1 p hp)⟩))), Nat.ne_of_lt (Nat.lt_trans (l1 p hp) l2)⟩)⟩
end
section
open PySem PySem.W PySem.Calls PyProof.Rows PySem.Builtin PySem.Builtin.Str
section
set_option maxHeartbeats 1000000 in
theorem tab_new (w : World) (mean) (mg mb) (HL : Addr) (n : Nat) (r1 r2 r3 : Row4) (c1 : Clean r1.x) (c2 : Clean r1.y) (c3 : Clean r2.x) (c4 : Clean r2.y) (c5 : Clean r3.x) (c6 : Clean r3.y) :
    GClaim1 w mean mg mb 6 182 [.ref HL] [] (fun news _ => (HL, listOf ([r1, r2, r3].map fun r => Value.ref r.a).toArray n) ∈ news ∧ ∀ r ∈ [r1, r2, r3], r.ent ∈ news) (fun h₀ L m news K => ∀ T TD h' tk', Fr h₀ L h' m → (∃ news', News h₀ L h' news' ∧ TabAt 182 w.params T TD HL n [r1, r2, r3] news' ∧ ∀ p ∈ news, p ∈ news') → K (.ref T) h' tk') := by
  unfold GClaim1 prog1
  k_fill
  intros; rename_i hpre hdp hun hret
  try dsimp only at hpre
  try dsimp only at hret
  obtain ⟨hm1, hm3⟩ := hpre
  (refine' call_cls ?k1 ?k2 ?k3 ?k4 ?k5 ?k6 ?_; (case k1 => k_asm); (case k2 => k_asm); (case k3 => k_asm); (case k4 => k_is); (case k5 => k_is); (case k6 => k_is); intro x' d' h' F' N' l1 l2; (try k_lt l1); (try k_lt2 l2); k_dflt (first | (refine' code_def ?k1 ?k2 ?k3 ?k4 ?k5 ?kA ?kF ?kK ?k6 ?k7 ?k8 ?k9 ?kB ?_ ?c2 ?c3 ?c4 ?c5; (case kA => exact rfl); (case kF => exact rfl); (case kK => assumption); (case k1 => k_asm); (case k2 => k_asm); (case k3 => k_asm); (case k4 => k_asm); (case k5 => k_asm); (case k6 => k_is); (case k7 => k_is); (case k8 => ktr_room); (case k9 => exact binds_K (by k_in) rfl (by k_is) rfl rfl rfl); (case c5 => decide); (case kB => exact locs rfl); (case c2 => exact rfl); (case c3 => exact rfl); (case c4 => exact rfl); k_whole; intro g' L' h' FG' F' N' B' X' T'; (try dsimp only); (try k_lift B'); (try k_fold)) | (refine' ks_code_super ?k1 ?k2 ?k3 ?k4 ?k5 ?kA ?kF ?kK ?k6 ?k7 ?k8 ?k9 ?kB ?_ ?c1 ?c2 ?c3 ?c4; (case kA => exact rfl); (case kF => exact rfl); (case kK => first | exact rfl | assumption); (case k1 => k_asm); (case k2 => k_asm); (case k3 => k_asm); (case k4 => k_asm); (case k5 => k_asm); (case k6 => k_is); (case k7 => k_is); (case k8 => ktr_room); (case k9 => first | exact BindsTo.of_eq rfl | exact binds_K (by k_in) rfl (by k_is) rfl rfl rfl); (case kB => exact locs rfl); (case c1 => decide); (case c2 => exact rfl); (case c3 => exact rfl); (case c4 => exact rfl); intro g' L' h' FG' F' N' B' X' T' lc1; (try k_lt lc1); (try dsimp only); (try k_lift B')) | (refine' code_defC ?k1 ?k2 ?k3 ?k4 ?k5 ?kA ?kF ?kK ?k6 ?k7 ?k8 ?k9 ?kB ?kD ?_ ?c2 ?c3 ?c4; (case kA => exact rfl); (case kF => exact rfl); (case kK => first | exact rfl | assumption); (case k1 => k_asm); (case k2 => k_asm); (case k3 => k_asm); (case k4 => k_asm); (case k5 => k_asm); (case k6 => k_is); (case k7 => k_is); (case k8 => ktr_room); (case k9 => first | exact BindsTo.of_eq rfl | exact binds_K (by k_in) rfl (by k_is) rfl rfl rfl | fail "k_enter: no rule for these arguments"); (case kB => exact rfl); (case kD => decide +kernel); (case c2 => exact rfl); (case c3 => exact rfl); (case c4 => exact rfl); k_whole; intro g' L' h' tk' cells' FG' F' N' Y' B' X' T' lc1; (try k_lt lc1); k_cells Y'; (try simp only [List.cons_append, List.nil_append] at N'); (try dsimp only); (try k_lift B'); (try k_fold)) | cell_enter))
  repeat' (first | (k_unfold; (try dsimp only)) | (k_end; wrow_close) | (with_reducible (first | (k_here; (with_reducible show wpAny _ _ (pyIter (Value.ref _)) (fun it s₂ => TurnsAt _ _ _ _ _ _ _ _ _ it s₂) _ _); k_dflt (refine stopHere ?_)) | (k_here; (with_reducible show wpAny _ _ (exec (Stmt.For (Expr.Tuple _ _ _) (Expr.Name _ _) _ _ _) _) _ _ _); (rename Fr _ _ _ _ => lF'); k_dflt (with_unfolding_all refine' For_turns lF' ?_; k_whole)))) | walk1 | (dsimp only; first | (with_reducible (first | (k_here; (with_reducible show wpAny _ _ (pyIter (Value.ref _)) (fun it s₂ => TurnsAt _ _ _ _ _ _ _ _ _ it s₂) _ _); k_dflt (refine stopHere ?_)) | (k_here; (with_reducible show wpAny _ _ (exec (Stmt.For (Expr.Tuple _ _ _) (Expr.Name _ _) _ _ _) _) _ _ _); (rename Fr _ _ _ _ => lF'); k_dflt (with_unfolding_all refine' For_turns lF' ?_; k_whole)))) | walk1) | (leave1; try dsimp only) | fail "no step")
  show wpAny _ _ _ _ _ _
  rename Fr _ _ _ _ => FA
  refine Fr.foldc FA ?_
  clear FA
  intro mA FA
  refine' turns_list (fun m₀ l₀ i m l => (∀ z, z ∉ [Str.ofString "k", Str.ofString "v"] → m z = m₀ z) ∧ l = l₀) ?hh (D := HL) (vs := [r1, r2, r3].map fun r => Value.ref r.a) (k := n) ?hD ?hF ?hN ⟨fun _ _ => rfl, rfl⟩ ?turn ?done
  case hh => rfl
  case hF => k_asm
  case hN => k_asm
  case hD => k_mem
  case turn =>
    rintro I i v m₁ news₁ h tk oI hcI hv ⟨hz, rfl⟩ hoff hD F N
    rw [eq_over hz] at F
    try dsimp only [over, List.foldr] at F
    have : ∃ r, r ∈ [r1, r2, r3] ∧ v = .ref r.a := by
      have := List.mem_of_getElem? hv
      simp at this
      rcases this with rfl | rfl | rfl
      · exact ⟨r1, by simp, rfl⟩
      · exact ⟨r2, by simp, rfl⟩
      · exact ⟨r3, by simp, rfl⟩
    obtain ⟨r, hr, rfl⟩ := this
    have : Clean r.x ∧ Clean r.y := by
      simp at hr
      rcases hr with rfl | rfl | rfl
      · exact ⟨c1, c2⟩
      · exact ⟨c3, c4⟩
      · exact ⟨c5, c6⟩
    obtain ⟨d1, d2⟩ := this
    have hm := hm3 r hr
    dsimp only [Row4.ent] at hm
    clear hr hm3
    repeat' (first | (k_unfold; (try dsimp only)) | (k_end; wrow_close) | (with_reducible (first | (k_here; (with_reducible show wpAny _ _ (call (Value.ref 83) _ _) _ _ _); k_dflt (refine' (conv_ok _ _ _ _ _ _ _ _ ?ghx) _ _ _ _ _ _ _ _ _ _ _ _ _ _ _ _ _ _ ?gB ?gF ?gX ?gN ?gT ?gk ?gp ?gd ?gu ?_; walk_at "gclaim"; (case gp => trivial); (case ghx => assumption); intro h' tk' F' N'; (try dsimp only); (try k_fold))) | (k_here; (with_reducible show TPost _ _ _ _ _ _ _ _ _ _); dsimp only [TPost]))) | walk1 | (dsimp only; first | (with_reducible (first | (k_here; (with_reducible show wpAny _ _ (call (Value.ref 83) _ _) _ _ _); k_dflt (refine' (conv_ok _ _ _ _ _ _ _ _ ?ghx) _ _ _ _ _ _ _ _ _ _ _ _ _ _ _ _ _ _ ?gB ?gF ?gX ?gN ?gT ?gk ?gp ?gd ?gu ?_; walk_at "gclaim"; (case gp => trivial); (case ghx => assumption); intro h' tk' F' N'; (try dsimp only); (try k_fold))) | (k_here; (with_reducible show TPost _ _ _ _ _ _ _ _ _ _); dsimp only [TPost]))) | walk1) | (leave1; try dsimp only) | fail "no step")
    refine ⟨_, _, _, _, rfl, by k_asm, by k_asm, hoff, ?_, ?_, rfl⟩
    · intro p hp; rw [List.mem_singleton.mp hp]; exact hD
    · intro z h1; simp at h1; simp [over, h1]
  case done =>
    rintro m₁ news₁ h tk ⟨hz, rfl⟩ hD F N
    rw [eq_over hz] at F
    try dsimp only [over, List.foldr] at F
    repeat' (first | (k_unfold; (try dsimp only)) | (k_end; wrow_close) | walk1 | (dsimp only; first | walk1) | (leave1; try dsimp only) | fail "no step")
    refine hret _ _ _ _ (by k_asm) ⟨_, by k_asm, ⟨.head _, ⟨_, _, .tail _ (.head _)⟩, .tail _ (.tail _ hm1), fun r hr => .tail _ (.tail _ (hm3 r hr))⟩, fun p hp => .tail _ (.tail _ hp)⟩
end
end
section
open PySem PySem.W PySem.Calls PyProof.Rows PySem.Builtin PySem.Builtin.Str
theorem up4 {HL : Addr} {o : Obj} {q1 q2 q3 q4 : Addr × Obj} {news : Led} : Kept HL news ((HL, o) :: but HL (q1 :: q2 :: q3 :: q4 :: news)) := fun p hp hne => List.mem_cons_of_mem _ (mem_but.mpr ⟨.tail _ (.tail _ (.tail _ (.tail _ hp))), hne⟩)
theorem tup_ne_list {vs : List Value} {us : Array Value} {n : Nat} : tupO vs ≠ listOf us n := fun z => absurd (Value.type.inj (congrArg Obj.cls z)) (by decide)
theorem tab_pushed {C T TD HL a : Addr} {n : Nat} {P : Params} {rows : List Row4} {x y : Str} {t u ht : Tok} {hh : Int} {q2 q3 q4 : Addr × Obj} {news : Led} {h₀ h : Heap} {L : Addr} (N0 : News h₀ L h news) (hm1 : (T, instO C TD) ∈ news) (hm2 : (TD, dictOf [⟨hh, .str (Str.ofString "_headers") ht, .ref HL⟩] 1) ∈ news) (hm3 : (HL, listOf (rows.map fun r => Value.ref r.a).toArray n) ∈ news) (hm4 : ∀ r ∈ rows, r.ent ∈ news) (hlt : HL < a) :
    TabAt C P T TD HL (n + 1) (rows ++ [⟨a, x, t, y, u⟩]) ((HL, listOf (rows.map (fun (r : Row4) => Value.ref r.a) ++ [Value.ref a]).toArray (n + 1)) :: but HL ((a, { cls := .type "tuple", data := .seq #[.str x t, .str y u] }) :: q2 :: q3 :: q4 :: news)) := by
  refine ⟨up4 _ hm1 (News.ne N0 hm1 hm3 fun z => by cases congrArg Obj.cls z), ⟨hh, ht, up4 _ hm2 (News.ne N0 hm2 hm3 fun z => by cases congrArg Obj.data z)⟩, ?_, ?_⟩
  · rw [List.map_append]; exact .head _
  · intro r hr'
    rcases List.mem_append.mp hr' with hr' | hr'
    · exact up4 _ (hm4 r hr') (News.ne N0 (hm4 r hr') hm3 tup_ne_list)
    · rw [List.mem_singleton.mp hr']
      exact .tail _ (mem_but.mpr ⟨.head _, Nat.ne_of_gt hlt⟩)
section
set_option maxHeartbeats 1000000 in
theorem add_ok (w : World) (mean) (mg mb) (T TD HL : Addr) (n : Nat) (rows : List Row4) (x y : Str) (t u : Tok) (hx : Clean x) (hy : Clean y) (hyl : y.length ≤ 1000) (hr : rows.length ≤ 900) :
    GClaim1 w mean mg mb 6 179 [.ref T, .str x t, .str y u] [] (fun news P => TabAt 182 P T TD HL n rows news) (fun h₀ L m news K => ∀ a u' n' news' h' tk', Fr h₀ L h' m → News h₀ L h' news' → TabAt 182 w.params T TD HL n' (rows ++ [⟨a, x, t, y, u'⟩]) news' → Kept HL news news' → K .none h' tk') := by
  unfold GClaim1 prog1
  k_fill
  intros; rename_i hN0 hT0 hk0 hpre hdp hun hret
  try dsimp only at hpre
  try dsimp only at hret
  obtain ⟨hm1, ⟨hh, ht, hm2⟩, hm3, hm4⟩ := hpre
  refine wpAny_call ?_
  (refine' kp_more ?k1 ?k2 ?k3 ?k4 ?k5 ?kA ?kF ?kK ?k6 ?k7 ?k8 ?kX ?kM ?kN ?kD ?kR ?kP ?kT ?kB ?_ ?c2 ?c3 ?c4 ?c5; (case kA => exact rfl); (case kF => exact rfl); (case kK => assumption); (case k1 => k_asm); (case k2 => k_asm); (case k3 => k_asm); (case k4 => k_asm); (case k5 => k_asm); (case k6 => k_is); (case k7 => k_is); (case k8 => ktr_room); (case kX => kp_lit); (case kM => exact rfl); (case kN => exact rfl); (case kD => kp_flats); (case kR => exact rfl); (case kP => exact rfl); (case kT => exact fun _ => rfl); (case kB => exact fun _ => locs rfl); (case c5 => decide); (case c2 => exact rfl); (case c3 => exact rfl); (case c4 => exact rfl); k_whole; intro D' o' g' L' h' tk' l1 lo' hs' fs' FG' F' N' B' X' T'; (try k_lt l1); (try dsimp only); (try k_lift B'); (try k_fold))
  repeat' (first | (k_unfold; (try dsimp only)) | (k_end; wrow_close) | (with_reducible (first | (k_here; (with_reducible show wpAny _ _ (call (Value.builtin "list.append") [Value.ref _, Value.ref _]) _ _ _); k_dflt (refine' led_append ?aF ?aN ?am ?az ?_; (case aF => k_asm); (case aN => k_asm); (case am => k_mem); (case az => (simp only [List.length_map, List.length_append, List.length_cons, List.length_nil]; omega)); intro h' F' N')) | (k_here; (with_reducible show wpAny _ _ (call (Value.builtin "str.join") [Value.str _ _, Value.ref _]) _ _ _); k_dflt (refine' led_join (ys := [_]) ?jN ?jm ?ji ?jo ?_; (case jN => k_asm); (case jm => k_mem); (case ji => exact .cons _ _ .nil); (case jo => (have e2 : (Str.ofString "; ").length = 2 := by rfl); simp [e2]; omega); rw [join1]; intro t' k')) | (k_here; (with_reducible show wpAny _ _ (call (Value.ref 83) _ _) _ _ _); k_dflt (refine' (conv_ok _ _ _ _ _ _ _ _ ?ghx) _ _ _ _ _ _ _ _ _ _ _ _ _ _ _ _ _ _ ?gB ?gF ?gX ?gN ?gT ?gk ?gp ?gd ?gu ?_; walk_at "gclaim"; (case gp => trivial); (case ghx => assumption); intro h' tk' F' N'; (try dsimp only); (try k_fold))))) | walk1 | (dsimp only; first | (with_reducible (first | (k_here; (with_reducible show wpAny _ _ (call (Value.builtin "list.append") [Value.ref _, Value.ref _]) _ _ _); k_dflt (refine' led_append ?aF ?aN ?am ?az ?_; (case aF => k_asm); (case aN => k_asm); (case am => k_mem); (case az => (simp only [List.length_map, List.length_append, List.length_cons, List.length_nil]; omega)); intro h' F' N')) | (k_here; (with_reducible show wpAny _ _ (call (Value.builtin "str.join") [Value.str _ _, Value.ref _]) _ _ _); k_dflt (refine' led_join (ys := [_]) ?jN ?jm ?ji ?jo ?_; (case jN => k_asm); (case jm => k_mem); (case ji => exact .cons _ _ .nil); (case jo => (have e2 : (Str.ofString "; ").length = 2 := by rfl); simp [e2]; omega); rw [join1]; intro t' k')) | (k_here; (with_reducible show wpAny _ _ (call (Value.ref 83) _ _) _ _ _); k_dflt (refine' (conv_ok _ _ _ _ _ _ _ _ ?ghx) _ _ _ _ _ _ _ _ _ _ _ _ _ _ _ _ _ _ ?gB ?gF ?gX ?gN ?gT ?gk ?gp ?gd ?gu ?_; walk_at "gclaim"; (case gp => trivial); (case ghx => assumption); intro h' tk' F' N'; (try dsimp only); (try k_fold))))) | walk1) | (leave1; try dsimp only) | fail "no step")
  rename (_ ∧ _ ∧ _ ∧ AllLt _ _) => hq
  have hlt := allLt_mem hq.2.2.2 _ hm3
  exact hret _ _ _ _ _ _ (by k_asm) (by k_asm) (tab_pushed hN0 hm1 hm2 hm3 hm4 hlt) up4
end
end
section
open PySem PySem.W PySem.Calls PyProof.Rows PySem.Builtin PySem.Builtin.Str
/-- a letter of abcABC -/
def isL (c : Nat) : Bool := [97, 98, 99, 65, 66, 67].contains c
/-- a contract that also reads the base -/
abbrev GClaimH (w : World) (mean : ExcName → Option Value) (mg mb : Str → Option Value) (room : Nat) (f : Addr) (args : List Value) (kw : List (Str × Value)) (pre : Heap → Led → Params → Prop) (post : Heap → Addr → Mp → Led → (Value → Heap → Nat → Prop) → Prop) : Prop :=
  ∀ (dp un : Nat) (gd : Option (List Code)) (cn : Str) (cs : Scope) (a : Addr) (ccd : Value) (cl : List (Str × Addr)) (outer : List Env) (A₀ : Around) (base h₀ : Heap) (L : Addr) (m : Mp) (news : Led) (s : Shared) (Q E : Value → Shared → Prop),
    Below A₀ base outer h₀ → Fr h₀ L s.heap m → (Mine.K1 w.params).In h₀ → News h₀ L s.heap news → Top view1 loose1 mean mg mb h₀ → cs.kind = .function →
    pre h₀ news w.params → dp + room < recursionLimit → un + 8 * room < cLine →
    post h₀ L m news (fun v h' tk' => Q v { s with heap := h', toks := tk' }) →
      wpAny (model prog1 w) (ktrTop dp un gd cn cs L a ccd cl outer) (call (.ref f) args kw) Q E s
/-- the letter of a number -/
def letN (z : Int) : Nat := [97, 98, 99, 65, 66, 67].getD (z.fmod 6).toNat 0
theorem mod6_cases (z : Int) : z.fmod 6 = 0 ∨ z.fmod 6 = 1 ∨ z.fmod 6 = 2 ∨ z.fmod 6 = 3 ∨ z.fmod 6 = 4 ∨ z.fmod 6 = 5 := by
  have := fmod6 z; omega
theorem letN_isL (z : Int) : isL (letN z) = true := by
  unfold letN
  rcases mod6_cases z with h | h | h | h | h | h <;> rw [h] <;> rfl
theorem item_letN (z : Int) : Txt.item (Str.ofString "abcABC") (z.fmod 6) = ⟨#[letN z]⟩ := by
  unfold letN
  rcases mod6_cases z with h | h | h | h | h | h <;> rw [h] <;> decide +kernel
theorem map_letN (zs : List Int) : zs.map (fun z => Txt.item (Str.ofString "abcABC") (z.fmod 6)) = (zs.map letN).map fun c => (⟨#[c]⟩ : Str) := by
  rw [List.map_map]
  exact List.map_congr_left fun z _ => item_letN z
theorem strsAre_values : ∀ l : List (Str × Tok), StrsAre (strValues l) (l.map (·.1))
  | [] => .nil
  | p :: r => .cons p.1 p.2 (strsAre_values r)
theorem join_small (zs : List Int) (f : Int → Str) (hf : ∀ z, (f z).length = 1) (h : zs.length ≤ 1000) : (List.map ((fun x : Str => x.length) ∘ f) zs).sum + zs.length * (Str.ofString "").length ≤ 16777216 := by
  have e0 : (Str.ofString "").length = 0 := by rfl
  rw [e0]
  have : (List.map ((fun x : Str => x.length) ∘ f) zs).sum ≤ zs.length := by
    clear h
    induction zs with
    | nil => simp
    | cons a r ih =>
      simp only [List.map_cons, List.sum_cons, List.length_cons, Function.comp_apply]
      have := hf a
      omega
  omega
section
set_option maxHeartbeats 1000000 in
theorem spelled_ok (w : World) (mean) (mg mb) (LS : Addr) (vs : List Value) (ns : List Int) (hi : IntsAre vs ns) (hn : ns.length ≤ 63) :
    GClaimH w mean mg mb 6 282 [.ref LS] [] (fun h _ _ => h.IsList LS vs.toArray) (fun h₀ L m news K => ∀ (cs : List Nat) t h' tk', cs.length = 9 → (∀ c ∈ cs, isL c = true) → Fr h₀ L h' m → News h₀ L h' news → K (.str ⟨cs.toArray⟩ t) h' tk') := by
  unfold GClaimH prog1
  k_fill
  intro dp un gd cn cs a ccd cl outer A₀ base h₀ L m news s Q E hB hF hX hN hT hk hpre hdp hun hret
  try dsimp only at hpre
  try dsimp only at hret
  have hss := sizeLine_eq
  refine wpAny_call ?_
  k_dflt (first | (refine' code_def ?k1 ?k2 ?k3 ?k4 ?k5 ?kA ?kF ?kK ?k6 ?k7 ?k8 ?k9 ?kB ?_ ?c2 ?c3 ?c4 ?c5; (case kA => exact rfl); (case kF => exact rfl); (case kK => assumption); (case k1 => k_asm); (case k2 => k_asm); (case k3 => k_asm); (case k4 => k_asm); (case k5 => k_asm); (case k6 => k_is); (case k7 => k_is); (case k8 => ktr_room); (case k9 => exact binds_K (by k_in) rfl (by k_is) rfl rfl rfl); (case c5 => decide); (case kB => exact locs rfl); (case c2 => exact rfl); (case c3 => exact rfl); (case c4 => exact rfl); k_whole; intro g' L' h' FG' F' N' B' X' T'; (try dsimp only); (try k_lift B'); (try k_fold)) | (refine' ks_code_super ?k1 ?k2 ?k3 ?k4 ?k5 ?kA ?kF ?kK ?k6 ?k7 ?k8 ?k9 ?kB ?_ ?c1 ?c2 ?c3 ?c4; (case kA => exact rfl); (case kF => exact rfl); (case kK => first | exact rfl | assumption); (case k1 => k_asm); (case k2 => k_asm); (case k3 => k_asm); (case k4 => k_asm); (case k5 => k_asm); (case k6 => k_is); (case k7 => k_is); (case k8 => ktr_room); (case k9 => first | exact BindsTo.of_eq rfl | exact binds_K (by k_in) rfl (by k_is) rfl rfl rfl); (case kB => exact locs rfl); (case c1 => decide); (case c2 => exact rfl); (case c3 => exact rfl); (case c4 => exact rfl); intro g' L' h' FG' F' N' B' X' T' lc1; (try k_lt lc1); (try dsimp only); (try k_lift B')) | (refine' code_defC ?k1 ?k2 ?k3 ?k4 ?k5 ?kA ?kF ?kK ?k6 ?k7 ?k8 ?k9 ?kB ?kD ?_ ?c2 ?c3 ?c4; (case kA => exact rfl); (case kF => exact rfl); (case kK => first | exact rfl | assumption); (case k1 => k_asm); (case k2 => k_asm); (case k3 => k_asm); (case k4 => k_asm); (case k5 => k_asm); (case k6 => k_is); (case k7 => k_is); (case k8 => ktr_room); (case k9 => first | exact BindsTo.of_eq rfl | exact binds_K (by k_in) rfl (by k_is) rfl rfl rfl | fail "k_enter: no rule for these arguments"); (case kB => exact rfl); (case kD => decide +kernel); (case c2 => exact rfl); (case c3 => exact rfl); (case c4 => exact rfl); k_whole; intro g' L' h' tk' cells' FG' F' N' Y' B' X' T' lc1; (try k_lt lc1); k_cells Y'; (try simp only [List.cons_append, List.nil_append] at N'); (try dsimp only); (try k_lift B'); (try k_fold)) | cell_enter)
  rename Fr h₀ L _ m => FG
  have hpre' := hpre.at fun o e => FG.keep LS o e
  repeat' (first | (k_unfold; (try dsimp only)) | (k_end; wrow_close) | (with_reducible (first | (k_here; (with_reducible show wpAny _ _ (call (Value.type _) [Value.ref _]) (fun xv s₁ => wpAny _ _ (pyIter xv) (fun it s₂ => TurnsAt _ _ _ _ _ _ _ _ _ it s₂) _ s₁) _ _); k_dflt (refine stopHere ?_)) | (k_here; (with_reducible show wpAny _ _ (exec (Stmt.For (Expr.Tuple _ _ _) (Expr.Call _ _ _ _) _ _ _) _) _ _ _); (rename Fr _ _ _ _ => lF'); k_dflt (with_unfolding_all refine' For_turns lF' ?_; k_whole)))) | walk1 | (dsimp only; first | (with_reducible (first | (k_here; (with_reducible show wpAny _ _ (call (Value.type _) [Value.ref _]) (fun xv s₁ => wpAny _ _ (pyIter xv) (fun it s₂ => TurnsAt _ _ _ _ _ _ _ _ _ it s₂) _ s₁) _ _); k_dflt (refine stopHere ?_)) | (k_here; (with_reducible show wpAny _ _ (exec (Stmt.For (Expr.Tuple _ _ _) (Expr.Call _ _ _ _) _ _ _) _) _ _ _); (rename Fr _ _ _ _ => lF'); k_dflt (with_unfolding_all refine' For_turns lF' ?_; k_whole)))) | walk1) | (leave1; try dsimp only) | fail "no step")
  show wpAny _ _ _ _ _ _
  rename (_ < _ ∧ AllLt _ _) => hDl
  rename Fr _ _ _ _ => FA
  refine Fr.foldc FA ?_
  clear FA
  intro mA FA
  refine' turns_enum (fun m₀ l₀ i m l => (∀ z, z ∉ [Str.ofString "place", Str.ofString "x"] → m z = m₀ z) ∧ ∃ NL ws zs, m₀ (Str.ofString "numbers") = some (.ref NL) ∧ IntsAre ws zs ∧ zs.length = 9 ∧ (∀ z ∈ zs, 0 ≤ z ∧ z ≤ 4 + 5 * (i : Int)) ∧ (NL, listOf ws.toArray 0) ∈ l ∧ Kept NL l₀ l) ?hh ?hF ?hN ?hm ?hj ?turn ?done
  case hh => rfl
  case hF => k_asm
  case hN => k_asm
  case hm => k_mem
  case hj => exact ⟨fun _ _ => rfl, _, _, [0, 4, 2, 3, 1, 1, 3, 2, 4], rfl, .cons _ _ (.cons _ _ (.cons _ _ (.cons _ _ (.cons _ _ (.cons _ _ (.cons _ _ (.cons _ _ (.cons _ _ .nil)))))))), rfl, by decide, by k_mem, fun p hp _ => hp⟩
  case turn =>
    rintro I i v T t m₁ news₁ h tk oE oI hv ⟨hz, NL, ws, zs, hnum, hzi, hzl, hzb, hNL, hkept⟩ hD hlt hT F hcE hcI hoff N
    rename IntsAre _ (ns.take _) => hI2
    obtain ⟨k, tkx, rfl, _⟩ := intsAre_get hI2 hv
    cases Value.ref.inj (Option.some.inj hnum)
    have hf0 : ((i : Int)).fmod 9 = ((i % 9 : Nat) : Int) := by rw [Int.fmod_eq_emod_of_nonneg _ (by decide)]; rfl
    have hf1 : 0 ≤ ((i : Int)).fmod 9 := by omega
    have hf2 : ((i : Int)).fmod 9 < zs.length := by omega
    have hf3 : ((i : Int)).fmod 9 < 2 ^ 63 := by omega
    have hi18 : i < 18 := by
      have h1 := (List.getElem?_eq_some_iff.mp hv).1
      have h2 := hI2.length
      simp only [List.length_take] at h2
      have : (18 : Int).toNat = 18 := rfl
      omega
    rw [eq_over hz] at F
    try dsimp only [over, List.foldr] at F
    repeat' (first | (k_unfold; (try dsimp only)) | (k_end; wrow_close) | (with_reducible (first | (k_here; (with_reducible show wpAny _ _ (setItem (Value.ref _) (Value.int _ _) (Value.int _ _)) _ _ _); k_dflt (refine' led_seti ?k1 ?k2 ?k3 ?k4 ?k5 ?k6 ?k7 ?_; (case k1 => k_asm); (case k2 => k_asm); (case k3 => k_mem); (case k4 => with_reducible assumption); (case k5 => assumption); (case k6 => assumption); (case k7 => assumption); k_whole); intro h' F' N' hi') | (k_here; (with_reducible show wpAny _ _ (getItem (Value.ref _) (Value.int _ _)) _ _ _); k_dflt (refine' ksa_get ?k1 ?k2 ?k3 ?k4 ?k5 ?k6 ?_; (case k1 => k_asm); (case k2 => k_mem); (case k3 => with_reducible assumption); (case k4 => assumption); (case k5 => assumption); (case k6 => assumption); k_whole); intro _))) | walk1 | (dsimp only; first | (with_reducible (first | (k_here; (with_reducible show wpAny _ _ (setItem (Value.ref _) (Value.int _ _) (Value.int _ _)) _ _ _); k_dflt (refine' led_seti ?k1 ?k2 ?k3 ?k4 ?k5 ?k6 ?k7 ?_; (case k1 => k_asm); (case k2 => k_asm); (case k3 => k_mem); (case k4 => with_reducible assumption); (case k5 => assumption); (case k6 => assumption); (case k7 => assumption); k_whole); intro h' F' N' hi') | (k_here; (with_reducible show wpAny _ _ (getItem (Value.ref _) (Value.int _ _)) _ _ _); k_dflt (refine' ksa_get ?k1 ?k2 ?k3 ?k4 ?k5 ?k6 ?_; (case k1 => k_asm); (case k2 => k_mem); (case k3 => with_reducible assumption); (case k4 => assumption); (case k5 => assumption); (case k6 => assumption); k_whole); intro _))) | walk1) | (leave1; try dsimp only) | fail "no step")
    rename News _ _ _ ((_, _) :: but _ _) => N9
    refine ⟨_, _, _, _, rfl, by k_asm, News.drop2 N9 (fun e => (hoff _ hNL).1 e.symm) (fun e => (hoff _ hNL).2 e.symm), ?_, ?_, ?_, _, _, _, rfl, ints_set hzi _, ?_, set_bound hzb (by omega) (fmod6 _), .head _, ?_⟩
    · intro p hp
      rcases List.mem_cons.mp hp with rfl | hp
      · have z := hoff _ hNL; exact z
      · exact hoff _ (mem_but.mp hp).1
    · exact .tail _ (mem_but.mpr ⟨hD, Nat.ne_of_gt hDl.1⟩)
    · intro z h1; simp at h1; simp [over, h1]
    · rw [List.length_set]; exact hzl
    · intro p hp hne
      exact .tail _ (mem_but.mpr ⟨hkept p hp hne, hne⟩)
  case done =>
    rintro m₁ news₁ h tk ⟨hz, NL, ws, zs, hnum, hzi, hzl, hzb, hNL, hkept⟩ hD F N
    cases Value.ref.inj (Option.some.inj hnum)
    rw [eq_over hz] at F
    try dsimp only [over, List.foldr] at F
    repeat' (first | (k_unfold; (try dsimp only)) | (k_end; wrow_close) | (with_reducible (first | (k_here; (with_reducible show LCg.CompSrc _ _ _ _ _ _ _ _ _ _ _ _ _ _); refine stopHere ?_) | (k_here; (with_reducible show wpAny _ _ (eval (Expr.ListComp _ [{ target := _, iter := _, ifs := [], is_async := _ }] _ _) _) _ _ _); k_dflt (refine LCg.ListComp_U (F₀ := by k_asm) (by with_unfolding_all rfl) (by decide) (by rfl) (by decide) (by rfl) ?_)))) | walk1 | (dsimp only; first | (with_reducible (first | (k_here; (with_reducible show LCg.CompSrc _ _ _ _ _ _ _ _ _ _ _ _ _ _); refine stopHere ?_) | (k_here; (with_reducible show wpAny _ _ (eval (Expr.ListComp _ [{ target := _, iter := _, ifs := [], is_async := _ }] _ _) _) _ _ _); k_dflt (refine LCg.ListComp_U (F₀ := by k_asm) (by with_unfolding_all rfl) (by decide) (by rfl) (by decide) (by rfl) ?_)))) | walk1) | (leave1; try dsimp only) | fail "no step")
    show LCg.CompSrc _ _ _ _ _ _ _ _ _ _ _ _ _ _
    k_dflt (refine' LCg.CompSrc.ledger ?hh ?F ?N ?hm ?hz ?_)
    case hh => rfl
    case F => k_asm
    case N => k_asm
    case hm => k_mem
    case hz => have := hzi.length; simp [sizeLine_eq]; omega
    intro g0
    refine lcu_rest (items := zs) (fun z v => ∃ t, v = .int z t) (fun z t => .str (Txt.item (Str.ofString "abcABC") (z.fmod 6)) t) ?hn ?hP ?hS ?turn ?fin
    case hn => have := hzi.length; simp; omega
    case hP =>
      intro i v hi hv
      obtain ⟨k, t, rfl, hk⟩ := intsAre_get hzi (by simpa using hv)
      exact ⟨k, hk, t, rfl⟩
    case hS => exact .inr ⟨_, by k_mem, rfl, _, rfl⟩
    case turn =>
      rintro z v I oI C oC D m₂ ys h tk E' hz' ⟨t, rfl⟩ hC hx' F' N' off ne
      dsimp only
      have hf1 := (fmod6 z).1
      have hf2 : z.fmod 6 < 6 := by have := (fmod6 z).2; omega
      repeat' (first | (k_unfold; (try dsimp only)) | (k_end; wrow_close) | walk1 | (dsimp only; first | walk1) | (leave1; try dsimp only) | fail "no step")
      refine LCg.CompEnd.intro (by k_asm) (by k_asm) _ (fun p hp => hp) off (.inr ⟨_, by k_mem, rfl, _, rfl⟩) (LcEl.mk rfl rfl rfl)
    case fin =>
      intro ys hO
      dsimp only
      obtain ⟨l, rfl, hl⟩ := hO.strs
      repeat' (first | (k_unfold; (try dsimp only)) | (k_end; wrow_close) | (with_reducible (first | (k_here; (with_reducible show wpAny _ _ (call (Value.builtin "str.join") [Value.str _ _, Value.ref _]) _ _ _); k_dflt (refine' led_join ?jN ?jm ?ji ?jo ?_; (case jN => k_asm); (case jm => k_mem); (case ji => exact strsAre_values _); (case jo => (rename (List.map _ _ = List.map _ _) => hl9; rw [hl9]; simp only [List.map_map, List.length_map]; exact join_small _ _ (fun z => by rw [item_letN]; rfl) (by omega))); intro t' k')))) | walk1 | (dsimp only; first | (with_reducible (first | (k_here; (with_reducible show wpAny _ _ (call (Value.builtin "str.join") [Value.str _ _, Value.ref _]) _ _ _); k_dflt (refine' led_join ?jN ?jm ?ji ?jo ?_; (case jN => k_asm); (case jm => k_mem); (case ji => exact strsAre_values _); (case jo => (rename (List.map _ _ = List.map _ _) => hl9; rw [hl9]; simp only [List.map_map, List.length_map]; exact join_small _ _ (fun z => by rw [item_letN]; rfl) (by omega))); intro t' k')))) | walk1) | (leave1; try dsimp only) | fail "no step")
      have e9 : Txt.join (Str.ofString "") (List.map (fun x => x.fst) l) = ⟨(zs.map letN).toArray⟩ := by
        rw [hl, map_letN]; exact join_signs _
      rw [e9]
      refine hret (zs.map letN) _ _ _ (by simp [hzl]) ?_ (by k_asm) ?_
      · intro c hc
        obtain ⟨z, _, rfl⟩ := List.mem_map.mp hc
        exact letN_isL z
      · refine cb_drop (by k_asm) ?_
        intro p hp
        exact .tail _ (hkept p (.tail _ (.tail _ hp)) (Nat.ne_of_lt (by first | (rename (∀ p : Addr × Obj, p ∈ news → p.1 < _) => hq; exact hq p hp) | (rename AllLt _ _ => hq; exact allLt_mem hq p hp))))
end
end
section
open PySem PySem.W PySem.Calls PyProof.Rows PySem.Builtin PySem.Builtin.Str
/-- what one letter of the word does to the row's blanks -/
def led1 (marks : List Str) : List (Str × Str) → Str → Str → List (Str × Str)
  | [], _, _ => []
  | (gap, letter) :: r, held, place =>
    if marks.any (· == place ++ Str.ofString " ") || decide (held.length > gap.length) then (held, letter) :: led1 marks r gap (place ++ Str.ofString " ")
    else (gap, letter) :: led1 marks r held (place ++ Str.ofString " ")
theorem dict_ne_cls {es : List DictEntry} {n : Nat} {o : Obj} {c : String} (h : o.cls = .type c) (hc : "dict" ≠ c) : dictOf es n ≠ o := fun e => hc (Value.type.inj ((congrArg Obj.cls e).trans h))
theorem tup_ne_cls {vs : List Value} {o : Obj} {c : String} (h : o.cls = .type c) (hc : "tuple" ≠ c) : tupO vs ≠ o := fun e => hc (Value.type.inj ((congrArg Obj.cls e).trans h))
theorem acc_ne_cls {C D : Addr} {vs : List Value} {n : Nat} {o : Obj} {c : String} (h : o.cls = .type c) : accO C D vs n ≠ o := fun e => by have := (congrArg Obj.cls e).trans h; cases this
/-- the accumulator without an iterator -/
theorem AccAt.but {C P D I : Addr} {k : Int} {n : Nat} {rows : List Row4} {news : Led} {oI : Obj} {h₀ h : Heap} {L : Addr} {c : String} (H : AccAt C P D k n rows news) (N : News h₀ L h news) (hI : (I, oI) ∈ news) (hc : oI.cls = .type c) (h1 : "dict" ≠ c) (h2 : "tuple" ≠ c) : AccAt C P D k n rows (but I news) := by
  obtain ⟨a1, ⟨x, y, z, a2⟩, a3⟩ := H
  exact ⟨mem_but.mpr ⟨a1, News.ne N a1 hI (acc_ne_cls hc)⟩, ⟨x, y, z, mem_but.mpr ⟨a2, News.ne N a2 hI (dict_ne_cls hc h1)⟩⟩, fun r hr => mem_but.mpr ⟨a3 r hr, News.ne N (a3 r hr) hI (tup_ne_cls hc h2)⟩⟩
/-- a turn's end where the accumulator alone was turned -/
theorem kept_turn {P I : Addr} {oI : Obj} {l₀ news₁ news' : Led} (hK : Kept P l₀ news₁) (hK' : Kept P ((I, oI) :: news₁) news') (hoff : ∀ p ∈ news₁, p.1 ≠ I) : Kept P l₀ (but I news') := fun p hp hne =>
  mem_but.mpr ⟨hK' p (.tail _ (hK p hp hne)) hne, hoff p (hK p hp hne)⟩
theorem led1_t {mk : List Str} {g l held place : Str} {r : List (Str × Str)} {done : List (Str × Str)} {z : List (Str × Str)} (H : done ++ led1 mk ((g, l) :: r) held place = z) (hc : (mk.any (· == place ++ Str.ofString " ") || decide (held.length > g.length)) = true) : (done ++ [(held, l)]) ++ led1 mk r g (place ++ Str.ofString " ") = z := by
  rw [led1, if_pos hc] at H
  rw [List.append_assoc]; exact H
theorem led1_f {mk : List Str} {g l held place : Str} {r : List (Str × Str)} {done : List (Str × Str)} {z : List (Str × Str)} (H : done ++ led1 mk ((g, l) :: r) held place = z) (hc : (mk.any (· == place ++ Str.ofString " ") || decide (held.length > g.length)) = false) : (done ++ [(g, l)]) ++ led1 mk r held (place ++ Str.ofString " ") = z := by
  rw [led1, if_neg (by rw [hc]; decide)] at H
  rw [List.append_assoc]; exact H
abbrev xyOf (rows : List Row4) : List (Str × Str) := rows.map fun r => (r.x, r.y)
section
set_option maxHeartbeats 1000000 in
theorem led_ok (w : World) (mean) (mg mb) (P D M : Addr) (k : Int) (n j : Nat) (rows : List Row4) (ml : List (Str × Tok)) (hr : rows.length ≤ 100) (hx : ∀ r ∈ rows, r.x.length ≤ 1000) (hm : ml.length ≤ 1000) :
    GClaim1 w mean mg mb 8 289 [.ref P, .ref M] [] (fun news _ => AccAt 273 P D k n rows news ∧ (M, listOf (strValues ml).toArray j) ∈ news) (fun h₀ L m news K => ∀ rows' n' news' h' tk', Fr h₀ L h' m → News h₀ L h' news' → AccAt 273 P D k n' rows' news' → Kept P news news' → xyOf rows' = led1 (ml.map (·.1)) (xyOf rows) (Str.ofString "") (Str.ofString "") → K .none h' tk') := by
  unfold GClaim1 prog1
  k_fill
  intro dp un gd cn cs a ccd cl outer A₀ base h₀ L m news s Q E hB hF hX hN hT hk hpre hdp hun hret
  try dsimp only at hpre
  try dsimp only at hret
  obtain ⟨hacc, hM⟩ := hpre
  obtain ⟨hm1, ⟨hh, ht, hu, hm2⟩, hm3⟩ := id hacc
  have hss := sizeLine_eq
  have hr9 : rows.length ≤ 900 := by omega
  refine wpAny_call ?_
  k_dflt (first | (refine' code_def ?k1 ?k2 ?k3 ?k4 ?k5 ?kA ?kF ?kK ?k6 ?k7 ?k8 ?k9 ?kB ?_ ?c2 ?c3 ?c4 ?c5; (case kA => exact rfl); (case kF => exact rfl); (case kK => assumption); (case k1 => k_asm); (case k2 => k_asm); (case k3 => k_asm); (case k4 => k_asm); (case k5 => k_asm); (case k6 => k_is); (case k7 => k_is); (case k8 => ktr_room); (case k9 => exact binds_K (by k_in) rfl (by k_is) rfl rfl rfl); (case c5 => decide); (case kB => exact locs rfl); (case c2 => exact rfl); (case c3 => exact rfl); (case c4 => exact rfl); k_whole; intro g' L' h' FG' F' N' B' X' T'; (try dsimp only); (try k_lift B'); (try k_fold)) | (refine' ks_code_super ?k1 ?k2 ?k3 ?k4 ?k5 ?kA ?kF ?kK ?k6 ?k7 ?k8 ?k9 ?kB ?_ ?c1 ?c2 ?c3 ?c4; (case kA => exact rfl); (case kF => exact rfl); (case kK => first | exact rfl | assumption); (case k1 => k_asm); (case k2 => k_asm); (case k3 => k_asm); (case k4 => k_asm); (case k5 => k_asm); (case k6 => k_is); (case k7 => k_is); (case k8 => ktr_room); (case k9 => first | exact BindsTo.of_eq rfl | exact binds_K (by k_in) rfl (by k_is) rfl rfl rfl); (case kB => exact locs rfl); (case c1 => decide); (case c2 => exact rfl); (case c3 => exact rfl); (case c4 => exact rfl); intro g' L' h' FG' F' N' B' X' T' lc1; (try k_lt lc1); (try dsimp only); (try k_lift B')) | (refine' code_defC ?k1 ?k2 ?k3 ?k4 ?k5 ?kA ?kF ?kK ?k6 ?k7 ?k8 ?k9 ?kB ?kD ?_ ?c2 ?c3 ?c4; (case kA => exact rfl); (case kF => exact rfl); (case kK => first | exact rfl | assumption); (case k1 => k_asm); (case k2 => k_asm); (case k3 => k_asm); (case k4 => k_asm); (case k5 => k_asm); (case k6 => k_is); (case k7 => k_is); (case k8 => ktr_room); (case k9 => first | exact BindsTo.of_eq rfl | exact binds_K (by k_in) rfl (by k_is) rfl rfl rfl | fail "k_enter: no rule for these arguments"); (case kB => exact rfl); (case kD => decide +kernel); (case c2 => exact rfl); (case c3 => exact rfl); (case c4 => exact rfl); k_whole; intro g' L' h' tk' cells' FG' F' N' Y' B' X' T' lc1; (try k_lt lc1); k_cells Y'; (try simp only [List.cons_append, List.nil_append] at N'); (try dsimp only); (try k_lift B'); (try k_fold)) | cell_enter)
  repeat' (first | (k_unfold; (try dsimp only)) | (k_end; wrow_close) | (with_reducible (first | (k_here; (with_reducible show wpAny _ _ (call (Value.ref 225) _ _) _ _ _); k_dflt (refine' (pop_from_ok _ _ _ _ _ _ _ _ _ ?ghr) _ _ _ _ _ _ _ _ _ _ _ _ _ _ _ _ _ _ ?gB ?gF ?gX ?gN ?gT ?gk ?gp ?gd ?gu ?_; walk_at "gclaim"; (case gp => assumption); (case ghr => assumption); intro news' q j j' h' tk' F' N' hA' hq' hlt' hK'; (try dsimp only); (try k_fold))) | (k_here; (with_reducible show wpAny _ _ (pyIter (Value.ref _)) (fun it s₂ => TurnsAt _ _ _ _ _ _ _ _ _ it s₂) _ _); k_dflt (refine stopHere ?_)) | (k_here; (with_reducible show wpAny _ _ (exec (Stmt.For (Expr.Tuple _ _ _) (Expr.Call _ _ _ _) _ _ _) _) _ _ _); (rename Fr _ _ _ _ => lF'); k_dflt (with_unfolding_all refine' For_turns lF' ?_; k_whole)) | (k_here; (with_reducible show wpAny _ _ (getMethod (Value.ref _) _ _) _ _ _); k_dflt (refine' acc_method_K ?aF ?aX ?aN ?a1 ?a2 ?ag ?ak ?af ?aq ?ar ?aw ?_; (case aF => k_asm); (case aX => k_asm); (case aN => k_asm); (case a1 => k_mem); (case a2 => k_mem); (case ag => k_is); (case ak => k_is); (case af => k_is); (case aq => k_is); (case ar => decide +kernel); (case aw => rfl))))) | walk1 | (dsimp only; first | (with_reducible (first | (k_here; (with_reducible show wpAny _ _ (call (Value.ref 225) _ _) _ _ _); k_dflt (refine' (pop_from_ok _ _ _ _ _ _ _ _ _ ?ghr) _ _ _ _ _ _ _ _ _ _ _ _ _ _ _ _ _ _ ?gB ?gF ?gX ?gN ?gT ?gk ?gp ?gd ?gu ?_; walk_at "gclaim"; (case gp => assumption); (case ghr => assumption); intro news' q j j' h' tk' F' N' hA' hq' hlt' hK'; (try dsimp only); (try k_fold))) | (k_here; (with_reducible show wpAny _ _ (pyIter (Value.ref _)) (fun it s₂ => TurnsAt _ _ _ _ _ _ _ _ _ it s₂) _ _); k_dflt (refine stopHere ?_)) | (k_here; (with_reducible show wpAny _ _ (exec (Stmt.For (Expr.Tuple _ _ _) (Expr.Call _ _ _ _) _ _ _) _) _ _ _); (rename Fr _ _ _ _ => lF'); k_dflt (with_unfolding_all refine' For_turns lF' ?_; k_whole)) | (k_here; (with_reducible show wpAny _ _ (getMethod (Value.ref _) _ _) _ _ _); k_dflt (refine' acc_method_K ?aF ?aX ?aN ?a1 ?a2 ?ag ?ak ?af ?aq ?ar ?aw ?_; (case aF => k_asm); (case aX => k_asm); (case aN => k_asm); (case a1 => k_mem); (case a2 => k_mem); (case ag => k_is); (case ak => k_is); (case af => k_is); (case aq => k_is); (case ar => decide +kernel); (case aw => rfl))))) | walk1) | (leave1; try dsimp only) | fail "no step")
  show wpAny _ _ _ _ _ _
  rename AccAt 273 P D k _ [] _ => hA0
  rename (_, listOf (List.map _ rows).toArray _) ∈ _ => hq0
  rename (∀ p : Addr × Obj, p ∈ news → p.1 < _) => hqlt
  rename Kept P news _ => hK0
  have hMP := News.ne hN hM hm1 fun z => by cases congrArg Obj.cls z
  rename Fr _ _ _ _ => FA
  refine Fr.foldc FA ?_
  clear FA
  intro mA FA
  refine' turns_list (fun m₀ l₀ i m l => (∀ z, z ∉ [Str.ofString "gap", Str.ofString "letter", Str.ofString "held", Str.ofString "place"] → m z = m₀ z) ∧ ∃ done n' hv th pv tp, m (Str.ofString "held") = some (.str hv th) ∧ m (Str.ofString "place") = some (.str pv tp) ∧ hv.length ≤ 1000 ∧ pv.length = i ∧ done.length = i ∧ AccAt 273 P D k n' done l ∧ Kept P l₀ l ∧ xyOf done ++ led1 (ml.map (·.1)) (xyOf (rows.drop i)) hv pv = led1 (ml.map (·.1)) (xyOf rows) (Str.ofString "") (Str.ofString "")) ?hh ?hD ?hF ?hN ?hj ?turn ?done
  case hh => rfl
  case hF => k_asm
  case hN => k_asm
  case hD => exact hq0
  case hj => exact ⟨fun _ _ => rfl, [], _, _, _, _, _, rfl, rfl, by decide, rfl, rfl, hA0, fun p hp _ => hp, rfl⟩
  case turn =>
    rintro I i v m₁ news₁ h tk oI hcI hv ⟨hz, done, n', hv0, th, pv, tp, hmh, hmp, hl1, hl2, hl3, hA, hK, hled⟩ hoff hD F N
    rw [eq_at hmh (eq_at hmp (eq_over hz))] at F
    try dsimp only [over, List.foldr] at F
    have hi : i < rows.length := by
      have h1 := (List.getElem?_eq_some_iff.mp hv).1
      simpa using h1
    have hv' : v = .ref (rows[i]).a := by
      rw [List.getElem?_map, List.getElem?_eq_getElem hi] at hv
      exact (Option.some.inj hv).symm
    subst hv'
    have hrm := List.getElem_mem hi
    rw [List.drop_eq_getElem_cons hi] at hled
    generalize rows[i] = r at hrm hled hv ⊢
    have hent := hK _ (hK0 _ (hm3 r hrm) (News.ne hN (hm3 r hrm) hm1 tup_ne_acc)) (News.ne hN (hm3 r hrm) hm1 tup_ne_acc)
    have hM1 := hK _ (hK0 _ hM hMP) hMP
    dsimp only [Row4.ent] at hent
    have hxr := hx r hrm
    obtain ⟨gm1, ⟨gh, gt, gu, gm2⟩, gm3⟩ := id hA
    have hr8 : done.length ≤ 1000 := by omega
    have hsp : (Str.ofString " ").length = 1 := by rfl
    have hplen : (pv ++ Str.ofString " ").length = i + 1 := by
      show (pv.cps ++ (Str.ofString " ").cps).size = _
      rw [Array.size_append]
      show pv.length + (Str.ofString " ").length = _
      omega
    have hq2 := hqlt _ hm1
    dsimp only [xyOf, List.map_cons] at hled
    repeat' (first | (k_unfold; (try dsimp only)) | (k_end; wrow_close) | (with_reducible (first | (k_here; (with_reducible show wpAny _ _ (compareOp CmpOp.In (Value.str _ _) (Value.ref _)) _ _ _); k_dflt (refine' in_list_strs ?k1 ?k2 ?_; (case k1 => exact News.isList (by k_asm) (by k_mem)); (case k2 => exact strsAre_values _); k_whole)) | (k_here; (with_reducible show wpAny _ _ (call (Value.ref 217) _ _) _ _ _); k_dflt (refine' (push_ok _ _ _ _ _ _ _ _ _ _ _ _ _ ?ghr) _ _ _ _ _ _ _ _ _ _ _ _ _ _ _ _ _ _ ?gB ?gF ?gX ?gN ?gT ?gk ?gp ?gd ?gu ?_; walk_at "gclaim"; (case gp => (refine AccAt.grown (by assumption) ?_; intro p hp; repeat (first | exact hp | refine .tail _ ?_))); (case ghr => assumption); intro a n' news' h' tk' hA' hK' F' N'; (try dsimp only); (try k_fold))) | (k_here; (with_reducible show wpAny _ _ (getMethod (Value.ref _) _ _) _ _ _); k_dflt (refine' acc_method_K ?aF ?aX ?aN ?a1 ?a2 ?ag ?ak ?af ?aq ?ar ?aw ?_; (case aF => k_asm); (case aX => k_asm); (case aN => k_asm); (case a1 => k_mem); (case a2 => k_mem); (case ag => k_is); (case ak => k_is); (case af => k_is); (case aq => k_is); (case ar => decide +kernel); (case aw => rfl))) | (k_here; (with_reducible show TPost _ _ _ _ _ _ _ _ _ _); dsimp only [TPost]))) | walk1 | (dsimp only; first | (with_reducible (first | (k_here; (with_reducible show wpAny _ _ (compareOp CmpOp.In (Value.str _ _) (Value.ref _)) _ _ _); k_dflt (refine' in_list_strs ?k1 ?k2 ?_; (case k1 => exact News.isList (by k_asm) (by k_mem)); (case k2 => exact strsAre_values _); k_whole)) | (k_here; (with_reducible show wpAny _ _ (call (Value.ref 217) _ _) _ _ _); k_dflt (refine' (push_ok _ _ _ _ _ _ _ _ _ _ _ _ _ ?ghr) _ _ _ _ _ _ _ _ _ _ _ _ _ _ _ _ _ _ ?gB ?gF ?gX ?gN ?gT ?gk ?gp ?gd ?gu ?_; walk_at "gclaim"; (case gp => (refine AccAt.grown (by assumption) ?_; intro p hp; repeat (first | exact hp | refine .tail _ ?_))); (case ghr => assumption); intro a n' news' h' tk' hA' hK' F' N'; (try dsimp only); (try k_fold))) | (k_here; (with_reducible show wpAny _ _ (getMethod (Value.ref _) _ _) _ _ _); k_dflt (refine' acc_method_K ?aF ?aX ?aN ?a1 ?a2 ?ag ?ak ?af ?aq ?ar ?aw ?_; (case aF => k_asm); (case aX => k_asm); (case aN => k_asm); (case a1 => k_mem); (case a2 => k_mem); (case ag => k_is); (case ak => k_is); (case af => k_is); (case aq => k_is); (case ar => decide +kernel); (case aw => rfl))) | (k_here; (with_reducible show TPost _ _ _ _ _ _ _ _ _ _); dsimp only [TPost]))) | walk1) | (leave1; try dsimp only) | fail "no step")
    all_goals
      rename AccAt 273 P D k _ (_ ++ [_]) _ => hA9
      rename Kept P _ _ => hK8
      have hK9 : Kept P ((I, oI) :: news₁) _ := fun p hp hne => by first | exact hK8 p hp hne | exact hK8 p (.tail _ hp) hne
      rename News _ _ _ _ => N9
      have hI9 := hK9 _ (.head _) (fun e => hoff _ gm1 e.symm)
    · refine ⟨_, _, _, but I _, rfl, by k_asm, News.head N9 hI9, fun p hp => (mem_but.mp hp).2, ?_, ?_, done ++ [_], _, _, _, _, _, rfl, rfl, hxr, hplen, by simp [hl3], hA9.but N9 hI9 hcI (by decide) (by decide), kept_turn hK hK9 hoff, ?_⟩
      · intro p hp; rw [List.mem_singleton.mp hp]; exact mem_but.mpr ⟨hK9 _ (.tail _ hD) (Nat.ne_of_gt hq2), hoff _ hD⟩
      · intro z h1; simp at h1; simp [h1]
      · rw [xyOf, List.map_append]; exact led1_t hled (by simp only [Bool.or_eq_true]; exact .inl (by assumption))
    · refine ⟨_, _, _, but I _, rfl, by k_asm, News.head N9 hI9, fun p hp => (mem_but.mp hp).2, ?_, ?_, done ++ [_], _, _, _, _, _, rfl, rfl, hxr, hplen, by simp [hl3], hA9.but N9 hI9 hcI (by decide) (by decide), kept_turn hK hK9 hoff, ?_⟩
      · intro p hp; rw [List.mem_singleton.mp hp]; exact mem_but.mpr ⟨hK9 _ (.tail _ hD) (Nat.ne_of_gt hq2), hoff _ hD⟩
      · intro z h1; simp at h1; simp [h1]
      · rw [xyOf, List.map_append]; exact led1_t hled (by simp only [Bool.or_eq_true, decide_eq_true_eq]; right; omega)
    · refine ⟨_, _, _, but I _, rfl, by k_asm, News.head N9 hI9, fun p hp => (mem_but.mp hp).2, ?_, ?_, done ++ [_], _, _, _, _, _, rfl, rfl, hl1, hplen, by simp [hl3], hA9.but N9 hI9 hcI (by decide) (by decide), kept_turn hK hK9 hoff, ?_⟩
      · intro p hp; rw [List.mem_singleton.mp hp]; exact mem_but.mpr ⟨hK9 _ (.tail _ hD) (Nat.ne_of_gt hq2), hoff _ hD⟩
      · intro z h1; simp at h1; simp [h1]
      · rw [xyOf, List.map_append]; exact led1_f hled (by simp only [Bool.or_eq_false_iff, decide_eq_false_iff_not]; exact ⟨by assumption, by omega⟩)
  case done =>
    rintro m₁ news₁ h tk ⟨hz, done, n', hv0, th, pv, tp, hmh, hmp, hl1, hl2, hl3, hA, hK, hled⟩ hD F N
    rw [eq_over hz] at F
    try dsimp only [over, List.foldr] at F
    repeat' (first | (k_unfold; (try dsimp only)) | (k_end; wrow_close) | walk1 | (dsimp only; first | walk1) | (leave1; try dsimp only) | fail "no step")
    refine hret done _ _ _ _ (by k_asm) (by k_asm) hA (fun p hp hne => hK p (hK0 p hp hne) hne) ?_
    have e : rows.drop (List.map (fun r : Row4 => Value.ref r.a) rows).length = [] := by simp
    rw [e] at hled
    simpa [led1] using hled
end
end
section
open PySem PySem.W PySem.Calls PyProof.Rows PySem.Builtin PySem.Builtin.Str
def ppf (p0 p1 p2 p3 p4 : Nat) : Nat → Nat
  | 0 => p0
  | 1 => p1
  | 2 => p2
  | 3 => p3
  | _ => p4
theorem five {P : Nat → Prop} (h0 : P 0) (h1 : P 1) (h2 : P 2) (h3 : P 3) (h4 : P 4) : ∀ k, k < 5 → P k
  | 0, _ => h0
  | 1, _ => h1
  | 2, _ => h2
  | 3, _ => h3
  | 4, _ => h4
  | n + 5, h => absurd h (by omega)
theorem parts_lo {k : Nat} (h : k < 5) : -(2 ^ 63) ≤ (4 * (k : Int)).fdiv 4 := five (P := fun k => -(2 ^ 63) ≤ (4 * (k : Int)).fdiv 4) (by decide) (by decide) (by decide) (by decide) (by decide) k h
theorem parts_hi {k : Nat} (h : k < 5) : (4 * (k : Int)).fdiv 4 < 2 ^ 63 := five (P := fun k => (4 * (k : Int)).fdiv 4 < 2 ^ 63) (by decide) (by decide) (by decide) (by decide) (by decide) k h
theorem parts_ix {k : Nat} {v0 v1 v2 v3 v4 v5 : Value} (h : k < 5) : seqIndex? ((4 * (k : Int)).fdiv 4) [v0, v1, v2, v3, v4, v5].length = some k := five (P := fun k => seqIndex? ((4 * (k : Int)).fdiv 4) 6 = some k) (by decide) (by decide) (by decide) (by decide) (by decide) k h
theorem parts_at {k : Nat} {p0 p1 p2 p3 p4 : Addr} {v5 : Value} (h : k < 5) : [Value.ref p0, .ref p1, .ref p2, .ref p3, .ref p4, v5][k]? = some (.ref (ppf p0 p1 p2 p3 p4 k)) := five (P := fun k => [Value.ref p0, .ref p1, .ref p2, .ref p3, .ref p4, v5][k]? = some (.ref (ppf p0 p1 p2 p3 p4 k))) rfl rfl rfl rfl rfl k h
/-- the addresses part -/
structure PD (PL p5 cb cw : Addr) (pp : Nat → Addr) (news : Led) : Prop where
  n1 : ∀ k, k < 5 → PL ≠ pp k
  n2 : ∀ k, k < 5 → p5 ≠ pp k
  n3 : ∀ k, k < 5 → cb ≠ pp k
  n4 : ∀ k, k < 5 → cw ≠ pp k
  n5 : ∀ j, j < 5 → ∀ k, k < 5 → j ≠ k → pp j ≠ pp k
  n6 : ∀ q ∈ news, ∀ k, k < 5 → q.1 ≠ pp k
  n7 : cw ≠ cb
/-- what stands behind the two cells -/
structure PT (w0 w1 w2 w3 : Nat) (PL p5 cb : Addr) (o0 o1 : Obj) (pp : Nat → Addr) (news : Led) (i : Nat) (tl : Led) : Prop where
  a : (PL, o0) ∈ tl
  b : (p5, o1) ∈ tl
  c : ∀ k, k < 5 → ∃ s n, (pp k, listOf (strValues s).toArray n) ∈ tl ∧ PS w0 w1 w2 w3 i k s
  d : ∀ q ∈ tl, q.1 ≠ cb
  e : ∀ q ∈ news, q ∈ tl
theorem pd_of {PL p5 p4 p3 p2 p1 p0 cb cw : Nat} {news : Led} (h : p5 < PL ∧ p4 < p5 ∧ p3 < p4 ∧ p2 < p3 ∧ p1 < p2 ∧ p0 < p1 ∧ cb < p0 ∧ cw < cb ∧ ∀ q ∈ news, q.1 < cw) : PD PL p5 cb cw (ppf p0 p1 p2 p3 p4) news := by
  obtain ⟨h1, h2, h3, h4, h5, h6, h7, h8, h9⟩ := h
  have hp : ∀ k : Nat, k < 5 → cb < ppf p0 p1 p2 p3 p4 k ∧ ppf p0 p1 p2 p3 p4 k < p5 := five ⟨h7, by show p0 < p5; omega⟩ ⟨by show cb < p1; omega, by show p1 < p5; omega⟩ ⟨by show cb < p2; omega, by show p2 < p5; omega⟩ ⟨by show cb < p3; omega, by show p3 < p5; omega⟩ ⟨by show cb < p4; omega, h2⟩
  have hm : ∀ j k : Nat, j < k → k < 5 → ppf p0 p1 p2 p3 p4 j < ppf p0 p1 p2 p3 p4 k := fun j k hjk hk => by
    have hk' : k = 1 ∨ k = 2 ∨ k = 3 ∨ k = 4 := by omega
    rcases hk' with rfl | rfl | rfl | rfl
    · obtain rfl : j = 0 := by omega
      exact h6
    · have : j = 0 ∨ j = 1 := by omega
      rcases this with rfl | rfl
      · show p0 < p2; omega
      · show p1 < p2; omega
    · have : j = 0 ∨ j = 1 ∨ j = 2 := by omega
      rcases this with rfl | rfl | rfl
      · show p0 < p3; omega
      · show p1 < p3; omega
      · show p2 < p3; omega
    · have : j = 0 ∨ j = 1 ∨ j = 2 ∨ j = 3 := by omega
      rcases this with rfl | rfl | rfl | rfl
      · show p0 < p4; omega
      · show p1 < p4; omega
      · show p2 < p4; omega
      · show p3 < p4; omega
  exact ⟨fun k hk => Nat.ne_of_gt (by have := hp k hk; omega), fun k hk => Nat.ne_of_gt (hp k hk).2, fun k hk => Nat.ne_of_lt (hp k hk).1, fun k hk => Nat.ne_of_lt (by have := hp k hk; omega), fun j hj k hk hne => by
    rcases Nat.lt_or_ge j k with h | h
    · exact Nat.ne_of_lt (hm j k h hk)
    · exact Nat.ne_of_gt (hm k j (Nat.lt_of_le_of_ne h (Ne.symm hne)) hj), fun q hq k hk => Nat.ne_of_lt (Nat.lt_trans (h9 q hq) (Nat.lt_trans h8 (hp k hk).1)), Nat.ne_of_lt h8⟩
theorem pt_of {w0 w1 w2 w3 : Nat} {PL p5 p4 p3 p2 p1 p0 cb cw : Nat} {o0 o1 : Obj} {n4 n3 n2 n1 n0 : Nat} {news : Led} (h : p5 < PL ∧ p4 < p5 ∧ p3 < p4 ∧ p2 < p3 ∧ p1 < p2 ∧ p0 < p1 ∧ cb < p0 ∧ cw < cb ∧ ∀ q ∈ news, q.1 < cw) :
    PT w0 w1 w2 w3 PL p5 cb o0 o1 (ppf p0 p1 p2 p3 p4) news 0 ((PL, o0) :: (p5, o1) :: (p4, listOf #[] n4) :: (p3, listOf #[] n3) :: (p2, listOf #[] n2) :: (p1, listOf #[] n1) :: (p0, listOf #[] n0) :: news) := by
  obtain ⟨h1, h2, h3, h4, h5, h6, h7, h8, h9⟩ := h
  refine ⟨.head _, .tail _ (.head _), five ⟨[], n0, ?_, ?_⟩ ⟨[], n1, ?_, ?_⟩ ⟨[], n2, ?_, ?_⟩ ⟨[], n3, ?_, ?_⟩ ⟨[], n4, ?_, ?_⟩, ?_, fun q hq => ?_⟩
  case refine_11 =>
    simp only [List.mem_cons, forall_eq_or_imp]
    exact ⟨Nat.ne_of_gt (by omega), Nat.ne_of_gt (by omega), Nat.ne_of_gt (by omega), Nat.ne_of_gt (by omega), Nat.ne_of_gt (by omega), Nat.ne_of_gt (by omega), Nat.ne_of_gt (by omega), fun q hq => Nat.ne_of_lt (Nat.lt_trans (h9 q hq) h8)⟩
  case refine_12 => exact .tail _ (.tail _ (.tail _ (.tail _ (.tail _ (.tail _ (.tail _ hq))))))
  all_goals first | (simp [PS]; done) | exact .tail _ (.tail _ (.head _)) | exact .tail _ (.tail _ (.tail _ (.head _))) | exact .tail _ (.tail _ (.tail _ (.tail _ (.head _)))) | exact .tail _ (.tail _ (.tail _ (.tail _ (.tail _ (.head _))))) | exact .tail _ (.tail _ (.tail _ (.tail _ (.tail _ (.tail _ (.head _))))))
theorem PT.stay {w0 w1 w2 w3 PL p5 cb : Nat} {o0 o1 : Obj} {pp : Nat → Addr} {news tl : Led} {i k n : Nat} {s : List (Str × Tok)} (H : PT w0 w1 w2 w3 PL p5 cb o0 o1 pp news i tl) (hm : (pp k, listOf (strValues s).toArray n) ∈ tl) (hl : (partL w0 w1 w2 w3 i).length = 4 * k) (hs : PS w0 w1 w2 w3 i k s)
    (hc : ((s.map (·.1)).any (· == ⟨(partL w0 w1 w2 w3 i).toArray⟩)) = true) : PT w0 w1 w2 w3 PL p5 cb o0 o1 pp news (i + 1) tl :=
  ⟨H.a, H.b, fun j hj => by
    by_cases e : k = j
    · exact ⟨s, n, e ▸ hm, e ▸ PS_in hs hc⟩
    · obtain ⟨s', n', h1, h2⟩ := H.c j hj
      exact ⟨s', n', h1, PS_other h2 hl e⟩, H.d, H.e⟩
theorem PT.turn {w0 w1 w2 w3 PL p5 cb cw : Nat} {o0 o1 : Obj} {pp : Nat → Addr} {news tl : Led} {i k n : Nat} {t : Tok} {s : List (Str × Tok)} (H : PT w0 w1 w2 w3 PL p5 cb o0 o1 pp news i tl) (D : PD PL p5 cb cw pp news) (hk : k < 5) (hl : (partL w0 w1 w2 w3 i).length = 4 * k) (hs : PS w0 w1 w2 w3 i k s) :
    PT w0 w1 w2 w3 PL p5 cb o0 o1 pp news (i + 1) ((pp k, listOf (strValues (s ++ [(⟨(partL w0 w1 w2 w3 i).toArray⟩, t)])).toArray n) :: but (pp k) tl) :=
  ⟨.tail _ (mem_but.mpr ⟨H.a, D.n1 k hk⟩), .tail _ (mem_but.mpr ⟨H.b, D.n2 k hk⟩), fun j hj => by
    by_cases e : k = j
    · subst e; exact ⟨_, _, .head _, PS_new hs hl⟩
    · obtain ⟨s', n', h1, h2⟩ := H.c j hj
      exact ⟨s', n', .tail _ (mem_but.mpr ⟨h1, D.n5 j hj k hk (Ne.symm e)⟩), PS_other h2 hl e⟩,
    fun q hq => by
      rcases List.mem_cons.mp hq with rfl | hq
      · exact (D.n3 k hk).symm
      · exact H.d q (mem_but.mp hq).1, fun q hq => .tail _ (mem_but.mpr ⟨H.e q hq, D.n6 q hq k hk⟩)⟩
theorem News.into {h₀ h : Heap} {L D : Addr} {o' : Obj} {q1 q2 q3 q4 : Addr × Obj} {l : Led} (N : News h₀ L h ((D, o') :: but D (q1 :: q2 :: q3 :: q4 :: l))) (h2 : q2.1 ≠ D) (h3 : q3.1 ≠ D) (h4 : q4.1 ≠ D) : News h₀ L h (q2 :: q3 :: q4 :: (D, o') :: but D l) := fun p hp => by
  rcases List.mem_cons.mp hp with rfl | hp
  · exact N _ (.tail _ (mem_but.mpr ⟨.tail _ (.head _), h2⟩))
  rcases List.mem_cons.mp hp with rfl | hp
  · exact N _ (.tail _ (mem_but.mpr ⟨.tail _ (.tail _ (.head _)), h3⟩))
  rcases List.mem_cons.mp hp with rfl | hp
  · exact N _ (.tail _ (mem_but.mpr ⟨.tail _ (.tail _ (.tail _ (.head _))), h4⟩))
  rcases List.mem_cons.mp hp with rfl | hp
  · exact N _ (.head _)
  · exact N _ (.tail _ (mem_but.mpr ⟨.tail _ (.tail _ (.tail _ (.tail _ (mem_but.mp hp).1))), (mem_but.mp hp).2⟩))
theorem News.ncb {h₀ h : Heap} {L cb cw : Addr} {q : Addr × Obj} {ob ow : Obj} {tl : Led} (_N : News h₀ L h (q :: (cb, ob) :: (cw, ow) :: tl)) (h : cw ≠ cb) (h' : ∀ q ∈ tl, q.1 ≠ cb) : ∀ p ∈ (cw, ow) :: tl, p.1 ≠ cb := List.forall_mem_cons.mpr ⟨h, h'⟩
theorem News.out {h₀ h : Heap} {L : Addr} {a b : Addr × Obj} {tl ql : Led} (N : News h₀ L h (a :: b :: tl)) (hm : ∀ q ∈ ql, q ∈ tl) : News h₀ L h ql := fun p hp => N p (.tail _ (.tail _ (hm p hp)))
theorem parts_perm {h₀ h : Heap} {L : Addr} {q1 q2 q3 q4 q5 q6 q7 a b : Addr × Obj} {l : Led} (N : News h₀ L h (q1 :: q2 :: q3 :: q4 :: q5 :: q6 :: q7 :: a :: b :: l)) : News h₀ L h (a :: b :: q1 :: q2 :: q3 :: q4 :: q5 :: q6 :: q7 :: l) := fun p hp => N p (by
  simp only [List.mem_cons] at hp ⊢
  rcases hp with h | h | h | h | h | h | h | h | h | h <;> simp [h])
inductive PJ (w0 w1 w2 w3 : Nat) (m₀ : Mp) : Led → Nat → Mp → Led → Prop
  | mk {PL p5 p4 p3 p2 p1 p0 cb cw : Addr} {o0 o1 o2 o3 o4 o5 o6 ob ow ob' : Obj} {ov : Option Value} {rest tl : Led} {i : Nat} {m : Mp} (hz : ∀ z, z ∉ [Str.ofString "part"] → m z = m₀ z)
    (hd : PD PL p5 cb cw (ppf p0 p1 p2 p3 p4) rest) (hb : ob'.data = .cell ov) (hT : PT w0 w1 w2 w3 PL p5 cb o0 o1 (ppf p0 p1 p2 p3 p4) rest i tl) :
    PJ w0 w1 w2 w3 m₀ ((cb, ob) :: (cw, ow) :: (PL, o0) :: (p5, o1) :: (p4, o2) :: (p3, o3) :: (p2, o4) :: (p1, o5) :: (p0, o6) :: rest) i m ((cb, ob') :: (cw, ow) :: tl)
section
set_option maxHeartbeats 1000000 in
theorem parts_ok (w : World) (mean) (mg mb) (w0 w1 w2 w3 : Nat) (t : Tok) :
    GClaim1 w mean mg mb 8 294 [.str ⟨#[w0, w1, w2, w3]⟩ t] [] (fun news _ => True) (fun h₀ L m news K => ∀ PL p5 p4 p3 p2 p1 p0 s0 s1 s2 s3 s4 k0 k1 k2 k3 k4 h' tk', Fr h₀ L h' m → News h₀ L h' ((PL, listOf #[.ref p0, .ref p1, .ref p2, .ref p3, .ref p4, .ref p5] 0) :: (p5, listOf #[] 0) :: (p4, listOf (strValues s4).toArray k4) :: (p3, listOf (strValues s3).toArray k3) :: (p2, listOf (strValues s2).toArray k2) :: (p1, listOf (strValues s1).toArray k1) :: (p0, listOf (strValues s0).toArray k0) :: news) →
      PS w0 w1 w2 w3 16 0 s0 → PS w0 w1 w2 w3 16 1 s1 → PS w0 w1 w2 w3 16 2 s2 → PS w0 w1 w2 w3 16 3 s3 → PS w0 w1 w2 w3 16 4 s4 → K (.ref PL) h' tk') := by
  unfold GClaim1 prog1
  k_fill
  intro dp un gd cn cs a ccd cl outer A₀ base h₀ L m news s Q E hB hF hX hN hT hk hpre hdp hun hret
  try dsimp only at hpre
  try dsimp only at hret
  have hss := sizeLine_eq
  refine wpAny_call ?_
  k_dflt (first | (refine' code_def ?k1 ?k2 ?k3 ?k4 ?k5 ?kA ?kF ?kK ?k6 ?k7 ?k8 ?k9 ?kB ?_ ?c2 ?c3 ?c4 ?c5; (case kA => exact rfl); (case kF => exact rfl); (case kK => assumption); (case k1 => k_asm); (case k2 => k_asm); (case k3 => k_asm); (case k4 => k_asm); (case k5 => k_asm); (case k6 => k_is); (case k7 => k_is); (case k8 => ktr_room); (case k9 => exact binds_K (by k_in) rfl (by k_is) rfl rfl rfl); (case c5 => decide); (case kB => exact locs rfl); (case c2 => exact rfl); (case c3 => exact rfl); (case c4 => exact rfl); k_whole; intro g' L' h' FG' F' N' B' X' T'; (try dsimp only); (try k_lift B'); (try k_fold)) | (refine' ks_code_super ?k1 ?k2 ?k3 ?k4 ?k5 ?kA ?kF ?kK ?k6 ?k7 ?k8 ?k9 ?kB ?_ ?c1 ?c2 ?c3 ?c4; (case kA => exact rfl); (case kF => exact rfl); (case kK => first | exact rfl | assumption); (case k1 => k_asm); (case k2 => k_asm); (case k3 => k_asm); (case k4 => k_asm); (case k5 => k_asm); (case k6 => k_is); (case k7 => k_is); (case k8 => ktr_room); (case k9 => first | exact BindsTo.of_eq rfl | exact binds_K (by k_in) rfl (by k_is) rfl rfl rfl); (case kB => exact locs rfl); (case c1 => decide); (case c2 => exact rfl); (case c3 => exact rfl); (case c4 => exact rfl); intro g' L' h' FG' F' N' B' X' T' lc1; (try k_lt lc1); (try dsimp only); (try k_lift B')) | (refine' code_defC ?k1 ?k2 ?k3 ?k4 ?k5 ?kA ?kF ?kK ?k6 ?k7 ?k8 ?k9 ?kB ?kD ?_ ?c2 ?c3 ?c4; (case kA => exact rfl); (case kF => exact rfl); (case kK => first | exact rfl | assumption); (case k1 => k_asm); (case k2 => k_asm); (case k3 => k_asm); (case k4 => k_asm); (case k5 => k_asm); (case k6 => k_is); (case k7 => k_is); (case k8 => ktr_room); (case k9 => first | exact BindsTo.of_eq rfl | exact binds_K (by k_in) rfl (by k_is) rfl rfl rfl | fail "k_enter: no rule for these arguments"); (case kB => exact rfl); (case kD => decide +kernel); (case c2 => exact rfl); (case c3 => exact rfl); (case c4 => exact rfl); k_whole; intro g' L' h' tk' cells' FG' F' N' Y' B' X' T' lc1; (try k_lt lc1); k_cells Y'; (try simp only [List.cons_append, List.nil_append] at N'); (try dsimp only); (try k_lift B'); (try k_fold)) | cell_enter)
  repeat' (first | (k_unfold; (try dsimp only)) | (k_end; wrow_close) | (with_reducible (first | (k_here; (with_reducible show wpAny _ _ (pyIter (Value.ref _)) (fun it s₂ => TurnsAt _ _ _ _ _ _ _ _ _ it s₂) _ _); k_dflt (refine stopHere ?_)) | (k_here; (with_reducible show wpAny _ _ (exec (Stmt.For (Expr.Name _ _) (Expr.Call _ _ _ _) _ _ _) _) _ _ _); (rename Fr _ _ _ _ => lF'); k_dflt (with_unfolding_all refine' For_turns lF' ?_; k_whole)))) | walk1 | (dsimp only; first | (with_reducible (first | (k_here; (with_reducible show wpAny _ _ (pyIter (Value.ref _)) (fun it s₂ => TurnsAt _ _ _ _ _ _ _ _ _ it s₂) _ _); k_dflt (refine stopHere ?_)) | (k_here; (with_reducible show wpAny _ _ (exec (Stmt.For (Expr.Name _ _) (Expr.Call _ _ _ _) _ _ _) _) _ _ _); (rename Fr _ _ _ _ => lF'); k_dflt (with_unfolding_all refine' For_turns lF' ?_; k_whole)))) | walk1) | (leave1; try dsimp only) | fail "no step")
  show wpAny _ _ _ _ _ _
  have hchain := chain_of (news := news) (by assumption) (by assumption) (by assumption) (by assumption) (by assumption) (by assumption) (by assumption) (by assumption)
  have N9 := parts_perm (by k_asm)
  rename Fr _ _ _ _ => FA
  refine Fr.foldc FA ?_
  clear FA
  intro mA FA
  refine' turns_range (PJ w0 w1 w2 w3) ?hh ?hr ?h1 ?h2 ?h3 ?hF ?hN ?hj ?turn ?done
  case hh => rfl
  case hr => assumption
  case h1 => decide
  case h2 => decide
  case h3 => decide
  case hF => k_asm
  case hN => exact N9
  case hj => exact .mk (fun _ _ => rfl) (pd_of hchain) (by assumption) (pt_of hchain)
  case turn =>
    intro I i v m₁ news₁ h tk oI hcI hi hv hJ hoff F N u
    rcases hJ with ⟨hz, hd, hob, hT⟩
    rw [eq_over hz] at F
    try dsimp only [over, List.foldr] at F
    obtain rfl : v = (i : Int) := by omega
    have hi16 : i < 16 := hi
    have f1 := hoff _ (.head _)
    have f2 := hoff _ (.tail _ (.head _))
    dsimp only at f1 f2
    have e1 := f1.symm
    have e2 := f2.symm
    have hPL := hT.a
    have hcb := News.ncb N hd.n7 hT.d
    obtain ⟨hpl, hpc⟩ := partL_len w0 w1 w2 w3 i
    repeat' (first | (k_unfold; (try dsimp only)) | (k_end; wrow_close) | (with_reducible (first | (k_here; (with_reducible show LCt.CompSrcT _ _ _ _ _ _ _ _ _ _ _ _ _ _ _); refine stopHere ?_) | (k_here; (with_reducible show wpAny _ _ (eval (Expr.ListComp _ _ _ _) _) _ _ _); lct_look; k_dflt (refine LCt.ListComp_T (F₀ := by k_asm) (by with_unfolding_all rfl) (by decide) (by rfl) (by decide) (by rfl) ?_)))) | walk1 | (dsimp only; first | (with_reducible (first | (k_here; (with_reducible show LCt.CompSrcT _ _ _ _ _ _ _ _ _ _ _ _ _ _ _); refine stopHere ?_) | (k_here; (with_reducible show wpAny _ _ (eval (Expr.ListComp _ _ _ _) _) _ _ _); lct_look; k_dflt (refine LCt.ListComp_T (F₀ := by k_asm) (by with_unfolding_all rfl) (by decide) (by rfl) (by decide) (by rfl) ?_)))) | walk1) | (leave1; try dsimp only) | fail "no step")
    show LCt.CompSrcT _ _ _ _ _ _ _ _ _ _ _ _ _ _ _
    k_dflt (refine' LCt.CompSrcT.range (n := 4) ?hh ?F ?N ?hr ?hs ?hn ?hz ?_)
    case hh => rfl
    case F => k_asm
    case N => k_asm
    case hr => assumption
    case hs => decide
    case hn => decide
    case hz => rw [sizeLine_eq]; decide
    intro g0
    refine lct_rest (items := [0, 1, 2, 3]) (fun (k : Nat) v => ∃ t, v = .int (k : Int) t) (bitAt i) (fun k t => .str (Txt.item ⟨#[w0, w1, w2, w3]⟩ (k : Int) ++ Str.ofString "...") t) ?hn ?hP ?hS ?turn ?fin
    case hn => rfl
    case hP =>
      rintro j v hj ⟨t, rfl⟩
      have : j = 0 ∨ j = 1 ∨ j = 2 ∨ j = 3 := by omega
      rcases this with rfl | rfl | rfl | rfl <;> exact ⟨_, rfl, t, rfl⟩
    case hS => trivial
    case turn =>
      rintro k v I' oI' C oC D m₂ ys h tk E' hk ⟨t, rfl⟩ hC hx' F' N' off ne
      dsimp only
      have hk4 : k = 0 ∨ k = 1 ∨ k = 2 ∨ k = 3 := by simpa using hk
      repeat' (first | (k_unfold; (try dsimp only)) | (k_end; wrow_close) | walk1 | (dsimp only; first | walk1) | (leave1; try dsimp only) | fail "no step")
      · exfalso; have : (⟨#[w0, w1, w2, w3]⟩ : Str).length = 4 := rfl; omega
      · exact LCg.CompEnd.intro (by k_asm) (by k_asm) _ (fun p hp => hp) off trivial (LcEl.mk (decide_eq_true (by assumption)) rfl rfl)
      · exact LCg.CompEnd.intro (by k_asm) (by k_asm) _ (fun p hp => hp) off trivial (LcNo.mk (decide_eq_false (not_not_intro (by assumption))) rfl)
    case fin =>
      intro ys hO
      dsimp only
      obtain ⟨l, rfl, hl⟩ := hO.strs
      generalize hkk : ([0, 1, 2, 3].filter (bitAt i)).length = k at hpl hpc
      have hk5 : k < 5 := Nat.lt_succ_of_le hpc
      obtain ⟨sk, nk, hmk, hq⟩ := hT.c k hk5
      have hlen : ((⟨(partL w0 w1 w2 w3 i).toArray⟩ : Str).length : Int) = 4 * (k : Int) := by
        show (((partL w0 w1 w2 w3 i).toArray.size : Nat) : Int) = 4 * (k : Int)
        simp [hpl]
      repeat' (first | (k_unfold; (try dsimp only)) | (k_end; wrow_close) | (with_reducible (first | (k_here; (with_reducible show wpAny _ _ (call (Value.builtin "list.append") [Value.ref _, Value.str _ _]) _ _ _); k_dflt (refine' led_append ?aF ?aN ?am ?az ?_; (case aF => k_asm); (case aN => k_asm); (case am => k_mem); (case az => (simp only [strValues, List.length_map]; rename PS _ _ _ _ _ _ _ => hs9; have := hs9.1; omega)); rw [strV_snoc]; intro h' F' N')) | (k_here; (with_reducible show wpAny _ _ (call (Value.builtin "str.join") [Value.str _ _, Value.ref _]) _ _ _); k_dflt (refine' led_join ?jN ?jm ?ji ?jo ?_; (case jN => k_asm); (case jm => k_mem); (case ji => exact strsAre_values _); (case jo => (rename (List.map _ _ = List.map _ _) => hl9; rw [hl9]; exact parts_small)); (rename (List.map _ _ = List.map _ _) => hl9); rw [part_eq hl9]; intro t' k')) | (k_here; (with_reducible show wpAny _ _ (compareOp CmpOp.NotIn (Value.str _ _) (Value.ref _)) _ _ _); k_dflt (refine' notin_list_strs ?k1 ?k2 ?_; (case k1 => exact News.isList (by k_asm) (by k_mem)); (case k2 => exact strsAre_values _); k_whole)) | (k_here; (with_reducible show wpAny _ _ (call (Value.builtin "len") [Value.str _ _]) _ _ _); k_dflt (refine' len_strk ?jk ?jz ?_; (case jk => assumption); (case jz => omega); intro t' k')) | (k_here; (with_reducible show wpAny _ _ (subscriptTail (Expr.Name _ _) (Expr.BinOp _ _ _ _) (Value.ref _) (Value.int _ _)) _ _ _); k_dflt (refine' led_item ?jN ?jm ?j1 ?j2 ?j3 ?j4 ?_; (case jN => k_asm); (case jm => k_mem); (case j1 => exact parts_lo (by assumption)); (case j2 => exact parts_hi (by assumption)); (case j3 => exact parts_ix (by assumption)); (case j4 => exact parts_at (by assumption)); k_whole)) | (k_here; (with_reducible show TPost _ _ _ _ _ _ _ _ _ _); dsimp only [TPost]))) | walk1 | (dsimp only; first | (with_reducible (first | (k_here; (with_reducible show wpAny _ _ (call (Value.builtin "list.append") [Value.ref _, Value.str _ _]) _ _ _); k_dflt (refine' led_append ?aF ?aN ?am ?az ?_; (case aF => k_asm); (case aN => k_asm); (case am => k_mem); (case az => (simp only [strValues, List.length_map]; rename PS _ _ _ _ _ _ _ => hs9; have := hs9.1; omega)); rw [strV_snoc]; intro h' F' N')) | (k_here; (with_reducible show wpAny _ _ (call (Value.builtin "str.join") [Value.str _ _, Value.ref _]) _ _ _); k_dflt (refine' led_join ?jN ?jm ?ji ?jo ?_; (case jN => k_asm); (case jm => k_mem); (case ji => exact strsAre_values _); (case jo => (rename (List.map _ _ = List.map _ _) => hl9; rw [hl9]; exact parts_small)); (rename (List.map _ _ = List.map _ _) => hl9); rw [part_eq hl9]; intro t' k')) | (k_here; (with_reducible show wpAny _ _ (compareOp CmpOp.NotIn (Value.str _ _) (Value.ref _)) _ _ _); k_dflt (refine' notin_list_strs ?k1 ?k2 ?_; (case k1 => exact News.isList (by k_asm) (by k_mem)); (case k2 => exact strsAre_values _); k_whole)) | (k_here; (with_reducible show wpAny _ _ (call (Value.builtin "len") [Value.str _ _]) _ _ _); k_dflt (refine' len_strk ?jk ?jz ?_; (case jk => assumption); (case jz => omega); intro t' k')) | (k_here; (with_reducible show wpAny _ _ (subscriptTail (Expr.Name _ _) (Expr.BinOp _ _ _ _) (Value.ref _) (Value.int _ _)) _ _ _); k_dflt (refine' led_item ?jN ?jm ?j1 ?j2 ?j3 ?j4 ?_; (case jN => k_asm); (case jm => k_mem); (case j1 => exact parts_lo (by assumption)); (case j2 => exact parts_hi (by assumption)); (case j3 => exact parts_ix (by assumption)); (case j4 => exact parts_at (by assumption)); k_whole)) | (k_here; (with_reducible show TPost _ _ _ _ _ _ _ _ _ _); dsimp only [TPost]))) | walk1) | (leave1; try dsimp only) | fail "no step")
      · refine ⟨_, _, _, _, rfl, by k_asm, News.tail1 (by k_asm), List.forall_mem_cons.mpr ⟨f1, List.forall_mem_cons.mpr ⟨f2, fun q hq => hoff q (.tail _ (.tail _ hq))⟩⟩, fun p hp => (nomatch hp), .mk ?_ hd (by assumption) (hT.stay hmk hpl hq (by assumption))⟩
        intro z h1; simp at h1; simp [over, h1]
      · have hpI := hoff _ (.tail _ (.tail _ hmk))
        rename News _ _ _ ((_, _) :: but _ _) => N9
        have N8 := News.into N9 hpI.symm (hd.n3 k hk5) (hd.n4 k hk5)
        refine ⟨_, _, _, _, rfl, by k_asm, N8, List.forall_mem_cons.mpr ⟨f1, List.forall_mem_cons.mpr ⟨f2, List.forall_mem_cons.mpr ⟨hpI, fun q hq => hoff q (.tail _ (.tail _ (mem_but.mp hq).1))⟩⟩⟩, fun p hp => (nomatch hp), .mk ?_ hd (by assumption) (hT.turn hd hk5 hpl hq)⟩
        intro z h1; simp at h1; simp [over, h1]
  case done =>
    intro m₁ news₁ h tk hJ F N
    rcases hJ with ⟨hz, hd, hob, hT⟩
    rw [eq_over hz] at F
    try dsimp only [over, List.foldr] at F
    obtain ⟨s0, k0, m0, q0⟩ := hT.c 0 (by decide)
    obtain ⟨s1, k1, m1, q1⟩ := hT.c 1 (by decide)
    obtain ⟨s2, k2, m2, q2⟩ := hT.c 2 (by decide)
    obtain ⟨s3, k3, m3, q3⟩ := hT.c 3 (by decide)
    obtain ⟨s4, k4, m4, q4⟩ := hT.c 4 (by decide)
    have hall := List.forall_mem_cons.mpr ⟨hT.a, List.forall_mem_cons.mpr ⟨hT.b, List.forall_mem_cons.mpr ⟨m4, List.forall_mem_cons.mpr ⟨m3, List.forall_mem_cons.mpr ⟨m2, List.forall_mem_cons.mpr ⟨m1, List.forall_mem_cons.mpr ⟨m0, hT.e⟩⟩⟩⟩⟩⟩⟩
    repeat' (first | (k_unfold; (try dsimp only)) | (k_end; wrow_close) | walk1 | (dsimp only; first | walk1) | (leave1; try dsimp only) | fail "no step")
    exact hret _ _ _ _ _ _ _ _ _ _ _ _ _ _ _ _ _ _ _ (by k_asm) (News.out (by k_asm) hall) q0 q1 q2 q3 q4
end
end
section
open PySem PySem.W PySem.Calls PyProof.Rows PySem.Builtin PySem.Builtin.Str
theorem len_app (x y : Str) : (x ++ y).length = x.length + y.length := by
  show (x.cps ++ y.cps).size = _
  rw [Array.size_append]; rfl
theorem beq_t_f {b : Bool} (h : (b == true) = false) : b = false := by cases b <;> simp_all
theorem em_call (w : World) (mean) (mg mb) (want got : Str) (t1 t2 : Tok) (h1 : want.length ≤ 1000) (h2 : got.length ≤ 1000) :
    GClaim1 w mean mg mb 1 193 [.str want t1, .str got t2] [] (fun _ _ => True) (fun h₀ L m news K => ∀ h' tk', Fr h₀ L h' m → News h₀ L h' news → K (.bool (em want got)) h' tk') := by
  unfold GClaim1
  intro dp un gd cn cs a ccd cl outer A₀ base h₀ L m news s Q E hB hF hX hN hT hk hpre hdp hun hret
  have H := em_ok w mean mg mb news want got t1 t2 dp un gd cn cs a ccd cl outer A₀ base h₀ L m s Q E hB hF hX hN hT hk
  dsimp only [CbLists] at H
  exact H ⟨h1, h2⟩ hdp hun fun t h' tk' F N => hret h' tk' F N
section
set_option maxHeartbeats 1000000 in
theorem some_ok (w : World) (mean) (mg mb) (fr bk tx : Str) (PJ : Addr) (j : Nat) (ml : List (Str × Tok)) (t1 t2 t3 : Tok) (hf : fr.length ≤ 100) (hb : bk.length ≤ 100) (ht : tx.length ≤ 100) (hm : ∀ p ∈ ml, p.1.length ≤ 100) :
    GClaim1 w mean mg mb 4 301 [.str fr t1, .ref PJ, .str bk t2, .str tx t3] [] (fun news _ => (PJ, listOf (strValues ml).toArray j) ∈ news) (fun h₀ L m news K => ∀ h' tk', Fr h₀ L h' m → News h₀ L h' news → K (.bool ((ml.map (·.1)).any fun p => em (fr ++ Str.ofString "..." ++ p ++ bk) (fr ++ tx ++ bk))) h' tk') := by
  unfold GClaim1 prog1
  k_fill
  intro dp un gd cn cs a ccd cl outer A₀ base h₀ L m news s Q E hB hF hX hN hT hk hpre hdp hun hret
  try dsimp only at hpre
  try dsimp only at hret
  have hss := sizeLine_eq
  refine wpAny_call ?_
  k_dflt (first | (refine' code_def ?k1 ?k2 ?k3 ?k4 ?k5 ?kA ?kF ?kK ?k6 ?k7 ?k8 ?k9 ?kB ?_ ?c2 ?c3 ?c4 ?c5; (case kA => exact rfl); (case kF => exact rfl); (case kK => assumption); (case k1 => k_asm); (case k2 => k_asm); (case k3 => k_asm); (case k4 => k_asm); (case k5 => k_asm); (case k6 => k_is); (case k7 => k_is); (case k8 => ktr_room); (case k9 => exact binds_K (by k_in) rfl (by k_is) rfl rfl rfl); (case c5 => decide); (case kB => exact locs rfl); (case c2 => exact rfl); (case c3 => exact rfl); (case c4 => exact rfl); k_whole; intro g' L' h' FG' F' N' B' X' T'; (try dsimp only); (try k_lift B'); (try k_fold)) | (refine' ks_code_super ?k1 ?k2 ?k3 ?k4 ?k5 ?kA ?kF ?kK ?k6 ?k7 ?k8 ?k9 ?kB ?_ ?c1 ?c2 ?c3 ?c4; (case kA => exact rfl); (case kF => exact rfl); (case kK => first | exact rfl | assumption); (case k1 => k_asm); (case k2 => k_asm); (case k3 => k_asm); (case k4 => k_asm); (case k5 => k_asm); (case k6 => k_is); (case k7 => k_is); (case k8 => ktr_room); (case k9 => first | exact BindsTo.of_eq rfl | exact binds_K (by k_in) rfl (by k_is) rfl rfl rfl); (case kB => exact locs rfl); (case c1 => decide); (case c2 => exact rfl); (case c3 => exact rfl); (case c4 => exact rfl); intro g' L' h' FG' F' N' B' X' T' lc1; (try k_lt lc1); (try dsimp only); (try k_lift B')) | (refine' code_defC ?k1 ?k2 ?k3 ?k4 ?k5 ?kA ?kF ?kK ?k6 ?k7 ?k8 ?k9 ?kB ?kD ?_ ?c2 ?c3 ?c4; (case kA => exact rfl); (case kF => exact rfl); (case kK => first | exact rfl | assumption); (case k1 => k_asm); (case k2 => k_asm); (case k3 => k_asm); (case k4 => k_asm); (case k5 => k_asm); (case k6 => k_is); (case k7 => k_is); (case k8 => ktr_room); (case k9 => first | exact BindsTo.of_eq rfl | exact binds_K (by k_in) rfl (by k_is) rfl rfl rfl | fail "k_enter: no rule for these arguments"); (case kB => exact rfl); (case kD => decide +kernel); (case c2 => exact rfl); (case c3 => exact rfl); (case c4 => exact rfl); k_whole; intro g' L' h' tk' cells' FG' F' N' Y' B' X' T' lc1; (try k_lt lc1); k_cells Y'; (try simp only [List.cons_append, List.nil_append] at N'); (try dsimp only); (try k_lift B'); (try k_fold)) | cell_enter)
  repeat' (first | (k_unfold; (try dsimp only)) | (k_end; wrow_close) | (with_reducible (first | (k_here; (with_reducible show wpAny _ _ (pyIter (Value.ref _)) (fun it s₂ => TurnsAt _ _ _ _ _ _ _ _ _ it s₂) _ _); k_dflt (refine stopHere ?_)) | (k_here; (with_reducible show wpAny _ _ (exec (Stmt.For (Expr.Name _ _) (Expr.Name _ _) _ _ _) _) _ _ _); (rename Fr _ _ _ _ => lF'); k_dflt (with_unfolding_all refine' For_turns lF' ?_; k_whole)))) | walk1 | (dsimp only; first | (with_reducible (first | (k_here; (with_reducible show wpAny _ _ (pyIter (Value.ref _)) (fun it s₂ => TurnsAt _ _ _ _ _ _ _ _ _ it s₂) _ _); k_dflt (refine stopHere ?_)) | (k_here; (with_reducible show wpAny _ _ (exec (Stmt.For (Expr.Name _ _) (Expr.Name _ _) _ _ _) _) _ _ _); (rename Fr _ _ _ _ => lF'); k_dflt (with_unfolding_all refine' For_turns lF' ?_; k_whole)))) | walk1) | (leave1; try dsimp only) | fail "no step")
  show wpAny _ _ _ _ _ _
  have hl2 : (fr ++ tx ++ bk).length ≤ 1000 := by simp only [len_app]; omega
  rename Fr _ _ _ _ => FA
  refine Fr.foldc FA ?_
  clear FA
  intro mA FA
  refine' turns_list (vs := strValues ml) (fun m₀ l₀ i m l => (∀ z, z ∉ [Str.ofString "part"] → m z = m₀ z) ∧ l = l₀ ∧ ∀ q ∈ ml.take i, em (fr ++ Str.ofString "..." ++ q.1 ++ bk) (fr ++ tx ++ bk) = false) ?hh ?hD ?hF ?hN ?hj ?turn ?done
  case hh => rfl
  case hF => k_asm
  case hN => k_asm
  case hD => k_mem
  case hj => exact ⟨fun _ _ => rfl, rfl, fun q hq => by simp at hq⟩
  case turn =>
    rintro I i v m₁ news₁ h tk oI hcI hv ⟨hz, rfl, hall⟩ hoff hD F N
    rw [eq_over hz] at F
    try dsimp only [over, List.foldr] at F
    have hi : i < ml.length := by
      have h1 := (List.getElem?_eq_some_iff.mp hv).1
      simpa [strValues] using h1
    have hv' : v = .str (ml[i]).1 (ml[i]).2 := by
      simp only [strValues, List.getElem?_map, List.getElem?_eq_getElem hi] at hv
      exact (Option.some.inj hv).symm
    subst hv'
    have hmem := List.getElem_mem hi
    have htake : ml.take (i + 1) = ml.take i ++ [ml[i]] := by rw [List.take_add_one, List.getElem?_eq_getElem hi]; rfl
    generalize ml[i] = q at hmem htake hv ⊢
    have hq := hm q hmem
    have hl1 : (fr ++ Str.ofString "..." ++ q.1 ++ bk).length ≤ 1000 := by
      have : (Str.ofString "...").length = 3 := by rfl
      simp only [len_app]; omega
    repeat' (first | (k_unfold; (try dsimp only)) | (k_end; wrow_close) | (with_reducible (first | (k_here; (with_reducible show wpAny _ _ (call (Value.ref 193) _ _) _ _ _); k_dflt (refine' (em_call _ _ _ _ _ _ _ _ ?gh1 ?gh2) _ _ _ _ _ _ _ _ _ _ _ _ _ _ _ _ _ _ ?gB ?gF ?gX ?gN ?gT ?gk ?gp ?gd ?gu ?_; walk_at "gclaim"; (case gp => trivial); (case gh1 => assumption); (case gh2 => assumption); intro h' tk' F' N'; (try dsimp only); (try k_fold))) | (k_here; (with_reducible show TPost _ _ _ _ _ _ _ _ _ _); dsimp only [TPost]))) | walk1 | (dsimp only; first | (with_reducible (first | (k_here; (with_reducible show wpAny _ _ (call (Value.ref 193) _ _) _ _ _); k_dflt (refine' (em_call _ _ _ _ _ _ _ _ ?gh1 ?gh2) _ _ _ _ _ _ _ _ _ _ _ _ _ _ _ _ _ _ ?gB ?gF ?gX ?gN ?gT ?gk ?gp ?gd ?gu ?_; walk_at "gclaim"; (case gp => trivial); (case gh1 => assumption); (case gh2 => assumption); intro h' tk' F' N'; (try dsimp only); (try k_fold))) | (k_here; (with_reducible show TPost _ _ _ _ _ _ _ _ _ _); dsimp only [TPost]))) | walk1) | (leave1; try dsimp only) | fail "no step")
    · have e : ((ml.map (·.1)).any fun p => em (fr ++ Str.ofString "..." ++ p ++ bk) (fr ++ tx ++ bk)) = true :=
        List.any_eq_true.mpr ⟨q.1, List.mem_map.mpr ⟨q, hmem, rfl⟩, eq_of_beq (by assumption)⟩
      rw [e] at hret
      exact hret _ _ (by k_asm) (News.tail1 (by k_asm))
    · refine ⟨_, _, _, _, rfl, by k_asm, by k_asm, hoff, ?_, ?_, rfl, ?_⟩
      · intro p hp; rw [List.mem_singleton.mp hp]; exact hD
      · intro z h1; simp at h1; simp [over, h1]
      · intro r hr
        rw [htake] at hr
        rcases List.mem_append.mp hr with hr | hr
        · exact hall r hr
        · rw [List.mem_singleton.mp hr]; exact beq_t_f (by assumption)
  case done =>
    rintro m₁ news₁ h tk ⟨hz, rfl, hall⟩ hD F N
    rw [eq_over hz] at F
    try dsimp only [over, List.foldr] at F
    repeat' (first | (k_unfold; (try dsimp only)) | (k_end; wrow_close) | walk1 | (dsimp only; first | walk1) | (leave1; try dsimp only) | fail "no step")
    have e : ((ml.map (·.1)).any fun p => em (fr ++ Str.ofString "..." ++ p ++ bk) (fr ++ tx ++ bk)) = false := by
      rw [List.any_eq_false]
      intro x hx
      obtain ⟨q, hq, rfl⟩ := List.mem_map.mp hx
      have := hall q (by have e : (strValues ml).length = ml.length := by simp [strValues]
                         rw [e, List.take_length]; exact hq)
      simp [this]
    rw [e] at hret
    exact hret _ _ (by k_asm) (by k_asm)
end
end
section
open PySem PySem.W PySem.Calls PyProof.Rows PySem.Builtin PySem.Builtin.Str
theorem clean_e : Clean (Str.ofString "") := ⟨by decide, by decide⟩
theorem clean_ab : Clean (Str.ofString "ab") := ⟨by decide, by decide⟩
theorem clean_bc : Clean (Str.ofString "bc") := ⟨by decide, by decide⟩
theorem clean_ca : Clean (Str.ofString "ca") := ⟨by decide, by decide⟩
theorem nine {l : List Nat} (h : l.length = 9) : ∃ a b c d e f g i j, l = [a, b, c, d, e, f, g, i, j] := by
  match l, h with
  | [a, b, c, d, e, f, g, i, j], _ => exact ⟨a, b, c, d, e, f, g, i, j, rfl⟩
theorem isL_cases {c : Nat} (h : isL c = true) : c = 97 ∨ c = 98 ∨ c = 99 ∨ c = 65 ∨ c = 66 ∨ c = 67 := by
  unfold isL at h
  simpa using h
theorem isL_lt {c : Nat} (h : isL c = true) : c < 128 := by rcases isL_cases h with h | h | h | h | h | h <;> omega
theorem lower_lets {l : List Nat} (h : ∀ c ∈ l, isL c = true) : Txt.lower ⟨l.toArray⟩ = ⟨(l.map lo1).toArray⟩ := by
  rw [lower_ascii fun c hc => isL_lt (h c (by simpa using hc))]
  simp
theorem low_r {prog : Program} {w : World} {A : Around} {E : Value → Shared → Prop} {s : Shared} {x y : Str} {t : Tok} {Q : Value → Shared → Prop} (hy : Txt.lower x = y) (hz : x.length ≤ 100000)
    (h : ∀ t' k, Q (.str y t') { s with toks := k }) : wpAny (model prog w) A (call (.builtin "str.lower") [.str x t]) Q E s := by
  refine SCL.lower (by omega) fun _ => ?_
  rw [hy]; exact h _ _
theorem slice_to (l : List Nat) (j : Nat) (h : j ≤ l.length) : Txt.slice ⟨l.toArray⟩ none (some (j : Int)) = ⟨(l.take j).toArray⟩ := by
  have := eq_of_beq (slice_closes_to (x := ⟨l.toArray⟩) (j := (j : Int)) ⟨by omega, by simp; omega⟩)
  rw [this]; simp
theorem slice_from (l : List Nat) (i : Nat) (h : i ≤ l.length) : Txt.slice ⟨l.toArray⟩ (some (i : Int)) none = ⟨(l.drop i).toArray⟩ := by
  rw [slice_from_eq (b := (l.length : Int)) (by omega) (by show (i : Int) ≤ (l.toArray.size : Nat); simp; omega) (by show _ = ((l.toArray.size : Nat) : Int); simp)]
  congr 2
  simp only [Int.toNat_natCast]
  rw [List.take_of_length_le]
  simp
theorem slice_mid (l : List Nat) (i j : Nat) (h : i ≤ j) (h2 : j ≤ l.length) : Txt.slice ⟨l.toArray⟩ (some (i : Int)) (some (j : Int)) = ⟨((l.drop i).take (j - i)).toArray⟩ := by
  have := eq_of_beq (slice_closes (x := ⟨l.toArray⟩) (i := (i : Int)) (j := (j : Int)) ⟨by omega, by omega, by simp; omega⟩)
  rw [this]
  congr 2
  simp only [Int.toNat_natCast]
  first | done | (congr 1; omega) | omega
theorem len9 {cs : List Nat} (h : cs.length = 9) : (⟨cs.toArray⟩ : Str).length ≤ 100000 := by
  show cs.toArray.size ≤ _
  simp [h]
theorem low5 {cs : List Nat} (h : ∀ c ∈ cs, isL c = true) (hl : cs.length = 9) : Txt.lower (Txt.slice ⟨cs.toArray⟩ none (some 5)) = ⟨((cs.take 5).map lo1).toArray⟩ :=
  (congrArg Txt.lower (slice_to cs 5 (by omega))).trans (lower_lets fun c hc => h c (List.mem_of_mem_take hc))
theorem low59 {cs : List Nat} (h : ∀ c ∈ cs, isL c = true) (hl : cs.length = 9) : Txt.lower (Txt.slice ⟨cs.toArray⟩ (some 5) none) = ⟨((cs.drop 5).map lo1).toArray⟩ :=
  (congrArg Txt.lower (slice_from cs 5 (by omega))).trans (lower_lets fun c hc => h c (List.mem_of_mem_drop hc))
theorem low1 {c : Nat} (h : isL c = true) : Txt.lower ⟨#[c]⟩ = ⟨#[lo1 c]⟩ := lower_lets (l := [c]) fun d hd => by rw [List.mem_singleton.mp hd]; exact h
theorem len_slice_le (x : Str) (a b : Option Int) : (Txt.slice x a b).length ≤ x.length := Txt.slice_le x a b
theorem clean_let {c : Nat} (h : isL c = true) : Clean ⟨#[c]⟩ := by
  refine ⟨Nat.le_of_ble_eq_true rfl, fun d hd => ?_⟩
  have : d = c := by simpa using hd
  subst this
  rcases isL_cases h with h | h | h | h | h | h <;> omega
end
section
open PySem PySem.W PySem.Calls PyProof.Rows PySem.Builtin PySem.Builtin.Str
def laidN : List Nat := [4, 3, 2, 1, 0, 4, 3, 2, 1, 0]
/-- a letter's header: the letter of the place, as many blanks as it says -/
abbrev blanks (p : Nat) : Str := Txt.mul (Str.ofString " ") ((p : Int) + 1)
abbrev hdr (cs : List Nat) (p : Nat) : Str × Str := (Txt.item ⟨cs.toArray⟩ (p : Int), blanks p)
def base3 : List (Str × Str) := [(Str.ofString "ab", Str.ofString ""), (Str.ofString "bc", Str.ofString ""), (Str.ofString "ca", Str.ofString "")]
theorem laid_at {i : Nat} {k : Int} (h : (laidN.map fun p : Nat => (p : Int))[i]? = some k) : ∃ p : Nat, k = (p : Int) ∧ laidN[i]? = some p ∧ p < 5 := by
  rw [List.getElem?_map] at h
  cases hp : laidN[i]? with
  | none => rw [hp] at h; cases h
  | some p =>
    rw [hp] at h
    refine ⟨p, (Option.some.inj h).symm, rfl, ?_⟩
    have := List.mem_of_getElem? hp
    simp [laidN] at this; omega
theorem item_let {cs : List Nat} {p : Nat} (hl : cs.length = 9) (hp : p < 9) : Txt.item ⟨cs.toArray⟩ (p : Int) = ⟨#[cs.getD p 0]⟩ := by
  rw [W.item_meets (by constructor; omega; show (p : Int) < (cs.toArray.size : Nat); simp [hl]; omega)]
  simp
theorem getD_isL {cs : List Nat} (h : ∀ c ∈ cs, isL c = true) (hl : cs.length = 9) {p : Nat} (hp : p < 9) : isL (cs.getD p 0) = true := by
  refine h _ ?_
  rw [List.getD_eq_getElem?_getD, List.getElem?_eq_getElem (by omega)]
  exact List.getElem_mem _
theorem clean_item {cs : List Nat} (h : ∀ c ∈ cs, isL c = true) (hl : cs.length = 9) {p : Nat} (hp : p < 9) : Clean (Txt.item ⟨cs.toArray⟩ (p : Int)) := by
  rw [item_let hl hp]; exact clean_let (getD_isL h hl hp)
theorem clean_blanks {p : Nat} (hp : p < 5) : Clean (blanks p) := by
  have : p = 0 ∨ p = 1 ∨ p = 2 ∨ p = 3 ∨ p = 4 := by omega
  rcases this with rfl | rfl | rfl | rfl | rfl <;> exact ⟨by decide +kernel, by decide +kernel⟩
theorem len_blanks {p : Nat} (hp : p < 5) : (blanks p).length = p + 1 := by
  have : p = 0 ∨ p = 1 ∨ p = 2 ∨ p = 3 ∨ p = 4 := by omega
  rcases this with rfl | rfl | rfl | rfl | rfl <;> decide +kernel
theorem laid_vals {i : Nat} {v : Value} {a b c d e f g h j k : Tok} (hv : [Value.int 4 a, Value.int 3 b, Value.int 2 c, Value.int 1 d, Value.int 0 e, Value.int 4 f, Value.int 3 g, Value.int 2 h, Value.int 1 j, Value.int 0 k][i]? = some v) : ∃ (p : Nat) (t : Tok), v = .int (p : Int) t ∧ laidN[i]? = some p ∧ p < 5 ∧ i < 10 := by
  have hia : IntsAre [Value.int 4 a, Value.int 3 b, Value.int 2 c, Value.int 1 d, Value.int 0 e, Value.int 4 f, Value.int 3 g, Value.int 2 h, Value.int 1 j, Value.int 0 k] (laidN.map fun p : Nat => (p : Int)) := .cons _ _ (.cons _ _ (.cons _ _ (.cons _ _ (.cons _ _ (.cons _ _ (.cons _ _ (.cons _ _ (.cons _ _ (.cons _ _ .nil)))))))))
  obtain ⟨q, t, rfl, hk⟩ := intsAre_get hia hv
  obtain ⟨p, rfl, hp, hp5⟩ := laid_at hk
  exact ⟨p, t, rfl, hp, hp5, (List.getElem?_eq_some_iff.mp hv).1⟩
theorem list_ne_cls {vs : Array Value} {n : Nat} {o : Obj} {c : String} (h : o.cls = .type c) (hc : "list" ≠ c) : listOf vs n ≠ o := fun e => hc (Value.type.inj ((congrArg Obj.cls e).trans h))
theorem inst_ne_cls {C D : Addr} {o : Obj} {c : String} (h : o.cls = .type c) : instO C D ≠ o := fun e => by have := (congrArg Obj.cls e).trans h; cases this
theorem TabAt.but {C T TD HL I : Addr} {P : Params} {n : Nat} {rows : List Row4} {news : Led} {oI : Obj} {h₀ h : Heap} {L : Addr} {c : String} (H : TabAt C P T TD HL n rows news) (N : News h₀ L h news) (hI : (I, oI) ∈ news) (hc : oI.cls = .type c) (h1 : "dict" ≠ c) (h2 : "tuple" ≠ c) (h3 : "list" ≠ c) : TabAt C P T TD HL n rows (but I news) := by
  obtain ⟨a1, ⟨x, y, a2⟩, a3, a4⟩ := H
  exact ⟨mem_but.mpr ⟨a1, News.ne N a1 hI (inst_ne_cls hc)⟩, ⟨x, y, mem_but.mpr ⟨a2, News.ne N a2 hI (dict_ne_cls hc h1)⟩⟩, mem_but.mpr ⟨a3, News.ne N a3 hI (list_ne_cls hc h3)⟩, fun r hr => mem_but.mpr ⟨a4 r hr, News.ne N (a4 r hr) hI (tup_ne_cls hc h2)⟩⟩
theorem take_snoc {α : Type} {l : List α} {i : Nat} {a : α} (h : l[i]? = some a) : l.take (i + 1) = l.take i ++ [a] := by rw [List.take_add_one, h]; rfl
end
section
open PySem PySem.W PySem.Calls PyProof.Rows PySem.Builtin PySem.Builtin.Str
/-- what is no cell stays -/
def Stay (X news' : Led) : Prop := ∀ p ∈ news', (∀ v, p.2.data ≠ .cell v) → p ∈ X
theorem recell {h₀ h : Heap} {L c1 c2 c3 c4 : Addr} {o1 o2 o3 o4 : Obj} {v1 v2 v3 v4 : Option Value} {news' : Led} (N : News h₀ L h news') (h4 : (c4, o4) ∈ news') (h3 : (c3, o3) ∈ news') (h2 : (c2, o2) ∈ news') (h1 : (c1, o1) ∈ news')
    (e4 : o4.data = .cell v4) (e3 : o3.data = .cell v3) (e2 : o2.data = .cell v2) (e1 : o1.data = .cell v1) :
    ∃ X, News h₀ L h ((c4, o4) :: (c3, o3) :: (c2, o2) :: (c1, o1) :: X) ∧ (∀ p ∈ X, p.1 ≠ c1) ∧ (∀ p ∈ X, p.1 ≠ c2) ∧ (∀ p ∈ X, p.1 ≠ c3) ∧ (∀ p ∈ X, p.1 ≠ c4) ∧ Stay X news' := by
  refine ⟨but c4 (but c3 (but c2 (but c1 news'))), ?_, ?_, ?_, ?_, ?_, ?_⟩
  · intro p hp
    simp only [List.mem_cons] at hp
    rcases hp with rfl | rfl | rfl | rfl | hp
    · exact N _ h4
    · exact N _ h3
    · exact N _ h2
    · exact N _ h1
    · exact N _ (mem_but.mp (mem_but.mp (mem_but.mp (mem_but.mp hp).1).1).1).1
  · intro p hp; exact (mem_but.mp (mem_but.mp (mem_but.mp (mem_but.mp hp).1).1).1).2
  · intro p hp; exact (mem_but.mp (mem_but.mp (mem_but.mp hp).1).1).2
  · intro p hp; exact (mem_but.mp (mem_but.mp hp).1).2
  · intro p hp; exact (mem_but.mp hp).2
  · intro p hp hd
    have key : ∀ {c : Addr} {o : Obj} {v : Option Value}, (c, o) ∈ news' → o.data = .cell v → p.1 ≠ c := fun {c o v} hc he e => by
      have a := (N p hp).1
      have b := (N _ hc).1
      rw [show p.1 = c from e] at a
      have := Option.some.inj (a.symm.trans b)
      exact hd v (this ▸ he)
    exact mem_but.mpr ⟨mem_but.mpr ⟨mem_but.mpr ⟨mem_but.mpr ⟨hp, key h1 e1⟩, key h2 e2⟩, key h3 e3⟩, key h4 e4⟩
theorem TabAt.stay {C T TD HL : Addr} {P : Params} {n : Nat} {rows : List Row4} {X news' : Led} (S : Stay X news') (H : TabAt C P T TD HL n rows news') : TabAt C P T TD HL n rows X := by
  obtain ⟨a, ⟨x, y, b⟩, c, d⟩ := H
  exact ⟨S _ a (fun v e => by cases e), ⟨x, y, S _ b (fun v e => by cases e)⟩, S _ c (fun v e => by cases e), fun r hr => S _ (d r hr) (fun v e => by cases e)⟩
theorem AccAt.stay {C P D : Addr} {k : Int} {n : Nat} {rows : List Row4} {X news' : Led} (S : Stay X news') (H : AccAt C P D k n rows news') : AccAt C P D k n rows X := by
  obtain ⟨a, ⟨x, y, z, b⟩, d⟩ := H
  exact ⟨S _ a (fun v e => by cases e), ⟨x, y, z, S _ b (fun v e => by cases e)⟩, fun r hr => S _ (d r hr) (fun v e => by cases e)⟩
theorem TabAt.sub {C T TD HL : Addr} {P : Params} {n : Nat} {rows : List Row4} {X Y : Led} (H : TabAt C P T TD HL n rows X) (S : ∀ p ∈ X, p ∈ Y) : TabAt C P T TD HL n rows Y := by
  obtain ⟨a, ⟨x, y, b⟩, c, d⟩ := H
  exact ⟨S _ a, ⟨x, y, S _ b⟩, S _ c, fun r hr => S _ (d r hr)⟩
def LawEnd (b : Heap) (L : Addr) (s₁ s' : Shared) : Prop :=
  ∃ m l p1 p2, Fr b L s'.heap m ∧ News b L s'.heap l ∧ (235, tabO p1) ∈ l ∧ (242, tabO p2) ∈ l ∧ AllBare s'.gens ∧ s'.os = s₁.os
theorem law_old {K : Frag} {s₁ s' : Shared} {c1 c2 : Addr} (X : K.In s₁.heap) (k1 : CodeK K c1 235) (k2 : CodeK K c2 242) (n1 : c1 ≠ 235) (n2 : c2 ≠ 242) (t1 : s₁.heap.get? 235 = some (tabO #[])) (t2 : s₁.heap.get? 242 = some (tabO #[])) (h : LawEnd (hid s₁.heap) s₁.heap.objs.size s₁ s') : OldK s₁.heap s'.heap ∧ s'.os = s₁.os ∧ AllBare s'.gens := by
  obtain ⟨m, l, p1, p2, F, N, h1, h2, hb, ho⟩ := h
  have e1 := (N _ h1).1
  have e2 := (N _ h2).1
  have c1 := (codeK_at k1 X t1 trivial n1).2.isCodeTable
  have c2 := (codeK_at k2 X t2 trivial n2).2.isCodeTable
  refine ⟨⟨fun b o e => ?_, fun b o e => ?_⟩, ho, hb⟩
  · by_cases q1 : b = 235
    · subst q1
      have : o = tabO #[] := Option.some.inj (e.symm.trans t1)
      subst this
      exact .inr (.inl ⟨c1, rfl, #[], p1, rfl, by rw [e1]; simp⟩)
    · by_cases q2 : b = 242
      · subst q2
        have : o = tabO #[] := Option.some.inj (e.symm.trans t2)
        subst this
        exact .inr (.inl ⟨c2, rfl, #[], p2, rfl, by rw [e2]; simp⟩)
      · exact .inl (F.keep _ _ (hid_get e q1 q2))
  · by_cases q1 : b = 235
    · exact ⟨_, q1 ▸ e1⟩
    · by_cases q2 : b = 242
      · exact ⟨_, q2 ▸ e2⟩
      · exact ⟨_, F.keep _ _ (hid_get e q1 q2)⟩
end
section
open PySem PySem.W PySem.Calls PyProof.Rows PySem.Builtin PySem.Builtin.Str
/-- the names' map under a name of its own: the terms stay small -/
theorem Fr.fold {h₀ h : Heap} {L : Addr} {m : Mp} {P : Prop} (F : Fr h₀ L h m) (k : let m' := m; Fr h₀ L h m' → P) : P := k F
end
section
open PySem PySem.W PySem.Calls PyProof.Rows PySem.Builtin PySem.Builtin.Str PyProof.V PySem.Spec
theorem st_canLayAll0 : ∀ ns : List Str, (∀ x ∈ ns, PyData.strOk x = true) → PyData.canLayAll0 (ns.map PyData.str) = true
  | [], _ => rfl
  | a :: r, h => by simp [PyData.canLayAll0, PyData.canLay0, st_canLayAll0 r fun x hx => h x (.tail _ hx), h a (.head _)]
theorem st_depthAll : ∀ ns : List Str, PyData.depthAll (ns.map PyData.str) = 0
  | [] => rfl
  | _ :: r => by simp [PyData.depthAll, PyData.depth, st_depthAll r]
theorem st_shaped (ns : List Str) (h : ∀ x ∈ ns, PyData.strOk x = true) : SeqAt.shaped (.list (ns.map PyData.str)) = true := by
  simp [SeqAt.shaped, PyData.canLay0, PyData.depth, st_canLayAll0 ns h, st_depthAll]
theorem st_sameAll : ∀ ns ms : List Str, PySem.Spec.sameAll (ns.map PyData.str) (ms.map PyData.str) = decide (ns = ms)
  | [], [] => by simp [PySem.Spec.sameAll]
  | [], _ :: _ => by simp [PySem.Spec.sameAll]
  | _ :: _, [] => by simp [PySem.Spec.sameAll]
  | a :: r, b :: t => by
    simp only [List.map_cons, PySem.Spec.sameAll, PySem.Spec.same, st_sameAll r t]
    by_cases h : a = b <;> by_cases h' : r = t <;> simp [h, h']
theorem st_same (ns ms : List Str) : PySem.Spec.same (.list (ns.map PyData.str)) (.list (ms.map PyData.str)) = decide (ns = ms) := by
  simp only [PySem.Spec.same]; exact st_sameAll ns ms
theorem st_carried : ∀ {vs : List Value} {ns : List Str}, StrsAre vs ns → CarriedAll vs (ns.map PyData.str)
  | _, _, .nil => .nil
  | _, _, .cons _ t r => .cons (.str _ t) (st_carried r)
theorem ne_strs {prog : Program} {w : World} {A : Around} {E : Value → Shared → Prop} {s : Shared} {a b : Addr} {xs ys : List Value} {ns ms : List Str} {Q : Value → Shared → Prop} (ha : s.heap.IsList a xs.toArray) (hb : s.heap.IsList b ys.toArray) (hi : StrsAre xs ns) (hj : StrsAre ys ms) (ho : ∀ x ∈ ns, PyData.strOk x = true) (hp : ∀ x ∈ ms, PyData.strOk x = true) (hu : A.units + 64 < cLine) (h : Q (.bool (!decide (ns = ms))) s) :
    wpAny (model prog w) A (compareOp .NotEq (.ref a) (.ref b)) Q E s :=
  ne_dataH_same (reads_newData ha (st_carried hi)) (reads_newData hb (st_carried hj)) (st_shaped _ ho) (st_shaped _ hp) hu (SeqAt.noMix_of_shape (.list .str) rfl _ _ (list_map_has fun _ => rfl) (list_map_has fun _ => rfl)) (by rw [st_same]; exact h)
theorem rows_x {rows : List Row4} {cs : List Nat} (h : xyOf rows = base3 ++ laidN.map (hdr cs)) (hl : cs.length = 9) : (∀ r ∈ rows, r.x.length ≤ 100) ∧ rows.length = 13 := by
  constructor
  · intro r hr
    have hm : (r.x, r.y) ∈ xyOf rows := List.mem_map.mpr ⟨r, hr, rfl⟩
    rw [h] at hm
    rcases List.mem_append.mp hm with hm | hm
    · simp only [base3, List.mem_cons, List.not_mem_nil, or_false, Prod.mk.injEq] at hm
      rcases hm with ⟨e, _⟩ | ⟨e, _⟩ | ⟨e, _⟩ <;> rw [e] <;> decide
    · obtain ⟨p, hp, e⟩ := List.mem_map.mp hm
      have : p < 9 := by simp [laidN] at hp; omega
      have e1 := congrArg Prod.fst e
      simp only [hdr] at e1
      rw [← e1, item_let hl this]
      exact Nat.le_of_ble_eq_true rfl
  · have := congrArg List.length h
    simpa [base3, laidN] using this
theorem ok_blanks {p : Nat} (hp : p < 5) : PyData.strOk (blanks p) = true := by
  have : p = 0 ∨ p = 1 ∨ p = 2 ∨ p = 3 ∨ p = 4 := by omega
  rcases this with rfl | rfl | rfl | rfl | rfl <;> decide +kernel
theorem rows_y {rows : List Row4} {cs : List Nat} (h : xyOf rows = base3 ++ laidN.map (hdr cs)) : ∀ r ∈ rows, PyData.strOk r.y = true := by
  intro r hr
  have hm : (r.x, r.y) ∈ xyOf rows := List.mem_map.mpr ⟨r, hr, rfl⟩
  rw [h] at hm
  rcases List.mem_append.mp hm with hm | hm
  · simp only [base3, List.mem_cons, List.not_mem_nil, or_false, Prod.mk.injEq] at hm
    rcases hm with ⟨_, e⟩ | ⟨_, e⟩ | ⟨_, e⟩ <;> rw [e] <;> decide +kernel
  · obtain ⟨p, hp, e⟩ := List.mem_map.mp hm
    have hp5 : p < 5 := by simp [laidN] at hp; omega
    have e1 := congrArg Prod.snd e
    rw [← show blanks p = r.y from e1]
    exact ok_blanks hp5
theorem getAll_ok {name : Str} {rows : List Row4} (h : ∀ r ∈ rows, PyData.strOk r.y = true) : ∀ x ∈ getAll name rows, PyData.strOk x = true := by
  intro x hx
  unfold getAll at hx
  obtain ⟨r, hr, rfl⟩ := List.mem_map.mp hx
  exact h r (List.mem_filter.mp hr).1
theorem oks_of {l : List (Str × Tok)} {g : List Str} (e : l.map (·.1) = g) (h : ∀ x ∈ g, PyData.strOk x = true) : ∀ x ∈ l.map (·.1), PyData.strOk x = true := by rw [e]; exact h
theorem oks_e : ∀ x ∈ [Str.ofString ""], PyData.strOk x = true := by decide +kernel
theorem oks_nil : ∀ x ∈ ([] : List Str), PyData.strOk x = true := fun _ h => nomatch h
/-- a statement that leaves the locals and the ledger as they were -/
def MEnd (h₀ : Heap) (L : Addr) (M : Mp) (news : Led) (s : Shared) (fl : Flow) (s' : Shared) : Prop := fl = .next ∧ ∃ h' tk', s' = { s with heap := h', toks := tk' } ∧ Fr h₀ L h' M ∧ News h₀ L h' news
theorem merge {prog : Program} {w : World} {A : Around} {E : Value → Shared → Prop} {s : Shared} {h₀ : Heap} {L : Addr} {M : Mp} {news : Led} {t : Sem Flow} {Q : Flow → Shared → Prop} (_F : Fr h₀ L s.heap M) (_N : News h₀ L s.heap news)
    (h : wpAny (model prog w) A t (MEnd h₀ L M news s) E s)
    (k : ∀ h' tk', Fr h₀ L h' M → News h₀ L h' news → Q .next { s with heap := h', toks := tk' }) : wpAny (model prog w) A t Q E s :=
  wpAny_mono h (fun fl s' p => by obtain ⟨rfl, h', tk', rfl, F, N⟩ := p; exact k h' tk' F N) fun _ _ e => e
theorem MEnd.mk {s : Shared} {h₀ h' : Heap} {L : Addr} {tk' : Nat} {M : Mp} {news news' : Led} (F : Fr h₀ L h' M) (N : News h₀ L h' news') (S : ∀ p ∈ news, p ∈ news') : MEnd h₀ L M news s .next { s with heap := h', toks := tk' } :=
  ⟨rfl, h', tk', rfl, F, fun p hp => N p (S p hp)⟩
theorem isL_lo' {c : Nat} (h : isL c = true) : isL (lo1 c) = true := by
  rcases isL_cases h with h | h | h | h | h | h <;> subst h <;> rfl
theorem clean_lets {l : List Nat} (h : ∀ c ∈ l, isL c = true) (hl : l.length ≤ 1000) : Clean ⟨l.toArray⟩ := by
  refine ⟨by show l.toArray.size ≤ 1000; simpa using hl, fun d hd => ?_⟩
  have := isL_cases (h d (by simpa using hd))
  omega
theorem low2 {cs : List Nat} (h : ∀ c ∈ cs, isL c = true) (hl : cs.length = 9) : Txt.lower (Txt.slice ⟨cs.toArray⟩ none (some 2)) = ⟨((cs.take 2).map lo1).toArray⟩ :=
  (congrArg Txt.lower (slice_to cs 2 (by omega))).trans (lower_lets fun c hc => h c (List.mem_of_mem_take hc))
theorem clean_two {cs : List Nat} (h : ∀ c ∈ cs, isL c = true) (hl : cs.length = 9) : Clean (Txt.lower (Txt.slice ⟨cs.toArray⟩ none (some 2))) := by
  rw [low2 h hl]
  refine clean_lets (fun c hc => ?_) (by simp; omega)
  obtain ⟨d, hd, rfl⟩ := List.mem_map.mp hc
  exact isL_lo' (h d (List.mem_of_mem_take hd))
/-- get_all reads the pairs alone -/
theorem getAll_xy (name : Str) (rows : List Row4) : getAll name rows = ((xyOf rows).filter (fun p => Txt.lower p.1 == Txt.lower name)).map (·.2) := by
  unfold getAll xyOf
  rw [List.filter_map, List.map_map]
  rfl
theorem str_eq {a b : List Nat} : ((⟨a.toArray⟩ : Str) == ⟨b.toArray⟩) = decide (a = b) := by
  by_cases h : a = b
  · subst h; simp
  · simp only [h, decide_false]
    rw [beq_eq_false_iff_ne]
    intro e
    exact h (by simpa using congrArg (fun s : Str => s.cps.toList) e)
/-- what get_all tells of two letters -/
theorem two_get {cs : List Nat} {rows : List Row4} (hxs : ∀ c ∈ cs, isL c = true) (hcl : cs.length = 9) (h : xyOf rows = base3 ++ laidN.map (hdr cs)) :
    getAll (Txt.slice ⟨cs.toArray⟩ none (some 2)) rows = if [Str.ofString "ab", Str.ofString "bc", Str.ofString "ca"].any (· == Txt.slice ⟨((cs.take 5).map lo1).toArray⟩ none (some 2)) = true then [Str.ofString ""] else [] := by
  rw [getAll_xy, h, low2 hxs hcl]
  have e2 : Txt.slice ⟨((cs.take 5).map lo1).toArray⟩ none (some 2) = ⟨((cs.take 2).map lo1).toArray⟩ := by
    refine (slice_to ((cs.take 5).map lo1) 2 (by simp [hcl])).trans ?_
    rw [← List.map_take, List.take_take]; rfl
  rw [e2]
  have e1 : (laidN.map (hdr cs)).filter (fun p => Txt.lower p.1 == ⟨((cs.take 2).map lo1).toArray⟩) = [] := by
    refine List.filter_eq_nil_iff.mpr fun p hp => ?_
    obtain ⟨q, hq, rfl⟩ := List.mem_map.mp hp
    have hq9 : q < 9 := by simp [laidN] at hq; omega
    show ¬ (Txt.lower (Txt.item ⟨cs.toArray⟩ (q : Int)) == _) = true
    rw [item_let hcl hq9, low1 (getD_isL hxs hcl hq9)]
    have := str_eq (a := [lo1 (cs.getD q 0)]) (b := (cs.take 2).map lo1)
    rw [this]
    intro e
    have := congrArg List.length (of_decide_eq_true e)
    simp [hcl] at this
  rw [List.filter_append, e1, List.append_nil]
  have l1 : Txt.lower (Str.ofString "ab") = Str.ofString "ab" := by decide +kernel
  have l2 : Txt.lower (Str.ofString "bc") = Str.ofString "bc" := by decide +kernel
  have l3 : Txt.lower (Str.ofString "ca") = Str.ofString "ca" := by decide +kernel
  unfold base3
  simp only [List.filter_cons, List.filter_nil, l1, l2, l3, List.any_cons, List.any_nil, Bool.or_false]
  have n1 : Str.ofString "ab" ≠ Str.ofString "bc" := by decide +kernel
  have n2 : Str.ofString "ab" ≠ Str.ofString "ca" := by decide +kernel
  have n3 : Str.ofString "bc" ≠ Str.ofString "ca" := by decide +kernel
  generalize (⟨((cs.take 2).map lo1).toArray⟩ : Str) = z
  by_cases q1 : Str.ofString "ab" = z
  · subst q1
    simp [n1.symm, n2.symm]
  · by_cases q2 : Str.ofString "bc" = z
    · subst q2; simp [n1, n3.symm]
    · by_cases q3 : Str.ofString "ca" = z
      · subst q3; simp [n2, n3]
      · simp [q1, q2, q3]
end
section
open PySem PySem.W PySem.Calls PyProof.Rows PySem.Builtin PySem.Builtin.Str
/-- the headers stay when the accumulator alone is turned -/
theorem TabAt.kept {C T TD HL C' P D : Addr} {Pm : Params} {n k : Nat} {rows : List Row4} {us : List Value} {X l₀ l : Led} {h₀ h : Heap} {L : Addr} (H : TabAt C Pm T TD HL n rows X) (N0 : News h₀ L h l₀) (K : Kept P l₀ l) (S : ∀ p ∈ X, p ∈ l₀) (hP : (P, accO C' D us k) ∈ l₀) : TabAt C Pm T TD HL n rows l := by
  obtain ⟨a, ⟨x, y, b⟩, c, d⟩ := H
  refine ⟨K _ (S _ a) (News.ne N0 (S _ a) hP fun e => by cases congrArg Obj.data e), ⟨x, y, K _ (S _ b) (News.ne N0 (S _ b) hP fun e => by cases congrArg Obj.data e)⟩, K _ (S _ c) (News.ne N0 (S _ c) hP fun e => by cases congrArg Obj.cls e), fun r hr => K _ (S _ (d r hr)) (News.ne N0 (S _ (d r hr)) hP fun e => by cases congrArg Obj.cls e)⟩
theorem kept_one {C' P D a : Addr} {k : Nat} {us : List Value} {l₀ l : Led} {h₀ h : Heap} {L : Addr} {o : Obj} (N0 : News h₀ L h l₀) (K : Kept P l₀ l) (hP : (P, accO C' D us k) ∈ l₀) (ha : (a, o) ∈ l₀) (hne : o ≠ accO C' D us k) : (a, o) ∈ l := K _ ha (News.ne N0 ha hP hne)
end
section
open PySem PySem.W PySem.Calls PyProof.Rows PySem.Builtin PySem.Builtin.Str
section
variable {prog : Program} {w : World} {A : Around} {E : Value → Shared → Prop} {s : Shared} {h₀ : Heap} {L : Addr} {m : Mp} {env : Env}
/-- the tuple stands in the ledger -/
def TupIn (ax : Addr) (its : Array Value) (nw : Led) : Prop := ∃ o, (ax, o) ∈ nw ∧ o.cls = .type "tuple" ∧ ∃ n, o.data = .seq its n
theorem TupIn.at {ax : Addr} {its : Array Value} {nw : Led} {h : Heap} (S : TupIn ax its nw) (N : News h₀ L h nw) : h.IsTuple ax its := by
  obtain ⟨o, ho, r⟩ := S; exact ⟨o, (N _ ho).1, r⟩
def CompSrcU (prog : Program) (w : World) (A : Around) (h₀ : Heap) (L : Addr) (m : Mp) (env : Env) (ct elt : Expr) (x : Str) (scope : Scope) (cl : List (Str × Addr)) (Fin : Shared → List Value → Led → Prop) (xv : Value) (s₁ : Shared) : Prop :=
  ∃ ax its news, xv = .ref ax ∧ A.handled = none ∧ Fr h₀ L s₁.heap m ∧ News h₀ L s₁.heap news ∧ TupIn ax its news ∧ its.size ≤ sizeLine ∧
    ∀ g, LCt.CompRestT prog w A h₀ L m env ct elt x scope cl { s₁ with heap := g } (TupIn ax its) (fun i v => its[i]? = some v) (Fin { s₁ with heap := g }) its.size 0 [] news
/-- a comprehension with one test over a tuple of the ledger -/
theorem ListComp_Tup {ct elt iter : Expr} {x : Str} {px : Pos} {scope : Scope} {cl : List (Str × Addr)} {pos : Pos} {Q : Value → Shared → Prop} (_F₀ : Fr h₀ L s.heap m)
    (hclos : closureFor scope env = pure cl) (hcell : ∀ y ∈ scope.names, y.2 ≠ .cell) (hkind : scope.kind = .function)
    (hnames : ∀ y ∈ scope.names, y.2 = .local → scope.names.lookup y.1 = some .local) (hx : scope.names.lookup x = some .local)
    (h : wpAny (model prog w) A (eval iter env) (CompSrcU prog w A h₀ L m env ct elt x scope cl (fun s₂ => LCg.FinE h₀ L m s₂ Q)) E s)
    (hs : ∀ x, foldedSetIterable iter env x = pure x := by intro _; rfl) :
    wpAny (model prog w) A (eval (.ListComp elt [⟨.Name x px, iter, [ct], 0⟩] scope pos) env) Q E s := by
  rw [eval_ListComp]
  refine wpAny_comprehension_free (use := none) rfl hs hclos hkind hnames (wpAny_mono h (fun xv s₁ h₁ => ?_) fun _ _ e => e)
  obtain ⟨ax, its, news, rfl, hh, F, N, S, hsz, R⟩ := h₁
  have ht := S.at N
  have hlt : ax < s₁.heap.objs.size := by obtain ⟨_, e, _⟩ := ht; exact Heap.lt_size e
  refine wpAny_pyIter_tuple ht ?_
  have up : ∀ b o, s₁.heap.get? b = some o → (s₁.heap.push { cls := .type "tuple_iterator", data := .fields #[.ref ax, .int 0 0] }).get? b = some o := fun b o e => Heap.get?_push_of_some _ e
  have hst : ∀ (i : Nat) (h h' : Heap) (o : Obj) (nw : Led), (h.IsTupleIter s₁.heap.objs.size ax i ∧ h.IsTuple ax its) → h.get? s₁.heap.objs.size = some o → h'.get? s₁.heap.objs.size = some o → (∀ b o, h₀.get? b = some o → h'.get? b = some o) → News h₀ L h' nw → TupIn ax its nw → (h'.IsTupleIter s₁.heap.objs.size ax i ∧ h'.IsTuple ax its) :=
    fun i h h' o nw st e e' _ N S => ⟨by obtain ⟨o', q, r⟩ := st.1; rw [e] at q; cases q; exact ⟨o, e', r⟩, S.at N⟩
  refine LCt.block_T (Walks.tuple hh s₁.heap.objs.size ax (Nat.ne_of_lt hlt) its) hsz (fun i h st => by obtain ⟨o, e, _⟩ := st.1; exact ⟨o, e⟩) hst hcell hkind hx ⟨⟨_, Heap.get?_push_size _ rfl, rfl, rfl⟩, ht.at fun o e => up _ o e⟩ (fun b hb => ?_)
    (F.keeps up) (N.grown up) (Nat.ne_of_lt F.ns.lt) (next_is_new F) (fun p hp => Nat.ne_of_lt (Heap.lt_size (N p hp).1)) S (R _) ?_
  · show b < (s₁.heap.push _).objs.size
    rw [Heap.size_push]
    rcases List.mem_cons.mp hb with rfl | hb
    · exact Nat.lt_succ_self _
    · rw [List.mem_singleton.mp hb]; exact Nat.lt_succ_of_lt hlt
  · intro D C h tk m' ys news' F' N' o1 hn hC₀ hD₀ hCL hDL hCD offC fin
    refine ⟨m', hn, fun h'' hs'' => fin D h'' tk (F'.change hs'' hCL hC₀) (fun p hp => ?_) o1⟩
    refine ⟨hs''.extBut _ _ ?_ (N' p hp).1, (N' p hp).2⟩
    rcases List.mem_cons.mp hp with rfl | hp
    · exact Ne.symm hCD
    · exact offC p hp
theorem CompSrcU.led {ct elt : Expr} {x : Str} {scope : Scope} {cl : List (Str × Addr)} {Fin : Shared → List Value → Led → Prop} {ax : Addr} {o : Obj} {its : Array Value} {k : Nat} {news : Led} {s₁ : Shared}
    (hh : A.handled = none) (F : Fr h₀ L s₁.heap m) (N : News h₀ L s₁.heap news) (hm : (ax, o) ∈ news) (hc : o.cls = .type "tuple") (hd : o.data = .seq its k) (hsz : its.size ≤ sizeLine)
    (h : ∀ g, LCt.CompRestT prog w A h₀ L m env ct elt x scope cl { s₁ with heap := g } (TupIn ax its) (fun i v => its[i]? = some v) (Fin { s₁ with heap := g }) its.size 0 [] news) :
    CompSrcU prog w A h₀ L m env ct elt x scope cl Fin (.ref ax) s₁ := ⟨ax, its, news, rfl, hh, F, N, ⟨o, hm, hc, k, hd⟩, hsz, h⟩
end
end
section
open PySem PySem.W PySem.Calls PyProof.Rows PySem.Builtin PySem.Builtin.Str
theorem turn_recell {h₀ h : Heap} {L I c1 c2 c3 c4 : Addr} {oI o1 o2 o3 o4 : Obj} {v1 v2 v3 v4 : Option Value} {news' : Led} (N : News h₀ L h news') (hI : (I, oI) ∈ news') (h4 : (c4, o4) ∈ news') (h3 : (c3, o3) ∈ news') (h2 : (c2, o2) ∈ news') (h1 : (c1, o1) ∈ news')
    (n4 : c4 ≠ I) (n3 : c3 ≠ I) (n2 : c2 ≠ I) (n1 : c1 ≠ I) (e4 : o4.data = .cell v4) (e3 : o3.data = .cell v3) (e2 : o2.data = .cell v2) (e1 : o1.data = .cell v1) :
    ∃ X, News h₀ L h ((I, oI) :: (c4, o4) :: (c3, o3) :: (c2, o2) :: (c1, o1) :: X) ∧ (∀ p ∈ (c4, o4) :: (c3, o3) :: (c2, o2) :: (c1, o1) :: X, p.1 ≠ I) ∧ ((∀ p ∈ X, p.1 ≠ c1) ∧ (∀ p ∈ X, p.1 ≠ c2) ∧ (∀ p ∈ X, p.1 ≠ c3) ∧ (∀ p ∈ X, p.1 ≠ c4)) ∧ Stay X (but I news') := by
  have Nb : News h₀ L h (but I news') := fun p hp => N p (mem_but.mp hp).1
  obtain ⟨X, N', x1, x2, x3, x4, S⟩ := recell Nb (mem_but.mpr ⟨h4, n4⟩) (mem_but.mpr ⟨h3, n3⟩) (mem_but.mpr ⟨h2, n2⟩) (mem_but.mpr ⟨h1, n1⟩) e4 e3 e2 e1
  refine ⟨X.filter (fun p => p.1 != I), ?_, ?_, ⟨?_, ?_, ?_, ?_⟩, ?_⟩
  · intro p hp
    simp only [List.mem_cons] at hp
    rcases hp with rfl | rfl | rfl | rfl | rfl | hp
    · exact N _ hI
    · exact N _ h4
    · exact N _ h3
    · exact N _ h2
    · exact N _ h1
    · exact N' _ (.tail _ (.tail _ (.tail _ (.tail _ (mem_but.mp hp).1))))
  · intro p hp
    simp only [List.mem_cons] at hp
    rcases hp with rfl | rfl | rfl | rfl | hp
    · exact n4
    · exact n3
    · exact n2
    · exact n1
    · exact (mem_but.mp hp).2
  · exact fun p hp => x1 p (mem_but.mp hp).1
  · exact fun p hp => x2 p (mem_but.mp hp).1
  · exact fun p hp => x3 p (mem_but.mp hp).1
  · exact fun p hp => x4 p (mem_but.mp hp).1
  · exact fun p hp hd => mem_but.mpr ⟨S p hp hd, (mem_but.mp hp).2⟩
/-- the row's blanks and letters, letter by letter of the word -/
def marksOf (rows : List Row4) (c : Nat) : List Str := getAll ⟨#[c]⟩ rows
def ledRow (rows : List Row4) (r : List (Str × Str)) (c : Nat) : List (Str × Str) := led1 (marksOf rows c) r (Str.ofString "") (Str.ofString "")
def strip5 (cs : List Nat) : Str := ⟨((cs.take 5).map lo1).toArray⟩
def row0 (cs : List Nat) : List (Str × Str) := (List.range 5).map (fun p => (blanks p, Txt.item (strip5 cs) (p : Int)))
/-- what get_all tells of a letter is what was laid under it -/
theorem one_get {cs : List Nat} {rows : List Row4} (hxs : ∀ c ∈ cs, isL c = true) (hcl : cs.length = 9) (h : xyOf rows = base3 ++ laidN.map (hdr cs)) {c : Nat} (hc : isL c = true) :
    getAll ⟨#[c]⟩ rows = (laidN.filter (fun p : Nat => Txt.item (strip5 cs) (p : Int) == ⟨#[lo1 c]⟩)).map blanks := by
  rw [getAll_xy, h, low1 hc, List.filter_append]
  have e1 : base3.filter (fun p => Txt.lower p.1 == ⟨#[lo1 c]⟩) = [] := by
    refine List.filter_eq_nil_iff.mpr fun p hp => ?_
    intro e
    have hlen : (Txt.lower p.1).cps.size = 1 := by rw [eq_of_beq e]; rfl
    simp only [base3, List.mem_cons, List.not_mem_nil, or_false] at hp
    rcases hp with rfl | rfl | rfl <;> revert hlen <;> decide +kernel
  rw [e1, List.nil_append, List.filter_map, List.map_map]
  have e2 : laidN.filter ((fun p : Str × Str => Txt.lower p.1 == ⟨#[lo1 c]⟩) ∘ hdr cs) = laidN.filter (fun p : Nat => Txt.item (strip5 cs) (p : Int) == ⟨#[lo1 c]⟩) := by
    refine List.filter_congr fun q hq => ?_
    have hq5 : q < 5 := by simp [laidN] at hq; omega
    show (Txt.lower (Txt.item ⟨cs.toArray⟩ (q : Int)) == _) = _
    rw [item_let hcl (by omega), low1 (getD_isL hxs hcl (by omega))]
    congr 1
    unfold strip5
    rw [W.item_meets (by constructor; omega; show (q : Int) < (((cs.take 5).map lo1).toArray.size : Nat); simp [hcl]; omega)]
    simp only [Int.toNat_natCast]
    congr 2
    simp [List.getD_eq_getElem?_getD, List.getElem?_take, hq5, List.getElem?_eq_getElem (show q < cs.length by omega)]
  rw [e2]
  rfl
theorem led1_x (mk : List Str) (B : Nat) : ∀ (r : List (Str × Str)) (held place : Str), held.length ≤ B → (∀ p ∈ r, p.1.length ≤ B) → ∀ p ∈ led1 mk r held place, p.1.length ≤ B
  | [], _, _, _, _ => fun p hp => by simp [led1] at hp
  | (g, l) :: r, held, place, h1, h2 => by
    intro p hp
    rw [led1] at hp
    split at hp
    · rcases List.mem_cons.mp hp with rfl | hp
      · exact h1
      · exact led1_x mk B r g _ (h2 (g, l) (.head _)) (fun q hq => h2 q (.tail _ hq)) p hp
    · rcases List.mem_cons.mp hp with rfl | hp
      · exact h2 (g, l) (.head _)
      · exact led1_x mk B r held _ h1 (fun q hq => h2 q (.tail _ hq)) p hp
theorem led1_len (mk : List Str) : ∀ (r : List (Str × Str)) (held place : Str), (led1 mk r held place).length = r.length
  | [], _, _ => rfl
  | (g, l) :: r, held, place => by
    rw [led1]; split <;> simp [led1_len mk r]
theorem row0_x (cs : List Nat) : ∀ p ∈ row0 cs, p.1.length ≤ 5 := by
  intro p hp
  obtain ⟨q, hq, rfl⟩ := List.mem_map.mp hp
  have := List.mem_range.mp hq
  show (blanks q).length ≤ 5
  rw [len_blanks this]; omega
theorem ledRows_x (rows : List Row4) (cs : List Nat) : ∀ (ws : List Nat) (r : List (Str × Str)), (∀ p ∈ r, p.1.length ≤ 5) → ∀ p ∈ ws.foldl (ledRow rows) r, p.1.length ≤ 5
  | [], _, h => h
  | c :: ws, r, h => ledRows_x rows cs ws _ (led1_x _ 5 r _ _ (Nat.zero_le _) h)
theorem ledRows_len (rows : List Row4) : ∀ (ws : List Nat) (r : List (Str × Str)), (ws.foldl (ledRow rows) r).length = r.length
  | [], _ => rfl
  | c :: ws, r => (ledRows_len rows ws _).trans (led1_len _ _ _ _)
theorem isL_lo {c : Nat} (h : isL c = true) : isL (lo1 c) = true := by
  rcases isL_cases h with h | h | h | h | h | h <;> subst h <;> rfl
/-- the tuple of the places -/
abbrev laidO (ts : Tok × Tok × Tok × Tok × Tok × Tok × Tok × Tok × Tok × Tok) : Obj := { cls := .type "tuple", data := .seq #[.int 4 ts.1, .int 3 ts.2.1, .int 2 ts.2.2.1, .int 1 ts.2.2.2.1, .int 0 ts.2.2.2.2.1, .int 4 ts.2.2.2.2.2.1, .int 3 ts.2.2.2.2.2.2.1, .int 2 ts.2.2.2.2.2.2.2.1, .int 1 ts.2.2.2.2.2.2.2.2.1, .int 0 ts.2.2.2.2.2.2.2.2.2] }
theorem laidO_of {D : Addr} {X : Led} {a b c d e f g h j k : Tok} (hm : (D, ({ cls := .type "tuple", data := .seq #[.int 4 a, .int 3 b, .int 2 c, .int 1 d, .int 0 e, .int 4 f, .int 3 g, .int 2 h, .int 1 j, .int 0 k] } : Obj)) ∈ X) : ∃ ts, (D, laidO ts) ∈ X := ⟨(a, b, c, d, e, f, g, h, j, k), hm⟩
theorem marks_len {l : List (Str × Tok)} {name : Str} {rows : List Row4} (e : l.map (·.1) = getAll name rows) (h : rows.length ≤ 1000) : l.length ≤ 1000 := by
  have := congrArg List.length e
  unfold getAll at this
  rw [List.length_map, List.length_map] at this
  have h2 := List.length_filter_le (fun r : Row4 => Txt.lower r.x == Txt.lower name) rows
  omega
theorem rs_facts {rs : List Row4} {rows : List Row4} {cs ws : List Nat} (h : xyOf rs = ws.foldl (ledRow rows) (row0 cs)) : rs.length = 5 ∧ ∀ r ∈ rs, r.x.length ≤ 5 := by
  constructor
  · have := congrArg List.length h
    rw [ledRows_len] at this
    simpa [xyOf, row0] using this
  · intro r hr
    have hm : (r.x, r.y) ∈ xyOf rs := List.mem_map.mpr ⟨r, hr, rfl⟩
    rw [h] at hm
    exact ledRows_x rows cs ws _ (row0_x cs) _ hm
end
section
open PySem PySem.W PySem.Calls PyProof.Rows PySem.Builtin PySem.Builtin.Str
theorem ledRow_y (mk : List Str) : ∀ (r : List (Str × Str)) (held place : Str), (led1 mk r held place).map (·.2) = r.map (·.2)
  | [], _, _ => rfl
  | (g, l) :: r, held, place => by
    rw [led1]; split <;> simp [ledRow_y mk r]
theorem ledRows_y (rows : List Row4) : ∀ (ws : List Nat) (r : List (Str × Str)), (ws.foldl (ledRow rows) r).map (·.2) = r.map (·.2)
  | [], _ => rfl
  | c :: ws, r => (ledRows_y rows ws _).trans (ledRow_y _ _ _ _)
theorem row_facts {rs : List Row4} {rows : List Row4} {cs ws : List Nat} (h : xyOf rs = ws.foldl (ledRow rows) (row0 cs)) : rs.length ≤ 900 ∧ ∀ r ∈ rs, r.x.length ≤ 1000 ∧ r.y.length ≤ 1000 := by
  obtain ⟨h1, h2⟩ := rs_facts h
  refine ⟨by omega, fun r hr => ⟨Nat.le_trans (h2 r hr) (by decide), ?_⟩⟩
  have e : (xyOf rs).map (·.2) = (row0 cs).map (·.2) := by rw [h, ledRows_y]
  have hm : r.y ∈ (xyOf rs).map (·.2) := List.mem_map.mpr ⟨(r.x, r.y), List.mem_map.mpr ⟨r, hr, rfl⟩, rfl⟩
  rw [e] at hm
  obtain ⟨p, hp, e2⟩ := List.mem_map.mp hm
  obtain ⟨q, _, rfl⟩ := List.mem_map.mp hp
  rw [← e2]
  exact Nat.le_trans (Nat.le_of_eq (show (Txt.item (strip5 cs) (q : Int)).length = 1 from rfl)) (by decide)
theorem TabAt.move {C T TD HL : Addr} {P : Params} {n : Nat} {rows : List Row4} {X X' : Led} (S : ∀ p ∈ X, p.2.cls ≠ .none → (∀ v, p.2.data ≠ .cell v) → p ∈ X') (H : TabAt C P T TD HL n rows X) : TabAt C P T TD HL n rows X' := by
  obtain ⟨a, ⟨x, y, b⟩, c, d⟩ := H
  exact ⟨S _ a (fun e => by cases e) (fun v e => by cases e), ⟨x, y, S _ b (fun e => by cases e) (fun v e => by cases e)⟩, S _ c (fun e => by cases e) (fun v e => by cases e), fun r hr => S _ (d r hr) (fun e => by cases e) (fun v e => by cases e)⟩
theorem AccAt.move {C P D : Addr} {k : Int} {n : Nat} {rows : List Row4} {X X' : Led} (S : ∀ p ∈ X, p.2.cls ≠ .none → (∀ v, p.2.data ≠ .cell v) → p ∈ X') (H : AccAt C P D k n rows X) : AccAt C P D k n rows X' := by
  obtain ⟨a, ⟨x, y, z, b⟩, d⟩ := H
  exact ⟨S _ a (fun e => by cases e) (fun v e => by cases e), ⟨x, y, z, S _ b (fun e => by cases e) (fun v e => by cases e)⟩, fun r hr => S _ (d r hr) (fun e => by cases e) (fun v e => by cases e)⟩
/-- a code table was written: the rest stands -/
theorem tab_recell {h₀ h hO : Heap} {L c1 c2 c3 c4 q : Addr} {oq oq' o1 o2 o3 o4 : Obj} {v1 v2 v3 v4 : Option Value} {X : Led} (N0 : News h₀ L hO ((c4, o4) :: (c3, o3) :: (c2, o2) :: (c1, o1) :: X)) (N : News h₀ L h ((q, oq') :: but q ((c4, o4) :: (c3, o3) :: (c2, o2) :: (c1, o1) :: X))) (hq : (q, oq) ∈ X) (hqc : oq.cls = .none) (hqd : ∀ v, oq'.data ≠ .cell v)
    (n4 : c4 ≠ q) (n3 : c3 ≠ q) (n2 : c2 ≠ q) (n1 : c1 ≠ q) (e4 : o4.data = .cell v4) (e3 : o3.data = .cell v3) (e2 : o2.data = .cell v2) (e1 : o1.data = .cell v1) :
    ∃ X', News h₀ L h ((c4, o4) :: (c3, o3) :: (c2, o2) :: (c1, o1) :: X') ∧ ((∀ p ∈ X', p.1 ≠ c1) ∧ (∀ p ∈ X', p.1 ≠ c2) ∧ (∀ p ∈ X', p.1 ≠ c3) ∧ (∀ p ∈ X', p.1 ≠ c4)) ∧ (q, oq') ∈ X' ∧ (∀ p ∈ X, p.2.cls ≠ .none → (∀ v, p.2.data ≠ .cell v) → p ∈ X') ∧ ∀ p ∈ X, p.1 ≠ q → (∀ v, p.2.data ≠ .cell v) → p ∈ X' := by
  obtain ⟨X', N', x1, x2, x3, x4, S⟩ := recell N (.tail _ (mem_but.mpr ⟨.head _, n4⟩)) (.tail _ (mem_but.mpr ⟨.tail _ (.head _), n3⟩)) (.tail _ (mem_but.mpr ⟨.tail _ (.tail _ (.head _)), n2⟩)) (.tail _ (mem_but.mpr ⟨.tail _ (.tail _ (.tail _ (.head _))), n1⟩)) e4 e3 e2 e1
  have hm : ∀ p ∈ X, p.1 ≠ q → (∀ v, p.2.data ≠ .cell v) → p ∈ X' := fun p hp hne hd => S p (.tail _ (mem_but.mpr ⟨.tail _ (.tail _ (.tail _ (.tail _ hp))), hne⟩)) hd
  refine ⟨X', N', ⟨x1, x2, x3, x4⟩, S _ (.head _) hqd, fun p hp hc hd => hm p hp (News.ne N0 (o := p.2) (a := p.1) (.tail _ (.tail _ (.tail _ (.tail _ hp)))) (.tail _ (.tail _ (.tail _ (.tail _ hq)))) fun e => hc (e ▸ hqc)) hd, hm⟩
end
section
open PySem PySem.W PySem.Calls PyProof.Rows PySem.Builtin PySem.Builtin.Str
theorem strR_cat (rs : List Row4) : strR rs = ⟨(rs.flatMap fun r => r.x.cps.toList ++ r.y.cps.toList).toArray⟩ := by
  unfold strR
  refine (join_flat _).trans ?_
  congr 2
  rw [List.flatMap_map]
  congr 1
  funext r
  rw [join2, cps_append]
theorem strR_len (rs : List Row4) : (strR rs).length = lenR rs := by
  rw [strR_cat]
  show (List.toArray _).size = _
  rw [List.size_toArray]
  unfold lenR
  induction rs with
  | nil => rfl
  | cons r rs ih =>
    rw [List.flatMap_cons, List.length_append, ih, List.map_cons, List.sum_cons, List.length_append]
    rfl
theorem lenR_le (rs : List Row4) (h : ∀ r ∈ rs, r.x.length ≤ 1000 ∧ r.y.length ≤ 1000) : lenR rs ≤ 2000 * rs.length := by
  unfold lenR
  induction rs with
  | nil => simp
  | cons r rs ih =>
    have := ih fun q hq => h q (.tail _ hq)
    have h1 := h r (.head _)
    simp only [List.map_cons, List.sum_cons, List.length_cons]
    omega
theorem fmod3 (k : Int) : 0 ≤ k.fmod 3 ∧ k.fmod 3 ≤ 2 := by
  rw [Int.fmod_eq_emod_of_nonneg _ (by decide)]; omega
end
section
open PySem PySem.W PySem.Calls PyProof.Rows PySem.Builtin PySem.Builtin.Str
theorem row_ys {rs : List Row4} {rows : List Row4} {cs ws : List Nat} (h : xyOf rs = ws.foldl (ledRow rows) (row0 cs)) : rs.map (·.y) = (List.range 5).map (fun p : Nat => Txt.item (strip5 cs) (p : Int)) := by
  have e : (xyOf rs).map (·.2) = (row0 cs).map (·.2) := by rw [h, ledRows_y]
  simpa [xyOf, row0, List.map_map, Function.comp_def] using e
theorem row_y {rs : List Row4} {rows : List Row4} {cs ws : List Nat} (h : xyOf rs = ws.foldl (ledRow rows) (row0 cs)) {j : Nat} (hj : j < 5) (hl : j < rs.length) : rs[j].y = Txt.item (strip5 cs) (j : Int) := by
  have e := row_ys h
  have e2 := congrArg (fun l => l[j]?) e
  simp only [List.getElem?_map] at e2
  rw [List.getElem?_eq_getElem hl, List.getElem?_range hj] at e2
  exact Option.some.inj e2
end
section
open PySem PySem.W PySem.Calls PyProof.Rows PySem.Builtin PySem.Builtin.Str
theorem led_gl {prog : Program} {w : World} {A : Around} {E : Value → Shared → Prop} {s : Shared} {h₀ : Heap} {L : Addr} {news : Led} {value slice : Expr} {D : Addr} {n k : Nat} {gl : List (Str × Tok)} {u : Tok} {Q : Value → Shared → Prop} (N : News h₀ L s.heap news) (hm : (D, listOf (strValues gl).toArray n) ∈ news) (hk : k < gl.length) (hz : gl.length ≤ 1000)
    (h : ∀ t, Q (.str ((gl.map (·.1)).getD k Str.empty) t) s)
    (hs : subscripted slice false (.ref D) (.int (k : Int) u) = operate [.ref D, .int (k : Int) u] (getItem (.ref D) (.int (k : Int) u)) := by with_unfolding_all rfl) :
    wpAny (model prog w) A (subscriptTail value slice (.ref D) (.int (k : Int) u)) Q E s := by
  refine led_item N hm (by omega) (by omega) (j := k) ?_ (v := .str gl[k].1 gl[k].2) ?_ ?_ hs
  · unfold seqIndex?
    have e : (strValues gl).length = gl.length := by simp [strValues]
    simp [e]; omega
  · simp [strValues, List.getElem?_eq_getElem hk]
  · have e : (gl.map (·.1)).getD k Str.empty = gl[k].1 := by
      rw [List.getD_eq_getElem?_getD, List.getElem?_map, List.getElem?_eq_getElem hk]; rfl
    have := h gl[k].2
    rw [e] at this; exact this
theorem low59w {cs : List Nat} {a b c d : Nat} (h : ∀ c ∈ cs, isL c = true) (hl : cs.length = 9) (hw : (cs.drop 5).map lo1 = [a, b, c, d]) : Txt.lower (Txt.slice ⟨cs.toArray⟩ (some 5) none) = ⟨#[a, b, c, d]⟩ := by
  rw [low59 h hl, hw]
theorem four {cs : List Nat} (hl : cs.length = 9) : ∃ a b c d, (cs.drop 5).map lo1 = [a, b, c, d] := by
  have : ((cs.drop 5).map lo1).length = 4 := by simp [hl]
  match (cs.drop 5).map lo1, this with
  | [a, b, c, d], _ => exact ⟨a, b, c, d, rfl⟩
theorem whole_eq {rs : List Row4} {rows : List Row4} {cs ws : List Nat} (h : xyOf rs = ws.foldl (ledRow rows) (row0 cs)) (hl : rs.length = 5) :
    strR rs = Txt.join (Str.ofString "") ((List.range 5).map fun k => (rs.map (·.x)).getD k Str.empty ++ Txt.item (strip5 cs) (k : Int)) := by
  rw [strR_cat, join_flat, List.flatMap_map]
  congr 2
  have hy := row_ys h
  match rs, hl with
  | [a, b, c, d, e], _ =>
    simp only [List.map_cons, List.map_nil, show List.range 5 = [0, 1, 2, 3, 4] from rfl, List.cons.injEq] at hy
    obtain ⟨h0, h1, h2, h3, h4, _⟩ := hy
    simp only [List.map_cons, List.map_nil, show List.range 5 = [0, 1, 2, 3, 4] from rfl, List.flatMap_cons, List.flatMap_nil, cps_append, h0, h1, h2, h3, h4]
    rfl
theorem join5_small {rs : List Row4} {cs : List Nat} (hx : ∀ r ∈ rs, r.x.length ≤ 5) : (((List.range 5).map fun k => (rs.map (·.x)).getD k Str.empty ++ Txt.item (strip5 cs) (k : Int)).map (·.length)).sum + ((List.range 5).map fun k => (rs.map (·.x)).getD k Str.empty ++ Txt.item (strip5 cs) (k : Int)).length * (Str.ofString "").length ≤ 16777216 := by
  have e0 : (Str.ofString "").length = 0 := by rfl
  have e1 : ∀ k, ((rs.map (·.x)).getD k Str.empty).length ≤ 5 := fun k => by
    rw [List.getD_eq_getElem?_getD, List.getElem?_map]
    cases hk : rs[k]? with
    | none => exact Nat.zero_le _
    | some r => exact hx r (List.mem_of_getElem? hk)
  have e2 : ∀ k : Nat, ((rs.map (·.x)).getD k Str.empty ++ Txt.item (strip5 cs) (k : Int)).length ≤ 6 := fun k => by
    rw [len_app]
    have := e1 k
    have : (Txt.item (strip5 cs) (k : Int)).length = 1 := rfl
    omega
  rw [e0]
  have a0 := e2 0
  have a1 := e2 1
  have a2 := e2 2
  have a3 := e2 3
  have a4 := e2 4
  simp only [show List.range 5 = [0, 1, 2, 3, 4] from rfl, List.map_cons, List.map_nil, List.sum_cons, List.sum_nil]
  omega
end
section
open PySem PySem.W PySem.Calls PyProof.Rows PySem.Builtin PySem.Builtin.Str
abbrev frS (cs : List Nat) (f : Nat) : Str := Txt.slice ⟨((cs.take 5).map lo1).toArray⟩ (some ((f : Int) - 1)) (some (f : Int))
abbrev txS (cs : List Nat) (f l : Nat) : Str := Txt.slice ⟨((cs.take 5).map lo1).toArray⟩ (some (f : Int)) (some (l : Int))
abbrev bkS (cs : List Nat) (l : Nat) : Str := Txt.slice ⟨((cs.take 5).map lo1).toArray⟩ (some (l : Int)) (some ((l : Int) + 1))
def toldN (gs : List Str) (f l : Nat) : Nat := (((gs.drop f).take (l - f)).filter (fun g => decide ((g.length : Int) ≤ (f : Int)))).length
theorem len_frS {cs : List Nat} (h : cs.length = 9) (f : Nat) : (frS cs f).length ≤ 5 := Nat.le_trans (len_slice_le _ _ _) (by show ((cs.take 5).map lo1).toArray.size ≤ 5; simp [h])
theorem len_txS {cs : List Nat} (h : cs.length = 9) (f l : Nat) : (txS cs f l).length ≤ 5 := Nat.le_trans (len_slice_le _ _ _) (by show ((cs.take 5).map lo1).toArray.size ≤ 5; simp [h])
theorem len_bkS {cs : List Nat} (h : cs.length = 9) (l : Nat) : (bkS cs l).length ≤ 5 := Nat.le_trans (len_slice_le _ _ _) (by show ((cs.take 5).map lo1).toArray.size ≤ 5; simp [h])
theorem lo_three {c : Nat} (h : isL c = true) : lo1 c = 97 ∨ lo1 c = 98 ∨ lo1 c = 99 := by
  rcases isL_cases h with h | h | h | h | h | h <;> subst h <;> decide
theorem los_three {l : List Nat} (h : ∀ c ∈ l, isL c = true) : ∀ x ∈ l.map lo1, x = 97 ∨ x = 98 ∨ x = 99 := fun x hx => by
  obtain ⟨c, hc, rfl⟩ := List.mem_map.mp hx
  exact lo_three (h c hc)
theorem no_dot {l : List Nat} (h : ∀ x ∈ l, x = 97 ∨ x = 98 ∨ x = 99) : 46 ∉ l := fun hm => by
  rcases h _ hm with h | h | h <;> cases h
theorem frS_eq {cs : List Nat} (hcl : cs.length = 9) {f : Nat} (hf : f < 5) : frS cs f = mk (((cs.take 5).map lo1).take f |>.drop (f - 1)) := by
  by_cases h0 : f = 0
  · subst h0
    obtain ⟨a, b, c, d, e, f, g, i, j, rfl⟩ := nine hcl
    rfl
  · have := slice_mid ((cs.take 5).map lo1) (f - 1) f (by omega) (by simp [hcl]; omega)
    rw [show ((f - 1 : Nat) : Int) = (f : Int) - 1 from by omega] at this
    unfold frS
    rw [this, show f - (f - 1) = 1 from by omega, List.drop_take, show f - (f - 1) = 1 from by omega]
theorem txS_eq {cs : List Nat} (hcl : cs.length = 9) {f l : Nat} (h : f ≤ l) (hl : l ≤ 5) : txS cs f l = mk ((((cs.take 5).map lo1).drop f).take (l - f)) :=
  slice_mid ((cs.take 5).map lo1) f l h (by simp [hcl]; omega)
theorem bkS_eq {cs : List Nat} (hcl : cs.length = 9) {l : Nat} (hl : l ≤ 5) : bkS cs l = mk ((((cs.take 5).map lo1).drop l).take 1) := by
  by_cases h5 : l = 5
  · subst h5
    obtain ⟨a, b, c, d, e, f, g, i, j, rfl⟩ := nine hcl
    rfl
  · have := slice_mid ((cs.take 5).map lo1) l (l + 1) (by omega) (by simp [hcl]; omega)
    rw [show ((l + 1 : Nat) : Int) = (l : Int) + 1 from by omega, show l + 1 - l = 1 from by omega] at this
    exact this
/-- no letter alone is both ends of a pattern, or its other size -/
theorem wants_no {cs : List Nat} (hxs : ∀ c ∈ cs, isL c = true) (hcl : cs.length = 9) {f : Nat} (h0 : f ≠ 0) (h5 : f < 5) :
    em (frS cs f ++ Str.ofString "..." ++ frS cs f) (frS cs f) = false ∧ em (Txt.upper (frS cs f) ++ Str.ofString "...") (frS cs f) = false ∧ em (Str.ofString "..." ++ Txt.upper (frS cs f)) (frS cs f) = false := by
  have hT := los_three (l := cs.take 5) fun c hc => hxs c (List.mem_of_mem_take hc)
  have e : ∃ x, frS cs f = mk [x] ∧ (x = 97 ∨ x = 98 ∨ x = 99) := by
    rw [frS_eq hcl h5, List.drop_take, show f - (f - 1) = 1 from by omega]
    have hlt : f - 1 < ((cs.take 5).map lo1).length := by simp [hcl]; omega
    rw [List.drop_eq_getElem_cons hlt]
    exact ⟨_, rfl, hT _ (List.getElem_mem hlt)⟩
  obtain ⟨x, e, hx⟩ := e
  rw [e]
  rcases hx with rfl | rfl | rfl <;> decide +kernel
def blk (j : Nat) : Str := mk (List.replicate j 32)
theorem blk_next (j : Nat) : blk j ++ Str.ofString " " = blk (j + 1) := by
  have e : Str.ofString " " = mk [32] := by decide +kernel
  unfold blk
  rw [e, mk_append, List.replicate_succ']
theorem blk_inj {i j : Nat} (h : blk i = blk j) : i = j := by
  have := congrArg Str.length h
  unfold blk at this
  rw [mk_len, mk_len] at this
  simpa using this
theorem blanks_blk {p : Nat} (hp : p < 5) : blanks p = blk (p + 1) := by
  have : p = 0 ∨ p = 1 ∨ p = 2 ∨ p = 3 ∨ p = 4 := by omega
  rcases this with rfl | rfl | rfl | rfl | rfl <;> decide +kernel
theorem led_pass {mks : List Str} {c : Nat} : ∀ (r : List (Str × Str)) (ss : List Nat) (held : Str) (j : Nat), r.length = ss.length → (∀ i x, ss[i]? = some x → mks.any (· == blk (j + i + 1)) = decide (x = c)) →
    (led1 mks r held (blk j)).map (fun p => p.1.length) = pass c (r.map fun p => p.1.length) ss held.length
  | [], ss, _, _, _, _ => by simp [led1, pass]
  | (g, l) :: r, [], _, _, h, _ => by simp at h
  | (g, l) :: r, s :: ss, held, j, h, hm => by
    have h0 := hm 0 s rfl
    have hn : ∀ i x, ss[i]? = some x → mks.any (· == blk (j + 1 + i + 1)) = decide (x = c) := fun i x hx => by
      have := hm (i + 1) x (by simpa using hx)
      rwa [show j + (i + 1) + 1 = j + 1 + i + 1 from by omega] at this
    rw [led1, blk_next, List.map_cons, pass, h0]
    by_cases hc : s = c ∨ held.length > g.length
    · rw [if_pos hc, if_pos (by simpa using hc), List.map_cons, led_pass r ss g (j + 1) (by simpa using h) hn]
    · rw [if_neg hc, if_neg (by simpa using hc), List.map_cons, led_pass r ss held (j + 1) (by simpa using h) hn]
theorem marks_at {cs : List Nat} {rows : List Row4} (hxs : ∀ c ∈ cs, isL c = true) (hcl : cs.length = 9) (h : xyOf rows = base3 ++ laidN.map (hdr cs)) {c : Nat} (hc : isL c = true) (i x : Nat) (hx : ((cs.take 5).map lo1)[i]? = some x) :
    (marksOf rows c).any (· == blk (0 + i + 1)) = decide (x = lo1 c) := by
  have hi : i < 5 := by
    have := (List.getElem?_eq_some_iff.mp hx).1
    simp [hcl] at this; omega
  have hit : Txt.item (strip5 cs) (i : Int) = mk [x] := by
    unfold strip5
    rw [W.item_meets (by constructor; omega; show (i : Int) < (((cs.take 5).map lo1).toArray.size : Nat); simp [hcl]; omega)]
    simp only [Int.toNat_natCast]
    have := StrLaws.getD_of_getElem? (x := mk ((cs.take 5).map lo1)) (v := i) (c := x) (by simpa using hx)
    rw [this]
  unfold marksOf
  rw [one_get hxs hcl h hc, List.any_map, Nat.zero_add, Bool.eq_iff_iff, List.any_eq_true, decide_eq_true_eq]
  constructor
  · rintro ⟨p, hp, e⟩
    obtain ⟨hp1, hp2⟩ := List.mem_filter.mp hp
    have hp5 : p < 5 := by simp [laidN] at hp1; omega
    have e' := eq_of_beq e
    rw [blanks_blk hp5] at e'
    have : p = i := by have := blk_inj e'; omega
    subst this
    rw [hit] at hp2
    have := congrArg (fun s : Str => s.cps.toList) (eq_of_beq hp2)
    simpa using this
  · rintro rfl
    refine ⟨i, List.mem_filter.mpr ⟨?_, ?_⟩, ?_⟩
    · have : i = 0 ∨ i = 1 ∨ i = 2 ∨ i = 3 ∨ i = 4 := by omega
      rcases this with rfl | rfl | rfl | rfl | rfl <;> decide
    · rw [hit]; exact beq_self_eq_true _
    · show (blanks i == blk (i + 1)) = true
      rw [blanks_blk hi]; exact beq_self_eq_true _
theorem ledRow_pass {cs : List Nat} {rows : List Row4} (hxs : ∀ c ∈ cs, isL c = true) (hcl : cs.length = 9) (h : xyOf rows = base3 ++ laidN.map (hdr cs)) : ∀ (ws : List Nat) (r : List (Str × Str)), (∀ c ∈ ws, isL c = true) → r.length = 5 →
    (ws.foldl (ledRow rows) r).map (fun p => p.1.length) = (ws.map lo1).foldl (fun g c => pass c g ((cs.take 5).map lo1) 0) (r.map fun p => p.1.length)
  | [], _, _, _ => rfl
  | c :: ws, r, hw, hr => by
    rw [List.foldl_cons, List.map_cons, List.foldl_cons, ledRow_pass hxs hcl h ws _ (fun d hd => hw d (.tail _ hd)) (show (ledRow rows r c).length = 5 from (led1_len _ _ _ _).trans hr)]
    congr 1
    unfold ledRow
    have e0 : Str.ofString "" = blk 0 := by decide +kernel
    have := led_pass (mks := marksOf rows c) (c := lo1 c) r ((cs.take 5).map lo1) (blk 0) 0 (by simp [hcl, hr]) (marks_at hxs hcl h (hw c (.head _)))
    rw [e0, this]
    rfl
theorem row0_len (cs : List Nat) : (row0 cs).map (fun p => p.1.length) = [1, 2, 3, 4, 5] := by
  unfold row0
  rw [List.map_map]
  show (List.range 5).map (fun p : Nat => (blanks p).length) = _
  decide +kernel
theorem toldN_lcs {cs : List Nat} {rows rs : List Row4} {a b c d : Nat} (hxs : ∀ c ∈ cs, isL c = true) (hcl : cs.length = 9) (hxy : xyOf rows = base3 ++ laidN.map (hdr cs)) (hrs : xyOf rs = (cs.drop 5).foldl (ledRow rows) (row0 cs)) (hw : (cs.drop 5).map lo1 = [a, b, c, d]) (f l : Nat) :
    toldN (rs.map (·.x)) f l = lcs [d, c, b, a] ((((cs.take 5).map lo1).drop f).take (l - f)).reverse := by
  have h1 := ledRow_pass hxs hcl hxy (cs.drop 5) (row0 cs) (fun c hc => hxs c (List.mem_of_mem_drop hc)) (by simp [row0])
  rw [← hrs, row0_len, hw] at h1
  have h2 := told_fold [a, b, c, d] [] _ (told_first ((cs.take 5).map lo1) (by simp [hcl]))
  rw [← h1] at h2
  have h3 := told_count h2 f (l - f)
  simp only [List.reverse_cons, List.reverse_nil, List.nil_append, List.append_nil, List.cons_append] at h3
  rw [← h3]
  unfold toldN
  have e : (xyOf rs).map (fun p => p.1.length) = (rs.map (·.x)).map (·.length) := by simp [xyOf]
  rw [e]
  generalize rs.map (·.x) = gs
  rw [← List.map_drop, ← List.map_take, List.filter_map, List.length_map]
  refine congrArg List.length (List.filter_congr fun g _ => ?_)
  simp only [Function.comp_apply, decide_eq_decide]
  omega
def subW (a b c d : Nat) (n : Nat) : List Nat := ([0, 1, 2, 3].filter (bitAt n)).map fun k => [a, b, c, d].getD k 0
theorem part_sub (a b c d n : Nat) : partL a b c d n = (subW a b c d n).flatMap fun x => [x, 46, 46, 46] := by
  unfold partL subW
  rw [List.flatMap_map]
  cases h0 : bitAt n 0 <;> cases h1 : bitAt n 1 <;> cases h2 : bitAt n 2 <;> cases h3 : bitAt n 3 <;> simp [List.filter_cons, h0, h1, h2, h3, pieceL]
theorem sub_len (l : List Nat) : (l.flatMap fun x => [x, 46, 46, 46]).length = 4 * l.length := by
  induction l with
  | nil => rfl
  | cons a r ih => rw [List.flatMap_cons, List.length_append, ih]; simp; omega
theorem subW_sub (a b c d n : Nat) : (subW a b c d n).Sublist [a, b, c, d] := by
  have := (List.filter_sublist (p := bitAt n) (l := [0, 1, 2, 3])).map fun k => [a, b, c, d].getD k 0
  exact this
theorem sub_subW {a b c d : Nat} {u : List Nat} (h : u.Sublist [a, b, c, d]) : ∃ n, n < 16 ∧ u = subW a b c d n := by
  have hb : ∀ b0 b1 b2 b3 : Bool, ∃ n, n < 16 ∧ [0, 1, 2, 3].filter (bitAt n) = (if b0 then [0] else []) ++ (if b1 then [1] else []) ++ (if b2 then [2] else []) ++ (if b3 then [3] else []) := by decide +kernel
  simp only [List.sublist_cons_iff, List.sublist_nil] at h
  have key : ∃ b0 b1 b2 b3 : Bool, u = (if b0 then [a] else []) ++ (if b1 then [b] else []) ++ (if b2 then [c] else []) ++ (if b3 then [d] else []) := by
    rcases h with (((rfl | ⟨r, rfl, rfl⟩) | ⟨r, rfl, (rfl | ⟨r, rfl, rfl⟩)⟩) | ⟨r, rfl, ((rfl | ⟨r, rfl, rfl⟩) | ⟨r, rfl, (rfl | ⟨r, rfl, rfl⟩)⟩)⟩) | ⟨r, rfl, (((rfl | ⟨r, rfl, rfl⟩) | ⟨r, rfl, (rfl | ⟨r, rfl, rfl⟩)⟩) | ⟨r, rfl, ((rfl | ⟨r, rfl, rfl⟩) | ⟨r, rfl, (rfl | ⟨r, rfl, rfl⟩)⟩)⟩)⟩
    · exact ⟨false, false, false, false, rfl⟩
    · exact ⟨false, false, false, true, rfl⟩
    · exact ⟨false, false, true, false, rfl⟩
    · exact ⟨false, false, true, true, rfl⟩
    · exact ⟨false, true, false, false, rfl⟩
    · exact ⟨false, true, false, true, rfl⟩
    · exact ⟨false, true, true, false, rfl⟩
    · exact ⟨false, true, true, true, rfl⟩
    · exact ⟨true, false, false, false, rfl⟩
    · exact ⟨true, false, false, true, rfl⟩
    · exact ⟨true, false, true, false, rfl⟩
    · exact ⟨true, false, true, true, rfl⟩
    · exact ⟨true, true, false, false, rfl⟩
    · exact ⟨true, true, false, true, rfl⟩
    · exact ⟨true, true, true, false, rfl⟩
    · exact ⟨true, true, true, true, rfl⟩
  obtain ⟨b0, b1, b2, b3, rfl⟩ := key
  obtain ⟨n, hn, e⟩ := hb b0 b1 b2 b3
  refine ⟨n, hn, ?_⟩
  unfold subW
  rw [e]
  cases b0 <;> cases b1 <;> cases b2 <;> cases b3 <;> rfl
/-- some part of j letters is a part of the text -/
theorem some_part {a b c d j : Nat} {s : List (Str × Tok)} (h : PS a b c d 16 j s) {front back text : List Nat} (hf : 46 ∉ front) (hb : 46 ∉ back) (hw : 46 ∉ [a, b, c, d]) :
    ((s.map (·.1)).any fun p => em (mk front ++ Str.ofString "..." ++ p ++ mk back) (mk front ++ mk text ++ mk back)) = true ↔ ∃ u : List Nat, u.Sublist [a, b, c, d] ∧ u.Sublist text ∧ u.length = j := by
  have hsub : ∀ n, 46 ∉ subW a b c d n := fun n hm => hw ((subW_sub a b c d n).subset hm)
  rw [List.any_eq_true]
  constructor
  · rintro ⟨p, hp, e⟩
    obtain ⟨n, _, rfl, hl⟩ := (h.2 p).mp hp
    rw [part_sub] at e hl
    rw [em_sub hf hb (hsub n)] at e
    rw [sub_len] at hl
    exact ⟨_, subW_sub a b c d n, List.isSublist_iff_sublist.mp e, by omega⟩
  · rintro ⟨u, h1, h2, rfl⟩
    obtain ⟨n, hn, rfl⟩ := sub_subW h1
    refine ⟨_, (h.2 _).mpr ⟨n, hn, rfl, by rw [part_sub, sub_len]⟩, ?_⟩
    rw [part_sub, em_sub hf hb (hsub n)]
    exact List.isSublist_iff_sublist.mpr h2
/-- what the blanks tell is the longest common word -/
theorem told_law {cs : List Nat} {rows rs : List Row4} {a b c d : Nat} {s0 s1 s2 s3 s4 : List (Str × Tok)} (hxs : ∀ c ∈ cs, isL c = true) (hcl : cs.length = 9) (hxy : xyOf rows = base3 ++ laidN.map (hdr cs)) (hrs : xyOf rs = (cs.drop 5).foldl (ledRow rows) (row0 cs)) (hw : (cs.drop 5).map lo1 = [a, b, c, d])
    (h0 : PS a b c d 16 0 s0) (h1 : PS a b c d 16 1 s1) (h2 : PS a b c d 16 2 s2) (h3 : PS a b c d 16 3 s3) (h4 : PS a b c d 16 4 s4) {f l : Nat} (hf : f < 5) (hl : f < l) (hl5 : l ≤ 5) :
    toldN (rs.map (·.x)) f l ≤ 4 ∧ ((([s0, s1, s2, s3, s4, []].getD (toldN (rs.map (·.x)) f l) []).map (·.1)).any fun p => em (frS cs f ++ Str.ofString "..." ++ p ++ bkS cs l) (frS cs f ++ txS cs f l ++ bkS cs l)) = true ∧
      ((([s0, s1, s2, s3, s4, []].getD (toldN (rs.map (·.x)) f l + 1) []).map (·.1)).any fun p => em (frS cs f ++ Str.ofString "..." ++ p ++ bkS cs l) (frS cs f ++ txS cs f l ++ bkS cs l)) = false := by
  have hT := los_three (l := cs.take 5) fun c hc => hxs c (List.mem_of_mem_take hc)
  have hW := no_dot (los_three (l := cs.drop 5) fun c hc => hxs c (List.mem_of_mem_drop hc))
  rw [hw] at hW
  have hF : 46 ∉ (((cs.take 5).map lo1).take f).drop (f - 1) := no_dot fun x hx => hT x (List.mem_of_mem_take (List.mem_of_mem_drop hx))
  have hB : 46 ∉ (((cs.take 5).map lo1).drop l).take 1 := no_dot fun x hx => hT x (List.mem_of_mem_drop (List.mem_of_mem_take hx))
  rw [toldN_lcs hxs hcl hxy hrs hw, frS_eq hcl hf, txS_eq hcl (Nat.le_of_lt hl) hl5, bkS_eq hcl hl5]
  generalize (((cs.take 5).map lo1).take f).drop (f - 1) = front at hF ⊢
  generalize (((cs.take 5).map lo1).drop l).take 1 = back at hB ⊢
  generalize (((cs.take 5).map lo1).drop f).take (l - f) = text
  have hle := lcs_le [d, c, b, a] text.reverse
  obtain ⟨u, u1, u2, u3⟩ := lcs_some [d, c, b, a] text.reverse
  have hmost := lcs_most [d, c, b, a] text.reverse
  generalize lcs [d, c, b, a] text.reverse = n at *
  have hyes : ∃ u : List Nat, u.Sublist [a, b, c, d] ∧ u.Sublist text ∧ u.length = n :=
    ⟨u.reverse, by simpa using u1.reverse, by simpa using u2.reverse, by simpa using u3⟩
  have hno : ¬ ∃ u : List Nat, u.Sublist [a, b, c, d] ∧ u.Sublist text ∧ u.length = n + 1 := by
    rintro ⟨v, v1, v2, v3⟩
    have := hmost v.reverse (by simpa using v1.reverse) v2.reverse
    simp at this
    omega
  have yes : ∀ {s : List (Str × Tok)}, PS a b c d 16 n s → ((s.map (·.1)).any fun p => em (mk front ++ Str.ofString "..." ++ p ++ mk back) (mk front ++ mk text ++ mk back)) = true := fun h => (some_part h hF hB hW).mpr hyes
  have no : ∀ {s : List (Str × Tok)}, PS a b c d 16 (n + 1) s → ((s.map (·.1)).any fun p => em (mk front ++ Str.ofString "..." ++ p ++ mk back) (mk front ++ mk text ++ mk back)) = false := fun h => by
    rw [Bool.eq_false_iff]; exact fun e => hno ((some_part h hF hB hW).mp e)
  have hn : n = 0 ∨ n = 1 ∨ n = 2 ∨ n = 3 ∨ n = 4 := by simp at hle; omega
  refine ⟨by omega, ?_⟩
  rcases hn with rfl | rfl | rfl | rfl | rfl
  · exact ⟨yes h0, no h1⟩
  · exact ⟨yes h1, no h2⟩
  · exact ⟨yes h2, no h3⟩
  · exact ⟨yes h3, no h4⟩
  · exact ⟨yes h4, rfl⟩
end
section
open PySem PySem.W PySem.Calls PyProof.Rows PySem.Builtin PySem.Builtin.Str
section
variable {prog : Program} {w : World} {A : Around} {E : Value → Shared → Prop} {s : Shared} {h₀ : Heap} {L : Addr} {m : Mp} {news : Led} {value slice : Expr}
theorem slice_gl {D : Addr} {n i l : Nat} {u u' : Tok} {gl : List (Str × Tok)} {Q : Value → Shared → Prop} (F : Fr h₀ L s.heap m) (N : News h₀ L s.heap news) (hm : (D, listOf (strValues gl).toArray n) ∈ news) (hi : i ≤ l) (hl : l ≤ gl.length) (hz : gl.length ≤ 1000)
    (h : ∀ D' h', Fr h₀ L h' m → News h₀ L h' ((D', listOf (strValues ((gl.drop i).take (l - i))).toArray 0) :: news) → (∀ p ∈ news, p.1 < D') → Q (.ref D') { s with heap := h' })
    (hs : subscripted slice false (.ref D) (.ref s.heap.objs.size) = operate [.ref s.heap.objs.size, .ref D] (getItem (.ref D) (.ref s.heap.objs.size)) := by with_unfolding_all rfl) (ht : ∀ r, letTemporaryGo value (.ref D) r = pure () := by intro _; with_unfolding_all rfl) :
    wpAny (model prog w) A (subscriptTail value slice (.ref D) (.ref s.heap.objs.size)) Q E { s with heap := s.heap.push { cls := .type "slice", data := .fields #[.int (i : Int) u, .int (l : Int) u', .none] } } := by
  have e : (strValues gl).length = gl.length := by simp [strValues]
  refine kmk_slice_lit F N (led_list N hm) (IsPart.int _ _) (IsPart.int _ _) (zs := strValues ((gl.drop i).take (l - i))) ?_ h hs ht (by have := sizeLine_eq; simp [e]; omega)
  rw [slicePick_run _ i l (by simp [e]; omega) hi]
  simp [strValues, List.map_take, List.map_drop]
theorem led_ps {PL a0 a1 a2 a3 a4 a5 : Addr} {k : Nat} {q : Int} {u : Tok} {Q : Value → Shared → Prop} (N : News h₀ L s.heap news) (hm : (PL, listOf #[Value.ref a0, Value.ref a1, Value.ref a2, Value.ref a3, Value.ref a4, Value.ref a5] 0) ∈ news) (hq : q = (k : Int)) (hk : k ≤ 5)
    (h : Q (.ref ([a0, a1, a2, a3, a4, a5].getD k 0)) s)
    (hs : subscripted slice false (.ref PL) (.int q u) = operate [.ref PL, .int q u] (getItem (.ref PL) (.int q u)) := by with_unfolding_all rfl) :
    wpAny (model prog w) A (subscriptTail value slice (.ref PL) (.int q u)) Q E s := by
  subst hq
  refine led_item (vs := [Value.ref a0, Value.ref a1, Value.ref a2, Value.ref a3, Value.ref a4, Value.ref a5]) N hm (by omega) (by omega) (j := k) ?_ (v := .ref ([a0, a1, a2, a3, a4, a5].getD k 0)) ?_ h hs
  · unfold seqIndex?; simp; omega
  · have : k = 0 ∨ k = 1 ∨ k = 2 ∨ k = 3 ∨ k = 4 ∨ k = 5 := by omega
    rcases this with rfl | rfl | rfl | rfl | rfl | rfl <;> rfl
theorem ps_in {a0 a1 a2 a3 a4 a5 : Addr} {k0 k1 k2 k3 k4 : Nat} {s0 s1 s2 s3 s4 : List (Str × Tok)} {X : Led} (h5 : (a5, listOf #[] 0) ∈ X) (h4 : (a4, listOf (strValues s4).toArray k4) ∈ X) (h3 : (a3, listOf (strValues s3).toArray k3) ∈ X) (h2 : (a2, listOf (strValues s2).toArray k2) ∈ X) (h1 : (a1, listOf (strValues s1).toArray k1) ∈ X) (h0 : (a0, listOf (strValues s0).toArray k0) ∈ X) {k : Nat} (hk : k ≤ 5) :
    ([a0, a1, a2, a3, a4, a5].getD k 0, listOf (strValues ([s0, s1, s2, s3, s4, []].getD k [])).toArray ([k0, k1, k2, k3, k4, 0].getD k 0)) ∈ X := by
  have : k = 0 ∨ k = 1 ∨ k = 2 ∨ k = 3 ∨ k = 4 ∨ k = 5 := by omega
  rcases this with rfl | rfl | rfl | rfl | rfl | rfl
  · exact h0
  · exact h1
  · exact h2
  · exact h3
  · exact h4
  · exact h5
theorem ps_len {a b c d : Nat} {s0 s1 s2 s3 s4 : List (Str × Tok)} (h0 : PS a b c d 16 0 s0) (h1 : PS a b c d 16 1 s1) (h2 : PS a b c d 16 2 s2) (h3 : PS a b c d 16 3 s3) (h4 : PS a b c d 16 4 s4) (k : Nat) : ∀ p ∈ [s0, s1, s2, s3, s4, []].getD k [], p.1.length ≤ 100 := by
  have key : ∀ {j : Nat} {s : List (Str × Tok)}, PS a b c d 16 j s → j ≤ 4 → ∀ p ∈ s, p.1.length ≤ 100 := fun {j s} h hj p hp => by
    obtain ⟨b', _, e, hl⟩ := (h.2 p.1).mp (List.mem_map.mpr ⟨p, hp, rfl⟩)
    rw [e]
    show (List.toArray _).size ≤ 100
    rw [List.size_toArray, hl]; omega
  match k with
  | 0 => exact key h0 (by omega)
  | 1 => exact key h1 (by omega)
  | 2 => exact key h2 (by omega)
  | 3 => exact key h3 (by omega)
  | 4 => exact key h4 (by omega)
  | k + 5 => intro p hp; cases k <;> simp at hp
theorem told_len {gl : List (Str × Tok)} {lt : List (Str × Tok)} {gs : List Str} {i l : Nat} (hg : gl.map (·.1) = gs) (h : lt.map (·.1) = (((gl.drop i).take (l - i)).filter (fun p => decide ((p.1.length : Int) ≤ (i : Int)))).map (·.1)) : (strValues lt).length = toldN gs i l := by
  have e : (strValues lt).length = (lt.map (·.1)).length := by simp [strValues]
  rw [e, h, ← hg]
  unfold toldN
  rw [← List.map_drop, ← List.map_take, List.filter_map, List.length_map, List.length_map]
  rfl
end
end
theorem wellSaid1 : (PySem.Challenge.rw_wb0072_01).wellSaid = true := by kernel_rfl
theorem fill1 : K1 = K1 ∧ PySem.Challenge.rw_wb0072_01 = PySem.Challenge.rw_wb0072_01 := by k_fill; exact ⟨rfl, rfl⟩
/-- what is left to show of the law, and that it is enough -/
abbrev Cut : Type := { P : Prop // P → PySem.Challenge.rw_wb0072_01.Holds }
structure Hide (P : Prop) : Prop where
  out : P
def mkCut {P : Prop} (h : Hide P → PySem.Challenge.rw_wb0072_01.Holds) : Cut := ⟨P, fun p => h ⟨p⟩⟩
set_option maxHeartbeats 8000000 in
noncomputable def cut3 : Cut := by
  refine' mkCut ?h
  case h =>
    intro hP
    w_on
    refine holds_law (l := PySem.Challenge.rw_wb0072_01) wellSaid1 fun said => ?_
    refine PySem.W.holds_open (q := view0) (loose := loose0) (Xt := fun s => xlAt view0 [] s && recOk (RowW.records (OpenRow.toRowW (PySem.Challenge.rw_wb0072_01).row)) s) (XP := XL view0 []) (Yf := hook1.obs) (Ya := hook1.val) (YP := hook1.says) (N := 3622) left1 hook1.of hook1.keeps (fun s e => xl_of s (Bool.and_eq_true_iff.mp e).1) XL.keeps (by rfl) (by rfl) (by rfl) (fun s e => recFacts_of (Bool.and_eq_true_iff.mp e).2) (by rfl) (by first | assumption | decide +kernel) (by decide +kernel) ⟨rfl, rfl, rfl, rfl, rfl, by decide +kernel⟩ ?hw ?hc
    (case hw => w_witness2)
    clear said
    k_fill
    intro w s₀ s₁ mg mb G Y fa o pm cd doc dV kV ho hd hcd hD hmg hg args vals as hpre hlay hrd hwl hlo
    have KX := km_in_of Y
    have hT8 := km_tabs_of Y
    lge_behind G ho hd hcd hD hmg hpre hlay hrd hwl hlo cd
    rename_i zq15 zq16 zq17 zq18 zq19 zq20 zq21 zq22 zq23 zq24 zq25 zq26 zq27 zq29 zq30 zq31 zq32 zq33 zq34 zq35 zq36 zq37 zq38 zq39 zq40 zq41 zq42 zq43 zq44 zq45 zq46 zq47 zq48 zq50 zq51 zq52 zq53 zq54 zq55 zq56 zq57 zq58 zq59 zq60 zq61 zq62 zq63
    revert w s₀ s₁ mg mb G Y fa o pm doc ho hg KX hT8 zq15 zq16 zq17 zq18 zq19 zq20 zq21 zq22 zq23 zq24 zq25 zq26 zq27 hcd zq29 zq30 zq31 zq32 zq33 zq34 zq35 zq36 zq37 zq38 zq39 zq40 zq41 zq42 zq43 zq44 zq45 zq46 zq47 zq48 hD zq50 zq51 zq52 zq53 zq54 zq55 zq56 zq57 zq58 zq59 zq60 zq61 zq62 zq63
    exact hP.out
set_option maxHeartbeats 8000000 in
noncomputable def cut4 : Cut := by
  refine' mkCut ?h
  case h =>
    intro hP
    refine cut3.2 ?_
    intro w
    intros
    rename_i h₁ tk₁ hF w4 w3 w2 w1 d4 d3 d2 d1 hN hX0 hM
    rename Shared => s₁
    rename World => w
    rename Top _ _ _ _ _ _ => hT
    rename (∀ P ∈ [235, 242], _ = _) => hT8
    rename Frag.In _ _ => hX
    rename IntsAre _ _ => hI
    rename Heap.IsList _ _ _ => hL
    rename (_ = #[]) => hg
    rename (¬ _ < _) => hlen
    have t1 := hT8 235 (by simp)
    have t2 := hT8 242 (by simp)
    have T1 := hid_top hT t1 t2 rfl rfl (by decide +kernel)
    have X1 := hid_in hX (by kernel_rfl)
    have F1 := hid_fr hF
    have N1 := hid_news hF hN t1 t2
    have B1 := below_caller (hid s₁.heap)
    have L1 : (hid s₁.heap).IsList _ _ := hL.at fun o e => hid_get e (fun q => by subst q; obtain ⟨o', e', c, _⟩ := hL; rw [t1] at e'; cases e'; cases c) (fun q => by subst q; obtain ⟨o', e', c, _⟩ := hL; rw [t2] at e'; cases e'; cases c)
    refine wpAny_mono (E := fun _ _ => False) (Q := fun f s' => f = .ret (.bool true) ∧ LawEnd (hid s₁.heap) s₁.heap.objs.size s₁ s') ?walk ?conv (fun _ _ e => e.elim)
    case conv =>
      intro f s' h
      obtain ⟨rfl, h⟩ := h
      refine ⟨?v, law_old hX (c1 := 239) (c2 := 246) ⟨_, _, _, _, _, _, _, _, _, by k_is, rfl, rfl, rfl, rfl, rfl, rfl, rfl, rfl⟩ ⟨_, _, _, _, _, _, _, _, _, by k_is, rfl, rfl, rfl, rfl, rfl, rfl, rfl, rfl⟩ (by decide) (by decide) t1 t2 h⟩
      case v => exact .inl ⟨_, .bool true, [], rfl, fun _ => rfl, .bool _ , postW_of (by wrow_shape) (by wtm_val) (by str_meet; first | done | w_fin), fun _ => ⟨List.nodup_nil, fun a ha => nomatch ha⟩⟩
    have hss := sizeLine_eq
    clear B1
    rename Below _ _ _ _ => zK
    rename TopE _ _ _ _ => z1
    rename TopW _ _ _ => z2
    rename Tables _ _ _ _ => z3
    rename BMod _ _ _ _ _ => z4
    rename Based _ _ _ _ _ => z5
    rename Glob _ _ _ _ _ _ _ _ => z6
    rename Ground _ _ _ _ _ _ _ _ _ => z7
    rename Heap.CodeRec _ _ _ => z9
    rename LooseAre _ _ _ => z10
    rename Flt.MathXP _ _ _ => z11
    rename CellsAre _ _ _ => z12
    clear hM hF hN hL zK z1 z2 z3 z4 z5 z6 z9 z10 z11
    refine Fr.fold F1 ?_
    clear F1
    intro mB F1
    have B1 := below_caller (hid s₁.heap)
    have q1 : 235 < s₁.heap.objs.size := Heap.lt_size t1
    have q2 : 242 < s₁.heap.objs.size := Heap.lt_size t2
    have m1 : (235 : Addr) ≠ s₁.heap.objs.size + 1 := Nat.ne_of_lt (by omega)
    have m2 : (235 : Addr) ≠ s₁.heap.objs.size + 1 + 1 := Nat.ne_of_lt (by omega)
    have m3 : (235 : Addr) ≠ s₁.heap.objs.size + 1 + 1 + 1 := Nat.ne_of_lt (by omega)
    have m4 : (235 : Addr) ≠ s₁.heap.objs.size + 1 + 1 + 1 + 1 := Nat.ne_of_lt (by omega)
    have m5 : (242 : Addr) ≠ s₁.heap.objs.size + 1 := Nat.ne_of_lt (by omega)
    have m6 : (242 : Addr) ≠ s₁.heap.objs.size + 1 + 1 := Nat.ne_of_lt (by omega)
    have m7 : (242 : Addr) ≠ s₁.heap.objs.size + 1 + 1 + 1 := Nat.ne_of_lt (by omega)
    have m8 : (242 : Addr) ≠ s₁.heap.objs.size + 1 + 1 + 1 + 1 := Nat.ne_of_lt (by omega)
    repeat' (first | (k_unfold; (try dsimp only)) | (k_end; wrow_close) | (with_reducible (first | (k_here; (with_reducible show wpAny _ _ (call (Value.ref 182) _ _) _ _ _); k_dflt (refine' (tab_new _ _ _ _ _ _ ⟨_, Str.ofString "ab", _, Str.ofString "", _⟩ ⟨_, Str.ofString "bc", _, Str.ofString "", _⟩ ⟨_, Str.ofString "ca", _, Str.ofString "", _⟩ ?c1 ?c2 ?c3 ?c4 ?c5 ?c6) _ _ _ _ _ _ _ _ _ _ _ _ _ _ _ _ _ _ ?gB ?gF ?gX ?gN ?gT ?gk ?gp ?gd ?gu ?_; walk_at "gclaim"; (case gp => (refine ⟨show (_, listOf #[Value.ref _, Value.ref _, Value.ref _] _) ∈ _ from (by k_mem), ?_⟩; intro r hr; simp only [List.mem_cons, List.not_mem_nil, or_false] at hr; rcases hr with hr | hr | hr <;> (subst hr; dsimp only [Row4.ent]; k_mem))); (case c1 => exact clean_ab); (case c2 => exact clean_e); (case c3 => exact clean_bc); (case c4 => exact clean_e); (case c5 => exact clean_ca); (case c6 => exact clean_e); intro T' TD' h' tk' F' hN'; (try dsimp only); (try k_fold))) | (k_here; (with_reducible show wpAny _ _ (call (Value.builtin "str.lower") _) _ _ _); k_dflt (refine' low_r ?jy ?jz ?_; (case jy => first | with_reducible exact low1 (by assumption) | with_reducible exact low5 (by assumption) (by assumption) | with_reducible exact low59 (by assumption) (by assumption)); (case jz => first | exact Nat.le_trans (len_slice_le _ _ _) (len9 (by assumption)) | exact Nat.le_of_ble_eq_true rfl); intro t' k')) | (k_here; (with_reducible show wpAny _ _ (call (Value.ref 282) _ _) _ _ _); k_dflt (refine' (spelled_ok _ _ _ _ _ _ _ ?ghi ?ghn) _ _ _ _ _ _ _ _ _ _ _ _ _ _ _ _ _ _ ?gB ?gF ?gX ?gN ?gT ?gk ?gp ?gd ?gu ?_; walk_at "gclaim"; (case gp => assumption); (case ghi => assumption); (case ghn => omega); intro cs' t' h' tk' hcl' hcs' F' N'; (try dsimp only); (try k_fold))))) | walk1 | (dsimp only; first | (with_reducible (first | (k_here; (with_reducible show wpAny _ _ (call (Value.ref 182) _ _) _ _ _); k_dflt (refine' (tab_new _ _ _ _ _ _ ⟨_, Str.ofString "ab", _, Str.ofString "", _⟩ ⟨_, Str.ofString "bc", _, Str.ofString "", _⟩ ⟨_, Str.ofString "ca", _, Str.ofString "", _⟩ ?c1 ?c2 ?c3 ?c4 ?c5 ?c6) _ _ _ _ _ _ _ _ _ _ _ _ _ _ _ _ _ _ ?gB ?gF ?gX ?gN ?gT ?gk ?gp ?gd ?gu ?_; walk_at "gclaim"; (case gp => (refine ⟨show (_, listOf #[Value.ref _, Value.ref _, Value.ref _] _) ∈ _ from (by k_mem), ?_⟩; intro r hr; simp only [List.mem_cons, List.not_mem_nil, or_false] at hr; rcases hr with hr | hr | hr <;> (subst hr; dsimp only [Row4.ent]; k_mem))); (case c1 => exact clean_ab); (case c2 => exact clean_e); (case c3 => exact clean_bc); (case c4 => exact clean_e); (case c5 => exact clean_ca); (case c6 => exact clean_e); intro T' TD' h' tk' F' hN'; (try dsimp only); (try k_fold))) | (k_here; (with_reducible show wpAny _ _ (call (Value.builtin "str.lower") _) _ _ _); k_dflt (refine' low_r ?jy ?jz ?_; (case jy => first | with_reducible exact low1 (by assumption) | with_reducible exact low5 (by assumption) (by assumption) | with_reducible exact low59 (by assumption) (by assumption)); (case jz => first | exact Nat.le_trans (len_slice_le _ _ _) (len9 (by assumption)) | exact Nat.le_of_ble_eq_true rfl); intro t' k')) | (k_here; (with_reducible show wpAny _ _ (call (Value.ref 282) _ _) _ _ _); k_dflt (refine' (spelled_ok _ _ _ _ _ _ _ ?ghi ?ghn) _ _ _ _ _ _ _ _ _ _ _ _ _ _ _ _ _ _ ?gB ?gF ?gX ?gN ?gT ?gk ?gp ?gd ?gu ?_; walk_at "gclaim"; (case gp => assumption); (case ghi => assumption); (case ghn => omega); intro cs' t' h' tk' hcl' hcs' F' N'; (try dsimp only); (try k_fold))))) | walk1) | (leave1; try dsimp only) | fail "no step")
    rename List Nat => cs
    rename (∀ c ∈ cs, isL c = true) => hxs
    rename cs.length = 9 => hcl
    rename (_ = Data.cell (some (Value.str _ _))) => dS
    rename (∃ n, News _ _ _ n ∧ _) => hN9
    obtain ⟨n9, N2, hTab, hs9⟩ := hN9
    obtain ⟨X1', N3, y1, y2, y3, y4, hS⟩ := recell N2 (hs9 (s₁.heap.objs.size + 1 + 1 + 1 + 1, _) (by k_mem)) (hs9 (s₁.heap.objs.size + 1 + 1 + 1, _) (by k_mem)) (hs9 (s₁.heap.objs.size + 1 + 1, _) (by k_mem)) (hs9 (s₁.heap.objs.size + 1, _) (by k_mem)) d4 d3 d2 dS
    rename_i zq1 zq3 zq4 zq6 zq7 zq8 zq9 zq10 zq11 zq16 zq17 zq18 zq19 zq20 zq21 zq22 zq23 zq24 zq25 zq26 zq27 zq28 zq29 zq30 zq31 zq32 zq33 zq35 zq37 zq38 zq69 zq70 zq71 zq74 zq75 zq76 zq77 zq78 zq79 zq80 zq81 zq84 zq85 zq87 zq89 zq90 zq91 zq92 zq93 zq94 zq95 zq96 zq97 zq98 zq99 zq100 zq101 zq102
    clear z7 zq6 zq11 hX hT8 hT zq16 zq17 zq19 zq22 zq23 zq26 zq27 zq30 zq31 zq32 zq33 zq35 hlen zq37 h₁ tk₁ w1 d1 z12 t1 t2 L1 q1 q2 zq70 zq71 zq74 zq75 zq76 zq78 zq79 zq87 zq90 zq93 zq94 zq96 zq97 zq99 zq100 zq101 N2
    revert w zq1 s₁ zq3 zq4 zq7 zq8 zq9 zq10 hg zq18 zq20 zq21 zq24 zq25 zq28 zq29 hI zq38 w4 w3 w2 d4 d3 d2 T1 X1 hss mB B1 m1 m2 m3 m4 m5 m6 m7 m8 cs zq69 hcl hxs zq77 zq80 zq81 t' k' zq84 zq85 dS tk zq89 zq91 zq92 zq95 zq98 zq102 T' TD' h' tk' F' qk ek n9 hTab hs9 X1' N3 y1 y2 y3 y4 hS
    exact hP.out
set_option maxHeartbeats 8000000 in
noncomputable def cut5 : Cut := by
  refine' mkCut ?h
  case h =>
    intro hP
    refine cut4.2 ?_
    intro w s₀ s₁ mg mb fa o pm doc hg w_3 w_5 hs hr hl2 w_8 w_9 hI hD w4 w3 w2 d4 d3 d2 T1 X1 hss mB B1 m1 m2 m3 m4 m5 m6 m7 m8 cs t' hcl hxs tk k a t'_2 k' h'_3 o' dS tk_1 D' l1 D'_1 D'_2 l' l1_3 T' TD' h'_9 tk'_1 F'_1 qk_1 ek_1 n9 hTab hs9 X1' N3 y1 y2 y3 y4 hS
    repeat' (first | (k_unfold; (try dsimp only)) | (k_end; wrow_close) | (with_reducible (first | (k_here; (with_reducible show wpAny _ _ (pyIter (Value.ref _)) (fun it s₂ => TurnsAt _ _ _ _ _ _ _ _ _ it s₂) _ _); k_dflt (refine stopHere ?_)) | (k_here; (with_reducible show wpAny _ _ (exec (Stmt.For (Expr.Name _ _) (Expr.Name _ _) _ _ _) _) _ _ _); (rename Fr _ _ _ _ => lF'); k_dflt (with_unfolding_all refine' For_turns lF' ?_; k_whole)))) | walk1 | (dsimp only; first | (with_reducible (first | (k_here; (with_reducible show wpAny _ _ (pyIter (Value.ref _)) (fun it s₂ => TurnsAt _ _ _ _ _ _ _ _ _ it s₂) _ _); k_dflt (refine stopHere ?_)) | (k_here; (with_reducible show wpAny _ _ (exec (Stmt.For (Expr.Name _ _) (Expr.Name _ _) _ _ _) _) _ _ _); (rename Fr _ _ _ _ => lF'); k_dflt (with_unfolding_all refine' For_turns lF' ?_; k_whole)))) | walk1) | (leave1; try dsimp only) | fail "no step")
    show wpAny _ _ _ _ _ _
    rename News _ _ _ _ => N0
    rename Fr _ _ _ _ => FA2
    refine Fr.fold FA2 ?_
    clear FA2
    intro mA2 FA2
    refine' turns_tuple (vs := [Value.int 4 _, Value.int 3 _, Value.int 2 _, Value.int 1 _, Value.int 0 _, Value.int 4 _, Value.int 3 _, Value.int 2 _, Value.int 1 _, Value.int 0 _]) (fun m₀ l₀ i m l => (∀ z, z ∉ [Str.ofString "place"] → m z = m₀ z) ∧ ∃ n rows, TabAt 182 w.params T' TD' l' n rows l ∧ xyOf rows = base3 ++ (laidN.take i).map (hdr cs) ∧ Kept l' l₀ l) ?hh ?hD ?hoc ?hod ?hF ?hN ?hj ?turn ?done
    case hh => rfl
    case hF => k_asm
    case hN => k_asm
    case hD => exact .head _
    case hoc => rfl
    case hod => rfl
    case hj => exact ⟨fun _ _ => rfl, _, _, (hTab.stay hS).sub (fun p hp => .tail _ (.tail _ (.tail _ (.tail _ (.tail _ hp))))), rfl, fun p hp _ => hp⟩
    case turn =>
      rintro I i v m₁ news₁ h tk oI hcI hv ⟨hz, n, rows, hTb, hxy, hK⟩ hoff hD F N
      rw [eq_over hz] at F
      try dsimp only [over, List.foldr] at F
      obtain ⟨p, t, rfl, hp, hp5, hi⟩ := laid_vals hv
      have hc1 := clean_item hxs hcl (show p < 9 by omega)
      have hc2 := clean_blanks hp5
      have hc3 : (blanks p).length ≤ 1000 := by rw [len_blanks hp5]; omega
      have hrl : rows.length ≤ 900 := by
        have := congrArg List.length hxy
        simp [base3] at this
        omega
      have hcsl : (⟨cs.toArray⟩ : Str).length = 9 := by show cs.toArray.size = 9; simp [hcl]
      obtain ⟨gm1, ⟨gh, gt, gm2⟩, gm3, gm4⟩ := id hTb
      repeat' (first | (k_unfold; (try dsimp only)) | (k_end; wrow_close) | (with_reducible (first | (k_here; (with_reducible show wpAny _ _ (call (Value.ref 179) _ _) _ _ _); k_dflt (refine' (add_ok _ _ _ _ _ _ _ _ _ _ _ _ _ ?gh1 ?gh2 ?gh3 ?gh4) _ _ _ _ _ _ _ _ _ _ _ _ _ _ _ _ _ _ ?gB ?gF ?gX ?gN ?gT ?gk ?gp ?gd ?gu ?_; walk_at "gclaim"; (case gp => (refine TabAt.sub (by assumption) ?_; intro p hp; repeat (first | exact hp | refine .tail _ ?_))); (case gh1 => assumption); (case gh2 => assumption); (case gh3 => assumption); (case gh4 => assumption); intro a' u' n' news' h' tk' F' N' hT' hK'; (try dsimp only); (try k_fold))) | (k_here; (with_reducible show TPost _ _ _ _ _ _ _ _ _ _); dsimp only [TPost]))) | walk1 | (dsimp only; first | (with_reducible (first | (k_here; (with_reducible show wpAny _ _ (call (Value.ref 179) _ _) _ _ _); k_dflt (refine' (add_ok _ _ _ _ _ _ _ _ _ _ _ _ _ ?gh1 ?gh2 ?gh3 ?gh4) _ _ _ _ _ _ _ _ _ _ _ _ _ _ _ _ _ _ ?gB ?gF ?gX ?gN ?gT ?gk ?gp ?gd ?gu ?_; walk_at "gclaim"; (case gp => (refine TabAt.sub (by assumption) ?_; intro p hp; repeat (first | exact hp | refine .tail _ ?_))); (case gh1 => assumption); (case gh2 => assumption); (case gh3 => assumption); (case gh4 => assumption); intro a' u' n' news' h' tk' F' N' hT' hK'; (try dsimp only); (try k_fold))) | (k_here; (with_reducible show TPost _ _ _ _ _ _ _ _ _ _); dsimp only [TPost]))) | walk1) | (leave1; try dsimp only) | fail "no step")
      rename TabAt 182 w.params T' TD' l' _ (_ ++ [_]) _ => hT9
      rename Kept l' ((I, oI) :: news₁) _ => hK9
      rename News _ _ _ _ => N9
      have hI9 := hK9 _ (.head _) (fun e => hoff _ gm3 e.symm)
      refine ⟨_, _, _, but I _, rfl, by k_asm, News.head N9 hI9, fun p hp => (mem_but.mp hp).2, ?_, ?_, _, rows ++ [_], hT9.but N9 hI9 hcI (by decide) (by decide) (by decide), ?_, kept_turn hK hK9 hoff⟩
      · intro p hp; rw [List.mem_singleton.mp hp]; exact mem_but.mpr ⟨hK9 _ (.tail _ hD) (News.ne N (.tail _ hD) (.tail _ gm3) tup_ne_list), hoff _ hD⟩
      · intro z h1; simp at h1; simp [over, h1]
      · rw [take_snoc hp, List.map_append, ← List.append_assoc, ← hxy, xyOf, List.map_append]; rfl
    rintro m₁ news₁ h tk ⟨hz, n, rows, hTb, hxy, hK⟩ hD F N
    rw [eq_over hz] at F
    try dsimp only [over, List.foldr] at F
    have hxy10 : xyOf rows = base3 ++ laidN.map (hdr cs) := hxy
    have kk : ∀ {a : Addr} {o : Obj} {v : Option Value}, (a, o) ∈ _ → o.data = .cell v → a ≠ l' := fun {a o v} h1 h2 e => by
      subst e
      have q := (hTab.stay hS).2.2.1
      have a1 := (N0 _ h1).1
      have a2 := (N0 _ (.tail _ (.tail _ (.tail _ (.tail _ (.tail _ q)))))).1
      rw [a1] at a2
      cases Option.some.inj a2
      cases h2
    obtain ⟨X2, N4, u1, u2, u3, u4, hS2⟩ := recell N (hK (s₁.heap.objs.size + 1 + 1 + 1 + 1, _) (.tail _ (.head _)) (kk (.tail _ (.head _)) d4)) (hK (s₁.heap.objs.size + 1 + 1 + 1, _) (.tail _ (.tail _ (.head _))) (kk (.tail _ (.tail _ (.head _))) d3)) (hK (s₁.heap.objs.size + 1 + 1, _) (.tail _ (.tail _ (.tail _ (.head _)))) (kk (.tail _ (.tail _ (.tail _ (.head _)))) d2)) (hK (s₁.heap.objs.size + 1, _) (.tail _ (.tail _ (.tail _ (.tail _ (.head _))))) (kk (.tail _ (.tail _ (.tail _ (.tail _ (.head _))))) dS)) d4 d3 d2 dS
    have hTb2 := hTb.stay hS2
    have hD2 := hS2 _ hD (fun v e => by cases e)
    have tl : ∀ {a : Addr} {o : Obj}, (a, o) ∈ X1' → o.cls = .none → (a, o) ∈ news₁ := fun {a o} h1 h2 => hK _ (.tail _ (.tail _ (.tail _ (.tail _ (.tail _ h1))))) (News.ne N0 (.tail _ (.tail _ (.tail _ (.tail _ (.tail _ h1))))) (.tail _ (.tail _ (.tail _ (.tail _ (.tail _ (hTab.stay hS).2.2.1))))) (fun e => by have := congrArg Obj.cls e; rw [h2] at this; cases this))
    have g235 : (235, tabO #[]) ∈ X2 := hS2 _ (tl (hS _ (hs9 _ (by k_mem)) (fun v e => by cases e)) rfl) (fun v e => by cases e)
    have g242 : (242, tabO #[]) ∈ X2 := hS2 _ (tl (hS _ (hs9 _ (by k_mem)) (fun v e => by cases e)) rfl) (fun v e => by cases e)
    clear N
    rename_i zq38 zq77 zq116 zq117 zq118 zq119 zq120 zq121 zq123
    clear zq38 l1_3 h'_9 tk'_1 qk_1 ek_1 zq116 zq119 zq120 FA2 hTb hxy hD kk tl
    revert w s₀ s₁ mg mb fa o pm doc hg w_3 w_5 hs hr hl2 w_8 w_9 hI w4 w3 w2 d4 d3 d2 T1 X1 hss mB B1 m1 m2 m3 m4 m5 m6 m7 m8 cs t' hcl hxs zq77 k a t'_2 k' h'_3 o' dS tk_1 D' l1 D'_1 D'_2 l' T' TD' n9 hTab hs9 X1' y1 y2 y3 y4 hS zq117 zq118 zq121 N0 zq123 mA2 m₁ news₁ h tk hz n rows hK F hxy10 X2 N4 u1 u2 u3 u4 hS2 hTb2 hD2 g235 g242
    exact hP.out
set_option maxHeartbeats 8000000 in
noncomputable def cut6 : Cut := by
  refine' mkCut ?h
  case h =>
    intro hP
    refine cut5.2 ?_
    intro w s₀ s₁ mg mb fa o pm doc hg w_3 w_5 hs hr hl2 w_8 w_9 hI w4 w3 w2 d4 d3 d2 T1 X1 hss mB B1 m1 m2 m3 m4 m5 m6 m7 m8 cs t' hcl hxs tk k a t'_2 k' h'_3 o' dS tk_1 D' l1 D'_1 D'_2 l' T' TD' n9 hTab hs9 X1' y1 y2 y3 y4 hS tk_2 D'_3 h'_12 N0 tk_3 mA2 m₁ news₁ h tk_4 hz n rows hK F hxy10 X2 N4 u1 u2 u3 u4 hS2 hTb2 hD2 g235 g242
    obtain ⟨gm1, ⟨gh, gt, gm2⟩, gm3, gm4⟩ := id hTb2
    obtain ⟨hrx, hr13⟩ := rows_x hxy10 hcl
    have hr1k : rows.length ≤ 1000 := by omega
    have hg1 : (Txt.slice ⟨cs.toArray⟩ none (some 2)).length ≤ 100 := Nat.le_trans (len_slice_le _ _ _) (by show cs.toArray.size ≤ 100; simp [hcl])
    have hg2 : Clean (Txt.lower (Txt.slice ⟨cs.toArray⟩ none (some 2))) := clean_two hxs hcl
    have hcsl : (⟨cs.toArray⟩ : Str).length = 9 := by show cs.toArray.size = 9; simp [hcl]
    have hstl : (⟨((cs.take 5).map lo1).toArray⟩ : Str).length = 5 := by show ((cs.take 5).map lo1).toArray.size = 5; simp [hcl]
    have hokr := rows_y hxy10
    have h2g := two_get hxs hcl hxy10
    repeat' (first | (k_unfold; (try dsimp only)) | (k_end; wrow_close) | (with_reducible (first | (k_here; (with_reducible show wpAny _ _ (exec (Stmt.If (Expr.Compare (Expr.Call (Expr.Attribute _ _ _) _ _ _) [CmpOp.NotEq] [Expr.IfExp _ _ _ _] _) _ _ _) _) _ _ _); k_dflt (refine' merge ?mF ?mN ?mI ?_; (case mF => k_asm); (case mN => k_asm)); rotate_left; intro h' tk' F' N'; rotate_right) | (k_here; (with_reducible show wpAny _ _ (compareOp CmpOp.NotEq (Value.ref _) (Value.ref _)) _ _ _); k_dflt (refine' ne_strs ?j1 ?j2 ?j3 ?j4 ?j6 ?j7 ?j5 ?_; (case j1 => exact News.isList (by k_asm) (by k_mem)); (case j2 => exact News.isList (by k_asm) (by k_mem)); (case j3 => first | exact strsAre_values _ | exact .cons _ _ .nil | exact .nil); (case j4 => first | exact strsAre_values _ | exact .cons _ _ .nil | exact .nil); (case j6 => first | exact oks_of (by assumption) (getAll_ok (by assumption)) | exact oks_e | exact oks_nil | assumption); (case j7 => first | exact oks_e | exact oks_nil | exact oks_of (by assumption) (by assumption) | assumption); (case j5 => ke_room); k_whole)) | (k_here; (with_reducible show wpAny _ _ (call (Value.ref 121) _ _) _ _ _); k_dflt (refine' (get_all_ok _ _ _ _ _ _ _ _ _ _ _ ?gh1 ?gh2 ?gh3 ?gh4) _ _ _ _ _ _ _ _ _ _ _ _ _ _ _ _ _ _ ?gB ?gF ?gX ?gN ?gT ?gk ?gp ?gd ?gu ?_; walk_at "gclaim"; (case gp => (refine TabAt.sub (by assumption) ?_; intro p hp; repeat (first | exact hp | refine .tail _ ?_))); (case gh1 => assumption); (case gh2 => assumption); (case gh3 => assumption); (case gh4 => assumption); intro D' l' k' h' tk' hl' F' N' hlt'; (try dsimp only); (try k_fold))) | (k_here; (with_reducible show wpAny _ _ (call (Value.ref 273) _ _) _ _ _); k_dflt (refine' (acc_new _ _ _ _ _ _) _ _ _ _ _ _ _ _ _ _ _ _ _ _ _ _ _ _ ?gB ?gF ?gX ?gN ?gT ?gk ?gp ?gd ?gu ?_; walk_at "gclaim"; (case gp => trivial); intro P' D' n' h' tk' F' hN'; (try dsimp only); (try k_fold))))) | walk1 | (dsimp only; first | (with_reducible (first | (k_here; (with_reducible show wpAny _ _ (exec (Stmt.If (Expr.Compare (Expr.Call (Expr.Attribute _ _ _) _ _ _) [CmpOp.NotEq] [Expr.IfExp _ _ _ _] _) _ _ _) _) _ _ _); k_dflt (refine' merge ?mF ?mN ?mI ?_; (case mF => k_asm); (case mN => k_asm)); rotate_left; intro h' tk' F' N'; rotate_right) | (k_here; (with_reducible show wpAny _ _ (compareOp CmpOp.NotEq (Value.ref _) (Value.ref _)) _ _ _); k_dflt (refine' ne_strs ?j1 ?j2 ?j3 ?j4 ?j6 ?j7 ?j5 ?_; (case j1 => exact News.isList (by k_asm) (by k_mem)); (case j2 => exact News.isList (by k_asm) (by k_mem)); (case j3 => first | exact strsAre_values _ | exact .cons _ _ .nil | exact .nil); (case j4 => first | exact strsAre_values _ | exact .cons _ _ .nil | exact .nil); (case j6 => first | exact oks_of (by assumption) (getAll_ok (by assumption)) | exact oks_e | exact oks_nil | assumption); (case j7 => first | exact oks_e | exact oks_nil | exact oks_of (by assumption) (by assumption) | assumption); (case j5 => ke_room); k_whole)) | (k_here; (with_reducible show wpAny _ _ (call (Value.ref 121) _ _) _ _ _); k_dflt (refine' (get_all_ok _ _ _ _ _ _ _ _ _ _ _ ?gh1 ?gh2 ?gh3 ?gh4) _ _ _ _ _ _ _ _ _ _ _ _ _ _ _ _ _ _ ?gB ?gF ?gX ?gN ?gT ?gk ?gp ?gd ?gu ?_; walk_at "gclaim"; (case gp => (refine TabAt.sub (by assumption) ?_; intro p hp; repeat (first | exact hp | refine .tail _ ?_))); (case gh1 => assumption); (case gh2 => assumption); (case gh3 => assumption); (case gh4 => assumption); intro D' l' k' h' tk' hl' F' N' hlt'; (try dsimp only); (try k_fold))) | (k_here; (with_reducible show wpAny _ _ (call (Value.ref 273) _ _) _ _ _); k_dflt (refine' (acc_new _ _ _ _ _ _) _ _ _ _ _ _ _ _ _ _ _ _ _ _ _ _ _ _ ?gB ?gF ?gX ?gN ?gT ?gk ?gp ?gd ?gu ?_; walk_at "gclaim"; (case gp => trivial); intro P' D' n' h' tk' F' hN'; (try dsimp only); (try k_fold))))) | walk1) | (leave1; try dsimp only) | fail "no step")
    · exact MEnd.mk (by k_asm) (by k_asm) (fun p hp => by repeat (first | exact hp | refine .tail _ ?_))
    · exfalso
      rename (List.map _ _ = getAll _ _) => e1
      rename (List.any _ _ = true) => e2
      rw [if_pos e2] at h2g
      rw [h2g] at e1
      first
      | exact absurd e1 (of_decide_eq_false (by assumption))
      | exact absurd e1 (by assumption)
      | (rename (List.any _ _ = true) => e2; simp_all)
    · exact MEnd.mk (by k_asm) (by k_asm) (fun p hp => by repeat (first | exact hp | refine .tail _ ?_))
    · exfalso
      rename (List.map _ _ = getAll _ _) => e1
      rename (List.any _ _ = false) => e2
      rw [if_neg (by rw [e2]; decide)] at h2g
      rw [h2g] at e1
      exact absurd e1 (of_decide_eq_false (by assumption))
    clear N4
    rename (∃ n, News _ _ _ n ∧ _) => hN9
    obtain ⟨n9_2, N5, hAcc, hs9_2⟩ := hN9
    obtain ⟨X3, N6, v1, v2, v3, v4, hS3⟩ := recell N5 (hs9_2 (s₁.heap.objs.size + 1 + 1 + 1 + 1, _) (by k_mem)) (hs9_2 (s₁.heap.objs.size + 1 + 1 + 1, _) (by k_mem)) (hs9_2 (s₁.heap.objs.size + 1 + 1, _) (by k_mem)) (hs9_2 (s₁.heap.objs.size + 1, _) (by k_mem)) d4 d3 d2 dS
    rename_i zq89 zq166 zq167 zq168
    clear tk_3 tk_4 hr13 hg1 hg2 h2g zq167
    revert w s₀ s₁ mg mb fa o pm doc hg w_3 w_5 hs hr hl2 w_8 w_9 hI w4 w3 w2 d4 d3 d2 T1 X1 hss mB B1 m1 m2 m3 m4 m5 m6 m7 m8 cs t' hcl hxs tk k a t'_2 k' h'_3 o' dS tk_1 zq89 l1 D'_1 D'_2 l' T' TD' n9 hTab hs9 X1' y1 y2 y3 y4 hS tk_2 D'_3 h'_12 N0 mA2 m₁ news₁ h hz n rows hK F hxy10 X2 u1 u2 u3 u4 hS2 hTb2 hD2 g235 g242 gm1 gh gt gm2 gm3 gm4 hrx hr1k hcsl hstl hokr zq166 zq168 N' P' D' n' h' tk' F' qk ek n9_2 N5 hAcc hs9_2 X3 N6 v1 v2 v3 v4 hS3
    exact hP.out
set_option maxHeartbeats 8000000 in
noncomputable def cut7 : Cut := by
  refine' mkCut ?h
  case h =>
    intro hP
    refine cut6.2 ?_
    intro w s₀ s₁ mg mb fa o pm doc hg w_3 w_5 hs hr hl2 w_8 w_9 hI w4 w3 w2 d4 d3 d2 T1 X1 hss mB B1 m1 m2 m3 m4 m5 m6 m7 m8 cs t' hcl hxs tk k a t'_2 k' h'_3 o' dS tk_1 D' l1 D'_1 D'_2 l' T' TD' n9 hTab hs9 X1' y1 y2 y3 y4 hS tk_2 D'_3 h'_12 N0 mA2 m₁ news₁ h hz n rows hK F hxy10 X2 u1 u2 u3 u4 hS2 hTb2 hD2 g235 g242 gm1 gh gt gm2 gm3 gm4 hrx hr1k hcsl hstl hokr h'_13 F' N' P' D'_4 n' h'_14 tk'_3 F'_1 qk_2 ek_2 n9_2 N5 hAcc hs9_2 X3 N6 v1 v2 v3 v4 hS3
    have hTb3 := (hTb2.sub (fun p hp => hs9_2 p (.tail _ (.tail _ (.tail _ (.tail _ hp)))))).stay hS3
    have g235_3 := hS3 _ (hs9_2 _ (.tail _ (.tail _ (.tail _ (.tail _ g235))))) (fun v e => by cases e)
    have g242_3 := hS3 _ (hs9_2 _ (.tail _ (.tail _ (.tail _ (.tail _ g242))))) (fun v e => by cases e)
    have hD3 := hS3 _ (hs9_2 _ (.tail _ (.tail _ (.tail _ (.tail _ hD2))))) (fun v e => by cases e)
    have hAcc3 := hAcc.stay hS3
    clear hTb2 g235 g242 hD2 hAcc hTab N5 hs9 hs9_2 hS hS2 hS3 y1 y2 y3 y4 u1 u2 u3 u4 gm1 gm2 gm3 gm4
    repeat' (first | (k_unfold; (try dsimp only)) | (k_end; wrow_close) | (with_reducible (first | (k_here; (with_reducible show wpAny _ _ (pyIter (Value.ref _)) (fun it s₂ => TurnsAt _ _ _ _ _ _ _ _ _ it s₂) _ _); k_dflt (refine stopHere ?_)) | (k_here; (with_reducible show wpAny _ _ (exec (Stmt.For (Expr.Name _ _) (Expr.Call _ _ _ _) _ _ _) _) _ _ _); (rename Fr _ _ _ _ => lF'); k_dflt (with_unfolding_all refine' For_turns lF' ?_; k_whole)))) | walk1 | (dsimp only; first | (with_reducible (first | (k_here; (with_reducible show wpAny _ _ (pyIter (Value.ref _)) (fun it s₂ => TurnsAt _ _ _ _ _ _ _ _ _ it s₂) _ _); k_dflt (refine stopHere ?_)) | (k_here; (with_reducible show wpAny _ _ (exec (Stmt.For (Expr.Name _ _) (Expr.Call _ _ _ _) _ _ _) _) _ _ _); (rename Fr _ _ _ _ => lF'); k_dflt (with_unfolding_all refine' For_turns lF' ?_; k_whole)))) | walk1) | (leave1; try dsimp only) | fail "no step")
    show wpAny _ _ _ _ _ _
    rename News _ _ _ _ => N0
    rename Fr _ _ _ _ => FA4
    refine Fr.fold FA4 ?_
    clear FA4
    intro mA4 FA4
    refine' turns_range (fun m₀ l₀ i m l => (∀ z, z ∉ [Str.ofString "place"] → m z = m₀ z) ∧ ∃ n rs, AccAt 273 P' D'_4 ((((w_5.length : Nat) : Int)).fmod 3) n rs l ∧ xyOf rs = (List.range i).map (fun p => (blanks p, Txt.item ⟨((cs.take 5).map lo1).toArray⟩ (p : Int))) ∧ Kept P' l₀ l) ?hh ?hr ?h1 ?h2 ?h3 ?hF ?hN ?hj ?turn ?done
    case hh => rfl
    case hr => assumption
    case h1 => decide
    case h2 => decide
    case h3 => decide
    case hF => k_asm
    case hN => k_asm
    case hj => exact ⟨fun _ _ => rfl, _, [], hAcc3.grown (fun p hp => .tail _ (.tail _ (.tail _ (.tail _ hp)))), rfl, fun p hp _ => hp⟩
    case turn =>
      rintro I i v m₁ news₁ h tk oI hcI hi hv ⟨hz, n, rs, hA, hrs, hK⟩ hoff F N u
      rw [eq_over hz] at F
      try dsimp only [over, List.foldr] at F
      obtain rfl : v = (i : Int) := by omega
      have hi5 : i < 5 := hi
      have hrl : rs.length ≤ 1000 := by
        have := congrArg List.length hrs
        simp at this; omega
      obtain ⟨gm1, ⟨gh, gt, gu, gm2⟩, gm3⟩ := id hA
      have hS1 := hK (s₁.heap.objs.size + 1, _) (.tail _ (.tail _ (.tail _ (.head _)))) (News.ne N0 (.tail _ (.tail _ (.tail _ (.head _)))) (.tail _ (.tail _ (.tail _ (.tail _ hAcc3.1)))) (fun e => by rw [e] at dS; cases dS))
      repeat' (first | (k_unfold; (try dsimp only)) | (k_end; wrow_close) | (with_reducible (first | (k_here; (with_reducible show wpAny _ _ (call (Value.ref 217) _ _) _ _ _); k_dflt (refine' (push_ok _ _ _ _ _ _ _ _ _ _ _ _ _ ?ghr) _ _ _ _ _ _ _ _ _ _ _ _ _ _ _ _ _ _ ?gB ?gF ?gX ?gN ?gT ?gk ?gp ?gd ?gu ?_; walk_at "gclaim"; (case gp => (refine AccAt.grown (by assumption) ?_; intro p hp; repeat (first | exact hp | refine .tail _ ?_))); (case ghr => assumption); intro a n' news' h' tk' hA' hK' F' N'; (try dsimp only); (try k_fold))) | (k_here; (with_reducible show wpAny _ _ (getMethod (Value.ref _) _ _) _ _ _); k_dflt (refine' acc_method_K ?aF ?aX ?aN ?a1 ?a2 ?ag ?ak ?af ?aq ?ar ?aw ?_; (case aF => k_asm); (case aX => k_asm); (case aN => k_asm); (case a1 => k_mem); (case a2 => k_mem); (case ag => k_is); (case ak => k_is); (case af => k_is); (case aq => k_is); (case ar => decide +kernel); (case aw => rfl))) | (k_here; (with_reducible show TPost _ _ _ _ _ _ _ _ _ _); dsimp only [TPost]))) | walk1 | (dsimp only; first | (with_reducible (first | (k_here; (with_reducible show wpAny _ _ (call (Value.ref 217) _ _) _ _ _); k_dflt (refine' (push_ok _ _ _ _ _ _ _ _ _ _ _ _ _ ?ghr) _ _ _ _ _ _ _ _ _ _ _ _ _ _ _ _ _ _ ?gB ?gF ?gX ?gN ?gT ?gk ?gp ?gd ?gu ?_; walk_at "gclaim"; (case gp => (refine AccAt.grown (by assumption) ?_; intro p hp; repeat (first | exact hp | refine .tail _ ?_))); (case ghr => assumption); intro a n' news' h' tk' hA' hK' F' N'; (try dsimp only); (try k_fold))) | (k_here; (with_reducible show wpAny _ _ (getMethod (Value.ref _) _ _) _ _ _); k_dflt (refine' acc_method_K ?aF ?aX ?aN ?a1 ?a2 ?ag ?ak ?af ?aq ?ar ?aw ?_; (case aF => k_asm); (case aX => k_asm); (case aN => k_asm); (case a1 => k_mem); (case a2 => k_mem); (case ag => k_is); (case ak => k_is); (case af => k_is); (case aq => k_is); (case ar => decide +kernel); (case aw => rfl))) | (k_here; (with_reducible show TPost _ _ _ _ _ _ _ _ _ _); dsimp only [TPost]))) | walk1) | (leave1; try dsimp only) | fail "no step")
      rename AccAt 273 P' D'_4 _ _ (_ ++ [_]) _ => hA9
      rename Kept P' ((I, oI) :: news₁) _ => hK9
      rename News _ _ _ _ => N9
      have hI9 := hK9 _ (.head _) (fun e => hoff _ gm1 e.symm)
      refine ⟨_, _, _, but I _, rfl, by k_asm, News.head N9 hI9, fun p hp => (mem_but.mp hp).2, (fun p hp => nomatch hp), ?_, _, rs ++ [_], hA9.but N9 hI9 hcI (by decide) (by decide), ?_, kept_turn hK hK9 hoff⟩
      · intro z h1; simp at h1; simp [over, h1]
      · rw [xyOf, List.map_append, List.range_succ, List.map_append, ← hrs]; rfl
    rintro m₁ news₁ h tk ⟨hz, n, rs, hA, hrs, hK⟩ F N
    rw [eq_over hz] at F
    try dsimp only [over, List.foldr] at F
    have aX : ∀ p ∈ X3, p ∈ _ := fun p hp => List.mem_cons_of_mem (s₁.heap.objs.size + 1 + 1 + 1 + 1, w4) (List.mem_cons_of_mem (s₁.heap.objs.size + 1 + 1 + 1, w3) (List.mem_cons_of_mem (s₁.heap.objs.size + 1 + 1, w2) (List.mem_cons_of_mem (s₁.heap.objs.size + 1, o') hp)))
    have aP := aX _ hAcc3.1
    have hTb4 := hTb3.kept N0 hK aX aP
    have e4 := kept_one N0 hK aP (.head _) (fun e => by rw [e] at d4; cases d4)
    have e3 := kept_one N0 hK aP (.tail _ (.head _)) (fun e => by rw [e] at d3; cases d3)
    have e2 := kept_one N0 hK aP (.tail _ (.tail _ (.head _))) (fun e => by rw [e] at d2; cases d2)
    have e1 := kept_one N0 hK aP (.tail _ (.tail _ (.tail _ (.head _)))) (fun e => by rw [e] at dS; cases dS)
    have f235 := kept_one N0 hK aP (aX _ g235_3) (fun e => by cases congrArg Obj.data e)
    have f242 := kept_one N0 hK aP (aX _ g242_3) (fun e => by cases congrArg Obj.data e)
    have fD := kept_one N0 hK aP (aX _ hD3) (fun e => by cases congrArg Obj.cls e)
    obtain ⟨X4, N7, v1, v2, v3, v4, hS4⟩ := recell N e4 e3 e2 e1 d4 d3 d2 dS
    have hTb5 := hTb4.stay hS4
    have hA5 := hA.stay hS4
    have g235_5 := hS4 _ f235 (fun v e => by cases e)
    have g242_5 := hS4 _ f242 (fun v e => by cases e)
    have hD5 := hS4 _ fD (fun v e => by cases e)
    have hrs5 : xyOf rs = (List.range 5).map (fun p => (blanks p, Txt.item ⟨((cs.take 5).map lo1).toArray⟩ (p : Int))) := hrs
    clear N N0 hTb3 hTb4 hA hrs e4 e3 e2 e1 f235 f242 fD hD3 g235_3 g242_3 hAcc3 aX aP hS4
    rename_i zq77 zq117 zq118 zq119 zq121 zq122 zq126 zq128 zq157 zq158 zq159 zq160 zq161 zq162 zq163 zq164 zq165 zq166 zq167 zq168 zq169 zq170 zq171
    clear tk_1 n9 X1' h'_12 zq126 n' h'_14 tk'_3 qk_2 ek_2 n9_2 zq157 zq159 zq162 zq163 zq167 zq168 zq169 zq170 zq171 FA4 news₁ hz hK
    revert w s₀ s₁ mg mb fa o pm doc hg w_3 w_5 hs hr hl2 w_8 w_9 hI w4 w3 w2 d4 d3 d2 T1 X1 hss mB B1 m1 m2 m3 m4 m5 m6 m7 m8 cs t' hcl hxs zq77 k a t'_2 k' h'_3 o' dS D' l1 D'_1 D'_2 l' T' TD' tk_2 D'_3 mA2 zq117 zq118 zq119 zq121 zq122 rows zq128 hxy10 X2 gh gt hrx hr1k hcsl hstl hokr h'_13 F' N' P' D'_4 X3 zq158 zq160 zq161 zq164 zq165 zq166 mA4 m₁ h tk n rs F X4 N7 v1 v2 v3 v4 hTb5 hA5 g235_5 g242_5 hD5 hrs5
    exact hP.out
set_option maxHeartbeats 8000000 in
noncomputable def cut8 : Cut := by
  refine' mkCut ?h
  case h =>
    intro hP
    refine cut7.2 ?_
    intro w s₀ s₁ mg mb fa o pm doc hg w_3 w_5 hs hr hl2 w_8 w_9 hI w4 w3 w2 d4 d3 d2 T1 X1 hss mB B1 m1 m2 m3 m4 m5 m6 m7 m8 cs t' hcl hxs tk k a t'_2 k' h'_3 o' dS D' l1 D'_1 D'_2 l' T' TD' tk_2 D'_3 mA2 m₁ news₁ h hz n rows F hxy10 X2 gh gt hrx hr1k hcsl hstl hokr h'_13 F' N' P' D'_4 X3 v2 v4 h'_15 tk_5 h'_16 tk_6 mA4 m₁_1 h_1 tk_7 n_1 rs F_1 X4 N7 v1_1 v2_1 v3_1 v4_1 hTb5 hA5 g235_5 g242_5 hD5 hrs5
    repeat' (first | (k_unfold; (try dsimp only)) | (k_end; wrow_close) | (with_reducible (first | (k_here; (with_reducible show wpAny _ _ (pyIter (Value.str _ _)) (fun it s₂ => TurnsAt _ _ _ _ _ _ _ _ _ it s₂) _ _); k_dflt (refine stopHere ?_)) | (k_here; (with_reducible show wpAny _ _ (exec (Stmt.For (Expr.Name _ _) (Expr.Subscript _ _ _) _ _ _) _) _ _ _); (rename Fr _ _ _ _ => lF'); k_dflt (with_unfolding_all refine' For_turns lF' ?_; k_whole)))) | walk1 | (dsimp only; first | (with_reducible (first | (k_here; (with_reducible show wpAny _ _ (pyIter (Value.str _ _)) (fun it s₂ => TurnsAt _ _ _ _ _ _ _ _ _ it s₂) _ _); k_dflt (refine stopHere ?_)) | (k_here; (with_reducible show wpAny _ _ (exec (Stmt.For (Expr.Name _ _) (Expr.Subscript _ _ _) _ _ _) _) _ _ _); (rename Fr _ _ _ _ => lF'); k_dflt (with_unfolding_all refine' For_turns lF' ?_; k_whole)))) | walk1) | (leave1; try dsimp only) | fail "no step")
    show wpAny _ _ _ _ _ _
    rename News _ _ _ _ => N0
    have hsl : Txt.slice ⟨cs.toArray⟩ (some 5) none = ⟨(cs.drop 5).toArray⟩ := slice_from cs 5 (by omega)
    rename Fr _ _ _ _ => FA5
    refine Fr.fold FA5 ?_
    clear FA5
    intro mA5 FA5
    refine' turns_str (fun m₀ l₀ i m l => (∀ z, z ∉ [Str.ofString "marks"] → m z = m₀ z) ∧ ∃ o2 v2 X nn rs, l = (s₁.heap.objs.size + 1 + 1 + 1 + 1, w4) :: (s₁.heap.objs.size + 1 + 1 + 1, w3) :: (s₁.heap.objs.size + 1 + 1, o2) :: (s₁.heap.objs.size + 1, o') :: X ∧ o2.data = .cell v2 ∧ ((∀ p ∈ X, p.1 ≠ s₁.heap.objs.size + 1) ∧ (∀ p ∈ X, p.1 ≠ s₁.heap.objs.size + 1 + 1) ∧ (∀ p ∈ X, p.1 ≠ s₁.heap.objs.size + 1 + 1 + 1) ∧ (∀ p ∈ X, p.1 ≠ s₁.heap.objs.size + 1 + 1 + 1 + 1)) ∧
      TabAt 182 w.params T' TD' l' n rows X ∧ AccAt 273 P' D'_4 ((((w_5.length : Nat) : Int)).fmod 3) nn rs X ∧ (235, tabO #[]) ∈ X ∧ (242, tabO #[]) ∈ X ∧ (∃ ts, (D'_3, laidO ts) ∈ X) ∧ xyOf rs = ((cs.drop 5).take i).foldl (ledRow rows) (row0 cs)) ?hh ?hF ?hN ?hj ?turn ?done
    case hh => rfl
    case hF => k_asm
    case hN => k_asm
    case hj => exact ⟨fun _ _ => rfl, w2, _, X4, _, rs, rfl, d2, ⟨v1_1, v2_1, v3_1, v4_1⟩, hTb5, hA5, g235_5, g242_5, laidO_of hD5, hrs5⟩
    case turn =>
      rintro I i c u m₁ news₁ h tk oI hcI hv ⟨hz, o2, v2, X, nn, rs', rfl, d2', ⟨x1, x2, x3, x4⟩, hT6, hA6, g1, g2, ⟨ts, hD6⟩, hrs6⟩ hoff F N
      rw [eq_over hz] at F
      try dsimp only [over, List.foldr] at F
      rw [hsl] at hv
      have hv5 : (cs.drop 5)[i]? = some c := by simpa using hv
      have hcL : isL c = true := hxs c (List.mem_of_mem_drop (List.mem_of_getElem? hv5))
      have hg1' : (⟨#[c]⟩ : Str).length ≤ 100 := Nat.le_of_ble_eq_true rfl
      have hg2' : Clean (Txt.lower ⟨#[c]⟩) := by rw [low1 hcL]; exact clean_let (isL_lo hcL)
      obtain ⟨gm1, ⟨gh, gt, gm2⟩, gm3, gm4⟩ := id hT6
      have hoff' := hoff; simp only [List.mem_cons, forall_eq_or_imp] at hoff'; obtain ⟨f4, f3, f2, f1, f0⟩ := hoff'
      have b4 := f4.symm; have b3 := f3.symm; have b2 := f2.symm; have b1 := f1.symm
      have hokm : ∀ x ∈ (laidN.filter (fun p : Nat => Txt.item (strip5 cs) (p : Int) == ⟨#[lo1 c]⟩)).map blanks, PyData.strOk x = true := by
        intro x hx
        obtain ⟨p, hp, rfl⟩ := List.mem_map.mp hx
        have := (List.mem_filter.mp hp).1
        exact ok_blanks (by simp [laidN] at this; omega)
      obtain ⟨hrl6, hrx6⟩ := rs_facts hrs6
      have hrl7 : rs'.length ≤ 100 := by omega
      have hrx7 : ∀ r ∈ rs', r.x.length ≤ 1000 := fun r hr => Nat.le_trans (hrx6 r hr) (by decide)
      have hone := one_get hxs hcl hxy10 hcL
      repeat' (first | (k_unfold; (try dsimp only)) | (k_end; wrow_close) | (with_reducible (first | (k_here; (with_reducible show CompSrcU _ _ _ _ _ _ _ _ _ _ _ _ _ _ _); refine stopHere ?_) | (k_here; (with_reducible show wpAny _ _ (eval (Expr.ListComp _ [{ target := _, iter := Expr.Name _ _, ifs := [_], is_async := _ }] _ _) _) _ _ _); k_dflt (refine ListComp_Tup (by k_asm) (by with_unfolding_all rfl) (by decide) (by rfl) (by decide) (by rfl) ?_)) | (k_here; (with_reducible show wpAny _ _ (call (Value.ref 121) _ _) _ _ _); k_dflt (refine' (get_all_ok _ _ _ _ _ _ _ _ _ _ _ ?gh1 ?gh2 ?gh3 ?gh4) _ _ _ _ _ _ _ _ _ _ _ _ _ _ _ _ _ _ ?gB ?gF ?gX ?gN ?gT ?gk ?gp ?gd ?gu ?_; walk_at "gclaim"; (case gp => (refine TabAt.sub (by assumption) ?_; intro p hp; repeat (first | exact hp | refine .tail _ ?_))); (case gh1 => assumption); (case gh2 => assumption); (case gh3 => assumption); (case gh4 => assumption); intro D' l' k' h' tk' hl' F' N' hlt'; (try dsimp only); (try k_fold))))) | walk1 | (dsimp only; first | (with_reducible (first | (k_here; (with_reducible show CompSrcU _ _ _ _ _ _ _ _ _ _ _ _ _ _ _); refine stopHere ?_) | (k_here; (with_reducible show wpAny _ _ (eval (Expr.ListComp _ [{ target := _, iter := Expr.Name _ _, ifs := [_], is_async := _ }] _ _) _) _ _ _); k_dflt (refine ListComp_Tup (by k_asm) (by with_unfolding_all rfl) (by decide) (by rfl) (by decide) (by rfl) ?_)) | (k_here; (with_reducible show wpAny _ _ (call (Value.ref 121) _ _) _ _ _); k_dflt (refine' (get_all_ok _ _ _ _ _ _ _ _ _ _ _ ?gh1 ?gh2 ?gh3 ?gh4) _ _ _ _ _ _ _ _ _ _ _ _ _ _ _ _ _ _ ?gB ?gF ?gX ?gN ?gT ?gk ?gp ?gd ?gu ?_; walk_at "gclaim"; (case gp => (refine TabAt.sub (by assumption) ?_; intro p hp; repeat (first | exact hp | refine .tail _ ?_))); (case gh1 => assumption); (case gh2 => assumption); (case gh3 => assumption); (case gh4 => assumption); intro D' l' k' h' tk' hl' F' N' hlt'; (try dsimp only); (try k_fold))))) | walk1) | (leave1; try dsimp only) | fail "no step")
      show CompSrcU _ _ _ _ _ _ _ _ _ _ _ _ _ _ _
      k_dflt (refine' CompSrcU.led ?ch ?cF ?cN ?cm ?cc ?cd ?cz ?_)
      case ch => rfl
      case cF => k_asm
      case cN => k_asm
      case cm => exact .tail _ (.tail _ (.tail _ (.tail _ (.tail _ (.tail _ hD6)))))
      case cc => rfl
      case cd => rfl
      case cz => exact Nat.le_of_ble_eq_true rfl
      intro g0
      refine lct_rest (items := laidN) (fun (p : Nat) v => p < 5 ∧ ∃ t, v = .int (p : Int) t) (fun p => Txt.item (strip5 cs) (p : Int) == ⟨#[lo1 c]⟩) (fun p t => .str (blanks p) t) ?hn ?hP ?hS ?cturn ?fin
      case hn => rfl
      case hP =>
        intro j v hj hv9
        obtain ⟨p, t, rfl, hp, hp5, _⟩ := laid_vals (by simpa using hv9)
        exact ⟨p, hp, hp5, t, rfl⟩
      case hS => exact ⟨_, .tail _ (.tail _ (.tail _ (.tail _ (.tail _ (.tail _ hD6))))), rfl, _, rfl⟩
      case cturn =>
        rintro p v I' oI' C oC D m₂ ys h tk E' hpm ⟨hp5, t, rfl⟩ hC hx' F' N' off ne
        dsimp only
        repeat' (first | (k_unfold; (try dsimp only)) | (k_end; wrow_close) | (with_reducible (first | (k_here; (with_reducible show wpAny _ _ (call (Value.builtin "str.lower") _) _ _ _); k_dflt (refine' low_r ?jy ?jz ?_; (case jy => first | with_reducible exact low1 (by assumption) | with_reducible exact low5 (by assumption) (by assumption) | with_reducible exact low59 (by assumption) (by assumption)); (case jz => first | exact Nat.le_trans (len_slice_le _ _ _) (len9 (by assumption)) | exact Nat.le_of_ble_eq_true rfl); intro t' k')))) | walk1 | (dsimp only; first | (with_reducible (first | (k_here; (with_reducible show wpAny _ _ (call (Value.builtin "str.lower") _) _ _ _); k_dflt (refine' low_r ?jy ?jz ?_; (case jy => first | with_reducible exact low1 (by assumption) | with_reducible exact low5 (by assumption) (by assumption) | with_reducible exact low59 (by assumption) (by assumption)); (case jz => first | exact Nat.le_trans (len_slice_le _ _ _) (len9 (by assumption)) | exact Nat.le_of_ble_eq_true rfl); intro t' k')))) | walk1) | (leave1; try dsimp only) | fail "no step")
        · exact LCg.CompEnd.intro (by k_asm) (by k_asm) _ (fun p hp => hp) off ⟨_, .tail _ (.tail _ (.tail _ (.tail _ (.tail _ (.tail _ hD6))))), rfl, _, rfl⟩ (LcEl.mk (by assumption) rfl rfl)
        · exact LCg.CompEnd.intro (by k_asm) (by k_asm) _ (fun p hp => hp) off ⟨_, .tail _ (.tail _ (.tail _ (.tail _ (.tail _ (.tail _ hD6))))), rfl, _, rfl⟩ (LcNo.mk (by assumption) rfl)
      case fin =>
        intro ys hO
        dsimp only
        obtain ⟨lc, rfl, hlc⟩ := hO.strs
        repeat' (first | (k_unfold; (try dsimp only)) | (k_end; wrow_close) | (with_reducible (first | (k_here; (with_reducible show wpAny _ _ (call (Value.ref 289) _ _) _ _ _); k_dflt (refine' (led_ok _ _ _ _ _ _ _ _ _ _ _ _ ?gh1 ?gh2 ?gh3) _ _ _ _ _ _ _ _ _ _ _ _ _ _ _ _ _ _ ?gB ?gF ?gX ?gN ?gT ?gk ?gp ?gd ?gu ?_; walk_at "gclaim"; (case gp => (refine And.intro (AccAt.grown (by assumption) ?_) (by k_mem); intro p hp; repeat (first | exact hp | refine .tail _ ?_))); (case gh1 => assumption); (case gh2 => assumption); (case gh3 => exact marks_len (by assumption) (by assumption)); intro rows' n' news' h' tk' F' N' hA' hK' hx'; (try dsimp only); (try k_fold))) | (k_here; (with_reducible show wpAny _ _ (compareOp CmpOp.NotEq (Value.ref _) (Value.ref _)) _ _ _); k_dflt (refine' ne_strs ?j1 ?j2 ?j3 ?j4 ?j6 ?j7 ?j5 ?_; (case j1 => exact News.isList (by k_asm) (by k_mem)); (case j2 => exact News.isList (by k_asm) (by k_mem)); (case j3 => first | exact strsAre_values _ | exact .cons _ _ .nil | exact .nil); (case j4 => first | exact strsAre_values _ | exact .cons _ _ .nil | exact .nil); (case j6 => first | exact oks_of (by assumption) (getAll_ok (by assumption)) | exact oks_e | exact oks_nil | assumption); (case j7 => first | exact oks_e | exact oks_nil | exact oks_of (by assumption) (by assumption) | assumption); (case j5 => ke_room); k_whole)) | (k_here; (with_reducible show TPost _ _ _ _ _ _ _ _ _ _); dsimp only [TPost]))) | walk1 | (dsimp only; first | (with_reducible (first | (k_here; (with_reducible show wpAny _ _ (call (Value.ref 289) _ _) _ _ _); k_dflt (refine' (led_ok _ _ _ _ _ _ _ _ _ _ _ _ ?gh1 ?gh2 ?gh3) _ _ _ _ _ _ _ _ _ _ _ _ _ _ _ _ _ _ ?gB ?gF ?gX ?gN ?gT ?gk ?gp ?gd ?gu ?_; walk_at "gclaim"; (case gp => (refine And.intro (AccAt.grown (by assumption) ?_) (by k_mem); intro p hp; repeat (first | exact hp | refine .tail _ ?_))); (case gh1 => assumption); (case gh2 => assumption); (case gh3 => exact marks_len (by assumption) (by assumption)); intro rows' n' news' h' tk' F' N' hA' hK' hx'; (try dsimp only); (try k_fold))) | (k_here; (with_reducible show wpAny _ _ (compareOp CmpOp.NotEq (Value.ref _) (Value.ref _)) _ _ _); k_dflt (refine' ne_strs ?j1 ?j2 ?j3 ?j4 ?j6 ?j7 ?j5 ?_; (case j1 => exact News.isList (by k_asm) (by k_mem)); (case j2 => exact News.isList (by k_asm) (by k_mem)); (case j3 => first | exact strsAre_values _ | exact .cons _ _ .nil | exact .nil); (case j4 => first | exact strsAre_values _ | exact .cons _ _ .nil | exact .nil); (case j6 => first | exact oks_of (by assumption) (getAll_ok (by assumption)) | exact oks_e | exact oks_nil | assumption); (case j7 => first | exact oks_e | exact oks_nil | exact oks_of (by assumption) (by assumption) | assumption); (case j5 => ke_room); k_whole)) | (k_here; (with_reducible show TPost _ _ _ _ _ _ _ _ _ _); dsimp only [TPost]))) | walk1) | (leave1; try dsimp only) | fail "no step")
        · rename Kept P' _ _ => hK9
          rename AccAt 273 P' D'_4 _ _ _ _ => hA9
          rename News _ _ _ _ => N9
          rename (xyOf _ = led1 _ _ _ _) => hx9
          rename (_ = Data.cell (some (Value.str ⟨#[c]⟩ u))) => d2n
          have nI : I ≠ P' := fun e => hoff _ (.tail _ (.tail _ (.tail _ (.tail _ hA6.1)))) e.symm
          have nP4 := News.ne N (.tail _ (.head _)) (.tail _ (.tail _ (.tail _ (.tail _ (.tail _ hA6.1))))) (fun e => by rw [e] at d4; cases d4)
          have nP3 := News.ne N (.tail _ (.tail _ (.head _))) (.tail _ (.tail _ (.tail _ (.tail _ (.tail _ hA6.1))))) (fun e => by rw [e] at d3; cases d3)
          have nP2 := News.ne N (.tail _ (.tail _ (.tail _ (.head _)))) (.tail _ (.tail _ (.tail _ (.tail _ (.tail _ hA6.1))))) (fun e => by rw [e] at d2'; cases d2')
          have nP1 := News.ne N (.tail _ (.tail _ (.tail _ (.tail _ (.head _))))) (.tail _ (.tail _ (.tail _ (.tail _ (.tail _ hA6.1))))) (fun e => by rw [e] at dS; cases dS)
          have mI := hK9 _ (.tail _ (.tail _ (.head _))) nI
          have k4 := hK9 _ (.tail _ (.tail _ (.tail _ (.head _)))) nP4
          have k3 := hK9 _ (.tail _ (.tail _ (.tail _ (.tail _ (.head _))))) nP3
          have k2 := hK9 _ (.tail _ (.tail _ (.tail _ (.tail _ (.tail _ (.head _)))))) nP2
          have k1 := hK9 _ (.tail _ (.tail _ (.tail _ (.tail _ (.tail _ (.tail _ (.head _))))))) nP1
          obtain ⟨X', N10, hoffN, hXs, hSt⟩ := turn_recell N9 mI k4 k3 k2 k1 f4 f3 f2 f1 d4 d3 d2n dS
          have hKX : Kept P' X _ := fun p hp hne => hK9 p (.tail _ (.tail _ (.tail _ (.tail _ (.tail _ (.tail _ (.tail _ hp))))))) hne
          have NX : News _ _ _ X := fun p hp => N p (.tail _ (.tail _ (.tail _ (.tail _ (.tail _ hp)))))
          obtain ⟨cn, hcn, hcI'⟩ := hcI
          have q1' : "dict" ≠ cn := by simp at hcn; rcases hcn with h | h <;> rw [h] <;> decide
          have q2' : "tuple" ≠ cn := by simp at hcn; rcases hcn with h | h <;> rw [h] <;> decide
          have q3' : "list" ≠ cn := by simp at hcn; rcases hcn with h | h <;> rw [h] <;> decide
          have one : ∀ {a : Addr} {o : Obj}, (a, o) ∈ X → (∀ v, o.data ≠ .cell v) → (∀ us k, o ≠ accO 273 D'_4 us k) → (a, o) ∈ X' := fun {a o} h1 h2 h3 =>
            hSt _ (mem_but.mpr ⟨hKX _ h1 (News.ne NX h1 hA6.1 (h3 _ _)), hoff _ (.tail _ (.tail _ (.tail _ (.tail _ h1))))⟩) h2
          refine ⟨_, _, _, _, rfl, by k_asm, N10, hoffN, (fun p hp => nomatch hp), ?_, _, _, X', _, _, rfl, d2n, hXs, ((hT6.kept NX hKX (fun p hp => hp) hA6.1).but N9 mI hcI' q1' q2' q3').stay hSt, (hA9.but N9 mI hcI' q1' q2').stay hSt, one g1 (fun v e => by cases e) (fun us k e => by cases congrArg Obj.data e), one g2 (fun v e => by cases e) (fun us k e => by cases congrArg Obj.data e), ⟨ts, one hD6 (fun v e => by cases e) (fun us k e => by cases congrArg Obj.cls e)⟩, ?_⟩
          · intro z h1; simp at h1; simp [over, h1]
          · rw [take_snoc hv5, List.foldl_append, ← hrs6, hx9]
            rename (List.map _ _ = getAll ⟨#[c]⟩ rows) => hl9
            rw [hl9]; rfl
        all_goals
          exfalso
          rename (List.map _ _ = getAll ⟨#[c]⟩ rows) => hl9
          refine absurd ?_ (by assumption : ¬ (_ : List Str) = _)
          rw [hl9, hone, hlc]
    rintro m₁ news₁ h tk ⟨hz, o2, v2, X5, nn, rs5, rfl, d2', ⟨x1, x2, x3, x4⟩, hT6, hA6, g1, g2, ⟨ts, hD6⟩, hrs6⟩ F N
    rw [eq_over hz] at F
    try dsimp only [over, List.foldr] at F
    rw [hsl] at hrs6
    have hrs7 : xyOf rs5 = (cs.drop 5).foldl (ledRow rows) (row0 cs) := by
      have e : (cs.drop 5).take (⟨(cs.drop 5).toArray⟩ : Str).cps.size = cs.drop 5 := List.take_of_length_le (Nat.le_of_eq (by simp))
      rw [e] at hrs6; exact hrs6
    clear hrs6
    rename_i zq77 zq117 zq119 zq121 zq128 zq158 zq182 zq184 zq195 zq196 zq197 zq199
    clear d2 tk_2 hrx hr1k hokr h'_15 tk_5 h'_16 tk_6 n_1 rs zq182 zq184 v1_1 v2_1 v3_1 v4_1 hTb5 hA5 g235_5 g242_5 hD5 hrs5 zq196 zq199 hsl FA5 hz
    revert w s₀ s₁ mg mb fa o pm doc hg w_3 w_5 hs hr hl2 w_8 w_9 hI w4 w3 w2 d4 d3 T1 X1 hss mB B1 m1 m2 m3 m4 m5 m6 m7 m8 cs t' hcl hxs zq77 k a t'_2 k' h'_3 o' dS D' l1 D'_1 D'_2 l' T' TD' D'_3 mA2 zq117 news₁ zq119 zq121 n rows zq128 hxy10 X2 gh gt hcsl hstl h'_13 F' N' P' D'_4 X3 zq158 v4 mA4 m₁_1 h_1 tk_7 X4 zq195 zq197 N0 mA5 m₁ h tk o2 v2 X5 nn rs5 d2' x1 x2 x3 x4 hT6 hA6 g1 g2 ts hD6 F N hrs7
    exact hP.out
set_option maxHeartbeats 8000000 in
noncomputable def cut9 : Cut := by
  refine' mkCut ?h
  case h =>
    intro hP
    refine cut8.2 ?_
    intro w s₀ s₁ mg mb fa o pm doc hg w_3 w_5 hs hr hl2 w_8 w_9 hI w4 w3 w2 d4 d3 T1 X1 hss mB B1 m1 m2 m3 m4 m5 m6 m7 m8 cs t' hcl hxs tk k a t'_2 k' h'_3 o' dS D' l1 D'_1 D'_2 l' T' TD' D'_3 mA2 m₁ news₁ h hz n rows F hxy10 X2 gh gt hcsl hstl h'_13 F' N' P' D'_4 X3 v2 v4 mA4 m₁_1 h_1 tk_7 X4 h'_17 k_1 N0 mA5 m₁_2 h_2 tk_8 o2 v2_2 X5 nn rs5 d2' x1 x2 x3 x4 hT6 hA6 g1 g2 ts hD6 F_1 N hrs7
    have hbare : AllBare s₁.gens := AllBare.of_eq hg
    obtain ⟨gm1, ⟨gh, gt, gu, gm2⟩, gm3⟩ := id hA6
    obtain ⟨hrf1, hrf2⟩ := row_facts hrs7
    have N0 := N
    repeat' (first | (k_unfold; (try dsimp only)) | (k_end; wrow_close) | (with_reducible (first | (k_here; (with_reducible show wpAny _ _ (call (Value.ref 247) _ _) _ _ _); k_dflt (refine' (str_ok _ _ _ _ _ _ _ _ _ ?gh1 ?gh2) _ _ _ _ _ _ _ _ _ _ _ _ _ _ _ _ _ _ ?gB ?gF ?gX ?gN ?gT ?gk ?gp ?gG ?gd ?gu ?_; walk_at "gclaim"; (case gp => (refine And.intro (AccAt.grown (by assumption) ?_) (by k_mem); intro p hp; repeat (first | exact hp | refine .tail _ ?_))); (case gG => assumption); (case gh1 => assumption); (case gh2 => assumption); intro s' t' ps' hos' hG' F' N'; (try dsimp only); (try k_fold))))) | walk1 | (dsimp only; first | (with_reducible (first | (k_here; (with_reducible show wpAny _ _ (call (Value.ref 247) _ _) _ _ _); k_dflt (refine' (str_ok _ _ _ _ _ _ _ _ _ ?gh1 ?gh2) _ _ _ _ _ _ _ _ _ _ _ _ _ _ _ _ _ _ ?gB ?gF ?gX ?gN ?gT ?gk ?gp ?gG ?gd ?gu ?_; walk_at "gclaim"; (case gp => (refine And.intro (AccAt.grown (by assumption) ?_) (by k_mem); intro p hp; repeat (first | exact hp | refine .tail _ ?_))); (case gG => assumption); (case gh1 => assumption); (case gh2 => assumption); intro s' t' ps' hos' hG' F' N'; (try dsimp only); (try k_fold))))) | walk1) | (leave1; try dsimp only) | fail "no step")
    dsimp only [StrBack]
    rename News _ _ _ ((242, _) :: but 242 _) => N9
    rename AllBare _ => hbare2
    rename (_ = s₁.os) => hos2
    obtain ⟨X6, N10, hX6, g2', mv, mvq⟩ := tab_recell N0 N9 g2 rfl (fun v e => by cases e) m8.symm m7.symm m6.symm m5.symm d4 d3 d2' dS
    have hT7 := hT6.move mv
    have hA7 := hA6.move mv
    have hD7 := mv _ hD6 (fun e => by cases e) (fun v e => by cases e)
    have g1' := mvq _ g1 (by decide) (fun v e => by cases e)
    obtain ⟨x1', x2', x3', x4'⟩ := hX6
    clear N9 N N0 gm1 gm2 gm3 gh gt gu
    obtain ⟨gm1, ⟨gh, gt, gu, gm2⟩, gm3⟩ := id hA7
    have hlenw := strR_len rs5
    have hlenr := lenR_le rs5 hrf2
    obtain ⟨hrs5l, _⟩ := rs_facts hrs7
    have hf3 := fmod3 ((w_5.length : Nat) : Int)
    have hfitw : (strR rs5).length ≤ 10000 := by omega
    have N0 := N10
    repeat' (first | (k_unfold; (try dsimp only)) | (k_end; wrow_close) | (with_reducible (first | (k_here; (with_reducible show wpAny _ _ (call (Value.ref 240) _ _) _ _ _); k_dflt (refine' (len_ok _ _ _ _ _ _ _ _ _ ?gh1 ?gh2) _ _ _ _ _ _ _ _ _ _ _ _ _ _ _ _ _ _ ?gB ?gF ?gX ?gN ?gT ?gk ?gp ?gG ?gd ?gu ?_; walk_at "gclaim"; (case gp => (refine And.intro (AccAt.grown (by assumption) ?_) (by k_mem); intro p hp; repeat (first | exact hp | refine .tail _ ?_))); (case gG => assumption); (case gh1 => assumption); (case gh2 => assumption); intro s' t' ps' hos' hG' F' N'; (try dsimp only); (try k_fold))))) | walk1 | (dsimp only; first | (with_reducible (first | (k_here; (with_reducible show wpAny _ _ (call (Value.ref 240) _ _) _ _ _); k_dflt (refine' (len_ok _ _ _ _ _ _ _ _ _ ?gh1 ?gh2) _ _ _ _ _ _ _ _ _ _ _ _ _ _ _ _ _ _ ?gB ?gF ?gX ?gN ?gT ?gk ?gp ?gG ?gd ?gu ?_; walk_at "gclaim"; (case gp => (refine And.intro (AccAt.grown (by assumption) ?_) (by k_mem); intro p hp; repeat (first | exact hp | refine .tail _ ?_))); (case gG => assumption); (case gh1 => assumption); (case gh2 => assumption); intro s' t' ps' hos' hG' F' N'; (try dsimp only); (try k_fold))))) | walk1) | (leave1; try dsimp only) | fail "no step")
    show PySem.W.LenBack _ _ _
    refine ⟨⟨by omega, by omega⟩, ?_⟩
    rename News _ _ _ ((235, _) :: but 235 _) => N9
    rename AllBare _ => hbare3
    rename (_ = PySem.Shared.os _) => hos3
    obtain ⟨X7, N11, hX7, g1'', mv7, mvq7⟩ := tab_recell N0 N9 g1' rfl (fun v e => by cases e) m4.symm m3.symm m2.symm m1.symm d4 d3 d2' dS
    have hT8' := hT7.move mv7
    have hA8 := hA7.move mv7
    have hD8 := mv7 _ hD7 (fun e => by cases e) (fun v e => by cases e)
    have g2'' := mvq7 _ g2' (by show (242 : Nat) ≠ 235; decide) (fun v e => by cases e)
    clear N9 N0 N10 gm1 gm2 gm3 gh gt gu x1' x2' x3' x4'
    obtain ⟨x1', x2', x3', x4'⟩ := hX7
    obtain ⟨gm1, ⟨gh, gt, gu, gm2⟩, gm3⟩ := id hA8
    repeat' (first | (k_unfold; (try dsimp only)) | (k_end; wrow_close) | (with_reducible (first | (k_here; (with_reducible show wpAny _ _ (pyIter (Value.ref _)) (fun it s₂ => TurnsAt _ _ _ _ _ _ _ _ _ it s₂) _ _); k_dflt (refine stopHere ?_)) | (k_here; (with_reducible show wpAny _ _ (exec (Stmt.For (Expr.Name _ _) (Expr.Call _ _ _ _) _ _ _) _) _ _ _); (rename Fr _ _ _ _ => lF'); k_dflt (with_unfolding_all refine' For_turns lF' ?_; k_whole)))) | walk1 | (dsimp only; first | (with_reducible (first | (k_here; (with_reducible show wpAny _ _ (pyIter (Value.ref _)) (fun it s₂ => TurnsAt _ _ _ _ _ _ _ _ _ it s₂) _ _); k_dflt (refine stopHere ?_)) | (k_here; (with_reducible show wpAny _ _ (exec (Stmt.For (Expr.Name _ _) (Expr.Call _ _ _ _) _ _ _) _) _ _ _); (rename Fr _ _ _ _ => lF'); k_dflt (with_unfolding_all refine' For_turns lF' ?_; k_whole)))) | walk1) | (leave1; try dsimp only) | fail "no step")
    · exfalso; rename (@Ne Int _ _) => hb; exact hb (by rw [hlenw])
    · exfalso; rename (@Ne Int _ _) => hb; exact hb (by rw [hlenw])
    show wpAny _ _ _ _ _ _
    clear N11
    rename_i zq69 zq77 zq133 zq134 zq225 zq226 zq227 zq241 zq244 zq245 zq269 zq270 zq271 zq272 zq273 zq274 zq275 zq276 zq277 zq278 zq280 zq281 zq282 zq283 zq284 zq285 zq286 zq287 zq288
    clear hg d3 m1 m2 m3 m4 m5 m6 m7 m8 TD' h_1 tk_7 k_1 hT6 hA6 ts hD6 F_1 hbare hrf1 hrf2 hbare2 mv mvq hT7 hA7 hD7 hlenw hlenr zq241 hf3 hfitw t' mv7 mvq7 hT8' hD8 zq269 zq270 zq272 zq273 zq276 zq277 zq288
    revert w s₀ s₁ mg mb fa o pm doc w_3 w_5 hs hr hl2 w_8 w_9 hI w4 w3 w2 d4 T1 X1 hss mB B1 cs zq69 hcl hxs zq77 k a t'_2 k' h'_3 o' dS D' l1 D'_1 D'_2 l' T' D'_3 mA2 m₁ news₁ h hz n rows F hxy10 X2 zq133 zq134 hcsl hstl h'_13 F' N' P' D'_4 X3 v2 v4 mA4 m₁_1 X4 h'_17 N0 mA5 m₁_2 h_2 tk_8 o2 v2_2 X5 nn rs5 d2' x1 x2 x3 x4 g1 g2 hrs7 zq225 zq226 zq227 hos2 X6 g2' g1' hrs5l zq244 zq245 s' ps' hos3 hbare3 X7 g1'' hA8 g2'' x1' x2' x3' x4' gm1 gm3 gh gt gu gm2 zq271 zq274 zq275 zq278 tk zq280 zq281 zq282 zq283 zq284 zq285 zq286 zq287
    exact hP.out
set_option maxHeartbeats 8000000 in
noncomputable def cut10 : Cut := by
  refine' mkCut ?h
  case h =>
    intro hP
    refine cut9.2 ?_
    intro w s₀ s₁ mg mb fa o pm doc w_3 w_5 hs hr hl2 w_8 w_9 hI w4 w3 w2 d4 T1 X1 hss mB B1 cs t' hcl hxs tk k a t'_2 k' h'_3 o' dS D' l1 D'_1 D'_2 l' T' D'_3 mA2 m₁ news₁ h hz n rows F hxy10 X2 gh gt hcsl hstl h'_13 F' N' P' D'_4 X3 v2 v4 mA4 m₁_1 X4 h'_17 N0 mA5 m₁_2 h_2 tk_8 o2 v2_2 X5 nn rs5 d2' x1 x2 x3 x4 g1 g2 hrs7 s' t'_4 ps' hos2 X6 g2' g1' hrs5l h'_18 tk_9 s'_1 ps'_1 hos3 hbare3 X7 g1'' hA8 g2'' x1' x2' x3' x4' gm1 gm3 gh_1 gt_1 gu gm2 l'_1 h'_20 o'_1 d' tk_11 h'_21 tk_12 t₁_1 u₁_1 v₁_1 a_5 a_6 a_7
    rename News _ _ _ _ => N0
    obtain ⟨X8, N12, y1', y2', y3', y4', hS8⟩ := recell N0 (.tail _ (.head _)) (.tail _ (.tail _ (.head _))) (.tail _ (.tail _ (.tail _ (.head _)))) (.tail _ (.tail _ (.tail _ (.tail _ (.head _))))) d4 d' d2' dS
    have inX : ∀ p ∈ X7, (∀ v, p.2.data ≠ .cell v) → p ∈ X8 := fun p hp hd => hS8 p (.tail _ (.tail _ (.tail _ (.tail _ (.tail _ hp))))) hd
    have hG9 := hS8 _ (.head _) (fun v e => by cases e)
    have hA9 := hA8.move (X' := X8) (fun p hp _ hd => inX p hp hd)
    have g19 := inX _ g1'' (fun v e => by cases e)
    have g29 := inX _ g2'' (fun v e => by cases e)
    have htk5 : rs5.take 5 = rs5 := List.take_of_length_le (by omega)
    have hdr5 : rs5.drop 5 = [] := List.drop_eq_nil_of_le (by omega)
    clear N0
    rename Fr _ _ _ _ => FA7
    refine Fr.fold FA7 ?_
    clear FA7
    intro mA7 FA7
    refine' turns_range (fun m₀ l₀ i m l => (∀ z, z ∉ [Str.ofString "place", Str.ofString "gap"] → m z = m₀ z) ∧ ∃ GL gk o3 o2 v2 X nn gl, l = (s₁.heap.objs.size + 1 + 1 + 1 + 1, w4) :: (s₁.heap.objs.size + 1 + 1 + 1, o3) :: (s₁.heap.objs.size + 1 + 1, o2) :: (s₁.heap.objs.size + 1, o') :: X ∧ o3.data = .cell (some (.ref GL)) ∧ o2.data = .cell v2 ∧ ((∀ p ∈ X, p.1 ≠ s₁.heap.objs.size + 1) ∧ (∀ p ∈ X, p.1 ≠ s₁.heap.objs.size + 1 + 1) ∧ (∀ p ∈ X, p.1 ≠ s₁.heap.objs.size + 1 + 1 + 1) ∧ (∀ p ∈ X, p.1 ≠ s₁.heap.objs.size + 1 + 1 + 1 + 1)) ∧
      (GL, listOf (strValues gl).toArray gk) ∈ X ∧ AccAt 273 P' D'_4 ((((w_5.length : Nat) : Int)).fmod 3) nn (rs5.take (5 - i)) X ∧ (235, tabO ps'_1) ∈ X ∧ (242, tabO ps') ∈ X ∧ gl.map (·.1) = (rs5.drop (5 - i)).map (·.x)) ?hh ?hr ?h1 ?h2 ?h3 ?hF ?hN ?hj ?turn ?done
    case hh => rfl
    case hr => assumption
    case h1 => decide
    case h2 => decide
    case h3 => decide
    case hF => k_asm
    case hN => exact N12
    case hj => exact ⟨fun _ _ => rfl, _, _, _, _, _, X8, _, [], rfl, d', d2', ⟨y1', y2', y3', y4'⟩, hG9, by rw [htk5]; exact hA9, g19, g29, by rw [hdr5]; rfl⟩
    case turn =>
      rintro I i v m₁ news₁ h tk oI hcI hi hv ⟨hz, GL, gk, o3, o2, v2, X, nn, gl, rfl, d3n, d2n, ⟨x1, x2, x3, x4⟩, hG, hA, g1, g2, hgl⟩ hoff F N u
      rw [eq_over hz] at F
      try dsimp only [over, List.foldr] at F
      obtain rfl : v = (i : Int) := by omega
      have hi5 : i < 5 := hi
      have hr9 : rs5[4 - i]? = some rs5[4 - i] := List.getElem?_eq_getElem (by omega)
      have hsplit : rs5.take (5 - i) = rs5.take (4 - i) ++ [rs5[4 - i]] := by
        have := take_snoc hr9
        rw [show 4 - i + 1 = 5 - i by omega] at this; exact this
      have hdrop : rs5.drop (4 - i) = rs5[4 - i] :: rs5.drop (5 - i) := by
        have := List.drop_eq_getElem_cons (l := rs5) (i := 4 - i) (by omega)
        rw [show 4 - i + 1 = 5 - i by omega] at this; exact this
      have hyr : rs5[4 - i].y = Txt.item (strip5 cs) (((4 - i : Nat)) : Int) := row_y hrs7 (by omega) _
      rw [show ((4 - i : Nat) : Int) = 4 - (i : Int) by omega] at hyr
      rw [hsplit] at hA
      generalize rs5[4 - i] = r at hA hyr hdrop
      obtain ⟨gm1, ⟨gh, gt, gu, gm2⟩, gm3⟩ := id hA
      have hgll : gl.length ≤ 5 := by
        have := congrArg List.length hgl
        simp at this; omega
      have hle9 : (rs5.take (4 - i)).length ≤ 900 := by rw [List.length_take]; omega
      have hent := gm3 r (List.mem_append.mpr (.inr (.head _)))
      have hoff' := hoff; simp only [List.mem_cons, forall_eq_or_imp] at hoff'; obtain ⟨f4, f3, f2, f1, f0⟩ := hoff'
      have b4 := f4.symm; have b3 := f3.symm; have b2 := f2.symm; have b1 := f1.symm
      repeat' (first | (k_unfold; (try dsimp only)) | (k_end; wrow_close) | (with_reducible (first | (k_here; (with_reducible show wpAny _ _ (call (Value.ref 233) _ _) _ _ _); k_dflt (refine' (pop_snoc _ _ _ _ _ _ _ _ _ _ ?gh1) _ _ _ _ _ _ _ _ _ _ _ _ _ _ _ _ _ _ ?gB ?gF ?gX ?gN ?gT ?gk ?gp ?gd ?gu ?_; walk_at "gclaim"; (case gp => (refine AccAt.grown (by assumption) ?_; intro p hp; repeat (first | exact hp | refine .tail _ ?_))); (case gh1 => assumption); intro news' h' tk' F' N' hA' hK'; (try dsimp only); (try k_fold))) | (k_here; (with_reducible show wpAny _ _ (getMethod (Value.ref _) _ _) _ _ _); k_dflt (refine' acc_method_K ?aF ?aX ?aN ?a1 ?a2 ?ag ?ak ?af ?aq ?ar ?aw ?_; (case aF => k_asm); (case aX => k_asm); (case aN => k_asm); (case a1 => k_mem); (case a2 => k_mem); (case ag => k_is); (case ak => k_is); (case af => k_is); (case aq => k_is); (case ar => decide +kernel); (case aw => rfl))))) | walk1 | (dsimp only; first | (with_reducible (first | (k_here; (with_reducible show wpAny _ _ (call (Value.ref 233) _ _) _ _ _); k_dflt (refine' (pop_snoc _ _ _ _ _ _ _ _ _ _ ?gh1) _ _ _ _ _ _ _ _ _ _ _ _ _ _ _ _ _ _ ?gB ?gF ?gX ?gN ?gT ?gk ?gp ?gd ?gu ?_; walk_at "gclaim"; (case gp => (refine AccAt.grown (by assumption) ?_; intro p hp; repeat (first | exact hp | refine .tail _ ?_))); (case gh1 => assumption); intro news' h' tk' F' N' hA' hK'; (try dsimp only); (try k_fold))) | (k_here; (with_reducible show wpAny _ _ (getMethod (Value.ref _) _ _) _ _ _); k_dflt (refine' acc_method_K ?aF ?aX ?aN ?a1 ?a2 ?ag ?ak ?af ?aq ?ar ?aw ?_; (case aF => k_asm); (case aX => k_asm); (case aN => k_asm); (case a1 => k_mem); (case a2 => k_mem); (case ag => k_is); (case ak => k_is); (case af => k_is); (case aq => k_is); (case ar => decide +kernel); (case aw => rfl))))) | walk1) | (leave1; try dsimp only) | fail "no step")
      rename Kept P' _ _ => hK9
      rename AccAt 273 P' D'_4 _ _ _ _ => hA99
      rename News _ _ _ _ => N9
      have nI : I ≠ P' := fun e => hoff _ (.tail _ (.tail _ (.tail _ (.tail _ hA.1)))) e.symm
      have nP4 := News.ne N (.tail _ (.head _)) (.tail _ (.tail _ (.tail _ (.tail _ (.tail _ hA.1))))) (fun e => by rw [e] at d4; cases d4)
      have nP3 := News.ne N (.tail _ (.tail _ (.head _))) (.tail _ (.tail _ (.tail _ (.tail _ (.tail _ hA.1))))) (fun e => by rw [e] at d3n; cases d3n)
      have nP2 := News.ne N (.tail _ (.tail _ (.tail _ (.head _)))) (.tail _ (.tail _ (.tail _ (.tail _ (.tail _ hA.1))))) (fun e => by rw [e] at d2n; cases d2n)
      have nP1 := News.ne N (.tail _ (.tail _ (.tail _ (.tail _ (.head _))))) (.tail _ (.tail _ (.tail _ (.tail _ (.tail _ hA.1))))) (fun e => by rw [e] at dS; cases dS)
      obtain ⟨X', N10, hoffN, ⟨x1', x2', x3', x4'⟩, hSt⟩ := turn_recell N9 (hK9 _ (.head _) nI) (hK9 _ (.tail _ (.head _)) nP4) (hK9 _ (.tail _ (.tail _ (.head _))) nP3) (hK9 _ (.tail _ (.tail _ (.tail _ (.head _)))) nP2) (hK9 _ (.tail _ (.tail _ (.tail _ (.tail _ (.head _))))) nP1) f4 f3 f2 f1 d4 d3n d2n dS
      have NX : News _ _ _ X := fun p hp => N p (.tail _ (.tail _ (.tail _ (.tail _ (.tail _ hp)))))
      have one : ∀ {a : Addr} {o : Obj}, (a, o) ∈ X → (∀ v, o.data ≠ .cell v) → (∀ us k, o ≠ accO 273 D'_4 us k) → (a, o) ∈ X' := fun {a o} h1 h2 h3 =>
        hSt _ (mem_but.mpr ⟨hK9 _ (.tail _ (.tail _ (.tail _ (.tail _ (.tail _ h1))))) (News.ne NX h1 hA.1 (h3 _ _)), hoff _ (.tail _ (.tail _ (.tail _ (.tail _ h1))))⟩) h2
      have hent' := one hent (fun v e => by cases e) (fun us k e => by cases congrArg Obj.cls e)
      have hG' := one hG (fun v e => by cases e) (fun us k e => by cases congrArg Obj.cls e)
      have g1' := one g1 (fun v e => by cases e) (fun us k e => by cases congrArg Obj.data e)
      have g2' := one g2 (fun v e => by cases e) (fun us k e => by cases congrArg Obj.data e)
      have hA' := (hA99.but N9 (hK9 _ (.head _) nI) hcI (by decide) (by decide)).stay hSt
      try dsimp only [Row4.ent] at hent'
      clear N9 gm1 gm2 gm3 gh gt gu NX one
      repeat' (first | (k_unfold; (try dsimp only)) | (k_end; wrow_close) | (with_reducible (first | (k_here; (with_reducible show wpAny _ _ (binaryOp _ (Value.ref _) (Value.ref _)) _ _ _); k_dflt (refine' kmk_add_lit ?F ?N ?a ?b ?e ?_ ?z; (case F => k_asm); (case N => k_asm); (case a => exact News.isList (by k_asm) (by k_mem)); (case b => exact News.isList (by k_asm) (by k_mem)); (case e => rfl); (case z => (simp only [strValues, List.size_toArray, List.length_map, List.length_append, List.length_cons, List.length_nil, sizeLine_eq]; omega))); intro D' h' F' N' l1; (try k_lt l1)) | (k_here; (with_reducible show TPost _ _ _ _ _ _ _ _ _ _); dsimp only [TPost]))) | walk1 | (dsimp only; first | (with_reducible (first | (k_here; (with_reducible show wpAny _ _ (binaryOp _ (Value.ref _) (Value.ref _)) _ _ _); k_dflt (refine' kmk_add_lit ?F ?N ?a ?b ?e ?_ ?z; (case F => k_asm); (case N => k_asm); (case a => exact News.isList (by k_asm) (by k_mem)); (case b => exact News.isList (by k_asm) (by k_mem)); (case e => rfl); (case z => (simp only [strValues, List.size_toArray, List.length_map, List.length_append, List.length_cons, List.length_nil, sizeLine_eq]; omega))); intro D' h' F' N' l1; (try k_lt l1)) | (k_here; (with_reducible show TPost _ _ _ _ _ _ _ _ _ _); dsimp only [TPost]))) | walk1) | (leave1; try dsimp only) | fail "no step")
      · exfalso; rename ((_ != _) = true) => hb; exact bne_iff_ne.mp hb hyr
      · exfalso; rename ((_ != _) = true) => hb; exact bne_iff_ne.mp hb hyr
      · rename News _ _ _ _ => N9
        rename (_ = Data.cell (some (Value.ref _))) => d3z
        rename (_ = Data.cell (some (Value.str r.y r.u))) => d2z
        obtain ⟨X9, N13, hoff9, hX9, hSt9⟩ := turn_recell N9 (.tail _ (.tail _ (.head _))) (.tail _ (.tail _ (.tail _ (.head _)))) (.tail _ (.tail _ (.tail _ (.tail _ (.head _))))) (.tail _ (.tail _ (.tail _ (.tail _ (.tail _ (.head _)))))) (.tail _ (.tail _ (.tail _ (.tail _ (.tail _ (.tail _ (.head _))))))) f4 f3 f2 f1 d4 d3z d2z dS
        have in9 : ∀ p ∈ X', (∀ v, p.2.data ≠ .cell v) → p ∈ X9 := fun p hp hd => hSt9 _ (mem_but.mpr ⟨.tail _ (.tail _ (.tail _ (.tail _ (.tail _ (.tail _ (.tail _ hp)))))), hoffN _ (.tail _ (.tail _ (.tail _ (.tail _ hp))))⟩) hd
        have hDn := hSt9 _ (mem_but.mpr ⟨.head _, News.ne N9 (.head _) (.tail _ (.tail _ (.head _))) (list_ne_cls hcI (by decide))⟩) (fun v e => by cases e)
        refine ⟨_, _, _, _, rfl, by k_asm, N13, hoff9, (fun p hp => nomatch hp), ?_, _, _, _, _, _, X9, _, (r.x, r.t) :: gl, rfl, d3z, d2z, hX9, hDn, (show AccAt 273 P' D'_4 _ _ (rs5.take (5 - (i + 1))) X9 from by rw [show 5 - (i + 1) = 4 - i by omega]; exact hA'.move (fun p hp _ hd => in9 p hp hd)), in9 _ g1' (fun v e => by cases e), in9 _ g2' (fun v e => by cases e), ?_⟩
        · intro z h1; simp at h1; simp [over, h1]
        · rw [show 5 - (i + 1) = 4 - i by omega, hdrop, List.map_cons, List.map_cons, hgl]
    rintro m₁ news₁ h tk ⟨hz, GL, gk, o3, o2, v2, X, nn, gl, rfl, d3n, d2n, ⟨x1, x2, x3, x4⟩, hG, hA, g1, g2, hgl⟩ F N
    rw [eq_over hz] at F
    try dsimp only [over, List.foldr] at F
    have hgl5 : gl.map (·.1) = rs5.map (·.x) := hgl
    have hA5e : AccAt 273 P' D'_4 ((((w_5.length : Nat) : Int)).fmod 3) nn [] X := hA
    clear hgl hA
    rename_i zq77 zq117 zq119 zq121 zq128 zq158 zq204 zq207 zq210 zq211 zq212 zq213 zq216 zq217
    clear o a zq158 v2_2 X5 d2' zq210 zq211 zq212 zq213 zq216 zq217 X6 g2' g1' g1'' hA8 g2'' x1' x2' x3' x4' o'_1 d' t₁_1 u₁_1 v₁_1 a_5 N12 hS8 inX hG9 hA9 g19 g29 htk5 hdr5 FA7 hz x1 x2 x3 x4
    revert w s₀ s₁ mg mb fa pm doc w_3 w_5 hs hr hl2 w_8 w_9 hI w4 w3 w2 d4 T1 X1 hss mB B1 cs t' hcl hxs zq77 k t'_2 k' h'_3 o' dS D' l1 D'_1 D'_2 l' T' D'_3 mA2 zq117 news₁ zq119 zq121 n rows zq128 hxy10 X2 gh gt hcsl hstl h'_13 F' N' P' D'_4 X3 v4 mA4 m₁_1 X4 h'_17 N0 mA5 m₁_2 h_2 tk_8 zq204 zq207 rs5 hrs7 s' t'_4 ps' hos2 hrs5l h'_18 tk_9 s'_1 ps'_1 hos3 hbare3 X7 gm1 gm3 gh_1 gt_1 gu gm2 l'_1 h'_20 tk_11 h'_21 tk_12 X8 y1' y2' y3' y4' mA7 m₁ h tk GL gk o3 o2 v2 X nn gl d3n d2n hG g1 g2 F N hgl5 hA5e
    exact hP.out
set_option maxHeartbeats 8000000 in
noncomputable def cut11 : Cut := by
  refine' mkCut ?h
  case h =>
    intro hP
    refine cut10.2 ?_
    intro w s₀ s₁ mg mb fa pm doc w_3 w_5 hs hr hl2 w_8 w_9 hI w4 w3 w2 d4 T1 X1 hss mB B1 cs t' hcl hxs tk k t'_2 k' h'_3 o' dS D' l1 D'_1 D'_2 l' T' D'_3 mA2 m₁ news₁ h hz n rows F hxy10 X2 gh gt hcsl hstl h'_13 F' N' P' D'_4 X3 v4 mA4 m₁_1 X4 h'_17 N0 mA5 m₁_2 h_2 tk_8 o2 nn rs5 hrs7 s' t'_4 ps' hos2 hrs5l h'_18 tk_9 s'_1 ps'_1 hos3 hbare3 X7 gm1 gm3 gh_1 gt_1 gu gm2 l'_1 h'_20 tk_11 h'_21 tk_12 X8 y1' y2' y3' y4' mA7 m₁_3 h_3 tk_13 GL gk o3 o2_1 v2_3 X nn_1 gl d3n d2n hG g1_1 g2_1 F_2 N hgl5 hA5e
    obtain ⟨wa, wb, wc, wd, hw4⟩ := four hcl
    obtain ⟨gm1, ⟨gh, gt, gu, gm2⟩, gm3⟩ := id hA5e
    obtain ⟨hrs5l', hrs5x⟩ := rs_facts hrs7
    have hgl5l : gl.length = 5 := by have := congrArg List.length hgl5; simpa [hrs5l] using this
    have hwh := whole_eq hrs7 hrs5l
    repeat' (first | (k_unfold; (try dsimp only)) | (k_end; wrow_close) | (with_reducible (first | (k_here; (with_reducible show LCg.CompSrc _ _ _ _ _ _ _ _ _ _ _ _ _ _); refine stopHere ?_) | (k_here; (with_reducible show wpAny _ _ (eval (Expr.ListComp _ [{ target := _, iter := _, ifs := [], is_async := _ }] _ _) _) _ _ _); k_dflt (refine LCg.ListComp_U (F₀ := by k_asm) (by with_unfolding_all rfl) (by decide) (by rfl) (by decide) (by rfl) ?_)))) | walk1 | (dsimp only; first | (with_reducible (first | (k_here; (with_reducible show LCg.CompSrc _ _ _ _ _ _ _ _ _ _ _ _ _ _); refine stopHere ?_) | (k_here; (with_reducible show wpAny _ _ (eval (Expr.ListComp _ [{ target := _, iter := _, ifs := [], is_async := _ }] _ _) _) _ _ _); k_dflt (refine LCg.ListComp_U (F₀ := by k_asm) (by with_unfolding_all rfl) (by decide) (by rfl) (by decide) (by rfl) ?_)))) | walk1) | (leave1; try dsimp only) | fail "no step")
    show LCg.CompSrc _ _ _ _ _ _ _ _ _ _ _ _ _ _
    k_dflt (refine' LCg.CompSrc.range (n := 5) ?hh ?F ?N ?hr ?hs ?hn ?hz ?_)
    case hh => rfl
    case F => k_asm
    case N => k_asm
    case hr => assumption
    case hs => decide
    case hn => decide
    case hz => rw [sizeLine_eq]; decide
    intro g0
    refine lcu_rest (items := List.range 5) (fun (k : Nat) v => k < 5 ∧ ∃ t, v = .int (k : Int) t) (fun k t => .str ((gl.map (·.1)).getD k Str.empty ++ Txt.item (strip5 cs) (k : Int)) t) ?hn ?hP ?hS ?cturn ?fin
    case hn => rfl
    case hP =>
      rintro j v hj ⟨t, rfl⟩
      exact ⟨j, List.getElem?_range (by omega), by omega, t, by simp⟩
    case hS => trivial
    case cturn =>
      rintro k v I' oI' C oC D m₂ ys h tk E' hk ⟨hk5, t, rfl⟩ hC hx' F' N' off ne
      dsimp only
      have hkl : k < gl.length := by omega
      have hx5 : ((gl.map (·.1)).getD k Str.empty).length ≤ 5 := by
        rw [hgl5, List.getD_eq_getElem?_getD, List.getElem?_map]
        cases hk : rs5[k]? with
        | none => exact Nat.zero_le _
        | some r => exact hrs5x r (List.mem_of_getElem? hk)
      repeat' (first | (k_unfold; (try dsimp only)) | (k_end; wrow_close) | (with_reducible (first | (k_here; (with_reducible show wpAny _ _ (subscriptTail (Expr.Name _ _) (Expr.Name _ _) (Value.ref _) (Value.int _ _)) _ _ _); k_dflt (refine' led_gl ?jN ?jm ?jk ?jz ?_; (case jN => k_asm); (case jm => k_mem); (case jk => assumption); (case jz => omega); intro t')))) | walk1 | (dsimp only; first | (with_reducible (first | (k_here; (with_reducible show wpAny _ _ (subscriptTail (Expr.Name _ _) (Expr.Name _ _) (Value.ref _) (Value.int _ _)) _ _ _); k_dflt (refine' led_gl ?jN ?jm ?jk ?jz ?_; (case jN => k_asm); (case jm => k_mem); (case jk => assumption); (case jz => omega); intro t')))) | walk1) | (leave1; try dsimp only) | fail "no step")
      exact LCg.CompEnd.intro (by k_asm) (by k_asm) _ (fun p hp => hp) off trivial (LcEl.mk rfl rfl rfl)
    intro ys hO
    dsimp only
    obtain ⟨lj, rfl, hlj⟩ := hO.strs
    rw [hgl5] at hlj
    repeat' (first | (k_unfold; (try dsimp only)) | (k_end; wrow_close) | (with_reducible (first | (k_here; (with_reducible show wpAny _ _ (call (Value.builtin "str.join") [Value.str _ _, Value.ref _]) _ _ _); k_dflt (refine' led_join ?jN ?jm ?ji ?jo ?_; (case jN => k_asm); (case jm => k_mem); (case ji => exact strsAre_values _); (case jo => (rename (List.map _ _ = List.map _ (List.range 5)) => hl9; rw [hl9]; exact join5_small (by assumption)))); intro t' k') | (k_here; (with_reducible show wpAny _ _ (call (Value.builtin "str.lower") _) _ _ _); k_dflt (refine' low_r ?jy ?jz ?_; (case jy => with_reducible exact low59w (by assumption) (by assumption) (by assumption)); (case jz => exact Nat.le_trans (len_slice_le _ _ _) (len9 (by assumption))); intro t' k')) | (k_here; (with_reducible show wpAny _ _ (call (Value.ref 294) _ _) _ _ _); k_dflt (refine' (parts_ok _ _ _ _ _ _ _ _ _) _ _ _ _ _ _ _ _ _ _ _ _ _ _ _ _ _ _ ?gB ?gF ?gX ?gN ?gT ?gk ?gp ?gd ?gu ?_; walk_at "gclaim"; (case gp => trivial); intro PL' p5' p4' p3' p2' p1' p0' s0' s1' s2' s3' s4' k0' k1' k2' k3' k4' h' tk' F' N' hs0' hs1' hs2' hs3' hs4'; (try dsimp only); (try k_fold))) | (k_here; (with_reducible show wpAny _ _ (call (Value.ref 233) _ _) _ _ _); k_dflt (refine' (pop_nil _ _ _ _ _ _ _ _) _ _ _ _ _ _ _ _ _ _ _ _ _ _ _ _ _ _ ?gB ?gF ?gX ?gN ?gT ?gk ?gp ?gd ?gu ?_; walk_at "gclaim"; (case gp => (refine AccAt.grown (by assumption) ?_; intro p hp; repeat (first | exact hp | refine .tail _ ?_))); intro q' h' tk' t' u' F' N' l1; (try k_lt l1); (try dsimp only); (try k_fold))) | (k_here; (with_reducible show wpAny _ _ (pyIter (Value.ref _)) (fun it s₂ => TurnsAt _ _ _ _ _ _ _ _ _ it s₂) _ _); k_dflt (refine stopHere ?_)) | (k_here; (with_reducible show wpAny _ _ (exec (Stmt.For (Expr.Name _ _) (Expr.Call _ _ _ _) _ _ _) _) _ _ _); (rename Fr _ _ _ _ => lF'); k_dflt (with_unfolding_all refine' For_turns lF' ?_; k_whole)) | (k_here; (with_reducible show wpAny _ _ (getMethod (Value.ref _) _ _) _ _ _); k_dflt (refine' acc_method_K ?aF ?aX ?aN ?a1 ?a2 ?ag ?ak ?af ?aq ?ar ?aw ?_; (case aF => k_asm); (case aX => k_asm); (case aN => k_asm); (case a1 => k_mem); (case a2 => k_mem); (case ag => k_is); (case ak => k_is); (case af => k_is); (case aq => k_is); (case ar => decide +kernel); (case aw => rfl))))) | walk1 | (dsimp only; first | (with_reducible (first | (k_here; (with_reducible show wpAny _ _ (call (Value.builtin "str.join") [Value.str _ _, Value.ref _]) _ _ _); k_dflt (refine' led_join ?jN ?jm ?ji ?jo ?_; (case jN => k_asm); (case jm => k_mem); (case ji => exact strsAre_values _); (case jo => (rename (List.map _ _ = List.map _ (List.range 5)) => hl9; rw [hl9]; exact join5_small (by assumption)))); intro t' k') | (k_here; (with_reducible show wpAny _ _ (call (Value.builtin "str.lower") _) _ _ _); k_dflt (refine' low_r ?jy ?jz ?_; (case jy => with_reducible exact low59w (by assumption) (by assumption) (by assumption)); (case jz => exact Nat.le_trans (len_slice_le _ _ _) (len9 (by assumption))); intro t' k')) | (k_here; (with_reducible show wpAny _ _ (call (Value.ref 294) _ _) _ _ _); k_dflt (refine' (parts_ok _ _ _ _ _ _ _ _ _) _ _ _ _ _ _ _ _ _ _ _ _ _ _ _ _ _ _ ?gB ?gF ?gX ?gN ?gT ?gk ?gp ?gd ?gu ?_; walk_at "gclaim"; (case gp => trivial); intro PL' p5' p4' p3' p2' p1' p0' s0' s1' s2' s3' s4' k0' k1' k2' k3' k4' h' tk' F' N' hs0' hs1' hs2' hs3' hs4'; (try dsimp only); (try k_fold))) | (k_here; (with_reducible show wpAny _ _ (call (Value.ref 233) _ _) _ _ _); k_dflt (refine' (pop_nil _ _ _ _ _ _ _ _) _ _ _ _ _ _ _ _ _ _ _ _ _ _ _ _ _ _ ?gB ?gF ?gX ?gN ?gT ?gk ?gp ?gd ?gu ?_; walk_at "gclaim"; (case gp => (refine AccAt.grown (by assumption) ?_; intro p hp; repeat (first | exact hp | refine .tail _ ?_))); intro q' h' tk' t' u' F' N' l1; (try k_lt l1); (try dsimp only); (try k_fold))) | (k_here; (with_reducible show wpAny _ _ (pyIter (Value.ref _)) (fun it s₂ => TurnsAt _ _ _ _ _ _ _ _ _ it s₂) _ _); k_dflt (refine stopHere ?_)) | (k_here; (with_reducible show wpAny _ _ (exec (Stmt.For (Expr.Name _ _) (Expr.Call _ _ _ _) _ _ _) _) _ _ _); (rename Fr _ _ _ _ => lF'); k_dflt (with_unfolding_all refine' For_turns lF' ?_; k_whole)) | (k_here; (with_reducible show wpAny _ _ (getMethod (Value.ref _) _ _) _ _ _); k_dflt (refine' acc_method_K ?aF ?aX ?aN ?a1 ?a2 ?ag ?ak ?af ?aq ?ar ?aw ?_; (case aF => k_asm); (case aX => k_asm); (case aN => k_asm); (case a1 => k_mem); (case a2 => k_mem); (case ag => k_is); (case ak => k_is); (case af => k_is); (case aq => k_is); (case ar => decide +kernel); (case aw => rfl))))) | walk1) | (leave1; try dsimp only) | fail "no step")
    · exfalso; rename ((_ != _) = true) => hb; exact bne_iff_ne.mp hb (by rw [hlj]; exact hwh)
    · exfalso; rename ((_ != _) = true) => hb; exact bne_iff_ne.mp hb (by rw [hlj]; exact hwh)
    show wpAny _ _ _ _ _ _
    rename_i zq69 zq77 zq83 zq91 zq133 zq134 zq263 zq264 zq267 zq268 zq320 zq321 zq339 zq340 zq341 zq342 zq343 zq344 zq345 zq346 zq347 zq352 zq353 zq354 zq355 zq356 zq357 zq358 zq359 zq360 zq362 zq363 zq364 zq367 zq368 zq369 zq370 zq371 zq372 zq373 zq374 zq403 zq404 zq405 zq407 zq408 zq409 zq410 zq411 zq412 zq413 zq414 zq415
    clear hs n zq133 zq134 hcsl D'_4 nn hrs5l X7 zq263 zq264 gh_1 gt_1 zq267 zq268 h'_20 tk_11 h'_21 tk_12 h_3 tk_13 nn_1 zq320 zq321 hA5e gm1 gm3 gh gt gu gm2 hrs5l' hwh zq339 zq340 zq341 zq342 zq343 zq344 zq345 zq346 zq347 hlj zq353 zq354 zq355 zq356 zq357 zq358 zq359 zq360 zq362 l1 zq368 zq369 zq370 zq371 zq372 zq373 zq374 t' k' h' tk' qk ek zq404 zq405 zq415
    revert w s₀ s₁ mg mb fa pm doc w_3 w_5 hr hl2 w_8 w_9 hI w4 w3 w2 d4 T1 X1 hss mB B1 cs zq69 hcl hxs zq77 k t'_2 zq83 h'_3 o' dS D' zq91 D'_1 D'_2 l' T' D'_3 mA2 m₁ news₁ h hz rows F hxy10 X2 hstl h'_13 F' N' P' X3 v4 mA4 m₁_1 X4 h'_17 N0 mA5 m₁_2 h_2 tk_8 o2 rs5 hrs7 s' t'_4 ps' hos2 h'_18 tk_9 s'_1 ps'_1 hos3 hbare3 l'_1 X8 y1' y2' y3' y4' mA7 m₁_3 GL gk o3 o2_1 v2_3 X gl d3n d2n hG g1_1 g2_1 hgl5 wa wb wc wd hw4 hrs5x hgl5l g0 lj hO zq352 q' zq363 zq364 u' zq367 PL' p5' p4' p3' p2' p1' p0' s0' s1' s2' s3' s4' k0' k1' k2' k3' k4' hs0' hs1' hs2' hs3' hs4' zq403 tk zq407 zq408 zq409 zq410 zq411 zq412 zq413 zq414
    exact hP.out
set_option maxHeartbeats 8000000 in
theorem law_walk : PySem.Challenge.rw_wb0072_01.Holds := by
  refine cut11.2 ?_
  intro w s₀ s₁ mg mb fa pm doc w_3 w_5 hr hl2 w_8 w_9 hI w4 w3 w2 d4 T1 X1 hss mB B1 cs t' hcl hxs tk k t'_2 k' h'_3 o' dS D' l1 D'_1 D'_2 l' T' D'_3 mA2 m₁ news₁ h hz rows F hxy10 X2 hstl h'_13 F' N' P' X3 v4 mA4 m₁_1 X4 h'_17 N0 mA5 m₁_2 h_2 tk_8 o2 rs5 hrs7 s' t'_4 ps' hos2 h'_18 tk_9 s'_1 ps'_1 hos3 hbare3 l'_1 X8 y1' y2' y3' y4' mA7 m₁_3 GL gk o3 o2_1 v2_3 X gl d3n d2n hG g1_1 g2_1 hgl5 wa wb wc wd hw4 hrs5x hgl5l g0 lj hO D'_5 q' tk'_5 t'_7 u' D'_6 PL' p5' p4' p3' p2' p1' p0' s0' s1' s2' s3' s4' k0' k1' k2' k3' k4' hs0' hs1' hs2' hs3' hs4' h'_28 tk_16 h'_29 tk_17 t₁_3 u₁_3 v₁_3 a_13 a_14 a_15
  rename News _ _ _ _ => N0
  obtain ⟨X10, N14, y1', y2', y3', y4', hS10⟩ := recell N0 (o4 := w4) (o3 := o3) (o2 := o2_1) (o1 := o') (c4 := s₁.heap.objs.size + 1 + 1 + 1 + 1) (c3 := s₁.heap.objs.size + 1 + 1 + 1) (c2 := s₁.heap.objs.size + 1 + 1) (c1 := s₁.heap.objs.size + 1) (by k_mem) (by k_mem) (by k_mem) (by k_mem) d4 d3n d2n dS
  have pPL := hS10 (PL', _) (by k_mem) (fun v e => by cases e)
  have pp5 := hS10 (p5', _) (by k_mem) (fun v e => by cases e)
  have pp4 := hS10 (p4', _) (by k_mem) (fun v e => by cases e)
  have pp3 := hS10 (p3', _) (by k_mem) (fun v e => by cases e)
  have pp2 := hS10 (p2', _) (by k_mem) (fun v e => by cases e)
  have pp1 := hS10 (p1', _) (by k_mem) (fun v e => by cases e)
  have pp0 := hS10 (p0', _) (by k_mem) (fun v e => by cases e)
  have pGL := hS10 (GL, listOf (strValues gl).toArray gk) (by k_mem) (fun v e => by cases e)
  have p235 := hS10 (235, tabO ps'_1) (by k_mem) (fun v e => by cases e)
  have p242 := hS10 (242, tabO ps') (by k_mem) (fun v e => by cases e)
  clear N0
  have hst5 : (⟨((cs.take 5).map lo1).toArray⟩ : Str).length = 5 := hstl
  rename Fr _ _ _ _ => FA9
  refine Fr.fold FA9 ?_
  clear FA9
  intro mA9 FA9
  refine' turns_range (fun m₀ l₀ i m l => (∀ z, z ∉ [Str.ofString "front", Str.ofString "want", Str.ofString "last", Str.ofString "text", Str.ofString "back", Str.ofString "told"] → m z = m₀ z) ∧ ∃ o4 v4, l = (s₁.heap.objs.size + 1 + 1 + 1 + 1, o4) :: (s₁.heap.objs.size + 1 + 1 + 1, o3) :: (s₁.heap.objs.size + 1 + 1, o2_1) :: (s₁.heap.objs.size + 1, o') :: X10 ∧ o4.data = .cell v4) ?hh ?hr ?h1 ?h2 ?h3 ?hF ?hN ?hj ?turn ?done
  case hh => rfl
  case hr => assumption
  case h1 => decide
  case h2 => decide
  case h3 => decide
  case hF => k_asm
  case hN => exact N14
  case hj => exact ⟨fun _ _ => rfl, _, _, rfl, d4⟩
  case turn =>
    rintro I i v m₁ news₁ h tk oI hcI hi hv ⟨hz, o4, v4, rfl, d4n⟩ hoff F N u
    rw [eq_over hz] at F
    try dsimp only [over, List.foldr] at F
    obtain rfl : v = (i : Int) := by omega
    have hi5 : i < 5 := hi
    have hoff' := hoff; simp only [List.mem_cons, forall_eq_or_imp] at hoff'; obtain ⟨f4, f3, f2, f1, f0⟩ := hoff'
    have b4 := f4.symm; have b3 := f3.symm; have b2 := f2.symm; have b1 := f1.symm
    have hlf := len_frS hcl i
    have hub : (Txt.upper (frS cs i)).length ≤ 15 := Nat.le_trans (len_upper _) (by omega)
    have hd3 : (Str.ofString "...").length = 3 := by rfl
    have hA1 : (frS cs i ++ Str.ofString "..." ++ frS cs i).length ≤ 1000 := by simp only [len_app]; omega
    have hA2 : (Txt.upper (frS cs i) ++ Str.ofString "...").length ≤ 1000 := by simp only [len_app]; omega
    have hA3 : (Str.ofString "..." ++ Txt.upper (frS cs i)).length ≤ 1000 := by simp only [len_app]; omega
    have hA4 : (frS cs i).length ≤ 1000 := by omega
    repeat' (first | (k_unfold; (try dsimp only)) | (k_end; wrow_close) | (with_reducible (first | (k_here; (with_reducible show wpAny _ _ (pyIter (Value.ref _)) (fun it s₂ => TurnsAt _ _ _ _ _ _ _ _ _ it s₂) _ _); k_dflt (refine stopHere ?_)) | (k_here; (with_reducible show wpAny _ _ (exec (Stmt.For (Expr.Name _ _) (Expr.Tuple _ _ _) _ _ _) _) _ _ _); (rename Fr _ _ _ _ => lF'); k_dflt (with_unfolding_all refine' For_turns lF' ?_; k_whole)))) | walk1 | (dsimp only; first | (with_reducible (first | (k_here; (with_reducible show wpAny _ _ (pyIter (Value.ref _)) (fun it s₂ => TurnsAt _ _ _ _ _ _ _ _ _ it s₂) _ _); k_dflt (refine stopHere ?_)) | (k_here; (with_reducible show wpAny _ _ (exec (Stmt.For (Expr.Name _ _) (Expr.Tuple _ _ _) _ _ _) _) _ _ _); (rename Fr _ _ _ _ => lF'); k_dflt (with_unfolding_all refine' For_turns lF' ?_; k_whole)))) | walk1) | (leave1; try dsimp only) | fail "no step")
    show wpAny _ _ _ _ _ _
    rename (_ = Data.cell (some (Value.int (i : Int) _))) => dFc
    rename Fr _ _ _ _ => FB9
    refine Fr.fold FB9 ?_
    clear FB9
    intro mB9 FB9
    refine' turns_tuple (vs := [Value.str _ _, Value.str _ _, Value.str _ _]) (fun m₀ l₀ j m l => (∀ z, z ∉ [Str.ofString "want"] → m z = m₀ z) ∧ l = l₀) ?wh ?wD ?woc ?wod ?wF ?wN ?wj ?wturn ?wdone
    case wh => rfl
    case wF => k_asm
    case wN => k_asm
    case wD => exact .head _
    case woc => rfl
    case wod => rfl
    case wj => exact ⟨fun _ _ => rfl, rfl⟩
    case wturn =>
      rintro I2 j v2w m₂ news₂ h2 tk2 oI2 hcI2 hv2 ⟨hz2, rfl⟩ hoff2 hD2w F2 N2w
      rw [eq_over hz2] at F2
      try dsimp only [over, List.foldr] at F2
      have hw0 : i ≠ 0 → _ := fun h0 => wants_no hxs hcl h0 hi5
      rcases j with _ | _ | _ | j
      · obtain rfl := Option.some.inj hv2
        repeat' (first | (k_unfold; (try dsimp only)) | (k_end; wrow_close) | (with_reducible (first | (k_here; (with_reducible show wpAny _ _ (call (Value.ref 193) _ _) _ _ _); k_dflt (refine' (em_call _ _ _ _ _ _ _ _ ?gh1 ?gh2) _ _ _ _ _ _ _ _ _ _ _ _ _ _ _ _ _ _ ?gB ?gF ?gX ?gN ?gT ?gk ?gp ?gd ?gu ?_; walk_at "gclaim"; (case gp => trivial); (case gh1 => with_reducible assumption); (case gh2 => with_reducible assumption); intro h' tk' F' N'; (try dsimp only); (try k_fold))) | (k_here; (with_reducible show TPost _ _ _ _ _ _ _ _ _ _); dsimp only [TPost]))) | walk1 | (dsimp only; first | (with_reducible (first | (k_here; (with_reducible show wpAny _ _ (call (Value.ref 193) _ _) _ _ _); k_dflt (refine' (em_call _ _ _ _ _ _ _ _ ?gh1 ?gh2) _ _ _ _ _ _ _ _ _ _ _ _ _ _ _ _ _ _ ?gB ?gF ?gX ?gN ?gT ?gk ?gp ?gd ?gu ?_; walk_at "gclaim"; (case gp => trivial); (case gh1 => with_reducible assumption); (case gh2 => with_reducible assumption); intro h' tk' F' N'; (try dsimp only); (try k_fold))) | (k_here; (with_reducible show TPost _ _ _ _ _ _ _ _ _ _); dsimp only [TPost]))) | walk1) | (leave1; try dsimp only) | fail "no step")
        · exfalso; rename (@Ne Int _ _) => h0; rename ((_ != _) = true) => hb; exact bne_iff_ne.mp hb (wants_no hxs hcl (fun e => h0 (by rw [e]; rfl)) hi5).1
        · exfalso; rename (@Ne Int _ _) => h0; rename ((_ != _) = true) => hb; exact bne_iff_ne.mp hb (wants_no hxs hcl (fun e => h0 (by rw [e]; rfl)) hi5).1
        all_goals
          refine ⟨_, _, _, _, rfl, by k_asm, by k_asm, hoff2, ?_, ?_, rfl⟩
          · intro p hp; rw [List.mem_singleton.mp hp]; exact hD2w
          · intro z h1; simp at h1; simp [over, h1]
      · obtain rfl := Option.some.inj hv2
        repeat' (first | (k_unfold; (try dsimp only)) | (k_end; wrow_close) | (with_reducible (first | (k_here; (with_reducible show wpAny _ _ (call (Value.ref 193) _ _) _ _ _); k_dflt (refine' (em_call _ _ _ _ _ _ _ _ ?gh1 ?gh2) _ _ _ _ _ _ _ _ _ _ _ _ _ _ _ _ _ _ ?gB ?gF ?gX ?gN ?gT ?gk ?gp ?gd ?gu ?_; walk_at "gclaim"; (case gp => trivial); (case gh1 => with_reducible assumption); (case gh2 => with_reducible assumption); intro h' tk' F' N'; (try dsimp only); (try k_fold))) | (k_here; (with_reducible show TPost _ _ _ _ _ _ _ _ _ _); dsimp only [TPost]))) | walk1 | (dsimp only; first | (with_reducible (first | (k_here; (with_reducible show wpAny _ _ (call (Value.ref 193) _ _) _ _ _); k_dflt (refine' (em_call _ _ _ _ _ _ _ _ ?gh1 ?gh2) _ _ _ _ _ _ _ _ _ _ _ _ _ _ _ _ _ _ ?gB ?gF ?gX ?gN ?gT ?gk ?gp ?gd ?gu ?_; walk_at "gclaim"; (case gp => trivial); (case gh1 => with_reducible assumption); (case gh2 => with_reducible assumption); intro h' tk' F' N'; (try dsimp only); (try k_fold))) | (k_here; (with_reducible show TPost _ _ _ _ _ _ _ _ _ _); dsimp only [TPost]))) | walk1) | (leave1; try dsimp only) | fail "no step")
        · exfalso; rename (@Ne Int _ _) => h0; rename ((_ != _) = true) => hb; exact bne_iff_ne.mp hb (wants_no hxs hcl (fun e => h0 (by rw [e]; rfl)) hi5).2.1
        · exfalso; rename (@Ne Int _ _) => h0; rename ((_ != _) = true) => hb; exact bne_iff_ne.mp hb (wants_no hxs hcl (fun e => h0 (by rw [e]; rfl)) hi5).2.1
        all_goals
          refine ⟨_, _, _, _, rfl, by k_asm, by k_asm, hoff2, ?_, ?_, rfl⟩
          · intro p hp; rw [List.mem_singleton.mp hp]; exact hD2w
          · intro z h1; simp at h1; simp [over, h1]
      · obtain rfl := Option.some.inj hv2
        repeat' (first | (k_unfold; (try dsimp only)) | (k_end; wrow_close) | (with_reducible (first | (k_here; (with_reducible show wpAny _ _ (call (Value.ref 193) _ _) _ _ _); k_dflt (refine' (em_call _ _ _ _ _ _ _ _ ?gh1 ?gh2) _ _ _ _ _ _ _ _ _ _ _ _ _ _ _ _ _ _ ?gB ?gF ?gX ?gN ?gT ?gk ?gp ?gd ?gu ?_; walk_at "gclaim"; (case gp => trivial); (case gh1 => with_reducible assumption); (case gh2 => with_reducible assumption); intro h' tk' F' N'; (try dsimp only); (try k_fold))) | (k_here; (with_reducible show TPost _ _ _ _ _ _ _ _ _ _); dsimp only [TPost]))) | walk1 | (dsimp only; first | (with_reducible (first | (k_here; (with_reducible show wpAny _ _ (call (Value.ref 193) _ _) _ _ _); k_dflt (refine' (em_call _ _ _ _ _ _ _ _ ?gh1 ?gh2) _ _ _ _ _ _ _ _ _ _ _ _ _ _ _ _ _ _ ?gB ?gF ?gX ?gN ?gT ?gk ?gp ?gd ?gu ?_; walk_at "gclaim"; (case gp => trivial); (case gh1 => with_reducible assumption); (case gh2 => with_reducible assumption); intro h' tk' F' N'; (try dsimp only); (try k_fold))) | (k_here; (with_reducible show TPost _ _ _ _ _ _ _ _ _ _); dsimp only [TPost]))) | walk1) | (leave1; try dsimp only) | fail "no step")
        · exfalso; rename (@Ne Int _ _) => h0; rename ((_ != _) = true) => hb; exact bne_iff_ne.mp hb (wants_no hxs hcl (fun e => h0 (by rw [e]; rfl)) hi5).2.2
        · exfalso; rename (@Ne Int _ _) => h0; rename ((_ != _) = true) => hb; exact bne_iff_ne.mp hb (wants_no hxs hcl (fun e => h0 (by rw [e]; rfl)) hi5).2.2
        all_goals
          refine ⟨_, _, _, _, rfl, by k_asm, by k_asm, hoff2, ?_, ?_, rfl⟩
          · intro p hp; rw [List.mem_singleton.mp hp]; exact hD2w
          · intro z h1; simp at h1; simp [over, h1]
      · simp at hv2
    rintro m₂ news₂ h2 tk2 ⟨hz2, rfl⟩ hD2w F2 N2w
    rw [eq_over hz2] at F2
    try dsimp only [over, List.foldr] at F2
    repeat' (first | (k_unfold; (try dsimp only)) | (k_end; wrow_close) | (with_reducible (first | (k_here; (with_reducible show wpAny _ _ (pyIter (Value.ref _)) (fun it s₂ => TurnsAt _ _ _ _ _ _ _ _ _ it s₂) _ _); k_dflt (refine stopHere ?_)) | (k_here; (with_reducible show wpAny _ _ (exec (Stmt.For (Expr.Name _ _) (Expr.Call _ _ _ _) _ _ _) _) _ _ _); (rename Fr _ _ _ _ => lF'); k_dflt (with_unfolding_all refine' For_turns lF' ?_; k_whole)))) | walk1 | (dsimp only; first | (with_reducible (first | (k_here; (with_reducible show wpAny _ _ (pyIter (Value.ref _)) (fun it s₂ => TurnsAt _ _ _ _ _ _ _ _ _ it s₂) _ _); k_dflt (refine stopHere ?_)) | (k_here; (with_reducible show wpAny _ _ (exec (Stmt.For (Expr.Name _ _) (Expr.Call _ _ _ _) _ _ _) _) _ _ _); (rename Fr _ _ _ _ => lF'); k_dflt (with_unfolding_all refine' For_turns lF' ?_; k_whole)))) | walk1) | (leave1; try dsimp only) | fail "no step")
    show wpAny _ _ _ _ _ _
    rename IsRange _ _ _ 6 _ _ _ _ => hr6
    rename News _ _ _ _ => N3w
    rename Fr _ _ _ _ => FC9
    refine Fr.fold FC9 ?_
    clear FC9
    intro mC9 FC9
    refine' turns_range (fun m₀ l₀ j m l => (∀ z, z ∉ [Str.ofString "last", Str.ofString "text", Str.ofString "back", Str.ofString "told"] → m z = m₀ z) ∧ l = l₀) ?lh ?lr ?l1 ?l2 ?l3 ?lF ?lN ?lj ?lturn ?ldone
    case lh => rfl
    case lr => exact hr6
    case l1 => omega
    case l2 => decide
    case l3 => omega
    case lF => k_asm
    case lN => exact N3w
    case lj => exact ⟨fun _ _ => rfl, rfl⟩
    case lturn =>
      rintro I3 j v3w m₃ news₃ h3w tk3 oI3 hcI3 hj3 hv3 ⟨hz3, rfl⟩ hoff3 F3 N3 u3
      rw [eq_over hz3] at F3
      try dsimp only [over, List.foldr] at F3
      obtain ⟨l, rfl, hfl, hl5⟩ : ∃ l : Nat, v3w = (l : Int) ∧ i < l ∧ l ≤ 5 := ⟨i + 1 + j, by omega, by omega, by omega⟩
      have hlt := len_txS hcl i l
      have hlb := len_bkS hcl l
      obtain ⟨ht4, hyes, hno⟩ := told_law hxs hcl hxy10 hrs7 hw4 hs0' hs1' hs2' hs3' hs4' hi5 hfl hl5
      have hgl5l : gl.length = 5 := hgl5l
      repeat' (first | (k_unfold; (try dsimp only)) | (k_end; wrow_close) | (with_reducible (first | (k_here; (with_reducible show wpAny _ _ (subscriptTail (Expr.Name _ _) (Expr.Slice _ _ _ _) (Value.ref _) (Value.ref _)) _ _ _); k_dflt (refine' slice_gl ?jF ?jN ?jm ?ji ?jl ?jz ?_; (case jF => k_asm); (case jN => k_asm); (case jm => k_mem); (case ji => omega); (case jl => omega); (case jz => omega); intro D' h' F' N' l1; (try k_lt l1))) | (k_here; (with_reducible show LCt.CompSrcT _ _ _ _ _ _ _ _ _ _ _ _ _ _ _); refine stopHere ?_) | (k_here; (with_reducible show wpAny _ _ (eval (Expr.ListComp _ _ _ _) _) _ _ _); lct_look; k_dflt (refine LCt.ListComp_T (F₀ := by k_asm) (by with_unfolding_all rfl) (by decide) (by rfl) (by decide) (by rfl) ?_)))) | walk1 | (dsimp only; first | (with_reducible (first | (k_here; (with_reducible show wpAny _ _ (subscriptTail (Expr.Name _ _) (Expr.Slice _ _ _ _) (Value.ref _) (Value.ref _)) _ _ _); k_dflt (refine' slice_gl ?jF ?jN ?jm ?ji ?jl ?jz ?_; (case jF => k_asm); (case jN => k_asm); (case jm => k_mem); (case ji => omega); (case jl => omega); (case jz => omega); intro D' h' F' N' l1; (try k_lt l1))) | (k_here; (with_reducible show LCt.CompSrcT _ _ _ _ _ _ _ _ _ _ _ _ _ _ _); refine stopHere ?_) | (k_here; (with_reducible show wpAny _ _ (eval (Expr.ListComp _ _ _ _) _) _ _ _); lct_look; k_dflt (refine LCt.ListComp_T (F₀ := by k_asm) (by with_unfolding_all rfl) (by decide) (by rfl) (by decide) (by rfl) ?_)))) | walk1) | (leave1; try dsimp only) | fail "no step")
      show LCt.CompSrcT _ _ _ _ _ _ _ _ _ _ _ _ _ _ _
      k_dflt (refine' LCt.CompSrcT.ledger ?ch ?cF ?cN ?cm ?cz ?_)
      case ch => rfl
      case cF => k_asm
      case cN => k_asm
      case cm => k_mem
      case cz => have := sizeLine_eq; simp [strValues]; omega
      intro g0
      refine lct_rest (items := (gl.drop i).take (l - i)) (fun p v => v = .str p.1 p.2) (fun p => decide ((p.1.length : Int) ≤ (i : Int))) (fun p t => .str p.1 t) ?cn ?cP ?cS ?cturn ?cfin
      case cn => simp [strValues]
      case cP =>
        intro q v hq hv
        simp only [List.getElem?_toArray, strValues, List.getElem?_map, Option.map_eq_some_iff] at hv
        obtain ⟨p, h1, h2⟩ := hv
        exact ⟨p, h1, h2.symm⟩
      case cS => exact .inr ⟨_, by k_mem, rfl, _, rfl⟩
      case cturn =>
        rintro p v I' oI' C oC D m₂ ys h tk E' hp rfl hC hx' F' N' off ne
        dsimp only
        have hpl : p.1.length ≤ 5 := by
          have hm : p.1 ∈ gl.map (·.1) := List.mem_map.mpr ⟨p, List.mem_of_mem_drop (List.mem_of_mem_take hp), rfl⟩
          rw [hgl5] at hm
          obtain ⟨r, hr, e⟩ := List.mem_map.mp hm
          rw [← e]; exact hrs5x r hr
        repeat' (first | (k_unfold; (try dsimp only)) | (k_end; wrow_close) | walk1 | (dsimp only; first | walk1) | (leave1; try dsimp only) | fail "no step")
        · exact LCg.CompEnd.intro (by k_asm) (by k_asm) _ (fun p hp => hp) off (.inr ⟨_, by k_mem, rfl, _, rfl⟩) (LcEl.mk (decide_eq_true (by omega)) rfl rfl)
        · exact LCg.CompEnd.intro (by k_asm) (by k_asm) _ (fun p hp => hp) off (.inr ⟨_, by k_mem, rfl, _, rfl⟩) (LcNo.mk (decide_eq_false (by omega)) rfl)
      case cfin =>
        intro ys hO
        dsimp only
        obtain ⟨lt, rfl, hlt'⟩ := hO.strs
        have htl := told_len hgl5 hlt'
        have hP1 := ps_in pp5 pp4 pp3 pp2 pp1 pp0 (k := toldN (rs5.map (·.x)) i l) (by omega)
        have hP2 := ps_in pp5 pp4 pp3 pp2 pp1 pp0 (k := toldN (rs5.map (·.x)) i l + 1) (by omega)
        have hl1 := ps_len hs0' hs1' hs2' hs3' hs4' (toldN (rs5.map (·.x)) i l)
        have hl2 := ps_len hs0' hs1' hs2' hs3' hs4' (toldN (rs5.map (·.x)) i l + 1)
        have hlf1 : (frS cs i).length ≤ 100 := by omega
        have hlb1 : (bkS cs l).length ≤ 100 := by omega
        have hlt1 : (txS cs i l).length ≤ 100 := by omega
        generalize toldN (rs5.map (·.x)) i l = tn at ht4 hyes hno htl hP1 hP2 hl1 hl2
        repeat' (first | (k_unfold; (try dsimp only)) | (k_end; wrow_close) | (with_reducible (first | (k_here; (with_reducible show wpAny _ _ (call (Value.builtin "len") [Value.ref _]) _ _ _); k_dflt (refine' len_r ?jN ?jm ?jx ?jz ?_; (case jN => k_asm); (case jm => k_mem); (case jx => with_reducible assumption); (case jz => (rw [sizeLine_eq]; omega)); intro t' k')) | (k_here; (with_reducible show wpAny _ _ (subscriptTail (Expr.Name _ _) (Expr.BinOp _ _ _ _) (Value.ref _) (Value.int _ _)) _ _ _); k_dflt (refine' led_ps ?jN ?jm ?jq ?jk ?_; (case jN => k_asm); (case jm => k_mem); (case jq => exact (Int.natCast_succ _).symm); (case jk => omega))) | (k_here; (with_reducible show wpAny _ _ (subscriptTail (Expr.Name _ _) (Expr.Name _ _) (Value.ref _) (Value.int _ _)) _ _ _); k_dflt (refine' led_ps ?jN ?jm ?jq ?jk ?_; (case jN => k_asm); (case jm => k_mem); (case jq => rfl); (case jk => omega))) | (k_here; (with_reducible show wpAny _ _ (call (Value.ref 301) _ _) _ _ _); k_dflt (refine' (some_ok _ _ _ _ _ _ _ _ _ _ _ _ _ ?gh1 ?gh2 ?gh3 ?gh4) _ _ _ _ _ _ _ _ _ _ _ _ _ _ _ _ _ _ ?gB ?gF ?gX ?gN ?gT ?gk ?gp ?gd ?gu ?_; walk_at "gclaim"; (case gp => k_mem); (case gh1 => with_reducible assumption); (case gh2 => with_reducible assumption); (case gh3 => with_reducible assumption); (case gh4 => with_reducible assumption); intro h' tk' F' N'; (try dsimp only); (try k_fold))) | (k_here; (with_reducible show TPost _ _ _ _ _ _ _ _ _ _); dsimp only [TPost]))) | walk1 | (dsimp only; first | (with_reducible (first | (k_here; (with_reducible show wpAny _ _ (call (Value.builtin "len") [Value.ref _]) _ _ _); k_dflt (refine' len_r ?jN ?jm ?jx ?jz ?_; (case jN => k_asm); (case jm => k_mem); (case jx => with_reducible assumption); (case jz => (rw [sizeLine_eq]; omega)); intro t' k')) | (k_here; (with_reducible show wpAny _ _ (subscriptTail (Expr.Name _ _) (Expr.BinOp _ _ _ _) (Value.ref _) (Value.int _ _)) _ _ _); k_dflt (refine' led_ps ?jN ?jm ?jq ?jk ?_; (case jN => k_asm); (case jm => k_mem); (case jq => exact (Int.natCast_succ _).symm); (case jk => omega))) | (k_here; (with_reducible show wpAny _ _ (subscriptTail (Expr.Name _ _) (Expr.Name _ _) (Value.ref _) (Value.int _ _)) _ _ _); k_dflt (refine' led_ps ?jN ?jm ?jq ?jk ?_; (case jN => k_asm); (case jm => k_mem); (case jq => rfl); (case jk => omega))) | (k_here; (with_reducible show wpAny _ _ (call (Value.ref 301) _ _) _ _ _); k_dflt (refine' (some_ok _ _ _ _ _ _ _ _ _ _ _ _ _ ?gh1 ?gh2 ?gh3 ?gh4) _ _ _ _ _ _ _ _ _ _ _ _ _ _ _ _ _ _ ?gB ?gF ?gX ?gN ?gT ?gk ?gp ?gd ?gu ?_; walk_at "gclaim"; (case gp => k_mem); (case gh1 => with_reducible assumption); (case gh2 => with_reducible assumption); (case gh3 => with_reducible assumption); (case gh4 => with_reducible assumption); intro h' tk' F' N'; (try dsimp only); (try k_fold))) | (k_here; (with_reducible show TPost _ _ _ _ _ _ _ _ _ _); dsimp only [TPost]))) | walk1) | (leave1; try dsimp only) | fail "no step")
        refine ⟨_, _, _, _, rfl, by k_asm, cb_drop (by k_asm) (fun p hp => by repeat (first | exact hp | refine .tail _ ?_)), hoff3, (fun p hp => nomatch hp), ?_, rfl⟩
        intro z h1; simp at h1; simp [over, h1]
    rintro m₃ news₃ h3w tk3 ⟨hz3, rfl⟩ F3 N3
    rw [eq_over hz3] at F3
    try dsimp only [over, List.foldr] at F3
    repeat' (first | (k_unfold; (try dsimp only)) | (k_end; wrow_close) | (with_reducible (first | (k_here; (with_reducible show TPost _ _ _ _ _ _ _ _ _ _); dsimp only [TPost]))) | walk1 | (dsimp only; first | (with_reducible (first | (k_here; (with_reducible show TPost _ _ _ _ _ _ _ _ _ _); dsimp only [TPost]))) | walk1) | (leave1; try dsimp only) | fail "no step")
    refine ⟨_, _, _, _, rfl, by k_asm, cb_drop (by k_asm) (fun p hp => by repeat (first | exact hp | refine .tail _ ?_)), ?_, (fun p hp => nomatch hp), ?_, _, _, rfl, dFc⟩
    · simp only [List.mem_cons, forall_eq_or_imp]; exact ⟨f4, f3, f2, f1, f0⟩
    · intro z h1; simp at h1; simp [over, h1, mC9, mB9]
  rintro m₁ news₁ h tk ⟨hz, o4, v4, rfl, d4n⟩ F N
  rw [eq_over hz] at F
  try dsimp only [over, List.foldr] at F
  repeat' (first | (k_unfold; (try dsimp only)) | (k_end; wrow_close) | walk1 | (dsimp only; first | walk1) | (leave1; try dsimp only) | fail "no step")
  exact ⟨_, _, _, _, by k_asm, by k_asm, .tail _ (.tail _ (.tail _ (.tail _ p235))), .tail _ (.tail _ (.tail _ (.tail _ p242))), hbare3, hos3.trans hos2⟩
end Mine

theorem PySem.Challenge.cw_wb0072_01_holds : PySem.Challenge.rw_wb0072_01.Holds :=
  Mine.law_walk
