import PyProof.Rows.All
import Wide.All
import OpenK.AllK
import Wide.FinOn
import Lean
import PySem.Challenge.RW_il0172_01
set_option Elab.async false
set_option compiler.extract_closed false
set_option genInjectivity false
set_option genSizeOf false
section
open PySem PySem.W PyProof.Rows PySem.Calls
set_option Elab.async false
set_option maxRecDepth 100000
set_option maxHeartbeats 8000000
set_option linter.unusedVariables false
namespace Mine
abbrev rw0 : OpenLaw := PySem.Challenge.rw_il0172_01
noncomputable def topS (n : Nat) : Option Stmt := PySem.Challenge.rw_il0172_01.row.prog.main.body[n]?
def clsB? : Stmt → Option (List Stmt)
  | .ClassDef _ _ _ b _ _ _ _ _ _ _ => some b
  | _ => none
noncomputable def accS (n : Nat) : Option Stmt := ((topS 3).bind clsB?).bind (·[n]?)
def fdOf? : Stmt → Option (Arguments × List Stmt × Scope)
  | .FunctionDef _ p b _ _ _ s _ _ _ => some (p, b, s)
  | _ => none
noncomputable def fnO {p : Arguments} {b : List Stmt} {c : Scope} {o : Option (Arguments × List Stmt × Scope)} (_ : o = some (p, b, c)) (nm q : Str) (cl : List (Str × Addr)) (dv doc md cd ct : Value) : Obj :=
  { cls := Value.type "function", data := Data.func { name := nm, qualname := q, params := p, body := FuncBody.stmts b, scope := c, globals := 3, closure := cl, defaults := dv, kwdefaults := Value.none, doc := doc, pyModule := md, code := cd, closureTuple := ct } }
noncomputable def enK (P : Params) (k : String) (n : Nat) (v : Value) : DictEntry := { hash := PyData.keyHash P (Str.ofString k), key := Value.str (Str.ofString k) n, val := v }
noncomputable def ob2 (P : Params) : Obj := { cls := Value.none, data := Data.dict #[] }
noncomputable def ob3 (P : Params) : Obj := { cls := Value.type "dict", data := Data.dict #[enK P "__name__" 165 (Value.str (Str.ofString "law_il0172_01") 461), enK P "__doc__" 166 (Value.none), enK P "__package__" 167 (Value.none), enK P "__loader__" 168 (Value.builtin "__main__.__loader__#opaque"), enK P "__spec__" 169 (Value.none), enK P "__annotations__" 170 (Value.ref 6), enK P "__builtins__" 171 (Value.ref 4), enK P "__file__" 173 (Value.str (Str.ofString "/claim/cut.py") 172), enK P "__cached__" 174 (Value.none), enK P "_wall" 193 (Value.ref 21), enK P "EMPTYSTRING" 197 (Value.str (Str.ofString "") 196), enK P "_Accumulator" 292 (Value.ref 100), enK P "cmp_to_key" 303 (Value.ref 111), enK P "_plain_name" 314 (Value.ref 118), enK P "ABCMeta" 340 (Value.ref 135), enK P "_ABCLike" 383 (Value.ref 168), enK P "_abc_plain_meta" 390 (Value.ref 177), enK P "fspath" 402 (Value.ref 184), enK P "_check_arg_types" 415 (Value.ref 191), enK P "_get_sep" 424 (Value.ref 198), enK P "join" 435 (Value.ref 205), enK P "basename" 444 (Value.ref 212), enK P "dirname" 454 (Value.ref 219), enK P "commonpath" 460 (Value.ref 224), enK P "_law_walk" 473 (Value.ref 231), enK P "_law_peak" 479 (Value.ref 236), enK P "law" 485 (Value.ref 241)] 27 }
noncomputable def ob22 (P : Params) : Obj := { cls := Value.type "tuple", data := Data.seq #[Value.type "list"] }
noncomputable def ob25 (P : Params) : Obj := { cls := Value.type "cell", data := Data.cell (some (Value.ref 100)) }
noncomputable def ob30 (P : Params) : Obj := { cls := Value.type "tuple", data := Data.seq #[Value.int 0 210] }
noncomputable def ob31 (P : Params) : Obj := { cls := Value.type "tuple", data := Data.seq #[Value.ref 25] }
noncomputable def ob37 (P : Params) : Obj := { cls := Value.type "code", data := Data.fields #[Value.str (Str.ofString "__init__") 211, Value.str (Str.ofString "_Accumulator.__init__") 212, Value.str (Str.ofString "/claim/cut.py") 213, Value.int 8 0, Value.int 2 0, Value.int 0 0, Value.int 0 0, Value.int 3 0, Value.ref 32, Value.bool true, Value.int 181 0, Value.ref 33, Value.none, Value.ref 34, Value.ref 35, Value.ref 36, Value.int 217 0, Value.int 8 0, Value.str (Str.ofString "/claim/cut.py") 218] }
noncomputable def ob38 (P : Params) : Obj := fnO (show ((accS 0)).bind fdOf? = some (_, _, _) from rfl) (Str.ofString "__init__") (Str.ofString "_Accumulator.__init__") [(Str.ofString "__class__", 25)] (Value.ref 30) (Value.none) (Value.str (Str.ofString "cpy313.email.header") 194) (Value.ref 37) (Value.ref 31)
noncomputable def ob44 (P : Params) : Obj := { cls := Value.type "code", data := Data.fields #[Value.str (Str.ofString "push") 220, Value.str (Str.ofString "_Accumulator.push") 221, Value.str (Str.ofString "/claim/cut.py") 222, Value.int 12 0, Value.int 3 0, Value.int 0 0, Value.int 0 0, Value.int 3 0, Value.ref 39, Value.bool true, Value.int 181 0, Value.ref 40, Value.none, Value.ref 41, Value.ref 42, Value.ref 43, Value.int 226 0, Value.int 12 0, Value.str (Str.ofString "/claim/cut.py") 227] }
noncomputable def ob45 (P : Params) : Obj := fnO (show ((accS 1)).bind fdOf? = some (_, _, _) from rfl) (Str.ofString "push") (Str.ofString "_Accumulator.push") [] (Value.none) (Value.none) (Value.str (Str.ofString "cpy313.email.header") 194) (Value.ref 44) (Value.none)
noncomputable def ob46 (P : Params) : Obj := { cls := Value.type "tuple", data := Data.seq #[Value.int 0 229] }
noncomputable def ob52 (P : Params) : Obj := { cls := Value.type "code", data := Data.fields #[Value.str (Str.ofString "pop_from") 230, Value.str (Str.ofString "_Accumulator.pop_from") 231, Value.str (Str.ofString "/claim/cut.py") 232, Value.int 15 0, Value.int 2 0, Value.int 0 0, Value.int 0 0, Value.int 3 0, Value.ref 47, Value.bool true, Value.int 181 0, Value.ref 48, Value.none, Value.ref 49, Value.ref 50, Value.ref 51, Value.int 236 0, Value.int 15 0, Value.str (Str.ofString "/claim/cut.py") 237] }
noncomputable def ob53 (P : Params) : Obj := fnO (show ((accS 2)).bind fdOf? = some (_, _, _) from rfl) (Str.ofString "pop_from") (Str.ofString "_Accumulator.pop_from") [] (Value.ref 46) (Value.none) (Value.str (Str.ofString "cpy313.email.header") 194) (Value.ref 52) (Value.none)
noncomputable def ob75 (P : Params) : Obj := { cls := Value.type "tuple", data := Data.seq #[Value.none] }
noncomputable def ob81 (P : Params) : Obj := { cls := Value.type "code", data := Data.fields #[Value.str (Str.ofString "reset") 260, Value.str (Str.ofString "_Accumulator.reset") 261, Value.str (Str.ofString "/claim/cut.py") 262, Value.int 29 0, Value.int 2 0, Value.int 0 0, Value.int 0 0, Value.int 3 0, Value.ref 76, Value.bool true, Value.int 181 0, Value.ref 77, Value.none, Value.ref 78, Value.ref 79, Value.ref 80, Value.int 265 0, Value.int 29 0, Value.str (Str.ofString "/claim/cut.py") 266] }
noncomputable def ob82 (P : Params) : Obj := fnO (show ((accS 6)).bind fdOf? = some (_, _, _) from rfl) (Str.ofString "reset") (Str.ofString "_Accumulator.reset") [] (Value.ref 75) (Value.none) (Value.str (Str.ofString "cpy313.email.header") 194) (Value.ref 81) (Value.none)
noncomputable def ob90 (P : Params) : Obj := { cls := Value.type "tuple", data := Data.seq #[Value.ref 25] }
noncomputable def ob96 (P : Params) : Obj := { cls := Value.type "code", data := Data.fields #[Value.str (Str.ofString "part_count") 275, Value.str (Str.ofString "_Accumulator.part_count") 276, Value.str (Str.ofString "/claim/cut.py") 277, Value.int 38 0, Value.int 1 0, Value.int 0 0, Value.int 0 0, Value.int 3 0, Value.ref 91, Value.bool true, Value.int 181 0, Value.ref 92, Value.none, Value.ref 93, Value.ref 94, Value.ref 95, Value.int 280 0, Value.int 38 0, Value.str (Str.ofString "/claim/cut.py") 281] }
noncomputable def ob97 (P : Params) : Obj := fnO (show ((accS 8)).bind fdOf? = some (_, _, _) from rfl) (Str.ofString "part_count") (Str.ofString "_Accumulator.part_count") [(Str.ofString "__class__", 25)] (Value.none) (Value.none) (Value.str (Str.ofString "cpy313.email.header") 194) (Value.ref 96) (Value.ref 90)
noncomputable def ob98 (P : Params) : Obj := { cls := Value.type "tuple", data := Data.seq #[Value.str (Str.ofString "_initial_size") 283] }
noncomputable def ob99 (P : Params) : Obj := { cls := Value.type "dict", data := Data.dict #[enK P "__module__" 205 (Value.str (Str.ofString "cpy313.email.header") 194), enK P "__firstlineno__" 209 (Value.int 6 208), enK P "__init__" 219 (Value.ref 38), enK P "push" 228 (Value.ref 45), enK P "pop_from" 238 (Value.ref 53), enK P "pop" 245 (Value.ref 60), enK P "__len__" 252 (Value.ref 67), enK P "__str__" 259 (Value.ref 74), enK P "reset" 267 (Value.ref 82), enK P "is_onlyws" 274 (Value.ref 89), enK P "part_count" 282 (Value.ref 97), enK P "__static_attributes__" 284 (Value.ref 98), enK P "__dict__" 287 (Value.ref 101), enK P "__weakref__" 289 (Value.ref 102), enK P "__doc__" 290 (Value.none)] 5 }
noncomputable def ob100 (P : Params) : Obj := { cls := Value.type "type", data := Data.cls { name := Str.ofString "_Accumulator", bases := [Value.type "list"], mro := [Value.ref 100, Value.type "list", Value.type "object"], ns := 99, qualname := Str.ofString "_Accumulator" }, slots := #[some (Value.ref 22), none, some (Value.str (Str.ofString "_Accumulator") 198), some (Value.str (Str.ofString "_Accumulator") 206), some (Value.builtin "list.__new__"), some (Value.bool true)] }
noncomputable def ob101 (P : Params) : Obj := { cls := Value.type "getset_descriptor", data := Data.fields #[Value.str (Str.ofString "__dict__") 286, Value.ref 100, Value.builtin "function.__dict__", Value.builtin "function.__dict__#set"] }
noncomputable def ob102 (P : Params) : Obj := { cls := Value.type "getset_descriptor", data := Data.fields #[Value.str (Str.ofString "__weakref__") 288, Value.ref 100, Value.builtin "ExceptionGroup.__weakref__", Value.none] }
noncomputable def ob110 (P : Params) : Obj := { cls := Value.type "code", data := Data.fields #[Value.str (Str.ofString "cmp_to_key") 295, Value.str (Str.ofString "cmp_to_key") 296, Value.str (Str.ofString "/claim/cut.py") 297, Value.int 41 0, Value.int 1 0, Value.int 0 0, Value.int 0 0, Value.int 3 0, Value.ref 105, Value.bool true, Value.int 181 0, Value.ref 106, Value.none, Value.ref 107, Value.ref 108, Value.ref 109, Value.int 301 0, Value.int 41 0, Value.str (Str.ofString "/claim/cut.py") 302] }
noncomputable def ob111 (P : Params) : Obj := fnO (show ((topS 5)).bind fdOf? = some (_, _, _) from rfl) (Str.ofString "cmp_to_key") (Str.ofString "cmp_to_key") [] (Value.none) (Value.none) (Value.str (Str.ofString "cpy313.functools") 293) (Value.ref 110) (Value.none)
noncomputable def ob183 (P : Params) : Obj := { cls := Value.type "code", data := Data.fields #[Value.str (Str.ofString "fspath") 393, Value.str (Str.ofString "fspath") 394, Value.str (Str.ofString "/claim/cut.py") 395, Value.int 97 0, Value.int 1 0, Value.int 0 0, Value.int 0 0, Value.int 3 0, Value.ref 178, Value.bool true, Value.int 181 0, Value.ref 179, Value.none, Value.ref 180, Value.ref 181, Value.ref 182, Value.int 400 0, Value.int 97 0, Value.str (Str.ofString "/claim/cut.py") 401] }
noncomputable def ob184 (P : Params) : Obj := fnO (show ((topS 14)).bind fdOf? = some (_, _, _) from rfl) (Str.ofString "fspath") (Str.ofString "fspath") [] (Value.none) (Value.none) (Value.str (Str.ofString "os") 391) (Value.ref 183) (Value.none)
noncomputable def ob197 (P : Params) : Obj := { cls := Value.type "code", data := Data.fields #[Value.str (Str.ofString "_get_sep") 418, Value.str (Str.ofString "_get_sep") 419, Value.str (Str.ofString "/claim/cut.py") 420, Value.int 126 0, Value.int 1 0, Value.int 0 0, Value.int 0 0, Value.int 3 0, Value.ref 192, Value.bool true, Value.int 181 0, Value.ref 193, Value.none, Value.ref 194, Value.ref 195, Value.ref 196, Value.int 422 0, Value.int 126 0, Value.str (Str.ofString "/claim/cut.py") 423] }
noncomputable def ob198 (P : Params) : Obj := fnO (show ((topS 18)).bind fdOf? = some (_, _, _) from rfl) (Str.ofString "_get_sep") (Str.ofString "_get_sep") [] (Value.none) (Value.none) (Value.str (Str.ofString "cpy313.posixpath") 416) (Value.ref 197) (Value.none)
noncomputable def ob204 (P : Params) : Obj := { cls := Value.type "code", data := Data.fields #[Value.str (Str.ofString "join") 425, Value.str (Str.ofString "join") 426, Value.str (Str.ofString "/claim/cut.py") 427, Value.int 131 0, Value.int 1 0, Value.int 0 0, Value.int 0 0, Value.int 7 0, Value.ref 199, Value.bool true, Value.int 181 0, Value.ref 200, Value.none, Value.ref 201, Value.ref 202, Value.ref 203, Value.int 433 0, Value.int 131 0, Value.str (Str.ofString "/claim/cut.py") 434] }
noncomputable def ob205 (P : Params) : Obj := fnO (show ((topS 19)).bind fdOf? = some (_, _, _) from rfl) (Str.ofString "join") (Str.ofString "join") [] (Value.none) (Value.none) (Value.str (Str.ofString "cpy313.posixpath") 416) (Value.ref 204) (Value.none)
noncomputable def ob211 (P : Params) : Obj := { cls := Value.type "code", data := Data.fields #[Value.str (Str.ofString "basename") 436, Value.str (Str.ofString "basename") 437, Value.str (Str.ofString "/claim/cut.py") 438, Value.int 148 0, Value.int 1 0, Value.int 0 0, Value.int 0 0, Value.int 3 0, Value.ref 206, Value.bool true, Value.int 181 0, Value.ref 207, Value.none, Value.ref 208, Value.ref 209, Value.ref 210, Value.int 442 0, Value.int 148 0, Value.str (Str.ofString "/claim/cut.py") 443] }
noncomputable def ob212 (P : Params) : Obj := fnO (show ((topS 20)).bind fdOf? = some (_, _, _) from rfl) (Str.ofString "basename") (Str.ofString "basename") [] (Value.none) (Value.none) (Value.str (Str.ofString "cpy313.posixpath") 416) (Value.ref 211) (Value.none)
noncomputable def ob218 (P : Params) : Obj := { cls := Value.type "code", data := Data.fields #[Value.str (Str.ofString "dirname") 445, Value.str (Str.ofString "dirname") 446, Value.str (Str.ofString "/claim/cut.py") 447, Value.int 153 0, Value.int 1 0, Value.int 0 0, Value.int 0 0, Value.int 3 0, Value.ref 213, Value.bool true, Value.int 181 0, Value.ref 214, Value.none, Value.ref 215, Value.ref 216, Value.ref 217, Value.int 452 0, Value.int 153 0, Value.str (Str.ofString "/claim/cut.py") 453] }
noncomputable def ob219 (P : Params) : Obj := fnO (show ((topS 21)).bind fdOf? = some (_, _, _) from rfl) (Str.ofString "dirname") (Str.ofString "dirname") [] (Value.none) (Value.none) (Value.str (Str.ofString "cpy313.posixpath") 416) (Value.ref 218) (Value.none)
noncomputable def ob223 (P : Params) : Obj := { cls := Value.type "code", data := Data.fields #[Value.str (Str.ofString "commonpath") 455, Value.str (Str.ofString "commonpath") 456, Value.str (Str.ofString "/claim/cut.py") 457, Value.int 161 0, Value.int 1 0, Value.int 0 0, Value.int 0 0, Value.int 3 0, Value.ref 220, Value.bool true, Value.int 181 0, Value.ref 221, Value.none, Value.none, Value.none, Value.ref 222, Value.int 458 0, Value.int 161 0, Value.str (Str.ofString "/claim/cut.py") 459] }
noncomputable def ob224 (P : Params) : Obj := fnO (show ((topS 22)).bind fdOf? = some (_, _, _) from rfl) (Str.ofString "commonpath") (Str.ofString "commonpath") [] (Value.none) (Value.none) (Value.str (Str.ofString "cpy313.posixpath") 416) (Value.ref 223) (Value.none)
noncomputable def ob230 (P : Params) : Obj := { cls := Value.type "code", data := Data.fields #[Value.str (Str.ofString "_law_walk") 463, Value.str (Str.ofString "_law_walk") 464, Value.str (Str.ofString "/claim/cut.py") 465, Value.int 191 0, Value.int 3 0, Value.int 0 0, Value.int 0 0, Value.int 3 0, Value.ref 225, Value.bool true, Value.int 181 0, Value.ref 226, Value.none, Value.ref 227, Value.ref 228, Value.ref 229, Value.int 471 0, Value.int 191 0, Value.str (Str.ofString "/claim/cut.py") 472] }
noncomputable def ob231 (P : Params) : Obj := fnO (show ((topS 24)).bind fdOf? = some (_, _, _) from rfl) (Str.ofString "_law_walk") (Str.ofString "_law_walk") [] (Value.none) (Value.none) (Value.str (Str.ofString "law_il0172_01") 461) (Value.ref 230) (Value.none)
noncomputable def ob235 (P : Params) : Obj := { cls := Value.type "code", data := Data.fields #[Value.str (Str.ofString "_law_peak") 474, Value.str (Str.ofString "_law_peak") 475, Value.str (Str.ofString "/claim/cut.py") 476, Value.int 196 0, Value.int 3 0, Value.int 0 0, Value.int 0 0, Value.int 3 0, Value.ref 232, Value.bool true, Value.int 181 0, Value.ref 233, Value.none, Value.none, Value.none, Value.ref 234, Value.int 477 0, Value.int 196 0, Value.str (Str.ofString "/claim/cut.py") 478] }
noncomputable def ob236 (P : Params) : Obj := fnO (show ((topS 25)).bind fdOf? = some (_, _, _) from rfl) (Str.ofString "_law_peak") (Str.ofString "_law_peak") [] (Value.none) (Value.none) (Value.str (Str.ofString "law_il0172_01") 461) (Value.ref 235) (Value.none)
noncomputable def ob240 (P : Params) : Obj := { cls := Value.type "code", data := Data.fields #[Value.str (Str.ofString "law") 480, Value.str (Str.ofString "law") 481, Value.str (Str.ofString "/claim/cut.py") 482, Value.int 213 0, Value.int 1 0, Value.int 0 0, Value.int 0 0, Value.int 3 0, Value.ref 237, Value.bool true, Value.int 181 0, Value.ref 238, Value.none, Value.none, Value.none, Value.ref 239, Value.int 483 0, Value.int 213 0, Value.str (Str.ofString "/claim/cut.py") 484] }
noncomputable def ob241 (P : Params) : Obj := fnO (show ((topS 26)).bind fdOf? = some (_, _, _) from rfl) (Str.ofString "law") (Str.ofString "law") [] (Value.none) (Value.none) (Value.str (Str.ofString "law_il0172_01") 461) (Value.ref 240) (Value.none)
noncomputable def hd.heap_39 : Params → Frag := fun P => (nat_lit 2, ob2 P) :: (nat_lit 3, ob3 P) :: (nat_lit 22, ob22 P) :: (nat_lit 25, ob25 P) :: (nat_lit 30, ob30 P) :: (nat_lit 31, ob31 P) :: (nat_lit 37, ob37 P) :: (nat_lit 38, ob38 P) :: (nat_lit 44, ob44 P) :: (nat_lit 45, ob45 P) :: (nat_lit 46, ob46 P) :: (nat_lit 52, ob52 P) :: (nat_lit 53, ob53 P) :: (nat_lit 75, ob75 P) :: (nat_lit 81, ob81 P) :: (nat_lit 82, ob82 P) :: (nat_lit 90, ob90 P) :: (nat_lit 96, ob96 P) :: (nat_lit 97, ob97 P) :: (nat_lit 98, ob98 P) :: (nat_lit 99, ob99 P) :: (nat_lit 100, ob100 P) :: (nat_lit 101, ob101 P) :: (nat_lit 102, ob102 P) :: (nat_lit 110, ob110 P) :: (nat_lit 111, ob111 P) :: (nat_lit 183, ob183 P) :: (nat_lit 184, ob184 P) :: (nat_lit 197, ob197 P) :: (nat_lit 198, ob198 P) :: (nat_lit 204, ob204 P) :: (nat_lit 205, ob205 P) :: (nat_lit 211, ob211 P) :: (nat_lit 212, ob212 P) :: (nat_lit 218, ob218 P) :: (nat_lit 219, ob219 P) :: (nat_lit 223, ob223 P) :: (nat_lit 224, ob224 P) :: (nat_lit 230, ob230 P) :: (nat_lit 231, ob231 P) :: (nat_lit 235, ob235 P) :: (nat_lit 236, ob236 P) :: (nat_lit 240, ob240 P) :: (nat_lit 241, ob241 P) :: []
noncomputable def as0 : List Addr := nat_lit 2 :: nat_lit 3 :: nat_lit 22 :: nat_lit 25 :: nat_lit 30 :: nat_lit 31 :: nat_lit 37 :: nat_lit 38 :: nat_lit 44 :: nat_lit 45 :: nat_lit 46 :: nat_lit 52 :: nat_lit 53 :: nat_lit 75 :: nat_lit 81 :: nat_lit 82 :: nat_lit 90 :: nat_lit 96 :: nat_lit 97 :: nat_lit 98 :: nat_lit 99 :: nat_lit 100 :: nat_lit 101 :: nat_lit 102 :: nat_lit 110 :: nat_lit 111 :: nat_lit 183 :: nat_lit 184 :: nat_lit 197 :: nat_lit 198 :: nat_lit 204 :: nat_lit 205 :: nat_lit 211 :: nat_lit 212 :: nat_lit 218 :: nat_lit 219 :: nat_lit 223 :: nat_lit 224 :: nat_lit 230 :: nat_lit 231 :: nat_lit 235 :: nat_lit 236 :: nat_lit 240 :: nat_lit 241 :: []
noncomputable def stK (n : Nat) : Stmt := (topS n).getD (.Pass default)
noncomputable def view0 : Program := { PySem.Challenge.rw_il0172_01.row.prog with main := { PySem.Challenge.rw_il0172_01.row.prog.main with body := [stK 0, stK 2, stK 3, stK 5, stK 7, stK 9, stK 11, stK 12, stK 14, stK 16, stK 18, stK 19, stK 20, stK 21, stK 22, stK 24, stK 25, stK 26] } }
theorem genM {g h : Heap} {L : Addr} {m : Str → Option Value} {P : Prop} (F : Fr g L h m) (k : ∀ m', Fr g L h m' → P) : P := k m F
theorem hideQ {M : Model} {A : Around} {α : Type} {x : Sem α} {Q : α → Shared → Prop} {E : Value → Shared → Prop} {s : Shared} (h : ∀ W : α → Shared → Prop, (∀ a t, Q a t → W a t) → wpAny M A x W E s) : wpAny M A x Q E s := h Q (fun _ _ z => z)
theorem hideT {M : Model} {A : Around} {α β : Type} {x : Sem α} {y : Sem β} {T : β → Shared → Prop} {E E' : Value → Shared → Prop} {s : Shared} (h : ∀ W : β → Shared → Prop, (∀ f t, T f t → W f t) → wpAny M A x (fun _ s₂ => wpAny M A y W E s₂) E' s) : wpAny M A x (fun _ s₂ => wpAny M A y T E s₂) E' s := h T (fun _ _ z => z)
theorem hideQE {M : Model} {A : Around} {α : Type} {x : Sem α} {Q : α → Shared → Prop} {E : Value → Shared → Prop} {s : Shared} (h : ∀ (W : α → Shared → Prop) (V : Value → Shared → Prop), (∀ a t, Q a t → W a t) → (∀ a t, E a t → V a t) → wpAny M A x W V s) : wpAny M A x Q E s := h Q E (fun _ _ z => z) (fun _ _ z => z)
theorem genM1 {g h : Heap} {L : Addr} {m : Str → Option Value} {x : Str} {v : Option Value} {P : Prop} (F : Fr g L h m) (e : m x = v) (k : ∀ m', m' x = v → Fr g L h m' → P) : P := k m e F
theorem hideQP {M : Model} {A : Around} {α : Type} {x : Sem α} {Q : α → Shared → Prop} {E : Value → Shared → Prop} {s : Shared} {env : Env} (p : PassesOwn M A env E) (h : ∀ (W : α → Shared → Prop) (V : Value → Shared → Prop), (∀ a t, Q a t → W a t) → PassesOwn M A env V → wpAny M A x W V s) : wpAny M A x Q E s := h Q E (fun _ _ z => z) p
def Hold (P : Prop) : Prop := P
theorem Hold.out {P : Prop} (h : Hold P) : P := h
theorem Hold.in {P : Prop} (h : P) : Hold P := h
theorem stN {M : Model} {A : Around} {α : Type} {x : Sem α} {Q : α → Shared → Prop} {E : Value → Shared → Prop} {h : Heap} {g : Array GenState} {d : Drawn} {t : Nat} {os : OsState} (k : wpAny M A x Q E ⟨h, g, d, t, os⟩) : wpAny M A x Q E ⟨h, g, d, t, os⟩ := k
end Mine
end
section
open PySem PySem.W PyProof.Rows PySem.Calls
set_option Elab.async false
set_option maxRecDepth 100000
set_option maxHeartbeats 8000000
set_option linter.unusedVariables false
namespace Mine
theorem as0_ok : ∀ P, as0 = (hd.heap_39 P).map (·.1) := fun _ => by kernel_rfl
theorem looks0 : looksOpen PySem.Challenge.rw_il0172_01.row.prog = true := by
  delta looksOpen
  refine look_both (look_both (look_both ?_ ?_) ?_) ?_
  all_goals decide +kernel
theorem said0 : OpenLaw.wellSaid PySem.Challenge.rw_il0172_01 = true := by
  delta OpenLaw.wellSaid OpenRow.wellSaid OpenRow.partSaid
  rw [looks0]
  decide +kernel
noncomputable def topRunT (tb : String → Option Builtin) (p : Program) (w : World) (n₀ : Nat) (ann : Option Value) (n : Nat) : SharedT → Thread → Option SharedT :=
  n.rec (fun _ _ => none) fun _ ih s t => match through t with
    | true => some s
    | false => match stepOk n₀ ann t with
      | false => none
      | true => match stepT (denote tb) p w s t with
        | some (s', t') => ih s' t'
        | none => none
theorem topRun_of {tb : String → Option Builtin} {p : Program} {w : World} {n₀ : Nat} {ann : Option Value} : ∀ (n : Nat) (s s' : SharedT) (t : Thread), topRunT tb p w n₀ ann n s t = some s' → topRun tb p w n₀ ann n s.abs t = some s'.abs := fun n => by
  induction n with
  | zero => intro _ _ _ h; exact congrArg (Option.map SharedT.abs) h
  | succ n ih =>
    intro s s' t
    show (match through t with | true => some s | false => match stepOk n₀ ann t with | false => none | true => match stepT (denote tb) p w s t with | some (s', t') => topRunT tb p w n₀ ann n s' t' | none => none) = some s' → (match through t with | true => some s.abs | false => match stepOk n₀ ann t with | false => none | true => match step (denote tb) p w s.abs t with | .go s' t' => topRun tb p w n₀ ann n s' t' | .halt _ _ => none) = some s'.abs
    cases through t with
    | true => intro h; exact congrArg (Option.map SharedT.abs) h
    | false => cases stepOk n₀ ann t with
      | false => intro h; exact congrArg (Option.map SharedT.abs) h
      | true => cases hs : stepT (denote tb) p w s t with
        | none => intro h; exact (nomatch h)
        | some r => rw [stepT_spec (s' := r.1) (t' := r.2) hs]; exact ih r.1 s' r.2
noncomputable abbrev pr0 : Program := rw0.row.toRowW.prog
noncomputable def tree0 (P : Params) : BT :=
  .node (boot_o_0 P) (.node (boot_o_1 P) (.node (boot_o_3 P) (.node (boot_o_7 P) .nil .nil) .nil) (.node (boot_o_5 P) (.node (boot_o_9 P) .nil .nil) .nil))
    (.node (boot_o_2 P) (.node (boot_o_4 P) (.node (boot_o_8 P) .nil .nil) .nil) (.node (boot_o_6 P) (.node (boot_o_10 P) .nil .nil) .nil))
theorem boot_tree (P : Params) : boot_heap P = absHeap (tree0 P) 11 {} := by kernel_rfl
theorem size0 (P : Params) : ((boot_heap P).isNs mainGlobals && (Array.mk [] : Array GenState).size == 0) = true ∧ (boot_heap P).objs.size = 11 ∧ (boot_heap P).nsMap mainGlobals "__annotations__" = some (.ref 6) := ⟨by kernel_rfl, by kernel_rfl, by kernel_rfl⟩
theorem open0 : opening pr0 = plainProg pr0.main.scope.names := by kernel_rfl
theorem fence0 : ∀ s, fenceModules? pr0 s = some s := fun s => by kernel_rfl
noncomputable def mods0 : {f : Program → List Str // ∀ {α : Type} (p q : Program) (loose : List Str) (Xt : Shared → Bool) (Yf : Shared → α) (Ya : World → α) (N : Nat), LeftO p q loose Xt Yf Ya N = ∀ w, (openEnds treeTable p w N).map (fun s => (openSeen q loose (f p) Xt true s, Yf s)) = some (openGood q loose, Ya w)} := ⟨_, fun _ _ _ _ _ _ _ => rfl⟩
theorem topFrom_of {p : Program} {w : World} {N m₀ : Nat} {ann : Option Value} {s s₁ : Shared} (z1 : (s.heap.isNs mainGlobals && s.gens.size == 0) = true) (z2 : s.heap.objs.size = m₀) (z3 : s.heap.nsMap mainGlobals "__annotations__" = ann)
    (r : topRun treeTable p w m₀ ann N s (topStub p) = some s₁) (l : (staticsOk (mods0.1 p) s.heap s₁.heap && namesBound p s₁.heap && gensDone s₁ && laidKept s.heap s₁.heap) = true) : topFrom treeTable p w N s = some s₁ := by
  subst z2 z3
  unfold topFrom
  rw [z1, r]
  show (match staticsOk (mods0.1 p) s.heap s₁.heap && namesBound p s₁.heap && gensDone s₁ && laidKept s.heap s₁.heap with | true => some s₁ | false => none) = _
  rw [l]
theorem left_of {p q : Program} {loose : List Str} {Xt : Shared → Bool} {α : Type} {Yf : Shared → α} {Ya : World → α} {N m₀ : Nat} {ann : Option Value} {T : Params → BT} (hN : Nat.ble 600 N = true) (e : opening p = plainProg p.main.scope.names) (f : ∀ s, fenceModules? p s = some s) (hT : ∀ P, boot_heap P = absHeap (T P) m₀ {})
    (hz : ∀ P, ((boot_heap P).isNs mainGlobals && (Array.mk [] : Array GenState).size == 0) = true ∧ (boot_heap P).objs.size = m₀ ∧ (boot_heap P).nsMap mainGlobals "__annotations__" = ann)
    (run : ∀ w os, ((topRunT treeTable p w m₀ ann N ⟨T w.params, m₀, {}, Array.mk [], boot_drawn, boot_toks, os⟩ (topStub p)).map fun s => ((staticsOk (mods0.1 p) (boot_heap w.params) s.abs.heap && namesBound p s.abs.heap && gensDone s.abs && laidKept (boot_heap w.params) s.abs.heap), openSeen q loose (mods0.1 p) Xt true s.abs, Yf s.abs)) = some (true, openGood q loose, Ya w)) : LeftO p q loose Xt Yf Ya N := fun w =>
  (Option.map_eq_some_iff.mp (boot_open e hN f w)).elim fun s₀ h₀ => (Option.map_eq_some_iff.mp (run w s₀.os)).elim fun s h =>
    (congrArg (fun x => Option.map _ (Option.bind x _)) (h₀.1.trans (congrArg some (congrArg (fun x : Heap × Array GenState × Drawn × Nat => (⟨x.1, x.2.1, x.2.2.1, x.2.2.2, s₀.os⟩ : Shared)) h₀.2)))).trans
      ((congrArg (Option.map _) (topFrom_of (s := ⟨boot_heap w.params, Array.mk [], boot_drawn, boot_toks, s₀.os⟩) (hz w.params).1 (hz w.params).2.1 (hz w.params).2.2 ((congrArg (fun H => topRun treeTable p w m₀ ann N ⟨H, Array.mk [], boot_drawn, boot_toks, s₀.os⟩ (topStub p)) (hT w.params)).trans (topRun_of _ _ _ _ h.1)) (congrArg (·.1) h.2))).trans (congrArg some (congrArg (·.2) h.2)))
theorem run0 (w : World) (os : OsState) : ((topRunT treeTable pr0 w 11 (some (.ref 6)) 3188 ⟨tree0 w.params, 11, {}, Array.mk [], boot_drawn, boot_toks, os⟩ (topStub pr0)).map fun s => ((staticsOk (mods0.1 pr0) (boot_heap w.params) s.abs.heap && namesBound pr0 s.abs.heap && gensDone s.abs && laidKept (boot_heap w.params) s.abs.heap), openSeen view0 [Str.ofString "_Accumulator"] (mods0.1 pr0) (fun s => xlAt view0 [] s && recOk (RowW.records rw0.row.toRowW) s) true s.abs, (kmHook hd.heap_39 as0 as0_ok [106, 238]).obs s.abs)) = some (true, openGood view0 [Str.ofString "_Accumulator"], (kmHook hd.heap_39 as0 as0_ok [106, 238]).val w) := by kernel_rfl
theorem left0 : LeftO rw0.row.toRowW.prog view0 [Str.ofString "_Accumulator"] (fun s => xlAt view0 [] s && recOk (RowW.records rw0.row.toRowW) s) (kmHook hd.heap_39 as0 as0_ok [106, 238]).obs (kmHook hd.heap_39 as0 as0_ok [106, 238]).val 3188 :=
  left_of rfl open0 fence0 boot_tree size0 run0
end Mine
end
section
open PySem PySem.W PyProof.Rows PySem.Calls
set_option Elab.async false
set_option maxRecDepth 100000
set_option maxHeartbeats 8000000
namespace Mine
namespace F
theorem kind_issubclass_nested : builtinKind "issubclass.nested" = none := by decide +kernel
theorem plain_issubclass_nested : plainId "issubclass.nested" = true := by decide +kernel
theorem entry_issubclass_nested : entryFor table "issubclass.nested" = some Builtin.«issubclass.nested» := PySem.F.entry_issubclass_nested
theorem args_issubclass_nested (a b c : Value) : argsOk "issubclass.nested" ⟨[a, b, c], []⟩ := by unfold argsOk; kernel_rfl
end F
theorem code_fn {prog : Program} {w : World} {A : Around} {s : Shared} {R : Result → Shared → Prop} {id : String} {B : Builtin} {args : List Value} (kind : builtinKind id = none) (plain : plainId id = true)
    (entry : entryFor table id = some B) (ok : argsOk id ⟨args, []⟩)
    (h : wpAny (model prog w) A.in1 (B ⟨args, []⟩) (fun fin s' => match fin with | .done f => R (.ok f) s' | .again c' => c'.quiet = true ∧ codeAny (model prog w) A c' R s') (fun e s' => R (.error e) s') s) :
    codeAny (model prog w) A (.call (.builtin id) ⟨args, []⟩) R s := by
  refine codeAny_call_builtin plain entry ?_
  simp only [checkBuiltinCall, kind]
  cases hsig : Manifest.signature? id with
  | none => exact wpAny_pure h
  | some sig =>
    simp only [argsOk, hsig] at ok
    have h2 : Bind.checkArgs id sig ⟨args, []⟩ = pure () := ok
    show wpAny _ _ (Bind.checkArgs id sig ⟨args, []⟩) _ _ s
    rw [h2]; exact wpAny_pure h
theorem subNested {prog : Program} {w : World} {A : Around} {E : Value → Shared → Prop} {s : Shared} {dep : Int} {tk : Tok} {Q : Fin → Shared → Prop} (hq : Q (.done (.ret (.bool true))) s) :
    wpAny (model prog w) A (Builtin.«issubclass.nested» ⟨[.type "str", .type "str", .int dep tk], []⟩) Q E s := by
  have hm : typeOf (.type "str") = pure (.type "type") := by rfl
  have hs : isSubtype (.type "str") (.type "str") = pure true := by rw [isSubtype_type]; kernel_rfl
  repeat (any_goals (first | assumption | (rw [hm]) | (rw [hs]) | (first | with_reducible (first | refine PySem.wpAny_pure ?_ | refine PySem.wpAny_bind ?_ | refine PySem.wpAny_holding ?_ | refine PySem.wpAny_standAt ?_ | refine PySem.wpAny_point ?_ | refine PySem.wpAny_rule ?_ | refine PySem.wpAny_letGo ?_ | refine PySem.wpAny_mkInt' ?_ | refine PySem.wpAny_fresh' ?_ | refine PySem.wpAny_alloc' ?_ | refine PySem.wpAny_attempt ?_ | refine PySem.wpAny_throw ?_ | refine PySem.wpAny_of_eq (by assumption) ?_ | refine PySem.wpAny_typeOf (by assumption) ?_ | refine PySem.wpAny_specialOf_val (by assumption) (by assumption) ?_ | refine PySem.wpAny_specialOf (by assumption) (by assumption) ?_ | refine PySem.wpAny_isInstance_val (by assumption) (by assumption) ?_ | refine PySem.wpAny_isInstance (by assumption) (by assumption) ?_ | refine PySem.wpAny_call ?_ | refine PySem.wpAny_runValue ?_ | refine PySem.wpAny_run ?_) | ((with_reducible refine' PySem.wpAny_mkStr' ?_ ?hx); (case hx => size_fits)) | ((with_reducible refine' PySem.wpAny_load' ?ho ?_); (case ho => heap_get)) | ((with_reducible refine' PySem.wpAny_update' ?ho ?_); (case ho => heap_get)) | ((with_reducible refine' PySem.wpAny_loadPart' ?ho ?_); (case ho => heap_get)) | ((with_reducible refine' PySem.wpAny_updatePart' ?ho ?_); (case ho => heap_get)) | ((with_reducible refine' PySem.wpAny_handled_none ?ho ?_); (case ho => assumption)) | ((with_reducible refine' PySem.wpAny_ite_false ?ho ?_); (case ho => rfl)) | ((with_reducible refine' PySem.wpAny_ite_true ?ho ?_); (case ho => rfl)) | ((with_reducible refine' PySem.wpAny_ite_false ?ho ?_); (case ho => (simp [*]; done))) | ((with_reducible refine' PySem.wpAny_ite_true ?ho ?_); (case ho => (simp [*]; done))) | wp_delta | with_reducible_and_instances refine PySem.wpAny_pure ?_ | with_reducible_and_instances refine PySem.wpAny_bind ?_)))
theorem subTup {prog : Program} {w : World} {A : Around} {E : Value → Shared → Prop} {s : Shared} {D : Addr} {Q : Value → Shared → Prop} (hT : IsTup s.heap D #[.type "str", .type "bytes"]) (h : Q (.bool true) s) :
   wpAny (model prog w) A (call (.builtin "issubclass") [.type "str", .ref D]) Q E s := by
  refine call_issubclass (S := fun A R s => IsTup s.heap D #[.type "str", .type "bytes"] ∧ R (.ok (.ret (.bool true))) s) (fun prog w A R s hs => issubclass_outer ?_) ⟨hT, h⟩
  obtain ⟨hT, h⟩ := hs
  obtain ⟨⟨c, d, dt, sl⟩, ho, hc, n, hdd⟩ := hT
  dsimp only at hc hdd
  subst hc hdd
  have ht : isSubtype (.type "tuple") (.type "tuple") = pure true := by rw [isSubtype_type]; kernel_rfl
  have hlim : ¬ ((0:Int) ≥ Builtin.Builtins.nestingLimit) := by decide
  repeat (any_goals (first | assumption | (rw [if_neg hlim]) | (dsimp only [Option.getD]; rw [← Array.forIn_toList]; dsimp only [List.forIn_cons]) | (first | with_reducible (first | refine PySem.wpAny_pure ?_ | refine PySem.wpAny_bind ?_ | refine PySem.wpAny_holding ?_ | refine PySem.wpAny_standAt ?_ | refine PySem.wpAny_point ?_ | refine PySem.wpAny_rule ?_ | refine PySem.wpAny_letGo ?_ | refine PySem.wpAny_mkInt' ?_ | refine PySem.wpAny_fresh' ?_ | refine PySem.wpAny_alloc' ?_ | refine PySem.wpAny_attempt ?_ | refine PySem.wpAny_throw ?_ | refine PySem.wpAny_of_eq (by assumption) ?_ | refine PySem.wpAny_typeOf (by assumption) ?_ | refine PySem.wpAny_specialOf_val (by assumption) (by assumption) ?_ | refine PySem.wpAny_specialOf (by assumption) (by assumption) ?_ | refine PySem.wpAny_isInstance_val (by assumption) (by assumption) ?_ | refine PySem.wpAny_isInstance (by assumption) (by assumption) ?_ | refine PySem.wpAny_call ?_ | refine PySem.wpAny_runValue ?_ | refine PySem.wpAny_run ?_) | ((with_reducible refine' PySem.wpAny_mkStr' ?_ ?hx); (case hx => size_fits)) | ((with_reducible refine' PySem.wpAny_load' ?ho ?_); (case ho => heap_get)) | ((with_reducible refine' PySem.wpAny_update' ?ho ?_); (case ho => heap_get)) | ((with_reducible refine' PySem.wpAny_loadPart' ?ho ?_); (case ho => heap_get)) | ((with_reducible refine' PySem.wpAny_updatePart' ?ho ?_); (case ho => heap_get)) | ((with_reducible refine' PySem.wpAny_handled_none ?ho ?_); (case ho => assumption)) | ((with_reducible refine' PySem.wpAny_ite_false ?ho ?_); (case ho => rfl)) | ((with_reducible refine' PySem.wpAny_ite_true ?ho ?_); (case ho => rfl)) | ((with_reducible refine' PySem.wpAny_ite_false ?ho ?_); (case ho => (simp [*]; done))) | ((with_reducible refine' PySem.wpAny_ite_true ?ho ?_); (case ho => (simp [*]; done))) | wp_delta | with_reducible_and_instances refine PySem.wpAny_pure ?_ | with_reducible_and_instances refine PySem.wpAny_bind ?_)))
  refine code_fn F.kind_issubclass_nested F.plain_issubclass_nested F.entry_issubclass_nested (F.args_issubclass_nested _ _ _) ?_
  refine subNested ?_
  repeat (any_goals (first | assumption | (first | with_reducible (first | refine PySem.wpAny_pure ?_ | refine PySem.wpAny_bind ?_ | refine PySem.wpAny_holding ?_ | refine PySem.wpAny_standAt ?_ | refine PySem.wpAny_point ?_ | refine PySem.wpAny_rule ?_ | refine PySem.wpAny_letGo ?_ | refine PySem.wpAny_mkInt' ?_ | refine PySem.wpAny_fresh' ?_ | refine PySem.wpAny_alloc' ?_ | refine PySem.wpAny_attempt ?_ | refine PySem.wpAny_throw ?_ | refine PySem.wpAny_of_eq (by assumption) ?_ | refine PySem.wpAny_typeOf (by assumption) ?_ | refine PySem.wpAny_specialOf_val (by assumption) (by assumption) ?_ | refine PySem.wpAny_specialOf (by assumption) (by assumption) ?_ | refine PySem.wpAny_isInstance_val (by assumption) (by assumption) ?_ | refine PySem.wpAny_isInstance (by assumption) (by assumption) ?_ | refine PySem.wpAny_call ?_ | refine PySem.wpAny_runValue ?_ | refine PySem.wpAny_run ?_) | ((with_reducible refine' PySem.wpAny_mkStr' ?_ ?hx); (case hx => size_fits)) | ((with_reducible refine' PySem.wpAny_load' ?ho ?_); (case ho => heap_get)) | ((with_reducible refine' PySem.wpAny_update' ?ho ?_); (case ho => heap_get)) | ((with_reducible refine' PySem.wpAny_loadPart' ?ho ?_); (case ho => heap_get)) | ((with_reducible refine' PySem.wpAny_updatePart' ?ho ?_); (case ho => heap_get)) | ((with_reducible refine' PySem.wpAny_handled_none ?ho ?_); (case ho => assumption)) | ((with_reducible refine' PySem.wpAny_ite_false ?ho ?_); (case ho => rfl)) | ((with_reducible refine' PySem.wpAny_ite_true ?ho ?_); (case ho => rfl)) | ((with_reducible refine' PySem.wpAny_ite_false ?ho ?_); (case ho => (simp [*]; done))) | ((with_reducible refine' PySem.wpAny_ite_true ?ho ?_); (case ho => (simp [*]; done))) | wp_delta | with_reducible_and_instances refine PySem.wpAny_pure ?_ | with_reducible_and_instances refine PySem.wpAny_bind ?_)))
end Mine
end
section
open PySem PySem.W PyProof.Rows PySem.Calls
set_option Elab.async false
set_option maxRecDepth 100000
set_option maxHeartbeats 8000000
namespace Mine
section
theorem fresh_C1 : True ∧ True := by
  w_top off
  exact ⟨trivial, trivial⟩
end
section
variable {w : World} {p : Program} {loose : List Str} {mean : ExcName → Option Value} {mg mb : Str → Option Value} {dp un : Nat} {gd : Option (List Code)} {cn : Str} {cs : Scope} {a : Addr} {ccd : Value} {cl : List (Str × Addr)} {outer : List Env} {A₀ : Around} {base h₀ : Heap} {L : Addr} {m : Str → Option Value} {news : List (Addr × Obj)} {s : Shared} {Q E : Value → Shared → Prop}
local macro_rules | `(tactic| walk_at "call builtin:issubclass") => `(tactic| (k_here; k_dflt (refine subTup (by exact News.isTup (by k_asm) (by k_mem)) ?_; k_whole)))
theorem c_fspath {x : Str} {t : Tok} (B : Below A₀ base outer h₀) (F : Fr h₀ L s.heap m) (X : (hd.heap_39 w.params).In h₀) (N : News h₀ L s.heap news) (T : Top p loose mean mg mb h₀) (hk : cs.kind = .function) (hd : dp + 1 < recursionLimit) (hu : un + 8 < cLine)
   (hret : ∀ h' tk', Fr h₀ L h' m → News h₀ L h' news → Q (.str x t) { s with heap := h', toks := tk' }) :
   wpAny (model PySem.Challenge.rw_il0172_01.row.prog w) (ktrTop dp un gd cn cs L a ccd cl outer) (call (.ref 184) [.str x t]) Q E s := by
  revert X; k_fill; intro X
  refine wpAny_call ?_
  k_dflt cell_enter
  k_steps
  exact hret _ _ (by assumption) (cb_drop (by assumption) (fun p hp => .tail _ hp))
theorem c_getsep {x : Str} {t : Tok} (B : Below A₀ base outer h₀) (F : Fr h₀ L s.heap m) (X : (hd.heap_39 w.params).In h₀) (N : News h₀ L s.heap news) (T : Top p loose mean mg mb h₀) (hk : cs.kind = .function) (hd : dp + 1 < recursionLimit) (hu : un + 8 < cLine)
   (hret : ∀ h' tk' t', Fr h₀ L h' m → News h₀ L h' news → Q (.str (Str.ofString "/") t') { s with heap := h', toks := tk' }) :
   wpAny (model PySem.Challenge.rw_il0172_01.row.prog w) (ktrTop dp un gd cn cs L a ccd cl outer) (call (.ref 198) [.str x t]) Q E s := by
  revert X; k_fill; intro X
  refine wpAny_call ?_
  k_dflt cell_enter
  k_steps
  exact hret _ _ _ (by assumption) (by assumption)
end
end Mine
end
section
open PySem PySem.W PyProof.Rows PySem.Calls
set_option Elab.async false
set_option maxRecDepth 100000
set_option maxHeartbeats 8000000
set_option linter.unusedVariables false
namespace Mine
section
theorem fresh_C3 : True ∧ True := by
  w_top off
  exact ⟨trivial, trivial⟩
end
noncomputable def baseS (x : Str) : Str := Txt.slice x (some (Txt.rfind x (Str.ofString "/") + 1)) none
noncomputable def headS (x : Str) : Str := Txt.slice x none (some (Txt.rfind x (Str.ofString "/") + 1))
noncomputable def dirS (x : Str) : Str := if (headS x).length ≠ 0 ∧ (headS x != Txt.mul (Str.ofString "/") ((headS x).length : Int)) = true then Txt.rstripChars (headS x) (Str.ofString "/") else headS x
section
variable {w : World} {p : Program} {loose : List Str} {mean : ExcName → Option Value} {mg mb : Str → Option Value} {dp un : Nat} {gd : Option (List Code)} {cn : Str} {cs : Scope} {a : Addr} {ccd : Value} {cl : List (Str × Addr)} {outer : List Env} {A₀ : Around} {base h₀ : Heap} {L : Addr} {m : Str → Option Value} {news : List (Addr × Obj)} {s : Shared} {Q E : Value → Shared → Prop}
theorem ret_eq {x y : Str} {t : Tok} {h' : Heap} {tk' : Nat} (hret : ∀ h' tk' t', Fr h₀ L h' m → News h₀ L h' news → Q (.str x t') { s with heap := h', toks := tk' }) (e : y = x) (F : Fr h₀ L h' m) (N : News h₀ L h' news) : Q (.str y t) { s with heap := h', toks := tk' } := by
  subst e; exact hret _ _ _ F N
local macro_rules | `(tactic| walk_at "call ref") => `(tactic| (k_here; (with_reducible show wpAny _ _ (call (Value.ref 184) [Value.str _ _]) _ _ _); k_dflt (refine c_fspath (by k_asm) (by k_asm) (by k_asm) (by k_asm) (by k_asm) (by first | exact rfl | assumption) (by ktr_room) (by ktr_units) ?_; k_whole; intro h9 tk9 F9 N9; (try dsimp only); (try k_fold))))
local macro_rules | `(tactic| walk_at "call ref") => `(tactic| (k_here; (with_reducible show wpAny _ _ (call (Value.ref 198) [Value.str _ _]) _ _ _); k_dflt (refine c_getsep (by k_asm) (by k_asm) (by k_asm) (by k_asm) (by k_asm) (by first | exact rfl | assumption) (by ktr_room) (by ktr_units) ?_; k_whole; intro h9 tk9 t9 F9 N9; (try dsimp only); (try k_fold))))
theorem c_basename {x : Str} {t : Tok} (B : Below A₀ base outer h₀) (F : Fr h₀ L s.heap m) (X : (hd.heap_39 w.params).In h₀) (N : News h₀ L s.heap news) (T : Top p loose mean mg mb h₀) (hk : cs.kind = .function) (hd : dp + 3 < recursionLimit) (hu : un + 24 < cLine) (hx : x.length ≤ 1000)
   (hret : ∀ h' tk' t', Fr h₀ L h' m → News h₀ L h' news → Q (.str (baseS x) t') { s with heap := h', toks := tk' }) :
   wpAny (model PySem.Challenge.rw_il0172_01.row.prog w) (ktrTop dp un gd cn cs L a ccd cl outer) (call (.ref 212) [.str x t]) Q E s := by
  revert X; k_fill; intro X
  refine wpAny_call ?_
  k_dflt cell_enter
  k_steps
  exact ret_eq hret rfl (by assumption) (by assumption)
theorem c_dirname {x : Str} {t : Tok} (B : Below A₀ base outer h₀) (F : Fr h₀ L s.heap m) (X : (hd.heap_39 w.params).In h₀) (N : News h₀ L s.heap news) (T : Top p loose mean mg mb h₀) (hk : cs.kind = .function) (hd : dp + 3 < recursionLimit) (hu : un + 24 < cLine) (hx : x.length ≤ 1000)
   (hret : ∀ h' tk' t', Fr h₀ L h' m → News h₀ L h' news → Q (.str (dirS x) t') { s with heap := h', toks := tk' }) :
   wpAny (model PySem.Challenge.rw_il0172_01.row.prog w) (ktrTop dp un gd cn cs L a ccd cl outer) (call (.ref 219) [.str x t]) Q E s := by
  revert X; k_fill; intro X
  refine wpAny_call ?_
  k_dflt cell_enter
  k_steps
  all_goals (refine ret_eq hret ?_ (by assumption) (by assumption))
  · unfold dirS headS; rw [if_pos ⟨by omega, by assumption⟩]
  · unfold dirS headS; rw [if_neg (fun h => by simp_all)]
  · unfold dirS headS; rw [if_neg (fun h => by omega)]
end
end Mine
end
section
open PySem PySem.W PyProof.Rows PySem.Calls
set_option Elab.async false
set_option maxRecDepth 100000
set_option maxHeartbeats 8000000
set_option linter.unusedVariables false
namespace Mine
section
variable {prog : Program} {w : World} {A : Around} {E : Value → Shared → Prop} {s : Shared} {env : Env} {h₀ : Heap} {target : Expr} {body : List Stmt} {Q : Flow → Shared → Prop}
noncomputable def TEnd (h₀ : Heap) (L I : Addr) (it : Obj) (src : List (Addr × Obj)) (J : (Str → Option Value) → List (Addr × Obj) → Prop) (s : Shared) (s₂ : Shared) : Prop :=
  ∃ h' tk m' news', s₂ = { s with heap := h', toks := tk } ∧ Fr h₀ L h' m' ∧ News h₀ L h' ((I, it) :: news') ∧ (∀ p ∈ src, p ∈ news') ∧ (∀ p ∈ news', p.1 ≠ I) ∧ J m' news'
noncomputable def Turn (h₀ : Heap) (L I : Addr) (it : Obj) (src : List (Addr × Obj)) (J : (Str → Option Value) → List (Addr × Obj) → Prop) (s : Shared) (Q : Flow → Shared → Prop) (f : Flow) (s₂ : Shared) : Prop :=
  match f with
  | .ret v => Q (.ret v) s₂
  | .brk => Q .next s₂
  | _ => TEnd h₀ L I it src J s s₂
theorem TEnd.intro {L I : Addr} {it : Obj} {src : List (Addr × Obj)} {J : (Str → Option Value) → List (Addr × Obj) → Prop} {h' : Heap} {tk : Nat} {m' : Str → Option Value} (news' : List (Addr × Obj)) (F : Fr h₀ L h' m') (N : News h₀ L h' ((I, it) :: news'))
    (hs : ∀ p ∈ src, p ∈ news') (hI : ∀ p ∈ news', p.1 ≠ I) (hJ : J m' news') : TEnd h₀ L I it src J s { s with heap := h', toks := tk } := ⟨h', tk, m', news', rfl, F, N, hs, hI, hJ⟩
theorem turns_core {I : Addr} {clsI : String} {src : List (Addr × Obj)} {n : Nat} {P Md : Nat → Value → Heap → Prop} {St : Nat → Heap → Prop} {fp : List Addr} {m₀ : Str → Option Value} {news : List (Addr × Obj)} {hp : Heap} {tk0 : Nat}
    (J : Nat → (Str → Option Value) → List (Addr × Obj) → Prop)
    (W : KTurns prog w A target I fp [I] n P Md St)
    (hobj : ∀ i h, St i h → ∃ it : Obj, it.cls = .type clsI ∧ h.get? I = some it)
    (hI0 : h₀.get? I = none) (hIfp : I ∈ fp) (hfp : ∀ b ∈ fp, b = I ∨ ∃ o, (b, o) ∈ src) (hL : env.locals ∉ fp) (hst : St 0 hp)
    (F : Fr h₀ env.locals hp m₀) (N : News h₀ env.locals hp news) (hsrc : ∀ p ∈ src, p ∈ news) (hnI : ∀ p ∈ news, p.1 ≠ I) (h0 : J 0 m₀ news)
    (turn : ∀ i v m₁ news₁ h₁ tk₁ it, i < n → P i v h₁ → it.cls = .type clsI → J i m₁ news₁ → (∀ p ∈ src, p ∈ news₁) → (∀ p ∈ news₁, p.1 ≠ I) → Fr h₀ env.locals h₁ m₁ → News h₀ env.locals h₁ ((I, it) :: news₁) →
      wpAny (model prog w) A (assign target env v) (fun _ s₂ => wpAny (model prog w) A (execs body env) (Turn h₀ env.locals I it src (J (i + 1)) s Q) E s₂) E { s with heap := h₁, toks := tk₁ })
    (done : ∀ m' news' h' tk, J n m' news' → (∀ p ∈ news', p.1 ≠ I) → Fr h₀ env.locals h' m' → News h₀ env.locals h' news' → Q .next { s with heap := h', toks := tk }) :
    TurnsAt prog w A h₀ env target body Q E (.ref I) { s with heap := hp, toks := tk0 } := by
  let J' : Nat → (Str → Option Value) → List (Addr × Obj) → Prop := fun i m₁ news₁ => (∀ p ∈ src, p ∈ news₁) ∧ J i m₁ news₁
  refine ⟨I, fp, [I], n, P, Md, St, m₀, news, J', rfl, W, hL, fun b hb => by rw [List.mem_singleton.mp hb]; exact hI0, fun p hp hI => hnI p hp (List.mem_singleton.mp hI), hst, F, N, ⟨hsrc, h0⟩, ?_, ?_⟩
  · intro i v m₁ news₁ h₁ tk₁ own hin hPi hJ hoff hown hget hall hst₁ F₁ N₁
    obtain ⟨hk₁, hJ⟩ := hJ
    obtain ⟨it, hic, hit⟩ := hobj (i + 1) h₁ hst₁
    have hmem : (I, it) ∈ own := hall I hIfp hI0 it hit
    have hoff' : ∀ p ∈ news₁, p.1 ≠ I := fun p hp e => hoff p hp (List.mem_singleton.mpr e)
    have N₂ : News h₀ env.locals h₁ ((I, it) :: news₁) := fun p hp => by
      rcases List.mem_cons.mp hp with rfl | hp
      · exact N₁ _ (List.mem_append_left _ hmem)
      · exact N₁ _ (List.mem_append_right _ hp)
    have fin : ∀ s₃, TEnd h₀ env.locals I it src (J (i + 1)) s s₃ → LoopStepU h₀ env.locals [I] own (J' (i + 1)) { s with heap := h₁, toks := tk₁ } .next s₃ := by
      rintro s₃ ⟨h', tk, m', news', e, F', N', hs', ho', r⟩
      refine ⟨rfl, h', tk, m', news', e, F', ?_, fun p hp hI => ho' p hp (List.mem_singleton.mp hI), hs', r⟩
      rintro ⟨pa, po⟩ hp
      rcases List.mem_append.mp hp with hp | hp
      · have h2 : h₁.get? pa = some po := hget _ hp
        rcases hfp pa (hown _ hp) with h3 | ⟨o, h3⟩
        · have h3' : pa = I := h3
          subst h3'
          have h6 : it = po := Option.some.inj (hit.symm.trans h2)
          subst h6
          exact N' _ (.head _)
        · have h4 : h₁.get? pa = some o := (N₁ _ (List.mem_append_right _ (hk₁ _ h3))).1
          have h6 : o = po := Option.some.inj (h4.symm.trans h2)
          subst h6
          exact N' _ (.tail _ (hs' _ h3))
      · exact N' _ (.tail _ hp)
    refine wpAny_mono (turn i v m₁ news₁ h₁ tk₁ it hin hPi hic hJ hk₁ hoff' F₁ N₂) (fun _ s₂ h₂ => wpAny_mono h₂ (fun f s₃ p => ?_) fun _ _ e => e) fun _ _ e => e
    cases f with
    | ret v => exact .ret p
    | brk => exact .brk p
    | next => exact .next (fin _ p)
    | cont => exact .cont (fin _ p)
  · intro h' tk m' news' F' N' hI hJ
    exact done m' news' h' tk hJ.2 (fun p hp e => hI p hp (List.mem_singleton.mpr e)) F' N'
theorem iter_listI {ax : Addr} {lo : Obj} {vs : List Value} {n : Nat} {m₀ : Str → Option Value} {news : List (Addr × Obj)}
    (J : (Str → Option Value) → List (Addr × Obj) → Addr → Nat → (Str → Option Value) → List (Addr × Obj) → Prop)
    (hh : A.handled = none) (F : Fr h₀ env.locals s.heap m₀) (N : News h₀ env.locals s.heap news) (hm : (ax, lo) ∈ news) (hc : lo.cls = .type "list") (hd : lo.data = .seq vs.toArray n)
    (h0 : ∀ I, (∀ p ∈ news, p.1 < I) → J m₀ news I 0 m₀ news)
    (turn : ∀ I i v m₁ news₁ h₁ tk₁ it, (∀ p ∈ news, p.1 < I) → vs[i]? = some v → it.cls = .type "list_iterator" → J m₀ news I i m₁ news₁ → (∀ p ∈ [(ax, lo)], p ∈ news₁) → (∀ p ∈ news₁, p.1 ≠ I) → Fr h₀ env.locals h₁ m₁ → News h₀ env.locals h₁ ((I, it) :: news₁) →
      wpAny (model prog w) A (assign target env v) (fun _ s₂ => wpAny (model prog w) A (execs body env) (Turn h₀ env.locals I it [(ax, lo)] (J m₀ news I (i + 1)) s Q) E s₂) E { s with heap := h₁, toks := tk₁ })
    (done : ∀ I m' news' h' tk, J m₀ news I vs.length m' news' → (∀ p ∈ news', p.1 ≠ I) → Fr h₀ env.locals h' m' → News h₀ env.locals h' news' → Q .next { s with heap := h', toks := tk }) :
    wpAny (model prog w) A (pyIter (.ref ax)) (fun it s₂ => TurnsAt prog w A h₀ env target body Q E it s₂) E s := by
  have hax := N _ hm
  have hl : s.heap.IsList ax vs.toArray := ⟨lo, hax.1, hc, n, hd⟩
  have hlt : ax < s.heap.objs.size := Heap.lt_size hax.1
  have hne : ax ≠ s.heap.objs.size := Nat.ne_of_lt hlt
  have hlts : ∀ p ∈ news, p.1 < s.heap.objs.size := fun p hp => Heap.lt_size (N p hp).1
  refine wpAny_pyIter_list hl ?_
  refine turns_core (clsI := "list_iterator") (tk0 := s.toks) (src := [(ax, lo)]) (J m₀ news s.heap.objs.size) (KTurns.ofWalks (Walks.list hh s.heap.objs.size ax hne vs.toArray) fun i v s Q E st q => letGo_listiter st.1 q)
    (fun i h st => ?_) (next_is_new F) (by simp) (fun b hb => ?_) ?_ ?_ (F.push _) (fun p hp => ⟨Heap.get?_push_of_some _ (N p hp).1, (N p hp).2⟩) (fun p hp => by rw [List.mem_singleton.mp hp]; exact hm) (fun p hp => Nat.ne_of_lt (hlts p hp)) (h0 _ hlts)
    (fun i v m₁ news₁ h₁ tk₁ it hi hP hic hJ hs hI F₁ N₁ => turn _ i v m₁ news₁ h₁ tk₁ it hlts (by simpa using hP) hic hJ hs hI F₁ N₁)
    (fun m' news' h' tk hJ hI F' N' => done _ m' news' h' tk (by simpa using hJ) hI F' N')
  · obtain ⟨it, hit, hic, _⟩ := st.1
    exact ⟨it, hic, hit⟩
  · have hb' : b = s.heap.objs.size ∨ b = ax := by simpa using hb
    rcases hb' with e | e
    · exact .inl e
    · exact .inr ⟨lo, by simp [e]⟩
  · intro hI
    rcases List.mem_cons.mp hI with e | hI
    · exact absurd F.ns.lt (e ▸ Nat.lt_irrefl _)
    · exact hax.2.1 (List.mem_singleton.mp hI).symm
  · exact ⟨⟨_, Heap.get?_push_size _ rfl, rfl, rfl⟩, hl.at fun o e => Heap.get?_push_of_some _ e⟩
theorem iter_tupI {ax : Addr} {lo : Obj} {vs : List Value} {n : Nat} {m₀ : Str → Option Value} {news : List (Addr × Obj)}
    (J : (Str → Option Value) → List (Addr × Obj) → Addr → Nat → (Str → Option Value) → List (Addr × Obj) → Prop)
    (hh : A.handled = none) (F : Fr h₀ env.locals s.heap m₀) (N : News h₀ env.locals s.heap news) (hm : (ax, lo) ∈ news) (hc : lo.cls = .type "tuple") (hd : lo.data = .seq vs.toArray n)
    (h0 : ∀ I, (∀ p ∈ news, p.1 < I) → J m₀ news I 0 m₀ news)
    (turn : ∀ I i v m₁ news₁ h₁ tk₁ it, (∀ p ∈ news, p.1 < I) → vs[i]? = some v → it.cls = .type "tuple_iterator" → J m₀ news I i m₁ news₁ → (∀ p ∈ [(ax, lo)], p ∈ news₁) → (∀ p ∈ news₁, p.1 ≠ I) → Fr h₀ env.locals h₁ m₁ → News h₀ env.locals h₁ ((I, it) :: news₁) →
      wpAny (model prog w) A (assign target env v) (fun _ s₂ => wpAny (model prog w) A (execs body env) (Turn h₀ env.locals I it [(ax, lo)] (J m₀ news I (i + 1)) s Q) E s₂) E { s with heap := h₁, toks := tk₁ })
    (done : ∀ I m' news' h' tk, J m₀ news I vs.length m' news' → (∀ p ∈ news', p.1 ≠ I) → Fr h₀ env.locals h' m' → News h₀ env.locals h' news' → Q .next { s with heap := h', toks := tk }) :
    wpAny (model prog w) A (pyIter (.ref ax)) (fun it s₂ => TurnsAt prog w A h₀ env target body Q E it s₂) E s := by
  have hax := N _ hm
  have hl : s.heap.IsTuple ax vs.toArray := ⟨lo, hax.1, hc, n, hd⟩
  have hlt : ax < s.heap.objs.size := Heap.lt_size hax.1
  have hne : ax ≠ s.heap.objs.size := Nat.ne_of_lt hlt
  have hlts : ∀ p ∈ news, p.1 < s.heap.objs.size := fun p hp => Heap.lt_size (N p hp).1
  refine wpAny_pyIter_tuple hl ?_
  refine turns_core (clsI := "tuple_iterator") (tk0 := s.toks) (src := [(ax, lo)]) (J m₀ news s.heap.objs.size) (KTurns.ofWalks (Walks.tuple hh s.heap.objs.size ax hne vs.toArray) fun i v s Q E st q => letGo_tupleiter st.1 q)
    (fun i h st => ?_) (next_is_new F) (by simp) (fun b hb => ?_) ?_ ?_ (F.push _) (fun p hp => ⟨Heap.get?_push_of_some _ (N p hp).1, (N p hp).2⟩) (fun p hp => by rw [List.mem_singleton.mp hp]; exact hm) (fun p hp => Nat.ne_of_lt (hlts p hp)) (h0 _ hlts)
    (fun i v m₁ news₁ h₁ tk₁ it hi hP hic hJ hs hI F₁ N₁ => turn _ i v m₁ news₁ h₁ tk₁ it hlts (by simpa using hP) hic hJ hs hI F₁ N₁)
    (fun m' news' h' tk hJ hI F' N' => done _ m' news' h' tk (by simpa using hJ) hI F' N')
  · obtain ⟨it, hit, hic, _⟩ := st.1
    exact ⟨it, hic, hit⟩
  · have hb' : b = s.heap.objs.size ∨ b = ax := by simpa using hb
    rcases hb' with e | e
    · exact .inl e
    · exact .inr ⟨lo, by simp [e]⟩
  · intro hI
    rcases List.mem_cons.mp hI with e | hI
    · exact absurd F.ns.lt (e ▸ Nat.lt_irrefl _)
    · exact hax.2.1 (List.mem_singleton.mp hI).symm
  · exact ⟨⟨_, Heap.get?_push_size _ rfl, rfl, rfl⟩, hl.at fun o e => Heap.get?_push_of_some _ e⟩
theorem iter_rangeI {x : Str} {px : Pos} {r : Addr} {b₀ : Int} {t₀ u₀ v₀ : Tok} {k : Nat} {m₀ : Str → Option Value} {news : List (Addr × Obj)}
    (J : (Str → Option Value) → List (Addr × Obj) → Addr → Nat → (Str → Option Value) → List (Addr × Obj) → Prop)
    (hh : A.handled = none) (hr : IsRange s.heap r 0 b₀ 1 t₀ u₀ v₀) (hb : b₀ = (k : Int)) (hk : k ≤ 1000000) (F : Fr h₀ env.locals s.heap m₀) (N : News h₀ env.locals s.heap news)
    (h0 : ∀ I, (∀ p ∈ news, p.1 < I) → J m₀ news I 0 m₀ news)
    (turn : ∀ I i v m₁ news₁ h₁ tk₁ it, (∀ p ∈ news, p.1 < I) → i < k → (∃ t, v = .int (i : Int) t) → it.cls = .type "range_iterator" → J m₀ news I i m₁ news₁ → (∀ p ∈ news₁, p.1 ≠ I) → Fr h₀ env.locals h₁ m₁ → News h₀ env.locals h₁ ((I, it) :: news₁) →
      wpAny (model prog w) A (assign (.Name x px) env v) (fun _ s₂ => wpAny (model prog w) A (execs body env) (Turn h₀ env.locals I it [] (J m₀ news I (i + 1)) s Q) E s₂) E { s with heap := h₁, toks := tk₁ })
    (done : ∀ I m' news' h' tk, J m₀ news I k m' news' → (∀ p ∈ news', p.1 ≠ I) → Fr h₀ env.locals h' m' → News h₀ env.locals h' news' → Q .next { s with heap := h', toks := tk }) :
    wpAny (model prog w) A (pyIter (.ref r)) (fun it s₂ => TurnsAt prog w A h₀ env (.Name x px) body Q E it s₂) E s := by
  subst hb
  have hlts : ∀ p ∈ news, p.1 < s.heap.objs.size := fun p hp => Heap.lt_size (N p hp).1
  have hn : Builtin.Range.rangeSize 0 (k : Int) 1 = (k : Int) := by
    unfold Builtin.Range.rangeSize
    by_cases h0 : k = 0
    · subst h0; rfl
    · rw [if_pos (by decide), if_pos (by omega)]; omega
  have hsmall : Builtin.Range.small 0 (k : Int) 1 = true := small_one (by decide) (by decide) (by omega) (by omega)
  refine wpAny_pyIter_range hr hsmall ?_
  have W0 := (Walks.range (prog := prog) (w := w) hh s.heap.objs.size 0 1 k)
  refine turns_core (clsI := "range_iterator") (tk0 := s.toks) (src := []) (J m₀ news s.heap.objs.size) (KTurns.ofWalks W0 fun i v s Q E st q => wpAny_pure q)
    (fun i h st => ⟨_, rfl, st⟩) (next_is_new F) (by simp) (fun b hb => .inl (List.mem_singleton.mp hb)) ?_ ?_ (F.push _) (fun p hp => ⟨Heap.get?_push_of_some _ (N p hp).1, (N p hp).2⟩) (fun p hp => nomatch hp) (fun p hp => Nat.ne_of_lt (hlts p hp)) (h0 _ hlts)
    (fun i v m₁ news₁ h₁ tk₁ it hi hP hic hJ hs hI F₁ N₁ => turn _ i v m₁ news₁ h₁ tk₁ it hlts hi (by obtain ⟨t, ht⟩ := hP; exact ⟨t, by rw [ht]; simp⟩) hic hJ hI F₁ N₁)
    (fun m' news' h' tk hJ hI F' N' => done _ m' news' h' tk hJ hI F' N')
  · intro hI
    exact absurd F.ns.lt ((List.mem_singleton.mp hI) ▸ Nat.lt_irrefl _)
  · show IsRangeIter _ _ _ _ _
    rw [hn]; simpa using Heap.get?_push_size _ rfl
end
end Mine
end
section
open PySem PySem.W PyProof.Rows PySem.Calls
set_option Elab.async false
set_option maxRecDepth 100000
set_option maxHeartbeats 8000000
set_option linter.unusedVariables false
namespace Mine
section
theorem fresh_C4 : True ∧ True := by
  w_top off
  exact ⟨trivial, trivial⟩
end
noncomputable def joinS (x y : Str) : Str := if Txt.endswith x (Str.ofString "/") = true then x ++ y else x ++ (Str.ofString "/" ++ y)
section
variable {w : World} {p : Program} {loose : List Str} {mean : ExcName → Option Value} {mg mb : Str → Option Value} {dp un : Nat} {gd : Option (List Code)} {cn : Str} {cs : Scope} {a : Addr} {ccd : Value} {cl : List (Str × Addr)} {outer : List Env} {A₀ : Around} {base h₀ : Heap} {L : Addr} {m : Str → Option Value} {news : List (Addr × Obj)} {s : Shared} {Q E : Value → Shared → Prop}
local macro_rules | `(tactic| walk_at "call ref") => `(tactic| (k_here; (with_reducible show wpAny _ _ (call (Value.ref 184) [Value.str _ _]) _ _ _); k_dflt (refine c_fspath (by k_asm) (by k_asm) (by k_asm) (by k_asm) (by k_asm) (by first | exact rfl | assumption) (by ktr_room) (by ktr_units) ?_; k_whole; intro h9 tk9 F9 N9; (try dsimp only); (try k_fold))))
local macro_rules | `(tactic| walk_at "call ref") => `(tactic| (k_here; (with_reducible show wpAny _ _ (call (Value.ref 198) [Value.str _ _]) _ _ _); k_dflt (refine c_getsep (by k_asm) (by k_asm) (by k_asm) (by k_asm) (by k_asm) (by first | exact rfl | assumption) (by ktr_room) (by ktr_units) ?_; k_whole; intro h9 tk9 t9 F9 N9; (try dsimp only); (try k_fold))))
local macro_rules | `(tactic| walk_at "eval Name") => `(tactic| (k_here; k_dflt (refine ld (by k_asm) (by assumption) ?_; k_whole)))
theorem c_join {x y : Str} {t u : Tok} (B : Below A₀ base outer h₀) (F : Fr h₀ L s.heap m) (X : (hd.heap_39 w.params).In h₀) (N : News h₀ L s.heap news) (T : Top p loose mean mg mb h₀) (hk : cs.kind = .function) (hd : dp + 3 < recursionLimit) (hu : un + 24 < cLine) (hx : x.length ≤ 1000) (hy : y.length ≤ 1000) (hx0 : x.length ≠ 0) (hy1 : Txt.startswith y (Str.ofString "/") = false)
   (hret : ∀ h' tk' t', Fr h₀ L h' m → News h₀ L h' news → Q (.str (joinS x y) t') { s with heap := h', toks := tk' }) :
   wpAny (model PySem.Challenge.rw_il0172_01.row.prog w) (ktrTop dp un gd cn cs L a ccd cl outer) (call (.ref 205) [.str x t, .str y u]) Q E s := by
  revert X; k_fill; intro X
  refine wpAny_call ?_
  k_dflt (refine' kp_rest ?k1 ?k2 ?k3 ?k4 ?k5 ?kA ?kF ?kK ?k6 ?k7 ?k8 ?kV ?kP ?kG ?kB ?_ ?c2 ?c3 ?c4 ?c5; (case kA => exact rfl); (case kF => exact rfl); (case kK => first | exact rfl | assumption); (case k1 => k_asm); (case k2 => k_asm); (case k3 => k_asm); (case k4 => k_asm); (case k5 => k_asm); (case k6 => k_is); (case k7 => k_is); (case k8 => ktr_room); (case kV => kl_lit); (case kP => exact rfl); (case kG => exact fun _ => rfl); (case kB => exact fun _ => locs rfl); (case c5 => decide); (case c2 => exact rfl); (case c3 => exact rfl); (case c4 => exact rfl); k_whole; intro D' g' L' h' l1 FG' F' N' B' X' T'; (try k_lt l1); (try dsimp only); (try k_lift B'); (try k_fold))
  refine hideQ ?_
  intro WQ hWQ
  k_steps
  refine hideQP (env := envOf _ _ L' _ _) (by passes_own) ?_
  intro W1 V1 hW1 hV1
  refine For_turns (by assumption) ?_ (by intro _; rfl) (by assumption)
  k_steps
  refine iter_tupI (vs := [Value.str y u]) (n := 0) (fun m₀ nw I i m₁ n₁ => n₁ = nw ∧ (i = 0 → m₁ = m₀) ∧ (i = 1 → ∃ t', m₁ (Str.ofString "path") = some (.str (joinS x y) t'))) rfl (by assumption) (by assumption) (.head _) rfl rfl (fun I _ => ⟨rfl, fun _ => rfl, fun h => by cases h⟩) ?turn ?done
  case turn =>
    intro I i v m₁ n₁ h₁ tk₁ it lI hv hit hJ hs hI F₁ N₁
    refine hideT ?_
    intro W hW
    have hi : i = 0 := by cases i with | zero => rfl | succ i => cases i <;> cases hv
    subst hi
    cases hv
    obtain ⟨rfl, hm, _⟩ := hJ
    have hm := hm rfl
    subst hm
    k_steps
    · refine hW _ _ ?_
      refine TEnd.intro _ (by assumption) (by assumption) hs hI ⟨rfl, fun h => (by cases h), fun _ => ⟨_, show some _ = some _ from congrArg some (congrArg (Value.str · _) ?_)⟩⟩
      unfold joinS; rw [if_pos (by assumption)]
    · refine hW _ _ ?_
      refine TEnd.intro _ (by assumption) (by assumption) hs hI ⟨rfl, fun h => (by cases h), fun _ => ⟨_, show some _ = some _ from congrArg some (congrArg (Value.str · _) ?_)⟩⟩
      unfold joinS; rw [if_neg (by simp_all)]
    · exfalso; omega
  case done =>
    rintro I m' news' h' tk ⟨rfl, _, hp⟩ hI F₁ N₁
    obtain ⟨t', hp⟩ := hp rfl
    k_steps
    refine hW1 _ _ ?_
    (try dsimp only)
    k_steps
    refine hWQ _ _ ?_
    k_steps
    exact hret _ _ _ (by assumption) (cb_drop (by assumption) (fun p hp => .tail _ hp))
end
end Mine
end
section
open PySem PySem.W PyProof.Rows PySem.Calls
set_option Elab.async false
set_option maxRecDepth 100000
set_option maxHeartbeats 8000000
set_option linter.unusedVariables false
namespace Mine
section
variable {M : Model} {prog : Program} {w : World} {A : Around} {E : Value → Shared → Prop} {s : Shared} {K : Frag} {C x : Addr} {ox : Obj} {name : Str} {id : String} {args : List Value}
theorem typeOf_own {Q : Value → Shared → Prop} (hx : s.heap.get? x = some ox) (hc : ox.cls = .ref C) (h : Q (.ref C) s) : wpAny M A (typeOf (.ref x)) Q E s := by
  rw [← hc] at h
  simp only [typeOf]; exact wpAny_bind (wpAny_load hx (wpAny_pure h))
theorem callSpecial_own {Q : Option Value → Shared → Prop} (X : K.In s.heap) (hx : s.heap.get? x = some ox) (hc : ox.cls = .ref C) (hs : findIn K (.ref C) name = some (some (.builtin id)))
    (ht : typeIn K (.builtin id) = some (.type "wrapper_descriptor") ∨ typeIn K (.builtin id) = some (.type "method_descriptor"))
    (h : wpAny M A (call (.builtin id) (.ref x :: args)) (fun v => Q (some v)) E s) : wpAny M A (callSpecial? (.ref x) name args) Q E s := by
  unfold callSpecial? specialOf
  refine wpAny_bind (wpAny_bind (typeOf_own hx hc ((looks_findIn X hs).here ?_)))
  dsimp only
  refine wpAny_holding ?_
  unfold bindSpecial
  have tail : wpAny M A (call (.builtin id) (.ref x :: args) >>= fun v => pure (some v)) Q E s := wpAny_bind (wpAny_mono h (fun v s' h' => wpAny_pure h') fun _ _ e => e)
  rcases ht with ht | ht
  · refine wpAny_bind (wpAny_bind ((looks_typeIn X ht).here ?_))
    rw [if_pos (by decide)]
    exact wpAny_pure tail
  · refine wpAny_bind (wpAny_bind ((looks_typeIn X ht).here ?_))
    rw [if_pos (by decide)]
    exact wpAny_pure tail
theorem code_own {B : Builtin} {owner : String} {n : String} {R : Result → Shared → Prop} (X : K.In s.heap) (hx : s.heap.get? x = some ox) (hc : ox.cls = .ref C) (hsub : subIn K (.ref C) (.type owner) = some true)
    (hk : builtinKind id = some .slot ∨ builtinKind id = some .method) (hsp : splitId id = some (owner, n)) (plain : plainId id = true) (entry : entryFor table id = some B) (hok : argsOk id ⟨.ref x :: args, []⟩)
    (h : wpAny (model prog w) A.in1 (B ⟨.ref x :: args, []⟩) (fun fin s' => match fin with | .done f => R (.ok f) s' | .again c' => c'.quiet = true ∧ codeAny (model prog w) A c' R s') (fun e s' => R (.error e) s') s) :
    codeAny (model prog w) A (.call (.builtin id) ⟨.ref x :: args, []⟩) R s := by
  refine codeAny_call_builtin plain entry ?_
  have hi : Looks (model prog w) s.heap (isInstance (.ref x) (.type owner)) true := by
    refine Looks.andThen (a := .ref C) ?_ (looks_subIn X hsub)
    rw [← hc]
    exact (Looks.ld (part := none) hx).andThen .now
  rcases hk with hk | hk
  · exact check_slot hk hsp hi hok h
  · simp only [checkBuiltinCall, hk, hsp]
    refine wpAny_bind (hi.here ?_)
    simp only [Bool.not_true, Bool.false_eq_true, if_false]
    cases hsig : Manifest.signature? id with
    | none => exact wpAny_pure h
    | some sig =>
      simp only [argsOk, hsig] at hok
      have h2 : Bind.checkArgs id sig ⟨.ref x :: args, []⟩ = pure () := hok
      show wpAny _ A.in1 (Bind.checkArgs id sig ⟨.ref x :: args, []⟩) _ _ s
      rw [h2]; exact wpAny_pure h
end
theorem get?_update_mapSeq {h : Heap} {a : Addr} {c : Value} {d : Option Addr} {xs : Array Value} {n : Nat} {sl : Array (Option Value)} (ho : h.get? a = some ⟨c, d, .seq xs n, sl⟩) (f : Array Value → Array Value) :
    ∃ n', (h.update a (Obj.mapSeq f)).get? a = some ⟨c, d, .seq (f xs) n', sl⟩ :=
  ⟨_, Heap.get?_update_self (Obj.mapSeq f) ho rfl⟩
section
variable {prog : Program} {w : World} {A : Around} {E : Value → Shared → Prop} {s : Shared} {K : Frag} {C p dx sl e : Addr} {vs ns : List Value} {ep en : Nat} {lo : Value} {vl : Value} {lo : Option Int} {od : Option Addr} {osl : Array (Option Value)}
theorem listItems_ok {M : Model} {o : Obj} {a : Addr} {items : Array Value} {n : Nat} {Q : Array Value → Shared → Prop} (ho : s.heap.get? a = some o) (hd : o.data = .seq items n) (h : Q items s) : wpAny M A (Builtin.List.listItems (.ref a)) Q E s := by
  unfold Builtin.List.listItems
  exact wpAny_bind (wpAny_seqItems ho hd (wpAny_pure h))
theorem listAll_ok {M : Model} {o : Obj} {a : Addr} {items : Array Value} {n : Nat} {msg : String} {Q : Array Value → Shared → Prop} (ho : s.heap.get? a = some o) (hc : o.cls = .type "list") (hd : o.data = .seq items n) (h : Q items s) : wpAny M A (Builtin.List.listAllItems (.ref a) msg) Q E s := by
  unfold Builtin.List.listAllItems
  refine wpAny_bind (wpAny_typeOf (T := "list") ⟨_, ho, hc⟩ ?_)
  rw [if_pos (by decide)]
  exact listItems_ok ho hd h
theorem setItemBounds (n i : Nat) (hi : i ≤ n) : sliceBounds (some (i : Int)) none none n = ((i : Int), (n : Int), 1) := by
  unfold sliceBounds
  simp
  omega
theorem setItemBounds0 (n : Nat) : sliceBounds none none none n = (0, (n : Int), 1) := by
  unfold sliceBounds
  simp
theorem pick_drop (vs : List Value) (i : Nat) (hi : i ≤ vs.length) : slicePick vs.toArray (some (i : Int)) none none = (vs.drop i).toArray := by
  rw [kmk_pick_nat (a := i) (b := vs.length)]
  · show ((vs.drop i).take (vs.length - i)).toArray = _
    rw [List.take_of_length_le (by rw [List.length_drop]; exact Nat.le_refl _)]
  · simpa using setItemBounds vs.length i hi
theorem own_getItem_slice {Q : Value → Shared → Prop} (X : K.In s.heap) (hp : s.heap.get? p = some ⟨.ref C, some dx, .seq vs.toArray ep, #[]⟩) (hs : s.heap.IsSliceOf sl vl .none .none) (pl : IsPart vl lo)
   (hq : noSeq K C = true) (hf : findIn K (.ref C) "__getitem__" = some (some (.builtin "list.__getitem__"))) (hsub : subIn K (.ref C) (.type "list") = some true) (ht : typeIn K (.builtin "list.__getitem__") = some (.type "wrapper_descriptor") ∨ typeIn K (.builtin "list.__getitem__") = some (.type "method_descriptor"))
   (hQ : Q (.ref s.heap.objs.size) { s with heap := s.heap.push { cls := .type "list", data := .seq (slicePick vs.toArray lo none none) } }) (hsz : vs.length ≤ sizeLine) :
   wpAny (model prog w) A (getItem (.ref p) (.ref sl)) Q E s := by
  obtain ⟨os, hos, hcs, hds⟩ := id hs
  have hTs : s.TypeIs (.ref sl) "slice" := ⟨os, hos, hcs⟩
  unfold getItem sequenceKey
  refine wpAny_holding (wpAny_bind (wpAny_bind (typeOf_own hp rfl ?_)))
  refine wpAny_bind ((anyM_none X hq).here ?_)
  rw [if_pos (show (!false) = true from rfl)]
  refine wpAny_pure (wpAny_bind (callSpecial_own X hp rfl hf ht (wpAny_call (code_own (n := "__getitem__") X hp rfl hsub (.inr (by decide +kernel)) (by decide +kernel) (by decide +kernel) entry_list_getitem (args_list_getitem _ _) ?_))))
  show wpAny _ _ (Builtin.List.listSubscript? (.ref sl) >>= _) _ _ s
  refine wpAny_bind ?_
  unfold Builtin.List.listSubscript?
  refine wpAny_bind (wpAny_specialOf hTs slice_no_index ?_)
  simp only [Option.isNone_none, if_true]
  refine wpAny_pure ?_
  show wpAny _ _ (typeOf (.ref sl) >>= _) _ _ s
  refine wpAny_bind (wpAny_typeOf hTs ?_)
  rw [if_neg (by decide)]
  rw [listSliceParts_eq]
  refine wpAny_bind (wpAny_bind (wpAny_field hos hds (x := .none) rfl (wpAny_bind (wpAny_listPart .none ?_))))
  rw [if_neg (show ¬ ((rawPart none == rawInt 0) = true) from Bool.false_ne_true)]
  refine wpAny_bind (wpAny_field hos hds (x := vl) rfl (wpAny_bind (wpAny_listPart pl ?_)))
  refine wpAny_bind (wpAny_field hos hds (x := .none) rfl (wpAny_bind (wpAny_listPart .none (wpAny_pure ?_))))
  refine wpAny_bind (m := Builtin.List.listItems (.ref p)) ?_
  unfold Builtin.List.listItems
  refine wpAny_bind (wpAny_seqItems hp rfl (wpAny_pure ?_))
  refine wpAny_bind (wpAny_of_eq (sliceIndices_raw lo none none vs.toArray.size (by simp)) ?_)
  refine wpAny_bind (wpAny_newObj_type (wpAny_pure ?_) (Nat.le_trans (slicePick_size_le vs.toArray lo none none) (by simpa using hsz)))
  exact wpAny_pure hQ
theorem own_subscript_slice {value : Expr} {e1 : Option Expr} {ps : Pos} {nm : Str} {pn : Pos} {Q : Value → Shared → Prop} (hv : value = .Name nm pn) (X : K.In s.heap) (hp : s.heap.get? p = some ⟨.ref C, some dx, .seq vs.toArray ep, #[]⟩) (hs : s.heap.IsSliceOf sl vl .none .none) (pl : IsPart vl lo)
   (hq : noSeq K C = true) (hf : findIn K (.ref C) "__getitem__" = some (some (.builtin "list.__getitem__"))) (hsub : subIn K (.ref C) (.type "list") = some true) (ht : typeIn K (.builtin "list.__getitem__") = some (.type "wrapper_descriptor") ∨ typeIn K (.builtin "list.__getitem__") = some (.type "method_descriptor"))
   (hQ : Q (.ref s.heap.objs.size) { s with heap := s.heap.push { cls := .type "list", data := .seq (slicePick vs.toArray lo none none) } }) (hsz : vs.length ≤ sizeLine) :
   wpAny (model prog w) A (subscriptTail value (.Slice e1 none none ps) (.ref p) (.ref sl)) Q E s := by
  subst hv
  unfold subscriptTail
  refine wpAny_bind ?_
  rw [getitemInPython_of_ne (by intro e; cases e)]
  refine wpAny_bind ?_
  unfold specialOf
  refine wpAny_bind (typeOf_own hp rfl ((looks_findIn X hf).here ?_))
  refine wpAny_pure ?_
  show wpAny _ _ (subscripted _ false _ _ >>= _) _ _ _
  have hs2 : subscripted (.Slice e1 none none ps) false (.ref p) (.ref sl) = operate [.ref sl, .ref p] (getItem (.ref p) (.ref sl)) := rfl
  rw [hs2]
  refine wpAny_bind (wpAny_operating (own_getItem_slice X hp hs pl hq hf hsub ht ?_ hsz))
  exact wpAny_bind (wpAny_pure (wpAny_pure hQ))
theorem own_setItem_slice {Q : Unit → Shared → Prop} {i : Nat} (X : K.In s.heap) (hp : s.heap.get? p = some ⟨.ref C, some dx, .seq vs.toArray ep, #[]⟩) (hs : s.heap.IsSliceOf sl vl .none .none) (pl : IsPart vl lo)
   (he : s.heap.get? e = some ⟨.type "list", od, .seq ns.toArray en, osl⟩) (hpe : p ≠ e)
   (hq : noSeq K C = true) (hf : findIn K (.ref C) "__setitem__" = some (some (.builtin "list.__setitem__"))) (hsub : subIn K (.ref C) (.type "list") = some true) (ht : typeIn K (.builtin "list.__setitem__") = some (.type "wrapper_descriptor") ∨ typeIn K (.builtin "list.__setitem__") = some (.type "method_descriptor"))
   (hb : sliceBounds lo none none vs.length = ((i : Int), (vs.length : Int), 1)) (hi : i ≤ vs.length)
   (hQ : ∀ h' e2, Heap.SameBut p s.heap h' → h'.get? p = some ⟨.ref C, some dx, .seq (vs.take i ++ ns).toArray e2, #[]⟩ → Q () { s with heap := h' }) (hsz : vs.length + ns.length ≤ 1000000) :
   wpAny (model prog w) A (setItem (.ref p) (.ref sl) (.ref e)) Q E s := by
  obtain ⟨os, hos, hcs, hds⟩ := id hs
  have hTs : s.TypeIs (.ref sl) "slice" := ⟨os, hos, hcs⟩
  unfold setItem sequenceKey
  refine wpAny_holding (wpAny_bind (wpAny_bind (typeOf_own hp rfl ?_)))
  refine wpAny_bind ((anyM_none X hq).here ?_)
  rw [if_pos (show (!false) = true from rfl)]
  refine wpAny_pure (wpAny_bind (callSpecial_own X hp rfl hf ht (wpAny_call (code_own (n := "__setitem__") X hp rfl hsub (.inl (by decide +kernel)) (by decide +kernel) (by decide +kernel) entry_list_setitem (args_list_setitem _ _ _) ?_))))
  show wpAny _ _ (Builtin.List.listSubscript? (.ref sl) >>= _) _ _ s
  refine wpAny_bind ?_
  unfold Builtin.List.listSubscript?
  refine wpAny_bind (wpAny_specialOf hTs slice_no_index ?_)
  simp only [Option.isNone_none, if_true]
  refine wpAny_pure ?_
  show wpAny _ _ (typeOf (.ref sl) >>= _) _ _ s
  refine wpAny_bind (wpAny_typeOf hTs ?_)
  rw [if_neg (by decide)]
  rw [listSliceParts_eq]
  refine wpAny_bind (wpAny_bind (wpAny_field hos hds (x := .none) rfl (wpAny_bind (wpAny_listPart .none ?_))))
  rw [if_neg (show ¬ ((rawPart none == rawInt 0) = true) from Bool.false_ne_true)]
  refine wpAny_bind (wpAny_field hos hds (x := vl) rfl (wpAny_bind (wpAny_listPart pl ?_)))
  refine wpAny_bind (wpAny_field hos hds (x := .none) rfl (wpAny_bind (wpAny_listPart .none (wpAny_pure ?_))))
  have hpe' : Builtin.List.listSameRef (.ref p) (.ref e) = false := by
    show (p == e) = false
    exact beq_eq_false_iff_ne.mpr hpe
  dsimp only
  rw [hpe']
  simp only [Bool.false_eq_true, if_false]
  refine wpAny_bind (m := Builtin.List.listAllItems (.ref e) _) (listAll_ok he rfl rfl ?_)
  refine wpAny_bind (m := Builtin.List.listItems (.ref p)) (listItems_ok hp rfl ?_)
  refine wpAny_bind (wpAny_of_eq (sliceIndices_raw lo none none vs.toArray.size (by simp)) ?_)
  rw [show vs.toArray.size = vs.length from List.size_toArray .., hb]
  dsimp only
  rw [if_pos (by decide)]
  refine wpAny_bind (wpAny_rule ?_)
  have hbig : Builtin.List.listTooLong (vs.length + ns.toArray.size) = false := by
    unfold Builtin.List.listTooLong
    rw [sizeLine_eq, List.size_toArray]
    exact decide_eq_false (by omega)
  rw [hbig]
  simp only [Bool.false_eq_true, if_false]
  have hext : ∀ xs : Array Value, xs = vs.toArray → xs.extract 0 (i : Int).toNat ++ ns.toArray ++ xs.extract (max (i : Int) (vs.length : Int)).toNat xs.size = (vs.take i ++ ns).toArray := by
    intro xs hx
    subst hx
    have h1 : (max (i : Int) (vs.length : Int)).toNat = vs.length := by omega
    rw [h1]
    apply Array.ext'
    simp
  refine wpAny_bind (wpAny_updateSeq hp rfl ?_ (by rw [sizeLine_eq, List.size_toArray]; omega) (by rw [hext _ rfl, sizeLine_eq, List.size_toArray, List.length_append, List.length_take]; omega))
  refine wpAny_bind (wpAny_letGo (wpAny_pure ?_))
  refine wpAny_pure ?_
  obtain ⟨n', hn'⟩ := get?_update_mapSeq hp (fun xs => xs.extract 0 (i : Int).toNat ++ ns.toArray ++ xs.extract (max (i : Int) (vs.length : Int)).toNat xs.size)
  rw [hext _ rfl] at hn'
  exact hQ _ _ (Heap.SameBut.update ..) hn'
end
end Mine
end
section
open PySem PySem.W PyProof.Rows PySem.Calls
set_option Elab.async false
set_option maxRecDepth 100000
set_option maxHeartbeats 8000000
set_option linter.unusedVariables false
namespace Mine
section
variable {prog : Program} {w : World} {A : Around} {E : Value → Shared → Prop} {s : Shared} {K : Frag} {C p dx sl e L : Addr} {vs ns : List Value} {ep en : Nat} {lo : Value} {vl : Value} {lo : Option Int} {h₀ : Heap} {m : Str → Option Value} {news news' : List (Addr × Obj)} {od : Option Addr} {osl : Array (Option Value)}
noncomputable abbrev sliceO (vl : Value) : Obj := { cls := .type "slice", data := .fields #[vl, .none, .none] }
theorem W_getslice {nm : Str} {pn : Pos} {e1 : Option Expr} {ps : Pos} {Q : Value → Shared → Prop} (F : Fr h₀ L s.heap m) (N : News h₀ L s.heap news) (X₀ : K.In h₀) (hm : (p, (⟨.ref C, some dx, .seq vs.toArray ep, #[]⟩ : Obj)) ∈ news) (pl : IsPart vl lo)
   (hq : noSeq K C = true) (hf : findIn K (.ref C) "__getitem__" = some (some (.builtin "list.__getitem__"))) (hsub : subIn K (.ref C) (.type "list") = some true) (ht : typeIn K (.builtin "list.__getitem__") = some (.type "method_descriptor"))
   (h : ∀ D h', Fr h₀ L h' m → News h₀ L h' ((D, listOf (slicePick vs.toArray lo none none) 0) :: news) → (∀ p ∈ news, p.1 < D) → Q (.ref D) { s with heap := h' }) (hsz : vs.length ≤ sizeLine) :
   wpAny (model prog w) A (subscriptTail (.Name nm pn) (.Slice e1 none none ps) (.ref p) (.ref s.heap.objs.size)) Q E { s with heap := s.heap.push (sliceO vl) } := by
  have F1 := F.push (sliceO vl)
  have N1 : News h₀ L (s.heap.push (sliceO vl)) news := N.grown fun _ _ e => Heap.get?_push_of_some _ e
  refine own_subscript_slice (s := { s with heap := s.heap.push (sliceO vl) }) rfl (X₀.keeps F1.keep) (N1 _ hm).1 (Heap.IsSliceOf.new ..) pl hq hf hsub (.inr ht) ?_ hsz
  exact h _ _ (F1.push _) (N1.push F1 _) (fun p hp => Heap.lt_size (N1 p hp).1)
theorem news_put {h h' : Heap} {o o' : Obj} {pre post : List (Addr × Obj)} (F : Fr h₀ L h m) (N : News h₀ L h (pre ++ (p, o) :: post)) (hs : Heap.SameBut p h h') (hn : h'.get? p = some o') (h1 : ∀ q ∈ pre, q.1 ≠ p) (h2 : ∀ q ∈ post, q.1 ≠ p) :
    Fr h₀ L h' m ∧ News h₀ L h' (pre ++ (p, o') :: post) := by
  have D := N (p, o) (by simp)
  refine ⟨kas_fr F hs D.2.1 D.2.2, fun q hq => ?_⟩
  rcases List.mem_append.mp hq with hq | hq
  · have P := N q (List.mem_append_left _ hq)
    exact ⟨(hs.2 _ (h1 q hq)).trans P.1, P.2⟩
  · rcases List.mem_cons.mp hq with rfl | hq
    · exact ⟨hn, D.2⟩
    · have P := N q (List.mem_append_right _ (.tail _ hq))
      exact ⟨(hs.2 _ (h2 q hq)).trans P.1, P.2⟩
theorem W_setslice {Q : Unit → Shared → Prop} {i : Nat} {pre post : List (Addr × Obj)} (F : Fr h₀ L s.heap m) (N : News h₀ L s.heap (pre ++ (p, (⟨.ref C, some dx, .seq vs.toArray ep, #[]⟩ : Obj)) :: post)) (X₀ : K.In h₀)
   (he : (e, (⟨.type "list", od, .seq ns.toArray en, osl⟩ : Obj)) ∈ pre ++ (p, (⟨.ref C, some dx, .seq vs.toArray ep, #[]⟩ : Obj)) :: post) (h1 : ∀ q ∈ pre, q.1 ≠ p) (h2 : ∀ q ∈ post, q.1 ≠ p) (pl : IsPart vl lo)
   (hq : noSeq K C = true) (hf : findIn K (.ref C) "__setitem__" = some (some (.builtin "list.__setitem__"))) (hsub : subIn K (.ref C) (.type "list") = some true) (ht : typeIn K (.builtin "list.__setitem__") = some (.type "wrapper_descriptor"))
   (hb : sliceBounds lo none none vs.length = ((i : Int), (vs.length : Int), 1)) (hi : i ≤ vs.length)
   (h : ∀ h' e2, Fr h₀ L h' m → News h₀ L h' (pre ++ (p, (⟨.ref C, some dx, .seq (vs.take i ++ ns).toArray e2, #[]⟩ : Obj)) :: post) → Q () { s with heap := h' }) (hsz : vs.length + ns.length ≤ 1000000) :
   wpAny (model prog w) A (setItem (.ref p) (.ref s.heap.objs.size) (.ref e)) Q E { s with heap := s.heap.push (sliceO vl) } := by
  have F1 := F.push (sliceO vl)
  have N1 : News h₀ L (s.heap.push (sliceO vl)) (pre ++ (p, (⟨.ref C, some dx, .seq vs.toArray ep, #[]⟩ : Obj)) :: post) := N.grown fun _ _ e => Heap.get?_push_of_some _ e
  have hpm : (p, (⟨.ref C, some dx, .seq vs.toArray ep, #[]⟩ : Obj)) ∈ pre ++ (p, (⟨.ref C, some dx, .seq vs.toArray ep, #[]⟩ : Obj)) :: post := by simp
  have hpe : p ≠ e := by
    intro q
    subst q
    have a := (N _ he).1
    rw [(N _ hpm).1] at a
    cases a
  refine own_setItem_slice (s := { s with heap := s.heap.push (sliceO vl) }) (X₀.keeps F1.keep) (N1 _ hpm).1 (Heap.IsSliceOf.new ..) pl (N1 _ he).1 hpe hq hf hsub (.inl ht) hb hi (fun h' e2 hs hn => ?_) hsz
  obtain ⟨F2, N2⟩ := news_put F1 N1 hs hn h1 h2
  exact h h' e2 F2 N2
end
end Mine
end
section
open PySem PySem.W PyProof.Rows PySem.Calls
set_option Elab.async false
set_option maxRecDepth 100000
set_option maxHeartbeats 8000000
set_option linter.unusedVariables false
namespace Mine
section
theorem fresh_A2 : True ∧ True := by
  w_top off
  exact ⟨trivial, trivial⟩
end
noncomputable abbrev pileO (vs : List Value) (ep : Nat) (dx : Addr) : Obj := { cls := .ref 100, dict := some dx, data := .seq vs.toArray ep }
section
variable {w : World} {p : Program} {loose : List Str} {mean : ExcName → Option Value} {mg mb : Str → Option Value} {dp un : Nat} {gd : Option (List Code)} {cn : Str} {cs : Scope} {a : Addr} {ccd : Value} {cl : List (Str × Addr)} {outer : List Env} {A₀ : Around} {base h₀ : Heap} {L : Addr} {m : Str → Option Value} {news : List (Addr × Obj)} {s : Shared} {Q E : Value → Shared → Prop}
local macro_rules | `(tactic| walk_at "subscriptTail") => `(tactic| (k_here; (with_reducible show wpAny _ _ (subscriptTail _ (Expr.Slice _ _ _ _) _ _) _ _ _); refine Hold.out ?_))
theorem c_popfrom {p0 dx : Addr} {ep : Nat} {vs : List Value} {od : Obj} {i : Nat} {t : Tok} (B : Below A₀ base outer h₀) (F : Fr h₀ L s.heap m) (X : (hd.heap_39 w.params).In h₀) (N : News h₀ L s.heap ((p0, pileO vs ep dx) :: (dx, od) :: news)) (T : Top p loose mean mg mb h₀) (hk : cs.kind = .function) (hd : dp + 2 < recursionLimit) (hu : un + 16 < cLine) (hi : i ≤ vs.length) (hv : vs.length ≤ 1000) (hn : ∀ q ∈ (dx, od) :: news, q.1 ≠ p0)
   (hret : ∀ h' tk' q e1 e2, Fr h₀ L h' m → News h₀ L h' ((q, listOf (vs.drop i).toArray e1) :: (p0, pileO (vs.take i) e2 dx) :: (dx, od) :: news) → (∀ p ∈ (p0, pileO vs ep dx) :: (dx, od) :: news, p.1 < q) → Q (.ref q) { s with heap := h', toks := tk' }) :
   wpAny (model PySem.Challenge.rw_il0172_01.row.prog w) (ktrTop dp un gd cn cs L a ccd cl outer) (call (.ref 53) [.ref p0, .int i t]) Q E s := by
  revert X; k_fill; intro X
  refine wpAny_call ?_
  k_dflt (refine' code_def ?k1 ?k2 ?k3 ?k4 ?k5 ?kA ?kF ?kK ?k6 ?k7 ?k8 ?k9 ?kB ?_ ?c2 ?c3 ?c4 ?c5; (case kA => exact rfl); (case kF => exact rfl); (case kK => first | exact rfl | assumption); (case k1 => k_asm); (case k2 => k_asm); (case k3 => k_asm); (case k4 => k_asm); (case k5 => k_asm); (case k6 => k_is); (case k7 => k_is); (case k8 => ktr_room); (case k9 => first | exact BindsTo.of_eq rfl | exact binds_K (by k_in) rfl (by k_is) rfl rfl rfl); (case c5 => decide); (case kB => exact locs rfl); (case c2 => exact rfl); (case c3 => exact rfl); (case c4 => exact rfl); k_whole; intro g' L' h' FG' F' N' B' X' T'; (try dsimp only); (try k_lift B'); (try k_fold))
  k_steps
  refine Hold.in ?_
  refine W_getslice (C := 100) (vs := vs) (ep := ep) (dx := dx) (by assumption) (by assumption) (by assumption) (.head _) (.int _ _) (by k_is) (by k_is) (by k_is) (by k_is) (fun D h1 F1 N1 l1 => ?_) (by rw [sizeLine_eq]; omega)
  rw [pick_drop vs i hi] at N1
  k_steps
  rename_i l2
  obtain ⟨l2a, l2b, l2c⟩ := l2
  have l1p := l1 _ (.head _)
  refine W_setslice (C := 100) (p := p0) (dx := dx) (vs := vs) (ns := []) (pre := [_, _]) (post := (dx, od) :: news) (i := i) (by assumption) (by assumption) (by assumption) (.head _) (fun q hq => ?_) hn (.int _ _) (by k_is) (by k_is) (by k_is) (by k_is) (setItemBounds _ _ hi) hi (fun h1 e2 F1 N1 => ?_) (by simp; omega)
  · rcases List.mem_cons.mp hq with rfl | hq
    · exact Nat.ne_of_gt l2b
    · rw [List.mem_singleton.mp hq]; exact Nat.ne_of_gt l1p
  rw [List.append_nil] at N1
  k_steps
  refine hret _ _ D 0 e2 (by assumption) (cb_drop (by assumption) (fun p hp => ?_)) l1
  exact List.Mem.tail _ hp
end
end Mine
end
section
open PySem PySem.W PyProof.Rows PySem.Calls
set_option Elab.async false
set_option maxRecDepth 100000
set_option maxHeartbeats 8000000
set_option linter.unusedVariables false
namespace Mine
noncomputable abbrev sizeD (h : Int) (tk : Tok) (v : Value) (n : Nat) : Obj := dictOf [⟨h, .str "_initial_size" tk, v⟩] n
noncomputable abbrev ownObj (C : Addr) (vs : List Value) (ep : Nat) (dx : Addr) : Obj := { cls := .ref C, dict := some dx, data := .seq vs.toArray ep }
theorem own_inst {h : Heap} {x dx C : Addr} {vs : List Value} {ep : Nat} {od : Obj} (hx : h.get? x = some (ownObj C vs ep dx)) (hd : h.get? dx = some od) : InstAt h x (ownObj C vs ep dx) C (some od) :=
  ⟨hx, rfl, rfl, hd⟩
section
variable {prog : Program} {w : World} {A : Around} {E : Value → Shared → Prop} {s : Shared} {K : Frag} {C p x dx sl e L : Addr} {vs ns : List Value} {ep en : Nat} {h₀ : Heap} {m : Str → Option Value} {news news' : List (Addr × Obj)} {ox : Obj} {od : Option Obj} {name : Str}
theorem own_method {pl : Sem Bool} {Q : Value × List Value → Shared → Prop} {f t : Value} (X : K.In s.heap) (I : InstAt s.heap x ox C od) (hga : findIn K (.ref C) "__getattribute__" = some (some (.builtin "list.__getattribute__"))) (hk : findIn K (.ref C) "__getattr__" = some none)
    (hf : findIn K (.ref C) name = some (some f)) (ht : typeIn K f = some t) (hft : (t != .type "function" && t != .type "method_descriptor" && t != .type "wrapper_descriptor") = false) (hs : shadowIn od name = some false) (h : Q (f, [.ref x]) s) :
    wpAny (model prog w) A (getMethod (.ref x) name pl) Q E s := by
  unfold getMethod specialOf
  refine wpAny_bind (wpAny_bind (I.type.here ((looks_findIn X hga).here ?_)))
  dsimp only
  rw [canon_list_getattribute, if_neg (by decide)]
  refine wpAny_bind (wpAny_bind (I.type.here ((looks_findIn X hk).here ?_)))
  refine wpAny_bind (wpAny_bind (I.type.here ((looks_findIn X hf).here (wpAny_bind ((looks_typeIn X ht).here ?_)))))
  rw [hft, if_neg (by decide)]
  refine wpAny_bind (wpAny_loadPart I.at_ ?_)
  have hd := I.dict
  cases e : ox.dict with
  | none => exact wpAny_bind (wpAny_rule (wpAny_pure h))
  | some dx =>
    cases od with
    | none => rw [e] at hd; exact hd.elim
    | some o =>
      rw [e] at hd
      obtain ⟨r, a, b⟩ := Option.map_eq_some_iff.mp hs
      refine wpAny_bind (wpAny_bind (wpAny_loadPart hd ?_))
      rw [nsLook_of a]
      refine wpAny_pure ?_
      rw [b]
      exact wpAny_bind (wpAny_rule (wpAny_pure h))
theorem W_method {pl : Sem Bool} {Q : Value × List Value → Shared → Prop} {f t : Value} {od : Obj} (F : Fr h₀ L s.heap m) (X₀ : K.In h₀) (N : News h₀ L s.heap news) (hp : (p, ownObj C vs ep dx) ∈ news) (hd : (dx, od) ∈ news)
    (hga : findIn K (.ref C) "__getattribute__" = some (some (.builtin "list.__getattribute__"))) (hk : findIn K (.ref C) "__getattr__" = some none)
    (hf : findIn K (.ref C) name = some (some f)) (ht : typeIn K f = some t) (hft : (t != .type "function" && t != .type "method_descriptor" && t != .type "wrapper_descriptor") = false) (hs : lookIn name od = some none) (h : Q (f, [.ref p]) s) :
    wpAny (model prog w) A (getMethod (.ref p) name pl) Q E s :=
  own_method (X₀.keeps F.keep) (own_inst (N _ hp).1 (N _ hd).1) hga hk hf ht hft (by show (lookIn name od).map _ = _; rw [hs]; rfl) h
theorem own_append {v : Value} {Q : Value → Shared → Prop} (X : K.In s.heap) (hp : s.heap.get? p = some (ownObj C vs ep dx)) (hsub : subIn K (.ref C) (.type "list") = some true)
    (h : ∀ h' e2, Heap.SameBut p s.heap h' → h'.get? p = some (ownObj C (vs ++ [v]) e2 dx) → Q .none { s with heap := h' }) (hsz : vs.length ≤ 1000) :
    wpAny (model prog w) A (call (.builtin "list.append") [.ref p, v]) Q E s := by
  refine wpAny_call (code_own (owner := "list") (n := "append") X hp rfl hsub (.inr (by decide +kernel)) (by decide +kernel) (by decide +kernel) entry_list_append (args_list_append _ _) ?_)
  show wpAny _ _ (updateSeq p (·.push v) >>= fun _ => ret .none) _ _ s
  refine wpAny_bind ?_
  refine wpAny_updateSeq hp rfl ?_ (by rw [sizeLine_eq, List.size_toArray]; omega) (by rw [sizeLine_eq, Array.size_push, List.size_toArray]; omega)
  refine wpAny_pure ?_
  obtain ⟨n', hn'⟩ := get?_update_mapSeq hp (fun xs => xs.push v)
  rw [List.push_toArray] at hn'
  exact h _ _ (Heap.SameBut.update ..) hn'
theorem W_append {v : Value} {pre post : List (Addr × Obj)} {Q : Value → Shared → Prop} (F : Fr h₀ L s.heap m) (X₀ : K.In h₀) (N : News h₀ L s.heap (pre ++ (p, ownObj C vs ep dx) :: post)) (h1 : ∀ q ∈ pre, q.1 ≠ p) (h2 : ∀ q ∈ post, q.1 ≠ p) (hsub : subIn K (.ref C) (.type "list") = some true)
    (h : ∀ h' e2, Fr h₀ L h' m → News h₀ L h' (pre ++ (p, ownObj C (vs ++ [v]) e2 dx) :: post) → Q .none { s with heap := h' }) (hsz : vs.length ≤ 1000) :
    wpAny (model prog w) A (call (.builtin "list.append") [.ref p, v]) Q E s := by
  refine own_append (X₀.keeps F.keep) (N (p, ownObj C vs ep dx) (by simp)).1 hsub (fun h' e2 hs hn => ?_) hsz
  obtain ⟨F2, N2⟩ := news_put F N hs hn h1 h2
  exact h h' e2 F2 N2
theorem refuse_own (self : Value) (C : Addr) : refuseLoop self "__setattr__" [.ref C, .type "list", .type "object"] = pure () := by
  rw [refuseLoop_ref]; kernel_rfl
theorem own_osa {R : Result → Shared → Prop} {tk : Tok} {v : Value} (X : K.In s.heap) (I : InstAt s.heap x ox C od) (hp : (clsIn K C).map (·.mro) = some [.ref C, .type "list", .type "object"]) (ht : takerIn K C name = some none)
    (h : ∀ b, wpAny (model prog w) A.in1 (Builtin.ObjectAttr.storeInOwnDict (.ref x) (.ref C) (.str name tk) name v b)
      (fun fin s' => match fin with | .done f => R (.ok f) s' | .again c' => c'.quiet = true ∧ codeAny (model prog w) A c' R s') (fun e s' => R (.error e) s') s) :
    codeAny (model prog w) A (.call (.builtin "object.__setattr__") ⟨[.ref x, .str name tk, v], []⟩) R s := by
  have SF := PySem.F.store_object
  obtain ⟨cd, hc, ho⟩ := Option.map_eq_some_iff.mp hp
  have ne : cd.mro.isEmpty = false := by rw [ho]; rfl
  have sub : Looks (model prog w) s.heap (isInstance (.ref x) (.type "object")) true := I.type.andThen (looks_mroIn X (by unfold mroIn; rw [hc, Option.bind_some, if_neg (by rw [ne]; decide), ho]; simp))
  refine codeAny_call_builtin SF.slot.plain SF.entry (@check_slot (model prog w) _ _ s "object.__setattr__" "object" "__setattr__" (.ref x) [.str name tk, v] [] _ SF.kind SF.split sub (SF.args (.ref x) (.str name tk) v) ?_)
  obtain ⟨attr, ha, hr⟩ := Option.bind_eq_some_iff.mp ht
  have hm : Looks (model prog w) s.heap (mroOf (.ref C)) cd.mro := (looks_clsIn X hc).andThen .now
  have L3 : Looks (model prog w) s.heap (Builtin.ObjectAttr.storeTaker? attr) none := by
    cases attr with
    | none => cases hr; exact .now
    | some a =>
      obtain ⟨b, hb, hr⟩ := Option.map_eq_some_iff.mp hr
      refine (looks_takesIn X hb).andThen ?_
      cases b <;> first | exact .now | cases hr
  rw [osa_eq, refuse_eq]
  refine wpAny_bind (wpAny_bind (I.type.here (wpAny_bind (hm.here ?_))))
  rw [ho, refuse_own]
  refine wpAny_pure (wpAny_bind (I.type.here (wpAny_bind ((looks_findIn X ha).here (wpAny_bind (L3.here ?_))))))
  exact h _
theorem own_osa_dict {R : Result → Shared → Prop} {ox od od' : Obj} {name : Str} {tk : Tok} {v : Value} {pre post : List (Addr × Obj)} {es : List DictEntry} {n : Nat} (F : Fr h₀ L s.heap m) (N : News h₀ L s.heap (pre ++ (dx, od) :: post)) (X : K.In s.heap)
    (I : InstAt s.heap x ox C (some od)) (hd : ox.dict = some dx) (hp : (clsIn K C).map (·.mro) = some [.ref C, .type "list", .type "object"]) (ht : takerIn K C name = some none) (hh : (clsIn K C).any (·.hasDict) = true)
    (hl : (lookIn name od).isSome = true) (h1 : ∀ p ∈ pre, p.1 ≠ dx) (h2 : ∀ p ∈ post, p.1 ≠ dx)
    (e : Obj.putName name (PyData.keyHash w.params name) (.str name s.toks) v od = od') (e' : od'.data = .dict es.toArray n) (hz : es.length ≤ 1000)
    (h : ∀ h', Fr h₀ L h' m → News h₀ L h' (pre ++ (dx, od') :: post) → R (.ok (.ret .none)) { s with heap := h', toks := s.toks + 1 }) :
    codeAny (model prog w) A (.call (.builtin "object.__setattr__") ⟨[.ref x, .str name tk, v], []⟩) R s := by
  refine own_osa X I hp ht fun b => ?_
  obtain ⟨cd, hc, hd'⟩ := any_some hh
  obtain ⟨U1, U2⟩ := news_upd (f := Obj.putName name (PyData.keyHash w.params name) (.str name s.toks) v) F N h1 h2 e (by obtain ⟨_, _, dd, _⟩ := od'; cases e'; rfl)
  have D := (N (dx, od) (by simp)).1
  have D' := (U2 (dx, od') (by simp)).1
  obtain ⟨hx, hcl, hn, -⟩ := I
  obtain ⟨oc, odi, oda, osl⟩ := ox
  dsimp only at hcl hd
  subst hcl hd
  refine wpAny_bind (wpAny_pure (wpAny_bind (wpAny_bind (wpAny_loadPart hx (wpAny_bind ((looks_clsIn X hc).here ?_))))))
  rw [hd']
  refine wpAny_pure (a := some dx) (wpAny_bind (wpAny_pure (wpAny_bind ?_)))
  unfold nsSet
  refine wpAny_bind (wpAny_bind (wpAny_askSetting (wpAny_pure (wpAny_bind (wpAny_mkText (wpAny_bind (wpAny_loadPart D ?_)))))))
  unfold lookIn at hl
  split at hl
  · rename_i es₀ n₀ q
    rw [q]
    dsimp only
    have c : (!es₀.any (·.key.isStr name) && es₀.any (·.refKey)) = false := by
      rw [← Array.any_toList, ← Array.any_toList]
      split at hl
      · rename_i en he
        rw [List.any_eq_true.mpr ⟨en, List.mem_of_find?_eq_some he, List.find?_some he⟩]; rfl
      · split at hl
        · cases hl
        · rename_i z; rw [Bool.not_eq_true] at z; rw [z, Bool.and_false]
    rw [aRefKeyMayBeTheName_at, c]
    refine wpAny_updatePart D ?_
    refine wpAny_bind (wpAny_lookBehind D' (by rw [e']; exact pastItsLine_dict (by rw [List.size_toArray, sizeLine_eq]; omega)) ?_)
    exact wpAny_pure (h _ U1 U2)
  · cases hl
theorem W_setattr {Q : Unit → Shared → Prop} {v : Value} {o od' : Obj} {pre post : List (Addr × Obj)} {es : List DictEntry} {n : Nat} (F : Fr h₀ L s.heap m) (N : News h₀ L s.heap (pre ++ (dx, o) :: post)) (X₀ : K.In h₀)
    (hx : (p, ownObj C vs ep dx) ∈ pre ++ (dx, o) :: post) (hp : (clsIn K C).map (·.mro) = some [.ref C, .type "list", .type "object"]) (hs : findIn K (.ref C) "__setattr__" = some (some (.builtin "object.__setattr__"))) (ht : takerIn K C name = some none) (hh : hasDictIn K C = true)
    (hl : (lookIn name o).isSome = true) (h1 : ∀ p ∈ pre, p.1 ≠ dx) (h2 : ∀ p ∈ post, p.1 ≠ dx)
    (e : Obj.putName name (PyData.keyHash w.params name) (.str name (s.toks + 1)) v o = od') (e' : od'.data = .dict es.toArray n) (hz : es.length ≤ 1000)
    (h : ∀ h', Fr h₀ L h' m → News h₀ L h' (pre ++ (dx, od') :: post) → Q () { s with heap := h', toks := s.toks + 2 }) :
    wpAny (model prog w) A (setAttr (.ref p) name v) Q E s := by
  have D := (N (dx, o) (by simp)).1
  have I := own_inst (N _ hx).1 D
  have X := X₀.keeps F.keep
  refine set_plain X I hs ?_
  exact own_osa_dict (s := { s with toks := s.toks + 1 }) F N X I rfl hp ht hh hl h1 h2 e e' hz h
end
end Mine
end
section
open PySem PySem.W PyProof.Rows PySem.Calls
set_option Elab.async false
set_option maxRecDepth 100000
set_option maxHeartbeats 8000000
set_option linter.unusedVariables false
namespace Mine
section
theorem fresh_A6 : True ∧ True := by
  w_top off
  exact ⟨trivial, trivial⟩
end
noncomputable abbrev tupO (xs : Array Value) : Obj := { cls := .type "tuple", data := .seq xs }
theorem allLt_to {d : Addr} : ∀ {l : List (Addr × Obj)}, AllLt d l → ∀ p ∈ l, p.1 < d
  | [], _, p, hp => by cases hp
  | q :: r, h, p, hp => by
    rcases List.mem_cons.mp hp with rfl | hp
    · exact h.1
    · exact allLt_to h.2 p hp
theorem lt2_to {d a b : Addr} {oa ob : Obj} {l : List (Addr × Obj)} (h : a < d ∧ b < d ∧ AllLt d l) : ∀ p ∈ (a, oa) :: (b, ob) :: l, p.1 < d := allLt_to (l := (a, oa) :: (b, ob) :: l) h
local macro_rules | `(tactic| walk_at "getMethod ref") => `(tactic| (k_here; k_dflt (refine W_method (C := 100) (vs := _) (ep := _) (dx := _) (by k_asm) (by k_asm) (by k_asm) (by k_mem) (by k_mem) (by k_is) (by k_is) (by k_is) (by k_is) (by first | rfl | decide) (by rfl) ?_; k_whole)))
local macro_rules | `(tactic| walk_at "call builtin:list.append") => `(tactic| (k_here; (with_reducible show wpAny _ _ (call (Value.builtin _) [Value.ref _, _]) _ _ _); k_dflt (refine' W_append (C := 100) (vs := ?vs) (ep := ?ep) (dx := ?dx) (pre := [_]) (post := _ :: _) ?k1 ?k2 ?k3 ?k4 ?k5 ?k6 ?_ ?kz; (case k1 => k_asm); (case k2 => k_asm); (case k3 => k_asm); (case k6 => k_is); (case kz => assumption); rotate_right; k_whole)))
section
variable {w : World} {p : Program} {loose : List Str} {mean : ExcName → Option Value} {mg mb : Str → Option Value} {dp un : Nat} {gd : Option (List Code)} {cn : Str} {cs : Scope} {a : Addr} {ccd : Value} {cl : List (Str × Addr)} {outer : List Env} {A₀ : Around} {base h₀ : Heap} {L : Addr} {m : Str → Option Value} {news : List (Addr × Obj)} {s : Shared} {Q E : Value → Shared → Prop}
theorem c_push {p0 dx : Addr} {ep : Nat} {vs : List Value} {hh : Int} {tt : Tok} {vv : Value} {nn : Nat} {x y : Value} (B : Below A₀ base outer h₀) (F : Fr h₀ L s.heap m) (X : (hd.heap_39 w.params).In h₀) (N : News h₀ L s.heap ((p0, pileO vs ep dx) :: (dx, sizeD hh tt vv nn) :: news)) (T : Top p loose mean mg mb h₀) (hk : cs.kind = .function) (hd : dp + 2 < recursionLimit) (hu : un + 16 < cLine) (hv : vs.length ≤ 1000) (hn : ∀ q ∈ (dx, sizeD hh tt vv nn) :: news, q.1 ≠ p0)
   (hret : ∀ h' tk' q e2, Fr h₀ L h' m → News h₀ L h' ((q, tupO #[x, y]) :: (p0, pileO (vs ++ [.ref q]) e2 dx) :: (dx, sizeD hh tt vv nn) :: news) → (∀ p ∈ (p0, pileO vs ep dx) :: (dx, sizeD hh tt vv nn) :: news, p.1 < q) → Q .none { s with heap := h', toks := tk' }) :
   wpAny (model PySem.Challenge.rw_il0172_01.row.prog w) (ktrTop dp un gd cn cs L a ccd cl outer) (call (.ref 45) [.ref p0, x, y]) Q E s := by
  revert X; k_fill; intro X
  refine wpAny_call ?_
  k_dflt (refine' code_def ?k1 ?k2 ?k3 ?k4 ?k5 ?kA ?kF ?kK ?k6 ?k7 ?k8 ?k9 ?kB ?_ ?c2 ?c3 ?c4 ?c5; (case kA => exact rfl); (case kF => exact rfl); (case kK => first | exact rfl | assumption); (case k1 => k_asm); (case k2 => k_asm); (case k3 => k_asm); (case k4 => k_asm); (case k5 => k_asm); (case k6 => k_is); (case k7 => k_is); (case k8 => ktr_room); (case k9 => first | exact BindsTo.of_eq rfl | exact binds_K (by k_in) rfl (by k_is) rfl rfl rfl); (case c5 => decide); (case kB => exact locs rfl); (case c2 => exact rfl); (case c3 => exact rfl); (case c4 => exact rfl); k_whole; intro g' L' h' FG' F' N' B' X' T'; (try dsimp only); (try k_lift B'); (try k_fold))
  k_steps
  · refine hret _ _ _ _ (by assumption) (cb_drop (by assumption) (fun p hp => hp)) (lt2_to (by assumption))
  · rename_i l1 q hq
    obtain ⟨l1a, l1b, l1c⟩ := l1
    rw [List.mem_singleton.mp hq]; exact Nat.ne_of_gt l1a
  · rename_i q hq
    exact hn _ hq
theorem c_reset {p0 dx e : Addr} {ep ee : Nat} {vs ns : List Value} {hh : Int} {tt : Tok} {vv : Value} {nn : Nat} (B : Below A₀ base outer h₀) (F : Fr h₀ L s.heap m) (X : (hd.heap_39 w.params).In h₀) (N : News h₀ L s.heap ((e, listOf ns.toArray ee) :: (p0, pileO vs ep dx) :: (dx, sizeD hh tt vv nn) :: news)) (T : Top p loose mean mg mb h₀) (hk : cs.kind = .function) (hd : dp + 2 < recursionLimit) (hu : un + 16 < cLine) (hv : vs.length ≤ 1000) (hw : ns.length ≤ 1000) (hn : ∀ q ∈ (dx, sizeD hh tt vv nn) :: news, q.1 ≠ p0) (hn2 : ∀ q ∈ news, q.1 ≠ dx) (he : e ≠ p0) (he2 : e ≠ dx)
   (hret : ∀ h' tk' e2 t, Fr h₀ L h' m → News h₀ L h' ((e, listOf ns.toArray ee) :: (p0, pileO ns e2 dx) :: (dx, sizeD hh tt (.int 0 t) nn) :: news) → Q .none { s with heap := h', toks := tk' }) :
   wpAny (model PySem.Challenge.rw_il0172_01.row.prog w) (ktrTop dp un gd cn cs L a ccd cl outer) (call (.ref 82) [.ref p0, .ref e]) Q E s := by
  revert X; k_fill; intro X
  refine wpAny_call ?_
  k_dflt (refine' code_def ?k1 ?k2 ?k3 ?k4 ?k5 ?kA ?kF ?kK ?k6 ?k7 ?k8 ?k9 ?kB ?_ ?c2 ?c3 ?c4 ?c5; (case kA => exact rfl); (case kF => exact rfl); (case kK => first | exact rfl | assumption); (case k1 => k_asm); (case k2 => k_asm); (case k3 => k_asm); (case k4 => k_asm); (case k5 => k_asm); (case k6 => k_is); (case k7 => k_is); (case k8 => ktr_room); (case k9 => first | exact BindsTo.of_eq rfl | exact binds_K (by k_in) rfl (by k_is) rfl rfl rfl); (case c5 => decide); (case kB => exact locs rfl); (case c2 => exact rfl); (case c3 => exact rfl); (case c4 => exact rfl); k_whole; intro g' L' h' FG' F' N' B' X' T'; (try dsimp only); (try k_lift B'); (try k_fold))
  k_steps
  refine W_setslice (C := 100) (p := p0) (dx := dx) (vs := vs) (ns := ns) (pre := [_]) (post := (dx, sizeD hh tt vv nn) :: news) (i := 0) (by assumption) (by assumption) (by assumption) (.head _) (fun q hq => ?_) hn .none (by k_is) (by k_is) (by k_is) (by k_is) (setItemBounds0 _) (Nat.zero_le _) (fun h1 e2 F1 N1 => ?_) (by omega)
  · rw [List.mem_singleton.mp hq]; exact he
  replace N1 : News g' L' h1 ((e, listOf ns.toArray ee) :: (p0, pileO ns e2 dx) :: (dx, sizeD hh tt vv nn) :: news) := N1
  k_steps
  refine W_setattr (C := 100) (p := p0) (dx := dx) (vs := ns) (ep := e2) (od' := sizeD hh tt (.int 0 _) nn) (pre := [_, _]) (post := news) (by assumption) N1 (by assumption) (.tail _ (.head _)) (by kernel_rfl) (by k_is) (by k_is) (by k_is) rfl (fun q hq => ?_) hn2 rfl rfl (by show 1 ≤ 1000; decide) (fun h2 F2 N2 => ?_)
  · rcases List.mem_cons.mp hq with rfl | hq
    · exact he2
    · rw [List.mem_singleton.mp hq]; exact fun z => hn _ (.head _) z.symm
  replace N2 : News g' L' h2 ((e, listOf ns.toArray ee) :: (p0, pileO ns e2 dx) :: (dx, sizeD hh tt (.int 0 _) nn) :: news) := N2
  k_steps
  refine hret _ _ _ _ (by assumption) (cb_drop (by assumption) (fun p hp => hp))
end
end Mine
end
section
open PySem PySem.W PyProof.Rows PySem.Calls
set_option Elab.async false
set_option maxRecDepth 100000
set_option maxHeartbeats 8000000
set_option linter.unusedVariables false
namespace Mine
namespace SF
theorem entry_wget : entryFor table "wrapper_descriptor.__get__" = some Builtin.«wrapper_descriptor.__get__» := entryFor_of_tree (by kernel_rfl)
theorem args_wget (a b c : Value) : argsOk "wrapper_descriptor.__get__" ⟨[a, b, c], []⟩ := by unfold argsOk; kernel_rfl
theorem lookup_wget : typeLookup (.type "wrapper_descriptor") "__get__" = pure (some (.builtin "wrapper_descriptor.__get__")) := by rw [typeLookup_type, builtinLookup_eq_fast]; kernel_rfl
theorem type_len : typeOf (.builtin "list.__len__") = pure (.type "wrapper_descriptor") := by show builtinType _ = _; rw [builtinType_eq_fast]; kernel_rfl
theorem type_init : typeOf (.builtin "list.__init__") = pure (.type "wrapper_descriptor") := by show builtinType _ = _; rw [builtinType_eq_fast]; kernel_rfl
theorem sub_w : isSubtype (.type "wrapper_descriptor") (.type "wrapper_descriptor") = pure true := by rw [isSubtype_type]; kernel_rfl
end SF
noncomputable abbrev mwObj (id : String) (x : Addr) : Obj := { cls := .type "method-wrapper", data := .fields #[.builtin id, .ref x] }
section
variable {prog : Program} {w : World} {A : Around} {E : Value → Shared → Prop} {K : Frag} {C x D so : Addr} {ox : Obj} {h : Heap} {g : Array GenState} {d : Drawn} {t : Nat} {os : OsState} {id : String} {name : Str} {l l₀ : List Value} {tk : Tok}
theorem sup_get {Q : Value → Shared → Prop} (hid : id = "list.__len__" ∨ id = "list.__init__") (X : K.In h) (hx : h.get? x = some ox) (hc : ox.cls = .ref C) (hsub : subIn K (.ref C) (.type "list") = some true) (ht : typeOf (.builtin id) = pure (.type "wrapper_descriptor"))
   (hq : Q (.ref h.objs.size) ⟨h.push (mwObj id x), g, d, t, os⟩) :
   wpAny (model prog w) A (call (.builtin "wrapper_descriptor.__get__") [.builtin id, .ref x, .ref C]) Q E ⟨h, g, d, t, os⟩ := by
  have hi : Looks (model prog w) h (isInstance (.ref x) (.type "list")) true := by
    refine Looks.andThen (a := .ref C) ?_ (looks_subIn X hsub)
    rw [← hc]
    exact (Looks.ld (part := none) hx).andThen .now
  refine wpAny_call ?_
  refine codeAny_call_builtin (by decide +kernel) SF.entry_wget ?_
  refine @check_slot (model prog w) _ _ ⟨h, g, d, t, os⟩ "wrapper_descriptor.__get__" "wrapper_descriptor" "__get__" (.builtin id) [.ref x, .ref C] [] _ (by decide +kernel) (by decide +kernel) ((Looks.of_pure ht).andThen (Looks.of_pure SF.sub_w)) (SF.args_wget _ _ _) ?_
  rcases hid with rfl | rfl
  all_goals
    unfold Builtin.«wrapper_descriptor.__get__»
    repeat (any_goals (first | (with_reducible refine wpAny_bind (hi.here ?_)) | (with_reducible exact hq) | (first | with_reducible (first | refine PySem.wpAny_pure ?_ | refine PySem.wpAny_bind ?_ | refine PySem.wpAny_holding ?_ | refine PySem.wpAny_standAt ?_ | refine PySem.wpAny_point ?_ | refine PySem.wpAny_rule ?_ | refine PySem.wpAny_letGo ?_ | refine PySem.wpAny_mkInt' ?_ | refine PySem.wpAny_fresh' ?_ | refine PySem.wpAny_alloc' ?_ | refine PySem.wpAny_attempt ?_ | refine PySem.wpAny_throw ?_ | refine PySem.wpAny_of_eq (by assumption) ?_ | refine PySem.wpAny_typeOf (by assumption) ?_ | refine PySem.wpAny_specialOf_val (by assumption) (by assumption) ?_ | refine PySem.wpAny_specialOf (by assumption) (by assumption) ?_ | refine PySem.wpAny_isInstance_val (by assumption) (by assumption) ?_ | refine PySem.wpAny_isInstance (by assumption) (by assumption) ?_ | refine PySem.wpAny_call ?_ | refine PySem.wpAny_runValue ?_ | refine PySem.wpAny_run ?_) | ((with_reducible refine' PySem.wpAny_mkStr' ?_ ?hx); (case hx => size_fits)) | ((with_reducible refine' PySem.wpAny_load' ?ho ?_); (case ho => heap_get)) | ((with_reducible refine' PySem.wpAny_update' ?ho ?_); (case ho => heap_get)) | ((with_reducible refine' PySem.wpAny_loadPart' ?ho ?_); (case ho => heap_get)) | ((with_reducible refine' PySem.wpAny_updatePart' ?ho ?_); (case ho => heap_get)) | ((with_reducible refine' PySem.wpAny_handled_none ?ho ?_); (case ho => assumption)) | ((with_reducible refine' PySem.wpAny_ite_false ?ho ?_); (case ho => rfl)) | ((with_reducible refine' PySem.wpAny_ite_true ?ho ?_); (case ho => rfl)) | ((with_reducible refine' PySem.wpAny_ite_false ?ho ?_); (case ho => (simp [*]; done))) | ((with_reducible refine' PySem.wpAny_ite_true ?ho ?_); (case ho => (simp [*]; done))) | wp_delta | with_reducible_and_instances refine PySem.wpAny_pure ?_ | with_reducible_and_instances refine PySem.wpAny_bind ?_)))
    all_goals skip
theorem sup_ga {Q : Fin → Shared → Prop} (hid : id = "list.__len__" ∨ id = "list.__init__") (ht : typeOf (.builtin id) = pure (.type "wrapper_descriptor"))
    (hso : h.get? so = some { cls := .type "super", dict := none, data := .fields #[.ref D, .ref x, .ref C], slots := #[] }) (hno : Looks (model prog w) h (opaqueClassAbove (.ref C)) none)
    (hC : Looks (model prog w) h (mroOf (.ref C)) l₀) (hl : (l₀.dropWhile (· != .ref D)).drop 1 = l) (X : K.In h)
    (hf : alongIn K name l = some (some (.builtin id))) (hx : h.get? x = some ox) (hc : ox.cls = .ref C) (hsub : subIn K (.ref C) (.type "list") = some true) (hxC : x ≠ C) (hn : (name == ("__class__" : Str)) = false)
    (hq : Q (.done (.ret (.ref h.objs.size))) ⟨h.push (mwObj id x), g, d, t, os⟩) :
    wpAny (model prog w) A (Builtin.«super.__getattribute__» ⟨[.ref so, .str name tk], []⟩) Q E ⟨h, g, d, t, os⟩ := by
  have hlk := SF.lookup_wget
  have hne : (Value.ref x == Value.ref C) = false := by simp [hxC]
  have hdt : ({ cls := .type "super", dict := none, data := .fields #[.ref D, .ref x, .ref C], slots := #[] } : Obj).data = .fields #[.ref D, .ref x, .ref C] := rfl
  have f0 : (#[.ref D, .ref x, .ref C] : Array Value)[0]? = some (.ref D) := rfl
  have f1 : (#[.ref D, .ref x, .ref C] : Array Value)[1]? = some (.ref x) := rfl
  have f2 : (#[.ref D, .ref x, .ref C] : Array Value)[2]? = some (.ref C) := rfl
  unfold Builtin.«super.__getattribute__»
  repeat (first
    | (with_reducible refine wpAny_field hso hdt f0 ?_) | (with_reducible refine wpAny_field hso hdt f1 ?_) | (with_reducible refine wpAny_field hso hdt f2 ?_)
    | (with_reducible refine ks_wpAny_notOpaque hno ?_)
    | (with_reducible refine Looks.at hC ?_; rw [hl])
    | (refine ks_forIn_along X (fun _ _ => rfl) rfl ?_ hf)
    | (with_reducible refine wpAny_of_eq ht ?_)
    | (with_reducible refine wpAny_of_eq hlk ?_)
    | (with_reducible refine sup_get hid X hx hc hsub ht ?_)
    | (with_reducible refine ⟨_, rfl, ?_⟩)
    | (simp only [hn, hne, Bool.or_false, Bool.false_eq_true, if_false])
    | (first | with_reducible (first | refine PySem.wpAny_pure ?_ | refine PySem.wpAny_bind ?_ | refine PySem.wpAny_holding ?_ | refine PySem.wpAny_standAt ?_ | refine PySem.wpAny_point ?_ | refine PySem.wpAny_rule ?_ | refine PySem.wpAny_letGo ?_ | refine PySem.wpAny_mkInt' ?_ | refine PySem.wpAny_fresh' ?_ | refine PySem.wpAny_alloc' ?_ | refine PySem.wpAny_attempt ?_ | refine PySem.wpAny_throw ?_ | refine PySem.wpAny_of_eq (by assumption) ?_ | refine PySem.wpAny_typeOf (by assumption) ?_ | refine PySem.wpAny_specialOf_val (by assumption) (by assumption) ?_ | refine PySem.wpAny_specialOf (by assumption) (by assumption) ?_ | refine PySem.wpAny_isInstance_val (by assumption) (by assumption) ?_ | refine PySem.wpAny_isInstance (by assumption) (by assumption) ?_ | refine PySem.wpAny_call ?_ | refine PySem.wpAny_runValue ?_ | refine PySem.wpAny_run ?_) | ((with_reducible refine' PySem.wpAny_mkStr' ?_ ?hx); (case hx => size_fits)) | ((with_reducible refine' PySem.wpAny_load' ?ho ?_); (case ho => heap_get)) | ((with_reducible refine' PySem.wpAny_update' ?ho ?_); (case ho => heap_get)) | ((with_reducible refine' PySem.wpAny_loadPart' ?ho ?_); (case ho => heap_get)) | ((with_reducible refine' PySem.wpAny_updatePart' ?ho ?_); (case ho => heap_get)) | ((with_reducible refine' PySem.wpAny_handled_none ?ho ?_); (case ho => assumption)) | ((with_reducible refine' PySem.wpAny_ite_false ?ho ?_); (case ho => rfl)) | ((with_reducible refine' PySem.wpAny_ite_true ?ho ?_); (case ho => rfl)) | ((with_reducible refine' PySem.wpAny_ite_false ?ho ?_); (case ho => (simp [*]; done))) | ((with_reducible refine' PySem.wpAny_ite_true ?ho ?_); (case ho => (simp [*]; done))) | wp_delta | with_reducible_and_instances refine PySem.wpAny_pure ?_ | with_reducible_and_instances refine PySem.wpAny_bind ?_)
    | dsimp only)
  all_goals exact hq
theorem sup_method {pl : Sem Bool} {Q : Value × List Value → Shared → Prop} (hid : id = "list.__len__" ∨ id = "list.__init__") (ht : typeOf (.builtin id) = pure (.type "wrapper_descriptor"))
    (hso : h.get? so = some { cls := .type "super", dict := none, data := .fields #[.ref D, .ref x, .ref C], slots := #[] }) (hno : Looks (model prog w) h (opaqueClassAbove (.ref C)) none)
    (hC : Looks (model prog w) h (mroOf (.ref C)) l₀) (hl : (l₀.dropWhile (· != .ref D)).drop 1 = l) (X : K.In h)
    (hf : alongIn K name l = some (some (.builtin id))) (hx : h.get? x = some ox) (hc : ox.cls = .ref C) (hsub : subIn K (.ref C) (.type "list") = some true) (hxC : x ≠ C) (hn : (name == ("__class__" : Str)) = false)
    (hq : Q (.ref h.objs.size, []) ⟨h.push (mwObj id x), g, d, t + 1, os⟩) :
    wpAny (model prog w) A (getMethod (.ref so) name pl) Q E ⟨h, g, d, t, os⟩ := by
  have hlk := F.ks_slot_super_ga.lookup
  have hcan := F.ks_canon_super_ga
  have hT : ∀ t', (⟨h, g, d, t', os⟩ : Shared).TypeIs (.ref so) "super" := fun _ => ⟨_, hso, rfl⟩
  unfold getMethod
  refine wpAny_bind (wpAny_specialOf (hT _) hlk ?_)
  show wpAny _ _ (if (Manifest.canonical "super.__getattribute__" != "object.__getattribute__") = true then _ else _) _ _ _
  rw [if_pos hcan]
  unfold getAttr getAttrBy
  refine wpAny_bind (wpAny_bind (wpAny_mkText (wpAny_holding (wpAny_bind (wpAny_typeOf (hT _) (wpAny_bind (wpAny_of_eq hlk ?_)))))))
  show wpAny _ _ (getAttrByItsOwn (.ref so) (.str name t) (.type "super") (.builtin "super.__getattribute__") true false) _ _ _
  unfold getAttrByItsOwn hookBefore callGetattribute boundAndCalled
  refine wpAny_bind (wpAny_of_eq (show (if onTheHeap (.type "super") then typeLookup (.type "super") "__getattr__" else pure none) = pure none from rfl) ?_)
  refine wpAny_bind (wpAny_attempt (wpAny_holding ?_))
  show wpAny _ _ (bindSpecial (.builtin "super.__getattribute__") (.ref so) >>= _) _ _ _
  refine wpAny_bind (wpAny_of_eq (F.ks_slot_super_ga.bind _) ?_)
  refine wpAny_mono (Q := fun v s' => v = .ref h.objs.size ∧ s' = ⟨h.push (mwObj id x), g, d, t + 1, os⟩) (E := fun _ _ => False)
    (wpAny_call_entry F.ks_slot_super_ga (hT _) F.ks_entry_super_ga (sup_ga hid ht hso hno hC hl X hf hx hc hsub hxC hn ⟨_, rfl, rfl, rfl⟩) (F.ks_gaArgs_super _ _)) (fun v s' hv => ?_) fun _ _ z => z.elim
  obtain ⟨rfl, rfl⟩ := hv
  exact wpAny_pure (wpAny_pure hq)
end
section
variable {prog : Program} {w : World} {A : Around} {E : Value → Shared → Prop} {s : Shared} {h₀ : Heap} {L : Addr} {m : Str → Option Value} {news : List (Addr × Obj)} {K : Frag} {x C D so q : Addr} {ox : Obj} {odx : Option Obj} {id : String} {name : Str}
theorem W_super {pl : Sem Bool} {Q : Value × List Value → Shared → Prop} (F : Fr h₀ L s.heap m) (X₀ : K.In h₀) (N : News h₀ L s.heap news) (hso : (so, ks_superObj D x C) ∈ news) (I : InstAt s.heap x ox C odx) (ho : nsIn K cStatics "thirdparty.any" = some none)
    (hm : ks_superIn K C D name = some (some (.builtin id))) (hid : id = "list.__len__" ∨ id = "list.__init__") (ht : typeOf (.builtin id) = pure (.type "wrapper_descriptor")) (hsub : subIn K (.ref C) (.type "list") = some true) (hn : (name == ("__class__" : Str)) = false)
    (h : ∀ q h', Fr h₀ L h' m → News h₀ L h' ((q, mwObj id x) :: news) → (∀ p ∈ news, p.1 < q) → Q (.ref q, []) { s with heap := h', toks := s.toks + 1 }) : wpAny (model prog w) A (getMethod (.ref so) name pl) Q E s := by
  have X : K.In s.heap := X₀.keeps F.keep
  obtain ⟨hh, g, d, t, os⟩ := s
  cases hc : clsIn K C with
  | none => unfold ks_superIn at hm; rw [hc] at hm; cases hm
  | some cd =>
    unfold ks_superIn at hm
    rw [hc] at hm
    refine sup_method hid ht (N _ hso).1 (looks_opaque X ho) (l₀ := cd.mro) ?_ rfl X hm I.at_ I.cls hsub (ks_ne X I hc) hn ?_
    · exact fun A Q E s k q => wpAny_bind ((looks_clsIn X hc) A _ E s k (wpAny_pure q))
    · obtain ⟨F', N', l'⟩ := ks_newsPush (s := ⟨hh, g, d, t, os⟩) (o := mwObj id x) F N rfl (Heap.get?_push_at rfl rfl) (fun b o e => Heap.get?_push_of_some _ e)
      exact h _ _ F' N' l'
theorem callWith_mw {pos : Pos} {env : Env} {Q : Value → Shared → Prop} (N : News h₀ L s.heap news) (hm : (q, mwObj id x) ∈ news)
    (h : wpAny (model prog w) A (call (.ref q) []) Q E s) : wpAny (model prog w) A (callWith pos (.ref q) [] (backTo pos (starEach [] env)) []) Q E s := by
  unfold callWith
  refine wpAny_bind (wpAny_holding ?_)
  show wpAny _ _ (evalArgs (.ref q) true [] []) _ _ _
  unfold evalArgs spliced
  repeat (first | (show wpAny _ _ (keeperOf (.ref q) >>= _) _ _ _; refine wpAny_bind (m := keeperOf (.ref q)) ?_) | (first | with_reducible (first | refine PySem.wpAny_pure ?_ | refine PySem.wpAny_bind ?_ | refine PySem.wpAny_holding ?_ | refine PySem.wpAny_standAt ?_ | refine PySem.wpAny_point ?_ | refine PySem.wpAny_rule ?_ | refine PySem.wpAny_letGo ?_ | refine PySem.wpAny_mkInt' ?_ | refine PySem.wpAny_fresh' ?_ | refine PySem.wpAny_alloc' ?_ | refine PySem.wpAny_attempt ?_ | refine PySem.wpAny_throw ?_ | refine PySem.wpAny_of_eq (by assumption) ?_ | refine PySem.wpAny_typeOf (by assumption) ?_ | refine PySem.wpAny_specialOf_val (by assumption) (by assumption) ?_ | refine PySem.wpAny_specialOf (by assumption) (by assumption) ?_ | refine PySem.wpAny_isInstance_val (by assumption) (by assumption) ?_ | refine PySem.wpAny_isInstance (by assumption) (by assumption) ?_ | refine PySem.wpAny_call ?_ | refine PySem.wpAny_runValue ?_ | refine PySem.wpAny_run ?_) | ((with_reducible refine' PySem.wpAny_mkStr' ?_ ?hx); (case hx => size_fits)) | ((with_reducible refine' PySem.wpAny_load' ?ho ?_); (case ho => heap_get)) | ((with_reducible refine' PySem.wpAny_update' ?ho ?_); (case ho => heap_get)) | ((with_reducible refine' PySem.wpAny_loadPart' ?ho ?_); (case ho => heap_get)) | ((with_reducible refine' PySem.wpAny_updatePart' ?ho ?_); (case ho => heap_get)) | ((with_reducible refine' PySem.wpAny_handled_none ?ho ?_); (case ho => assumption)) | ((with_reducible refine' PySem.wpAny_ite_false ?ho ?_); (case ho => rfl)) | ((with_reducible refine' PySem.wpAny_ite_true ?ho ?_); (case ho => rfl)) | ((with_reducible refine' PySem.wpAny_ite_false ?ho ?_); (case ho => (simp [*]; done))) | ((with_reducible refine' PySem.wpAny_ite_true ?ho ?_); (case ho => (simp [*]; done))) | wp_delta | with_reducible_and_instances refine PySem.wpAny_pure ?_ | with_reducible_and_instances refine PySem.wpAny_bind ?_))
  refine wpAny_load (N _ hm).1 ?_
  repeat (first | (with_reducible exact h) | (show wpAny _ _ (call (.ref q) [] [] >>= _) _ _ _; exact wpAny_bind (wpAny_mono h (fun r s' hr => wpAny_bind (wpAny_holding (wpAny_point (wpAny_pure hr)))) fun _ _ x => x)) | (first | with_reducible (first | refine PySem.wpAny_pure ?_ | refine PySem.wpAny_bind ?_ | refine PySem.wpAny_holding ?_ | refine PySem.wpAny_standAt ?_ | refine PySem.wpAny_point ?_ | refine PySem.wpAny_rule ?_ | refine PySem.wpAny_letGo ?_ | refine PySem.wpAny_mkInt' ?_ | refine PySem.wpAny_fresh' ?_ | refine PySem.wpAny_alloc' ?_ | refine PySem.wpAny_attempt ?_ | refine PySem.wpAny_throw ?_ | refine PySem.wpAny_of_eq (by assumption) ?_ | refine PySem.wpAny_typeOf (by assumption) ?_ | refine PySem.wpAny_specialOf_val (by assumption) (by assumption) ?_ | refine PySem.wpAny_specialOf (by assumption) (by assumption) ?_ | refine PySem.wpAny_isInstance_val (by assumption) (by assumption) ?_ | refine PySem.wpAny_isInstance (by assumption) (by assumption) ?_ | refine PySem.wpAny_call ?_ | refine PySem.wpAny_runValue ?_ | refine PySem.wpAny_run ?_) | ((with_reducible refine' PySem.wpAny_mkStr' ?_ ?hx); (case hx => size_fits)) | ((with_reducible refine' PySem.wpAny_load' ?ho ?_); (case ho => heap_get)) | ((with_reducible refine' PySem.wpAny_update' ?ho ?_); (case ho => heap_get)) | ((with_reducible refine' PySem.wpAny_loadPart' ?ho ?_); (case ho => heap_get)) | ((with_reducible refine' PySem.wpAny_updatePart' ?ho ?_); (case ho => heap_get)) | ((with_reducible refine' PySem.wpAny_handled_none ?ho ?_); (case ho => assumption)) | ((with_reducible refine' PySem.wpAny_ite_false ?ho ?_); (case ho => rfl)) | ((with_reducible refine' PySem.wpAny_ite_true ?ho ?_); (case ho => rfl)) | ((with_reducible refine' PySem.wpAny_ite_false ?ho ?_); (case ho => (simp [*]; done))) | ((with_reducible refine' PySem.wpAny_ite_true ?ho ?_); (case ho => (simp [*]; done))) | wp_delta | with_reducible_and_instances refine PySem.wpAny_pure ?_ | with_reducible_and_instances refine PySem.wpAny_bind ?_))
theorem call_mw {Q : Value → Shared → Prop} {B : Builtin} (N : News h₀ L s.heap news) (hm : (q, mwObj id x) ∈ news) (hb : entryFor table id = some B) (hck : checkBoundCall id ⟨[.ref x], []⟩ = pure ()) (hq : (Code.builtin id ⟨[.ref x], []⟩).quiet = true)
    (h : ∀ A', wpAny (model prog w) A' (B ⟨[.ref x], []⟩) (fun fin s' => ∃ v, fin = .done (.ret v) ∧ Q v s') E s) : wpAny (model prog w) A (call (.ref q) []) Q E s := by
  refine wpAny_call (codeAny_of_tree ?_)
  show wpAny _ A.in1 (callAny (.ref q) ⟨[], []⟩) _ _ s
  simp only [callAny]
  refine wpAny_bind (wpAny_load (N _ hm).1 ?_)
  simp only [show (Value.type "method-wrapper" == Value.type "method" || Value.type "method-wrapper" == Value.type "builtin_function_or_method" || Value.type "method-wrapper" == Value.type "method-wrapper") = true by decide, if_true]
  show wpAny _ _ (if (Value.type "method-wrapper" != Value.type "method") = true then _ else _) _ _ _
  rw [if_pos (by decide)]
  refine wpAny_bind (wpAny_of_eq (a := ()) hck ?_)
  refine wpAny_bind (wpAny_pure (wpAny_pure ?_))
  refine ⟨hq, codeAny_builtin hb (wpAny_mono (h _) (fun fin s' h' => ?_) fun _ _ h' => h')⟩
  obtain ⟨v, rfl, hv⟩ := h'
  exact hv
end
end Mine
end
section
open PySem PySem.W PyProof.Rows PySem.Calls
set_option Elab.async false
set_option maxRecDepth 100000
set_option maxHeartbeats 8000000
set_option linter.unusedVariables false
namespace Mine
section
local macro_rules | `(tactic| walk_at "z") => `(tactic| skip)
theorem fresh_A8 : True ∧ True := by
  w_top off
  walk1
  all_goals trivial
end
theorem lb_len (x : Addr) : checkBoundCall "list.__len__" ⟨[.ref x], []⟩ = pure () := by first | kernel_rfl | rfl
theorem lb_init (x : Addr) : checkBoundCall "list.__init__" ⟨[.ref x], []⟩ = pure () := by first | kernel_rfl | rfl
theorem le_init : entryFor table "list.__init__" = some Builtin.«list.__init__» := entryFor_of_tree (by kernel_rfl)
theorem lq_len {as : Args} : (Code.builtin "list.__len__" as).quiet = true := Code.quiet_builtin _ (by decide +kernel)
theorem lq_init {as : Args} : (Code.builtin "list.__init__" as).quiet = true := Code.quiet_builtin _ (by decide +kernel)
theorem inst_own {h₀ h : Heap} {L x C dx : Addr} {news : List (Addr × Obj)} {od : Obj} {vs : List Value} {ep : Nat} (N : News h₀ L h news) (h1 : (x, ownObj C vs ep dx) ∈ news) (h2 : (dx, od) ∈ news) : InstAt h x (ownObj C vs ep dx) C (some od) := own_inst (N _ h1).1 (N _ h2).1
local macro_rules | `(tactic| k_inst) => `(tactic| (refine inst_own (by k_asm) (by k_mem) (by k_mem)))
local macro_rules | `(tactic| walk_at "getMethod ref") => `(tactic| (k_here; k_dflt (refine W_super (by k_asm) (by k_asm) (by k_asm) (by k_mem) (by k_inst) (by k_is) (by kernel_rfl) (by first | exact .inl rfl | exact .inr rfl) (by first | exact SF.type_len | exact SF.type_init) (by k_is) (by decide) ?_; k_whole; intro q' h' F' N' l1; (try k_lt l1))))
local macro_rules | `(tactic| walk_at "callWith ref") => `(tactic| (k_here; k_dflt (refine callWith_mw (by k_asm) (by k_mem) ?_; k_whole)))
section
variable {prog : Program} {w : World} {A : Around} {E : Value → Shared → Prop} {s : Shared} {h₀ : Heap} {L : Addr} {m : Str → Option Value} {news pre post : List (Addr × Obj)} {K : Frag} {x C D so q p dx : Addr} {vs : List Value} {ep : Nat}
theorem W_mwlen {Q : Value → Shared → Prop} (N : News h₀ L s.heap news) (hm : (q, mwObj "list.__len__" p) ∈ news) (hp : (p, ownObj C vs ep dx) ∈ news) (h : ∀ tk t, Q (.int vs.length t) { s with toks := tk }) : wpAny (model prog w) A (call (.ref q) []) Q E s := by
  refine call_mw N hm entry_list_len (lb_len _) lq_len (fun A' => ?_)
  have hp := (N _ hp).1
  show wpAny _ _ (do retInt (← seqSize p)) _ _ s
  unfold seqSize
  refine wpAny_bind (wpAny_bind (wpAny_loadPart hp ?_))
  refine wpAny_pure (wpAny_bind (wpAny_mkInt (wpAny_pure ⟨_, rfl, ?_⟩)))
  rw [List.size_toArray]
  exact h _ _
theorem W_mwinit {Q : Value → Shared → Prop} (F : Fr h₀ L s.heap m) (N : News h₀ L s.heap (pre ++ (p, ownObj C vs ep dx) :: post)) (hm : (q, mwObj "list.__init__" p) ∈ pre ++ (p, ownObj C vs ep dx) :: post) (h1 : ∀ q ∈ pre, q.1 ≠ p) (h2 : ∀ q ∈ post, q.1 ≠ p)
   (h : ∀ h' e2, Fr h₀ L h' m → News h₀ L h' (pre ++ (p, ownObj C [] e2 dx) :: post) → Q .none { s with heap := h' }) (hsz : vs.length ≤ 1000) : wpAny (model prog w) A (call (.ref q) []) Q E s := by
  refine call_mw N hm le_init (lb_init _) lq_init (fun A' => ?_)
  have hp := (N (p, ownObj C vs ep dx) (by simp)).1
  unfold Builtin.«list.__init__»
  refine wpAny_bind (m := Builtin.List.listItems (.ref p)) (listItems_ok hp rfl ?_)
  refine wpAny_bind (wpAny_updateSeq hp rfl ?_ (by rw [sizeLine_eq, List.size_toArray]; omega) (by simp))
  refine wpAny_bind (wpAny_letGo ?_)
  obtain ⟨n', hn'⟩ := get?_update_mapSeq hp (fun _ => #[])
  obtain ⟨F2, N2⟩ := news_put F N (Heap.SameBut.update ..) hn' h1 h2
  refine wpAny_pure ⟨_, rfl, ?_⟩
  exact h _ _ F2 N2
end
section
variable {w : World} {p : Program} {loose : List Str} {mean : ExcName → Option Value} {mg mb : Str → Option Value} {dp un : Nat} {gd : Option (List Code)} {cn : Str} {cs : Scope} {a : Addr} {ccd : Value} {cl : List (Str × Addr)} {outer : List Env} {A₀ : Around} {base h₀ : Heap} {L : Addr} {m : Str → Option Value} {news : List (Addr × Obj)} {s : Shared} {Q E : Value → Shared → Prop}
theorem c_partcount {p0 dx : Addr} {ep : Nat} {vs : List Value} {hh : Int} {tt : Tok} {vv : Value} {nn : Nat} (B : Below A₀ base outer h₀) (F : Fr h₀ L s.heap m) (X : (hd.heap_39 w.params).In h₀) (N : News h₀ L s.heap ((p0, pileO vs ep dx) :: (dx, sizeD hh tt vv nn) :: news)) (T : Top p loose mean mg mb h₀) (hk : cs.kind = .function) (hd : dp + 2 < recursionLimit) (hu : un + 16 < cLine)
   (hret : ∀ h' tk' t, Fr h₀ L h' m → News h₀ L h' ((p0, pileO vs ep dx) :: (dx, sizeD hh tt vv nn) :: news) → Q (.int vs.length t) { s with heap := h', toks := tk' }) :
   wpAny (model PySem.Challenge.rw_il0172_01.row.prog w) (ktrTop dp un gd cn cs L a ccd cl outer) (call (.ref 97) [.ref p0]) Q E s := by
  revert X; k_fill; intro X
  refine wpAny_call ?_
  k_dflt (refine' ks_code_super ?k1 ?k2 ?k3 ?k4 ?k5 ?kA ?kF ?kK ?k6 ?k7 ?k8 ?k9 ?kB ?_ ?c1 ?c2 ?c3 ?c4; (case kA => exact rfl); (case kF => exact rfl); (case kK => first | exact rfl | assumption); (case k1 => k_asm); (case k2 => k_asm); (case k3 => k_asm); (case k4 => k_asm); (case k5 => k_asm); (case k6 => k_is); (case k7 => k_is); (case k8 => ktr_room); (case k9 => first | exact BindsTo.of_eq rfl | exact binds_K (by k_in) rfl (by k_is) rfl rfl rfl); (case kB => exact locs rfl); (case c1 => decide); (case c2 => exact rfl); (case c3 => exact rfl); (case c4 => exact rfl); k_whole; intro g' L' h' FG' F' N' B' X' T' l1; (try k_lt l1); (try dsimp only); (try k_lift B'); (try k_fold))
  k_steps
  refine W_mwlen (by assumption) (.head _) (.tail _ (.tail _ (.head _))) (fun tk t => ?_)
  k_steps
  exact hret _ _ _ (by assumption) (cb_drop (by assumption) (fun p hp => List.Mem.tail _ (.tail _ hp)))
end
end Mine
end
section
open PySem PySem.W PyProof.Rows PySem.Calls
set_option Elab.async false
set_option maxRecDepth 100000
set_option maxHeartbeats 8000000
set_option linter.unusedVariables false
namespace Mine
section
local macro_rules | `(tactic| walk_at "z") => `(tactic| skip)
theorem fresh_A9 : True ∧ True := by
  w_top off
  walk1
  all_goals trivial
end
noncomputable def makesInL (K : Frag) (C : Addr) : Bool := match K.lookup C with
  | some ⟨_, _, .cls cd, sl⟩ => !cd.abstract && !cd.hasDel && (sl.toList[4]?).join == some (.builtin "list.__new__") && !cd.mro.isEmpty && cd.mro.contains (.ref C) && cd.mro.contains (.type "list") &&
      specialIn K (.ref C) "__call__" == some (some (.builtin "type.__call__")) && instIn K (.ref C) (.type "type") == some true
  | _ => false
structure MakesL (M : Model) (h : Heap) (C : Addr) : Prop where
  obj : ∃ oc od cd sl, h.get? C = some ⟨oc, od, .cls cd, sl⟩ ∧ cd.abstract = false ∧ cd.hasDel = false ∧ cd.mro.isEmpty = false
  made : Looks M h (Bind.madeBy (.ref C)) (some "list.__new__")
  base : Looks M h (Bind.staticBase (.ref C)) (.ref C)
  self : Looks M h (isSubtype (.ref C) (.ref C)) true
  top : Looks M h (isSubtype (.ref C) (.type "list")) true
  call : Looks M h (specialOf (.ref C) "__call__") (some (.builtin "type.__call__"))
  typ : Looks M h (isInstance (.ref C) (.type "type")) true
theorem makesL_of {K : Frag} {M : Model} {h : Heap} (X : K.In h) {C : Addr} (e : makesInL K C = true) : MakesL M h C := by
  unfold makesInL at e
  split at e
  · rename_i oc od cd sl ho
    simp only [Bool.and_eq_true, Bool.not_eq_true', beq_iff_eq] at e
    obtain ⟨⟨⟨⟨⟨⟨⟨e1, e2⟩, e3⟩, e4⟩, e5⟩, e6⟩, e7⟩, e8⟩ := e
    have hc : clsIn K C = some cd := by unfold clsIn; rw [ho]
    have hm : Looks M h (mroOf (.ref C)) cd.mro := (looks_clsIn X hc).andThen .now
    obtain ⟨c, l, hl⟩ : ∃ c l, cd.mro = c :: l := by cases q : cd.mro with | nil => rw [q] at e4; cases e4 | cons c l => exact ⟨c, l, rfl⟩
    have made : Looks M h (Bind.madeBy (.ref C)) (some "list.__new__") := by
      intro A Q E s k q
      unfold Bind.madeBy
      refine wpAny_bind (hm A _ E s k ?_)
      rw [hl, List.forIn_cons]
      refine wpAny_bind (wpAny_bind (wpAny_bind (wpAny_bind (wpAny_loadPart (k _ _ (X _ _ ho)) (wpAny_pure ?_)))))
      dsimp only
      rw [← Array.getElem?_toList, e3]
      exact wpAny_pure (wpAny_pure (wpAny_pure q))
    refine ⟨⟨oc, od, cd, sl, X _ _ ho, e1, e2, e4⟩, made, ?_, looks_mroIn X ?_, looks_mroIn X ?_, looks_specialIn X e7, looks_instIn X e8⟩
    · intro A Q E s k q
      unfold Bind.staticBase
      refine wpAny_bind (hm A _ E s k ?_)
      rw [hl, List.forIn_cons]
      exact wpAny_bind (wpAny_bind (wpAny_bind (made A _ E s k (wpAny_pure (wpAny_pure (wpAny_pure q))))))
    · unfold mroIn; rw [hc, Option.bind_some, if_neg (by rw [e4]; decide), e5]
    · unfold mroIn; rw [hc, Option.bind_some, if_neg (by rw [e4]; decide), e6]
  · cases e
noncomputable abbrev instL (C dx : Addr) : Obj := { cls := .ref C, dict := some dx, data := .seq #[] }
namespace LN
theorem kind : builtinKind "list.__new__" = some .builtinFn := by decide +kernel
theorem split : splitId "list.__new__" = some ("list", "__new__") := by decide +kernel
theorem row : Manifest.signature? "list.__new__" = some ⟨.any, "list", "list", .cls, [⟨"args", .varPos, false⟩, ⟨"kwargs", .varKw, false⟩]⟩ := by kernel_rfl
theorem entry : entryFor table "list.__new__" = some Builtin.«list.__new__» := entryFor_of_tree (by kernel_rfl)
end LN
section
variable {prog : Program} {w : World} {A : Around} {K : Frag} {C : Addr} {R : Result → Shared → Prop} {h : Heap} {g : Array GenState} {d : Drawn} {t : Nat} {os : OsState}
theorem new_L (Y : MakesL (model prog w) h C) 
    (hq : R (.ok (.ret (.ref (h.objs.size + 1)))) ⟨(h.push emptyDict).push (instL C h.objs.size), g, d, t, os⟩) :
    codeAny (model prog w) A (.call (.builtin "list.__new__") ⟨[.ref C], []⟩) R ⟨h, g, d, t, os⟩ := by
  obtain ⟨⟨oc, od, cd, sl, hC, e1, e2, e4⟩, made, base, self, top, call, typ⟩ := Y
  refine codeAny_call_builtin_code (Code.quiet_builtin _ (by decide +kernel)) ?_
  simp only [checkBuiltinCall, LN.kind, LN.split, LN.row]
  have args : Bind.checkArgs "list.__new__" ⟨.any, "list", "list", .cls, [⟨"args", .varPos, false⟩, ⟨"kwargs", .varKw, false⟩]⟩ ⟨[.ref C], []⟩ = pure () := by kernel_rfl
  rw [args]
  repeat (first | simp only [bne_self_eq_false, Bool.false_eq_true, if_false] | lk)
  refine codeAny_builtin_stack LN.entry rfl fun p st => ?_
  dsimp only
  rw [owner_list_new]
  repeat lk
  refine nd_load (Heap.get?_push_of_some _ (Heap.get?_push_of_some _ hC)) ?_
  refine wpAny_pure ?_
  show wpAny _ _ (pure cd.hasDel) _ _ _
  rw [e2]
  refine wpAny_pure (wpAny_pure (wpAny_pure ?_))
  rw [Heap.size_push]
  exact hq
theorem makeL_core {init : Value} (Y : MakesL (model prog w) h C) (hi : Looks (model prog w) h (typeLookup (.ref C) "__init__") (some init))
    (hb : ∀ self, Looks (model prog w) h (bindSpecial init self) (init, [self]))
    (hq : codeAny (model prog w) (A.under (.builtin "type.__call__" ⟨[.ref C], []⟩)) (.call init ⟨[.ref (h.objs.size + 1)], []⟩) (InitBack (h.objs.size + 1) R) ⟨(h.push emptyDict).push (instL C h.objs.size), g, d, t, os⟩) :
    codeAny (model prog w) A (.call (.ref C) ⟨[], []⟩) R ⟨h, g, d, t, os⟩ := by
  have Y' := Y
  obtain ⟨⟨oc, od, cd, sl, hC, e1, e2, e4⟩, made, base, self, top, call, typ⟩ := Y
  refine codeAny_of_tree ?_
  show wpAny _ _ (callAny (.ref C) _) _ _ _
  refine nd_load hC ?_
  show wpAny _ _ (callAny.viaDunder (.ref C) _) _ _ _
  unfold callAny.viaDunder
  refine wpAny_bind (call.at ?_)
  dsimp only
  rw [tc_bind]
  refine wpAny_bind (wpAny_pure (wpAny_bind (wpAny_pure ?_)))
  refine wpAny_pure (a := Fin.again (.call (.builtin "type.__call__") ⟨[.ref C], []⟩)) (And.intro rfl ?_)
  refine codeAny_call_builtin_at (Code.quiet_builtin _ (by decide +kernel)) entry_typeCall (check_slot tc_kind tc_split typ (tc_args _ _ _) ?_)
  unfold Builtin.«type.__call__»
  have hm : Looks (model prog w) h (mroOf (.ref C)) cd.mro := ((Looks.ld (part := none) hC).andThen .now).andThen .now
  repeat (first | simp only [e4, Bool.false_eq_true, if_false] | with_reducible refine wpAny_call ?_ | lk)
  refine new_L Y' ?_
  have k : ∀ b o, h.get? b = some o → ((h.push emptyDict).push (instL C h.objs.size)).get? b = some o := fun b o e => Heap.get?_push_of_some _ (Heap.get?_push_of_some _ e)
  have hx : ((h.push emptyDict).push (instL C h.objs.size)).get? (h.objs.size + 1) = some (instL C h.objs.size) := by heap_get
  have t1 : Looks (model prog w) ((h.push emptyDict).push (instL C h.objs.size)) (typeOf (.ref (h.objs.size + 1))) (.ref C) := (Looks.ld hx).andThen .now
  have s1 := self.keeps k
  have i1 := hi.keeps k
  have b1 := (hb (.ref (h.objs.size + 1))).keeps k
  unfold isInstance callSpecial? specialOf
  repeat (first | with_reducible refine wpAny_call ?_ | lk)
  refine codeAny_mono hq fun r s' z => ?_
  rcases r with e | (v | _ | _ | _) <;> first | exact z | exact z.elim | skip
  obtain ⟨rfl, z⟩ := z
  exact wpAny_pure (wpAny_pure z)
end
section
variable {prog : Program} {w : World} {A : Around} {K : Frag} {C x : Addr} {s : Shared} {h₀ : Heap} {L : Addr} {m : Str → Option Value} {news : List (Addr × Obj)} {R : Result → Shared → Prop}
theorem makeL_K {fI : Addr} (F : Fr h₀ L s.heap m) (N : News h₀ L s.heap news) (X : K.In s.heap) (hm : makesInL K C = true)
    (hi : findIn K (.ref C) "__init__" = some (some (.ref fI))) (hf : typeIn K (.ref fI) = some (.type "function"))
    (h : ∀ x dx h', Fr h₀ L h' m → News h₀ L h' ((x, ownObj C [] 0 dx) :: (dx, dictOf [] 0) :: news) → (∀ p ∈ news, p.1 < dx) → dx < x →
      codeAny (model prog w) (A.under (.builtin "type.__call__" ⟨[.ref C], []⟩)) (.call (.ref fI) ⟨[.ref x], []⟩) (InitBack x R) { s with heap := h' }) :
    codeAny (model prog w) A (.call (.ref C) ⟨[], []⟩) R s := by
  obtain ⟨hh, g, d, t, os⟩ := s
  refine makeL_core (makesL_of X hm) (looks_findIn X hi) (fun self => bind_fn X self hf) (h _ hh.objs.size _ ((F.push _).push _) ?_ (fun p hp => Heap.lt_size (N p hp).1) (Nat.lt_succ_self _))
  have := (N.push F emptyDict).push (F.push _) (instL C hh.objs.size)
  rwa [Heap.size_push] at this
end
local macro_rules | `(tactic| k_inst) => `(tactic| (refine inst_own (by k_asm) (by k_mem) (by k_mem)))
local macro_rules | `(tactic| walk_at "getMethod ref") => `(tactic| (k_here; k_dflt (refine W_super (by k_asm) (by k_asm) (by k_asm) (by k_mem) (by k_inst) (by k_is) (by kernel_rfl) (by exact .inr rfl) (by exact SF.type_init) (by k_is) (by decide) ?_; k_whole; intro q' h' F' N' l1; (try k_lt l1))))
local macro_rules | `(tactic| walk_at "callWith ref") => `(tactic| (k_here; k_dflt (refine callWith_mw (by k_asm) (by k_mem) ?_; k_whole)))
section
variable {w : World} {p : Program} {loose : List Str} {mean : ExcName → Option Value} {mg mb : Str → Option Value} {dp un : Nat} {gd : Option (List Code)} {cn : Str} {cs : Scope} {a : Addr} {ccd : Value} {cl : List (Str × Addr)} {outer : List Env} {A₀ : Around} {base h₀ : Heap} {L : Addr} {m : Str → Option Value} {news : List (Addr × Obj)} {s : Shared} {Q E : Value → Shared → Prop}
theorem c_pile (B : Below A₀ base outer h₀) (F : Fr h₀ L s.heap m) (X : (hd.heap_39 w.params).In h₀) (N : News h₀ L s.heap news) (T : Top p loose mean mg mb h₀) (hk : cs.kind = .function) (hd : dp + 2 < recursionLimit) (hu : un + 16 < cLine)
   (hret : ∀ h' tk' p0 dx e2 hh tt t nn, Fr h₀ L h' m → News h₀ L h' ((p0, pileO [] e2 dx) :: (dx, sizeD hh tt (.int 0 t) nn) :: news) → (∀ p ∈ news, p.1 < dx) → dx < p0 → Q (.ref p0) { s with heap := h', toks := tk' }) :
   wpAny (model PySem.Challenge.rw_il0172_01.row.prog w) (ktrTop dp un gd cn cs L a ccd cl outer) (call (.ref 100) []) Q E s := by
  revert X; k_fill; intro X
  refine wpAny_call ?_
  k_dflt (refine makeL_K (fI := 38) F N (X.keeps F.keep) (by kernel_rfl) (by k_is) (by k_is) (fun x dx h1 F1 N1 lx ly => ?_))
  k_dflt (refine' ks_code_super ?k1 ?k2 ?k3 ?k4 ?k5 ?kA ?kF ?kK ?k6 ?k7 ?k8 ?k9 ?kB ?_ ?c1 ?c2 ?c3 ?c4; (case kA => exact rfl); (case kF => exact rfl); (case kK => first | exact rfl | assumption); (case k1 => k_asm); (case k2 => k_asm); (case k3 => k_asm); (case k4 => k_asm); (case k5 => k_asm); (case k6 => k_is); (case k7 => k_is); (case k8 => ktr_room); (case k9 => first | exact BindsTo.of_eq rfl | exact binds_K (by k_in) rfl (by k_is) rfl rfl rfl); (case kB => exact locs rfl); (case c1 => decide); (case c2 => exact rfl); (case c3 => exact rfl); (case c4 => exact rfl); k_whole; intro g' L' h' FG' F' N' B' X' T' l1; (try k_lt l1); (try dsimp only); (try k_lift B'); (try k_fold))
  k_steps
  have l2 := l1
  obtain ⟨l2a, l2b, l2c⟩ := l2
  refine W_setattr (C := 100) (p := x) (dx := dx) (vs := []) (ep := 0) (od' := sizeD (PyData.keyHash w.params "_initial_size") _ (.int 0 210) 1) (pre := [_]) (post := news) (by assumption) N' (by assumption) (.head _) (by kernel_rfl) (by k_is) (by k_is) (by k_is) rfl (fun q hq => ?_) (fun q hq => Nat.ne_of_lt (lx q hq)) rfl rfl (by show 1 ≤ 1000; decide) (fun h2 F2 N2 => ?_)
  · rw [List.mem_singleton.mp hq]; exact Nat.ne_of_gt ly
  replace N2 : News g' L' h2 ((x, ownObj 100 [] 0 dx) :: (dx, sizeD (PyData.keyHash w.params "_initial_size") _ (.int 0 210) 1) :: news) := N2
  refine ks_wpAt_execs_cons ?_
  refine ks_wpAt_Expr_any ?_
  refine ks_wpAt_MethodCall ?_
  k_steps
  rename_i l4 q5 h5 F5 N5 l3
  obtain ⟨l3a, l3b, l3c, l3d⟩ := l3
  obtain ⟨l4a, l4b, l4c⟩ := l4
  refine W_mwinit (p := x) (C := 100) (dx := dx) (vs := []) (ep := 0) (pre := [_, _]) (post := (dx, _) :: news) (by assumption) (by assumption) (.head _) (fun q hq => ?_) (fun q hq => ?_) (fun h3 e3 F3 N3 => ?_) (by decide)
  · rcases List.mem_cons.mp hq with rfl | hq
    · exact Nat.ne_of_gt l3b
    · rw [List.mem_singleton.mp hq]; exact Nat.ne_of_gt l4a
  · rcases List.mem_cons.mp hq with rfl | hq
    · exact Nat.ne_of_lt ly
    · exact Nat.ne_of_lt (Nat.lt_trans (lx q hq) ly)
  k_steps
  exact hret _ _ x dx e3 _ _ _ _ (by assumption) (cb_drop (by assumption) (fun p hp => List.Mem.tail _ (.tail _ hp))) lx ly
end
end Mine
end
section
open PySem PySem.W PyProof.Rows PySem.Calls
set_option Elab.async false
set_option maxRecDepth 100000
set_option maxHeartbeats 8000000
set_option linter.unusedVariables false
namespace Mine
section
variable {prog : Program} {w : World} {A : Around} {E : Value → Shared → Prop} {h₀ h : Heap} {L : Addr} {m : Str → Option Value} {news : List (Addr × Obj)} {g : Array GenState} {d : Drawn} {t : Nat} {os : OsState} {C so q ns : Addr}
theorem call_super_cls {oC : Obj} {cd : ClassData} {Q : Value → Shared → Prop}
    (hD : h.get? C = some oC) (hDt : oC.data = .cls cd) (hsub : Looks (model prog w) h (isSubtype (.ref C) (.ref C)) true)
    (hq : ∀ h', h'.get? h.objs.size = some { cls := .type "super", dict := none, data := .fields #[.ref C, .ref C, .ref C], slots := #[] } → (∀ y o, h.get? y = some o → h'.get? y = some o) → Q (.ref h.objs.size) ⟨h', g, d, t, os⟩) :
    wpAny (model prog w) A (call (.type "super") [.ref C, .ref C]) Q E ⟨h, g, d, t, os⟩ := by
  refine ks_callType_codesW (Q₁ := fun obj s₁ => obj = .ref h.objs.size ∧ s₁ = ⟨h.push { cls := .type "super", data := .fields #[.none, .none, .none] }, g, d, t, os⟩) F.ks_called_super (ks_wpAny_checkTypeCall_super hD hDt) F.ks_entry_super_init
    (ks_code_super_new _ _ ⟨rfl, rfl⟩) fun obj s₁ h₁ => ?_
  obtain ⟨rfl, rfl⟩ := h₁
  have up : ∀ y o, h.get? y = some o → (h.push { cls := .type "super", data := .fields #[.none, .none, .none] }).get? y = some o := fun y o e => Heap.get?_push_of_some _ e
  have hso : (h.push { cls := .type "super", data := .fields #[.none, .none, .none] }).get? h.objs.size = some { cls := .type "super", dict := none, data := .fields #[.none, .none, .none], slots := #[] } := Heap.get?_push_at rfl rfl
  have hD' := up _ _ hD
  have hsub' := hsub.keeps up
  refine ⟨⟨_, hso, rfl⟩, F.ks_initArgs_super _ _ _, ?_⟩
  unfold Builtin.«super.__init__» noKeywords
  repeat (first | (with_reducible refine ks_wpAny_isType_cls hD' hDt ?_) | (with_reducible refine Looks.at hsub' ?_) | (with_reducible refine ks_wpAny_super_set3 hso ?_) | (first | with_reducible (first | refine PySem.wpAny_pure ?_ | refine PySem.wpAny_bind ?_ | refine PySem.wpAny_holding ?_ | refine PySem.wpAny_standAt ?_ | refine PySem.wpAny_point ?_ | refine PySem.wpAny_rule ?_ | refine PySem.wpAny_letGo ?_ | refine PySem.wpAny_mkInt' ?_ | refine PySem.wpAny_fresh' ?_ | refine PySem.wpAny_alloc' ?_ | refine PySem.wpAny_attempt ?_ | refine PySem.wpAny_throw ?_ | refine PySem.wpAny_of_eq (by assumption) ?_ | refine PySem.wpAny_typeOf (by assumption) ?_ | refine PySem.wpAny_specialOf_val (by assumption) (by assumption) ?_ | refine PySem.wpAny_specialOf (by assumption) (by assumption) ?_ | refine PySem.wpAny_isInstance_val (by assumption) (by assumption) ?_ | refine PySem.wpAny_isInstance (by assumption) (by assumption) ?_ | refine PySem.wpAny_call ?_ | refine PySem.wpAny_runValue ?_ | refine PySem.wpAny_run ?_) | ((with_reducible refine' PySem.wpAny_mkStr' ?_ ?hx); (case hx => size_fits)) | ((with_reducible refine' PySem.wpAny_load' ?ho ?_); (case ho => heap_get)) | ((with_reducible refine' PySem.wpAny_update' ?ho ?_); (case ho => heap_get)) | ((with_reducible refine' PySem.wpAny_loadPart' ?ho ?_); (case ho => heap_get)) | ((with_reducible refine' PySem.wpAny_updatePart' ?ho ?_); (case ho => heap_get)) | ((with_reducible refine' PySem.wpAny_handled_none ?ho ?_); (case ho => assumption)) | ((with_reducible refine' PySem.wpAny_ite_false ?ho ?_); (case ho => rfl)) | ((with_reducible refine' PySem.wpAny_ite_true ?ho ?_); (case ho => rfl)) | ((with_reducible refine' PySem.wpAny_ite_false ?ho ?_); (case ho => (simp [*]; done))) | ((with_reducible refine' PySem.wpAny_ite_true ?ho ?_); (case ho => (simp [*]; done))) | wp_delta | with_reducible_and_instances refine PySem.wpAny_pure ?_ | with_reducible_and_instances refine PySem.wpAny_bind ?_))
  all_goals first
    | (intro h' e k; exact ⟨rfl, hq h' e fun y o ey => k y o (Nat.ne_of_lt (Heap.lt_size ey)) (up y o ey)⟩)
    | (refine ks_wpAny_super_set3 hso ?_; intro h' e k; exact ⟨rfl, hq h' e fun y o ey => k y o (Nat.ne_of_lt (Heap.lt_size ey)) (up y o ey)⟩)
namespace SI
theorem type_is : typeOf (.builtin "object.__init_subclass__") = pure (.type "classmethod_descriptor") := by show builtinType _ = _; rw [builtinType_eq_fast]; kernel_rfl
theorem lookup_get : typeLookup (.type "classmethod_descriptor") "__get__" = pure (some (.builtin "classmethod_descriptor.__get__")) := by rw [typeLookup_type, builtinLookup_eq_fast]; kernel_rfl
theorem own : builtinOwn "object" "__init_subclass__" = some (.builtin "object.__init_subclass__") := by rw [builtinOwn_eq_fast]; kernel_rfl
theorem entry_get : entryFor table "classmethod_descriptor.__get__" = some Builtin.«classmethod_descriptor.__get__» := entryFor_of_tree (by kernel_rfl)
theorem args_get (a b c : Value) : argsOk "classmethod_descriptor.__get__" ⟨[a, b, c], []⟩ := by unfold argsOk; kernel_rfl
theorem sub_c : isSubtype (.type "classmethod_descriptor") (.type "classmethod_descriptor") = pure true := by rw [isSubtype_type]; kernel_rfl
theorem entry_is : entryFor table "object.__init_subclass__" = some Builtin.«object.__init_subclass__» := entryFor_of_tree (by kernel_rfl)
end SI
noncomputable abbrev isObj (C : Addr) : Obj := { cls := .type "builtin_function_or_method", data := .fields #[.builtin "object.__init_subclass__", .ref C] }
theorem is_get {oC : Obj} {cd : ClassData} {Q : Value → Shared → Prop} (hC : h.get? C = some oC) (hCt : oC.data = .cls cd) (hsub : Looks (model prog w) h (isSubtype (.ref C) (.type "object")) true) 
   (hq : Q (.ref h.objs.size) ⟨h.push (isObj C), g, d, t, os⟩) :
   wpAny (model prog w) A (call (.builtin "classmethod_descriptor.__get__") [.builtin "object.__init_subclass__", .none, .ref C]) Q E ⟨h, g, d, t, os⟩ := by
  have hown : ".".intercalate ("object.__init_subclass__".cutAt '.').dropLast = "object" := by decide +kernel
  refine wpAny_call ?_
  refine codeAny_call_builtin (by decide +kernel) SI.entry_get ?_
  refine @check_slot (model prog w) _ _ ⟨h, g, d, t, os⟩ "classmethod_descriptor.__get__" "classmethod_descriptor" "__get__" (.builtin "object.__init_subclass__") [.none, .ref C] [] _ (by decide +kernel) (by decide +kernel) ((Looks.of_pure SI.type_is).andThen (Looks.of_pure SI.sub_c)) (SI.args_get _ _ _) ?_
  unfold Builtin.«classmethod_descriptor.__get__»
  repeat (any_goals (first | (with_reducible refine ks_wpAny_isType_cls hC hCt ?_) | (with_reducible refine Looks.at hsub ?_) | (with_reducible exact hq) | (first | with_reducible (first | refine PySem.wpAny_pure ?_ | refine PySem.wpAny_bind ?_ | refine PySem.wpAny_holding ?_ | refine PySem.wpAny_standAt ?_ | refine PySem.wpAny_point ?_ | refine PySem.wpAny_rule ?_ | refine PySem.wpAny_letGo ?_ | refine PySem.wpAny_mkInt' ?_ | refine PySem.wpAny_fresh' ?_ | refine PySem.wpAny_alloc' ?_ | refine PySem.wpAny_attempt ?_ | refine PySem.wpAny_throw ?_ | refine PySem.wpAny_of_eq (by assumption) ?_ | refine PySem.wpAny_typeOf (by assumption) ?_ | refine PySem.wpAny_specialOf_val (by assumption) (by assumption) ?_ | refine PySem.wpAny_specialOf (by assumption) (by assumption) ?_ | refine PySem.wpAny_isInstance_val (by assumption) (by assumption) ?_ | refine PySem.wpAny_isInstance (by assumption) (by assumption) ?_ | refine PySem.wpAny_call ?_ | refine PySem.wpAny_runValue ?_ | refine PySem.wpAny_run ?_) | ((with_reducible refine' PySem.wpAny_mkStr' ?_ ?hx); (case hx => size_fits)) | ((with_reducible refine' PySem.wpAny_load' ?ho ?_); (case ho => heap_get)) | ((with_reducible refine' PySem.wpAny_update' ?ho ?_); (case ho => heap_get)) | ((with_reducible refine' PySem.wpAny_loadPart' ?ho ?_); (case ho => heap_get)) | ((with_reducible refine' PySem.wpAny_updatePart' ?ho ?_); (case ho => heap_get)) | ((with_reducible refine' PySem.wpAny_handled_none ?ho ?_); (case ho => assumption)) | ((with_reducible refine' PySem.wpAny_ite_false ?ho ?_); (case ho => rfl)) | ((with_reducible refine' PySem.wpAny_ite_true ?ho ?_); (case ho => rfl)) | ((with_reducible refine' PySem.wpAny_ite_false ?ho ?_); (case ho => (simp [*]; done))) | ((with_reducible refine' PySem.wpAny_ite_true ?ho ?_); (case ho => (simp [*]; done))) | wp_delta | with_reducible_and_instances refine PySem.wpAny_pure ?_ | with_reducible_and_instances refine PySem.wpAny_bind ?_) | (rw [hown])))
theorem is_ga {tk : Tok} {oC : Obj} {cd : ClassData} {Q : Fin → Shared → Prop} (hC : h.get? C = some oC) (hCt : oC.data = .cls cd) (hsub : Looks (model prog w) h (isSubtype (.ref C) (.type "object")) true)
    (hso : h.get? so = some { cls := .type "super", dict := none, data := .fields #[.ref C, .ref C, .ref C], slots := #[] }) (hno : Looks (model prog w) h (opaqueClassAbove (.ref C)) none)
    (hM : Looks (model prog w) h (mroOf (.ref C)) [.ref C, .type "object"]) 
    (hq : Q (.done (.ret (.ref h.objs.size))) ⟨h.push (isObj C), g, d, t, os⟩) :
    wpAny (model prog w) A (Builtin.«super.__getattribute__» ⟨[.ref so, .str "__init_subclass__" tk], []⟩) Q E ⟨h, g, d, t, os⟩ := by
  have hlk := SI.lookup_get
  have ht := SI.type_is
  have hdt : ({ cls := .type "super", dict := none, data := .fields #[.ref C, .ref C, .ref C], slots := #[] } : Obj).data = .fields #[.ref C, .ref C, .ref C] := rfl
  have f0 : (#[.ref C, .ref C, .ref C] : Array Value)[0]? = some (.ref C) := rfl
  have f1 : (#[.ref C, .ref C, .ref C] : Array Value)[1]? = some (.ref C) := rfl
  have f2 : (#[.ref C, .ref C, .ref C] : Array Value)[2]? = some (.ref C) := rfl
  have hdr : ((([.ref C, .type "object"] : List Value).dropWhile (· != .ref C)).drop 1) = [.type "object"] := by simp
  unfold Builtin.«super.__getattribute__»
  repeat (first
    | (with_reducible refine wpAny_field hso hdt f0 ?_) | (with_reducible refine wpAny_field hso hdt f1 ?_) | (with_reducible refine wpAny_field hso hdt f2 ?_)
    | (with_reducible refine ks_wpAny_notOpaque hno ?_)
    | (with_reducible refine Looks.at hM ?_; rw [hdr])
    | (with_reducible refine wpAny_of_eq ht ?_)
    | (with_reducible refine wpAny_of_eq hlk ?_)
    | (with_reducible refine is_get hC hCt hsub ?_)
    | (with_reducible refine ⟨_, rfl, ?_⟩)
    | (simp only [SI.own, beq_self_eq_true, if_true])
    | (first | with_reducible (first | refine PySem.wpAny_pure ?_ | refine PySem.wpAny_bind ?_ | refine PySem.wpAny_holding ?_ | refine PySem.wpAny_standAt ?_ | refine PySem.wpAny_point ?_ | refine PySem.wpAny_rule ?_ | refine PySem.wpAny_letGo ?_ | refine PySem.wpAny_mkInt' ?_ | refine PySem.wpAny_fresh' ?_ | refine PySem.wpAny_alloc' ?_ | refine PySem.wpAny_attempt ?_ | refine PySem.wpAny_throw ?_ | refine PySem.wpAny_of_eq (by assumption) ?_ | refine PySem.wpAny_typeOf (by assumption) ?_ | refine PySem.wpAny_specialOf_val (by assumption) (by assumption) ?_ | refine PySem.wpAny_specialOf (by assumption) (by assumption) ?_ | refine PySem.wpAny_isInstance_val (by assumption) (by assumption) ?_ | refine PySem.wpAny_isInstance (by assumption) (by assumption) ?_ | refine PySem.wpAny_call ?_ | refine PySem.wpAny_runValue ?_ | refine PySem.wpAny_run ?_) | ((with_reducible refine' PySem.wpAny_mkStr' ?_ ?hx); (case hx => size_fits)) | ((with_reducible refine' PySem.wpAny_load' ?ho ?_); (case ho => heap_get)) | ((with_reducible refine' PySem.wpAny_update' ?ho ?_); (case ho => heap_get)) | ((with_reducible refine' PySem.wpAny_loadPart' ?ho ?_); (case ho => heap_get)) | ((with_reducible refine' PySem.wpAny_updatePart' ?ho ?_); (case ho => heap_get)) | ((with_reducible refine' PySem.wpAny_handled_none ?ho ?_); (case ho => assumption)) | ((with_reducible refine' PySem.wpAny_ite_false ?ho ?_); (case ho => rfl)) | ((with_reducible refine' PySem.wpAny_ite_true ?ho ?_); (case ho => rfl)) | ((with_reducible refine' PySem.wpAny_ite_false ?ho ?_); (case ho => (simp [*]; done))) | ((with_reducible refine' PySem.wpAny_ite_true ?ho ?_); (case ho => (simp [*]; done))) | wp_delta | with_reducible_and_instances refine PySem.wpAny_pure ?_ | with_reducible_and_instances refine PySem.wpAny_bind ?_))
  all_goals exact hq
theorem is_attr {Q : Value → Shared → Prop} {oC : Obj} {cd : ClassData} {ex : Bool} (hC : h.get? C = some oC) (hCt : oC.data = .cls cd) (hsub : Looks (model prog w) h (isSubtype (.ref C) (.type "object")) true)
    (hso : h.get? so = some { cls := .type "super", dict := none, data := .fields #[.ref C, .ref C, .ref C], slots := #[] }) (hno : Looks (model prog w) h (opaqueClassAbove (.ref C)) none)
    (hM : Looks (model prog w) h (mroOf (.ref C)) [.ref C, .type "object"]) 
    (hq : Q (.ref h.objs.size) ⟨h.push (isObj C), g, d, t + 1, os⟩) :
    wpAny (model prog w) A (getAttr (.ref so) "__init_subclass__" ex) Q E ⟨h, g, d, t, os⟩ := by
  have hlk := F.ks_slot_super_ga.lookup
  have hT : ∀ t', (⟨h, g, d, t', os⟩ : Shared).TypeIs (.ref so) "super" := fun _ => ⟨_, hso, rfl⟩
  unfold getAttr getAttrBy
  refine wpAny_bind (wpAny_mkText (wpAny_holding (wpAny_bind (wpAny_typeOf (hT _) (wpAny_bind (wpAny_of_eq hlk ?_))))))
  show wpAny _ _ (getAttrByItsOwn (.ref so) (.str "__init_subclass__" t) (.type "super") (.builtin "super.__getattribute__") true _) _ _ _
  unfold getAttrByItsOwn hookBefore callGetattribute boundAndCalled
  refine wpAny_bind (wpAny_of_eq (show (if onTheHeap (.type "super") then typeLookup (.type "super") "__getattr__" else pure none) = pure none from rfl) ?_)
  refine wpAny_bind (wpAny_attempt (wpAny_holding ?_))
  rw [show (ex && onTheHeap (Value.builtin "super.__getattribute__")) = false from Bool.and_false _, if_neg (by decide)]
  show wpAny _ _ (bindSpecial (.builtin "super.__getattribute__") (.ref so) >>= _) _ _ _
  refine wpAny_bind (wpAny_of_eq (F.ks_slot_super_ga.bind _) ?_)
  refine wpAny_mono (Q := fun v s' => v = .ref h.objs.size ∧ s' = ⟨h.push (isObj C), g, d, t + 1, os⟩) (E := fun _ _ => False)
    (wpAny_call_entry F.ks_slot_super_ga (hT _) F.ks_entry_super_ga (is_ga hC hCt hsub hso hno hM ⟨_, rfl, rfl, rfl⟩) (F.ks_gaArgs_super _ _)) (fun v s' hv => ?_) fun _ _ z => z.elim
  obtain ⟨rfl, rfl⟩ := hv
  exact wpAny_pure hq
theorem is_quiet {as : Args} : (Code.builtin "object.__init_subclass__" as).quiet = true := Code.quiet_builtin _ (by decide +kernel)
theorem is_call {Q : Value → Shared → Prop} {oC : Obj} {cd : ClassData} (hC : h.get? C = some oC) (hCt : oC.data = .cls cd) (hty : oC.cls = .type "type") (hqn : cd.qualname = "cmp_to_key.<locals>.K") (hb : h.get? q = some (isObj C)) 
    (hq : Q .none ⟨h, g, d, t, os⟩) :
    wpAny (model prog w) A (call (.ref q) []) Q E ⟨h, g, d, t, os⟩ := by
  refine wpAny_call (codeAny_of_tree ?_)
  show wpAny _ A.in1 (callAny (.ref q) ⟨[], []⟩) _ _ _
  simp only [callAny]
  refine wpAny_bind (wpAny_load hb ?_)
  simp only [show (Value.type "builtin_function_or_method" == Value.type "method" || Value.type "builtin_function_or_method" == Value.type "builtin_function_or_method" || Value.type "builtin_function_or_method" == Value.type "method-wrapper") = true by decide, if_true]
  show wpAny _ _ (if (Value.type "builtin_function_or_method" != Value.type "method") = true then _ else _) _ _ _
  rw [if_pos (by decide)]
  refine wpAny_bind ?_
  have hm : isSubtype (.type "type") (.type "module") = pure false := by rw [isSubtype_type]; kernel_rfl
  obtain ⟨oc, dd, dt, sl⟩ := oC
  dsimp only at hCt hty
  subst hCt hty
  have hck : ∀ (x : String), x = "cmp_to_key.<locals>.K.__init_subclass__" → Bind.checkArgs "object.__init_subclass__" { machinery := .noArgs, full := x, short := "__init_subclass__", receiver := .cls, params := [] } ⟨[.ref C], []⟩ = pure () := fun x hx => by subst hx; kernel_rfl
  unfold checkBoundCall
  repeat (first | (with_reducible refine ks_wpAny_isType_cls hC rfl ?_) | (with_reducible refine wpAny_of_eq hm ?_) | ((with_reducible refine wpAny_of_eq (hck _ ?hx) ?_); (case hx => rw [hqn]; decide +kernel)) | (first | with_reducible (first | refine PySem.wpAny_pure ?_ | refine PySem.wpAny_bind ?_ | refine PySem.wpAny_holding ?_ | refine PySem.wpAny_standAt ?_ | refine PySem.wpAny_point ?_ | refine PySem.wpAny_rule ?_ | refine PySem.wpAny_letGo ?_ | refine PySem.wpAny_mkInt' ?_ | refine PySem.wpAny_fresh' ?_ | refine PySem.wpAny_alloc' ?_ | refine PySem.wpAny_attempt ?_ | refine PySem.wpAny_throw ?_ | refine PySem.wpAny_of_eq (by assumption) ?_ | refine PySem.wpAny_typeOf (by assumption) ?_ | refine PySem.wpAny_specialOf_val (by assumption) (by assumption) ?_ | refine PySem.wpAny_specialOf (by assumption) (by assumption) ?_ | refine PySem.wpAny_isInstance_val (by assumption) (by assumption) ?_ | refine PySem.wpAny_isInstance (by assumption) (by assumption) ?_ | refine PySem.wpAny_call ?_ | refine PySem.wpAny_runValue ?_ | refine PySem.wpAny_run ?_) | ((with_reducible refine' PySem.wpAny_mkStr' ?_ ?hx); (case hx => size_fits)) | ((with_reducible refine' PySem.wpAny_load' ?ho ?_); (case ho => heap_get)) | ((with_reducible refine' PySem.wpAny_update' ?ho ?_); (case ho => heap_get)) | ((with_reducible refine' PySem.wpAny_loadPart' ?ho ?_); (case ho => heap_get)) | ((with_reducible refine' PySem.wpAny_updatePart' ?ho ?_); (case ho => heap_get)) | ((with_reducible refine' PySem.wpAny_handled_none ?ho ?_); (case ho => assumption)) | ((with_reducible refine' PySem.wpAny_ite_false ?ho ?_); (case ho => rfl)) | ((with_reducible refine' PySem.wpAny_ite_true ?ho ?_); (case ho => rfl)) | ((with_reducible refine' PySem.wpAny_ite_false ?ho ?_); (case ho => (simp [*]; done))) | ((with_reducible refine' PySem.wpAny_ite_true ?ho ?_); (case ho => (simp [*]; done))) | wp_delta | with_reducible_and_instances refine PySem.wpAny_pure ?_ | with_reducible_and_instances refine PySem.wpAny_bind ?_))
  refine ⟨is_quiet, codeAny_builtin SI.entry_is ?_⟩
  exact wpAny_pure hq
end
end Mine
end
section
open PySem PySem.W PyProof.Rows PySem.Calls
set_option Elab.async false
set_option maxRecDepth 100000
set_option maxHeartbeats 8000000
set_option linter.unusedVariables false
namespace Mine
section
variable {prog : Program} {w : World} {A : Around} {E : Value → Shared → Prop} {h₀ h : Heap} {L : Addr} {m : Str → Option Value} {news : List (Addr × Obj)} {g : Array GenState} {d : Drawn} {t : Nat} {os : OsState}
theorem W_load {a : Addr} {o : Obj} {part : Option Value} {Q : Obj → Shared → Prop} (N : News h₀ L h news) (hm : (a, o) ∈ news) (hq : Q o ⟨h, g, d, t, os⟩) : wpAny (model prog w) A (loadPart a part) Q E ⟨h, g, d, t, os⟩ :=
  wpAny_loadPart (N _ hm).1 hq
theorem W_ld {a : Addr} {o : Obj} {Q : Obj → Shared → Prop} (N : News h₀ L h news) (hm : (a, o) ∈ news) (hq : Q o ⟨h, g, d, t, os⟩) : wpAny (model prog w) A (load a) Q E ⟨h, g, d, t, os⟩ :=
  wpAny_load (N _ hm).1 hq
theorem W_alloc {o : Obj} {Q : Addr → Shared → Prop} (F : Fr h₀ L h m) (N : News h₀ L h news) (hf : o.isFreed = false) (hq : ∀ a h', Fr h₀ L h' m → News h₀ L h' ((a, o) :: news) → (∀ p ∈ news, p.1 < a) → Q a ⟨h', g, d, t, os⟩) : wpAny (model prog w) A (alloc o) Q E ⟨h, g, d, t, os⟩ :=
  wpAny_alloc (hq _ _ (F.push o) (N.push F o hf) (fun p hp => Heap.lt_size (N p hp).1))
theorem W_upd {a : Addr} {o : Obj} {part : Option Value} {f : Obj → Obj} {gg : Obj → List (Addr × Obj)} {Q : Unit → Shared → Prop} (F : Fr h₀ L h m) (N : News h₀ L h news) (U : UpdF a o news gg) (hf : (f o).isFreed = false)
    (hq : ∀ h', Fr h₀ L h' m → News h₀ L h' (gg (f o)) → Q () ⟨h', g, d, t, os⟩) : wpAny (model prog w) A (updatePart a part f) Q E ⟨h, g, d, t, os⟩ := by
  obtain ⟨pre, post, rfl, hg, h1, h2⟩ := U.split
  have U2 := news_upd (f := f) F N h1 h2 rfl hf
  refine wpAny_updatePart (N (a, o) (by simp)).1 (hq _ U2.1 ?_)
  rw [hg]; exact U2.2
theorem W_mkStr {x : Str} {Q : Value → Shared → Prop} (hx : x.length ≤ sizeLine) (hq : Q (.str x t) ⟨h, g, d, t + 1, os⟩) : wpAny (model prog w) A (mkStr x) Q E ⟨h, g, d, t, os⟩ := wpAny_mkStr hq hx
theorem updF_mem {a : Addr} {o : Obj} {l : List (Addr × Obj)} {g : Obj → List (Addr × Obj)} (U : UpdF a o l g) : (a, o) ∈ l := by
  obtain ⟨pre, post, e, _⟩ := U.split
  rw [e]; simp
theorem W_nsDel {ns : Addr} {name : Str} {es es' : List DictEntry} {n n' : Nat} {gg : Obj → List (Addr × Obj)} {Q : Bool → Shared → Prop} (F : Fr h₀ L h m) (N : News h₀ L h news) (U : UpdF ns (dictOf es n) news gg) (hl : nsHas name (dictOf es n) = pure true)
    (e : Obj.dropName name (dictOf es n) = dictOf es' n') (hq : ∀ h', Fr h₀ L h' m → News h₀ L h' (gg (dictOf es' n')) → Q true ⟨h', g, d, t, os⟩) : wpAny (model prog w) A (nsDel ns name) Q E ⟨h, g, d, t, os⟩ := by
  unfold nsDel
  refine wpAny_bind (W_load N (updF_mem U) ?_)
  refine wpAny_bind ?_
  rw [hl]
  refine wpAny_pure ?_
  rw [if_pos rfl]
  refine wpAny_bind (W_upd F N U (by rw [e]; rfl) fun h' F' N' => wpAny_pure ?_)
  rw [e] at N'
  exact hq h' F' N'
theorem W_setSlot {a : Addr} {i : Nat} {v : Option Value} {o o' : Obj} {gg : Obj → List (Addr × Obj)} {Q : Unit → Shared → Prop} (F : Fr h₀ L h m) (N : News h₀ L h news) (U : UpdF a o news gg) (hi : i < 1000) (hf : o'.isFreed = false)
    (e : { o with slots := (o.slots ++ Array.replicate (i + 1 - o.slots.size) none).setIfInBounds i v } = o') (hq : ∀ h', Fr h₀ L h' m → News h₀ L h' (gg o') → Q () ⟨h', g, d, t, os⟩) : wpAny (model prog w) A (setSlotAt a i v) Q E ⟨h, g, d, t, os⟩ := by
  subst e
  unfold setSlotAt
  have : ¬ i ≥ sizeLine := by rw [sizeLine_eq]; omega
  rw [if_neg this]
  exact W_upd F N U hf hq
theorem W_updCls {a : Addr} {c : Value} {dd : Option Addr} {sl : Array (Option Value)} {cd cd' : ClassData} {f : ClassData → ClassData} {gg : Obj → List (Addr × Obj)} {Q : Unit → Shared → Prop} (F : Fr h₀ L h m) (N : News h₀ L h news) (U : UpdF a ⟨c, dd, .cls cd, sl⟩ news gg)
    (e : f cd = cd') (hp : (Data.cls cd').pastItsLine = none) (hq : ∀ h', Fr h₀ L h' m → News h₀ L h' (gg ⟨c, dd, .cls cd', sl⟩) → Q () ⟨h', g, d, t, os⟩) : wpAny (model prog w) A (updateCls a f) Q E ⟨h, g, d, t, os⟩ := by
  subst e
  unfold updateCls
  refine wpAny_bind (W_ld N (updF_mem U) ?_)
  dsimp only
  obtain ⟨pre, post, rfl, hg, h1, h2⟩ := U.split
  have U2 := news_upd (f := Obj.mapCls f) F N h1 h2 rfl rfl
  refine wpAny_bind (wpAny_update (N (a, ⟨c, dd, .cls cd, sl⟩) (by simp)).1 ?_)
  have D := (U2.2 (a, ⟨c, dd, .cls (f cd), sl⟩) (by simp [Obj.mapCls])).1
  refine wpAny_lookBehind D hp ?_
  refine hq _ U2.1 ?_
  rw [hg]; exact U2.2
theorem W_seq {a : Addr} {c : Value} {dd : Option Addr} {sl : Array (Option Value)} {xs : Array Value} {n : Nat} {Q : Option (Array Value) → Shared → Prop} (N : News h₀ L h news) (hm : (a, (⟨c, dd, .seq xs n, sl⟩ : Obj)) ∈ news) (hq : Q (some xs) ⟨h, g, d, t, os⟩) : wpAny (model prog w) A (seqItems? (.ref a)) Q E ⟨h, g, d, t, os⟩ := by
  unfold seqItems?
  exact wpAny_bind (W_ld N hm (wpAny_pure hq))
theorem W_nsGet {ns : Addr} {name : Str} {es : List DictEntry} {n : Nat} {r : Option Value} {Q : Option Value → Shared → Prop} (N : News h₀ L h news) (hm : (ns, dictOf es n) ∈ news) (e : getL name es = some r) (hq : Q r ⟨h, g, d, t, os⟩) : wpAny (model prog w) A (nsGet ns name) Q E ⟨h, g, d, t, os⟩ := by
  refine wpAny_bind (wpAny_loadPart (N _ hm).1 ?_)
  rw [nsLook_of (r := r) (by rw [lookIn_dict]; exact e)]
  exact wpAny_pure hq
theorem W_lookup0 {C ns : Addr} {tc : Value} {dd : Option Addr} {sl : Array (Option Value)} {cd : ClassData} {name : Str} {es : List DictEntry} {n : Nat} {r : Option Value} {Q : Option Value → Shared → Prop} (N : News h₀ L h news) (h1 : (C, (⟨tc, dd, .cls cd, sl⟩ : Obj)) ∈ news) (hm : cd.mro = [.ref C, .type "object"]) (hn : cd.ns = ns) (h2 : (ns, dictOf es n) ∈ news)
    (e : getL name es = some none) (ho : builtinOwn "object" name = r) (hq : Q r ⟨h, g, d, t, os⟩) : wpAny (model prog w) A (typeLookup (.ref C) name) Q E ⟨h, g, d, t, os⟩ := by
  subst ho
  rw [typeLookup_eq]
  refine wpAny_bind (wpAny_bind (wpAny_bind (W_ld N h1 (wpAny_pure (wpAny_pure ?_)))))
  rw [hm, lookupAlong_cons]
  refine wpAny_bind (wpAny_bind (wpAny_bind (W_ld N h1 (wpAny_pure ?_))))
  rw [hn]
  refine W_nsGet N h2 e ?_
  dsimp only
  rw [lookupAlong_cons]
  refine wpAny_bind (wpAny_pure ?_)
  cases ho : builtinOwn "object" name with
  | some v => rw [ho] at hq; exact wpAny_pure hq
  | none => rw [ho] at hq; exact wpAny_pure hq
theorem W_lookup1 {C ns : Addr} {tc : Value} {dd : Option Addr} {sl : Array (Option Value)} {cd : ClassData} {name : Str} {es : List DictEntry} {n : Nat} {v : Value} {Q : Option Value → Shared → Prop} (N : News h₀ L h news) (h1 : (C, (⟨tc, dd, .cls cd, sl⟩ : Obj)) ∈ news) (hm : cd.mro = [.ref C, .type "object"]) (hn : cd.ns = ns) (h2 : (ns, dictOf es n) ∈ news)
    (e : getL name es = some (some v)) (hq : Q (some v) ⟨h, g, d, t, os⟩) : wpAny (model prog w) A (typeLookup (.ref C) name) Q E ⟨h, g, d, t, os⟩ := by
  rw [typeLookup_eq]
  refine wpAny_bind (wpAny_bind (wpAny_bind (W_ld N h1 (wpAny_pure (wpAny_pure ?_)))))
  rw [hm, lookupAlong_cons]
  refine wpAny_bind (wpAny_bind (wpAny_bind (W_ld N h1 (wpAny_pure ?_))))
  rw [hn]
  refine W_nsGet N h2 e ?_
  exact wpAny_pure hq
theorem W_nsSet {ns : Addr} {name : Str} {v : Value} {es es' : List DictEntry} {n n' : Nat} {gg : Obj → List (Addr × Obj)} {Q : Unit → Shared → Prop} (F : Fr h₀ L h m) (N : News h₀ L h news) (U : UpdF ns (dictOf es n) news gg) (hl : (getL name es).isSome = true)
    (e : (putL name (PyData.keyHash w.params name) (.str name t) v es, putN name es n) = (es', n')) (hq : ∀ h', Fr h₀ L h' m → News h₀ L h' (gg (dictOf es' n')) → Q () ⟨h', g, d, t + 1, os⟩) : wpAny (model prog w) A (nsSet ns name v) Q E ⟨h, g, d, t, os⟩ := by
  obtain ⟨rfl, rfl⟩ := Prod.mk.inj e
  unfold nsSet
  refine wpAny_bind (wpAny_bind (wpAny_askSetting (wpAny_pure (wpAny_bind (wpAny_mkText (wpAny_bind ?_))))))
  refine W_load N (updF_mem U) ?_
  dsimp only
  have c : (!(es.toArray).any (·.key.isStr name) && es.toArray.any (·.refKey)) = false := by
    rw [← Array.any_toList, ← Array.any_toList]
    unfold getL at hl
    split at hl
    · rename_i en he
      rw [List.any_eq_true.mpr ⟨en, List.mem_of_find?_eq_some he, List.find?_some he⟩]; rfl
    · split at hl
      · cases hl
      · rename_i z; rw [Bool.not_eq_true] at z; rw [z, Bool.and_false]
  rw [aRefKeyMayBeTheName_at, c]
  refine W_upd F N U ?_ fun h' F' N' => ?_
  · rw [putName_dict]; rfl
  · rw [putName_dict] at N'; exact hq h' F' N'
end
namespace TF
theorem s_tt : isSubtype (.type "tuple") (.type "tuple") = pure true := by rw [isSubtype_type]; kernel_rfl
theorem s_dd : isSubtype (.type "dict") (.type "dict") = pure true := by rw [isSubtype_type]; kernel_rfl
theorem s_yy : isSubtype (.type "type") (.type "type") = pure true := by rw [isSubtype_type]; kernel_rfl
theorem s_oo : isSubtype (.type "object") (.type "object") = pure true := by rw [isSubtype_type]; kernel_rfl
theorem l_iter : typeLookup (.type "dict") "__iter__" = pure (some (.builtin "dict.__iter__")) := by rw [typeLookup_type, builtinLookup_eq_fast]; kernel_rfl
theorem t_obj : typeOf (.type "object") = pure (.type "type") := by kernel_rfl
theorem eb : Builtin.extendedBase [.type "object"] = pure (.type "object") := by kernel_rfl
theorem gw : Builtin.Slots.givesWeak (.type "object") = pure false := by kernel_rfl
theorem gd : Builtin.Slots.givesDict (.type "object") = pure false := by kernel_rfl
theorem vsz : Builtin.Slots.varSize (.type "object") = pure false := by kernel_rfl
theorem bb : Builtin.Slots.bestBase [.type "object"] = pure (.type "object") := by kernel_rfl
theorem sn : Builtin.Slots.slotNamesOf (.type "object") = pure [] := by kernel_rfl
theorem mh : Builtin.mroHook? (.type "type") = pure none := by kernel_rfl
theorem lz : Builtin.linearize [.type "object"] mroOf = pure [.type "object"] := by kernel_rfl
theorem mb : Bind.madeBy (.type "object") = pure (some "object.__new__") := by kernel_rfl
theorem nt : Builtin.notOverATurnedClass [.type "object"] = pure () := by kernel_rfl
theorem on : builtinOwn "object" "__new__" = some (.builtin "object.__new__") := by rw [builtinOwn_eq_fast]; kernel_rfl
theorem sn0 : typeLookup (.type "str") "__set_name__" = pure none := by rw [typeLookup_type, builtinLookup_eq_fast]; kernel_rfl
theorem sn1 : typeLookup (.type "int") "__set_name__" = pure none := by rw [typeLookup_type, builtinLookup_eq_fast]; kernel_rfl
theorem sn2 : typeLookup (.type "list") "__set_name__" = pure none := by rw [typeLookup_type, builtinLookup_eq_fast]; kernel_rfl
theorem sn3 : typeLookup (.type "function") "__set_name__" = pure none := by rw [typeLookup_type, builtinLookup_eq_fast]; kernel_rfl
theorem sn4 : typeLookup (.type "NoneType") "__set_name__" = pure none := by rw [typeLookup_type, builtinLookup_eq_fast]; kernel_rfl
theorem sn5 : typeLookup (.type "tuple") "__set_name__" = pure none := by rw [typeLookup_type, builtinLookup_eq_fast]; kernel_rfl
theorem sn6 : typeLookup (.type "member_descriptor") "__set_name__" = pure none := by rw [typeLookup_type, builtinLookup_eq_fast]; kernel_rfl
theorem flt (a : Addr) : List.filter (fun x => x != Value.ref a) [Value.ref a, Value.type "object"] = [Value.type "object"] := by simp
theorem i1 : Builtin.Slots.isIdentifier "obj" = some true := by kernel_rfl
theorem i2 : Builtin.Slots.mangle "K" "obj" = ("obj" : Str) := by kernel_rfl
end TF
noncomputable abbrev fO (fd : FuncData) : Obj := { cls := .type "function", data := .func fd }
section
variable {prog : Program} {w : World} {A : Around} {E : Value → Shared → Prop} {h₀ h : Heap} {L : Addr} {m : Str → Option Value} {news : List (Addr × Obj)} {g : Array GenState} {d : Drawn} {t : Nat} {os : OsState} 
  {nsA T SL ST f1 f2 f3 f4 f5 f6 : Addr} {fd1 fd2 fd3 fd4 fd5 fd6 : FuncData} {hs : Nat → Int} {ts : Nat → Tok} {nt : Tok} {K : Frag}
structure KE where
  hs : Nat → Int
  ts : Nat → Tok
  SL : Addr
  ST : Addr
  f1 : Addr
  f2 : Addr
  f3 : Addr
  f4 : Addr
  f5 : Addr
  f6 : Addr
noncomputable def KE.a (k : KE) : List DictEntry := [⟨k.hs 0, .str "__module__" (k.ts 0), .str "cpy313.functools" (k.ts 1)⟩, ⟨k.hs 1, .str "__qualname__" (k.ts 2), .str "cmp_to_key.<locals>.K" (k.ts 3)⟩, ⟨k.hs 2, .str "__firstlineno__" (k.ts 4), .int 43 (k.ts 5)⟩, ⟨k.hs 3, .str "__slots__" (k.ts 6), .ref k.SL⟩,
      ⟨k.hs 4, .str "__init__" (k.ts 7), .ref k.f1⟩, ⟨k.hs 5, .str "__lt__" (k.ts 8), .ref k.f2⟩, ⟨k.hs 6, .str "__gt__" (k.ts 9), .ref k.f3⟩, ⟨k.hs 7, .str "__eq__" (k.ts 10), .ref k.f4⟩, ⟨k.hs 8, .str "__le__" (k.ts 11), .ref k.f5⟩, ⟨k.hs 9, .str "__ge__" (k.ts 12), .ref k.f6⟩, ⟨k.hs 10, .str "__hash__" (k.ts 13), .none⟩, ⟨k.hs 11, .str "__static_attributes__" (k.ts 14), .ref k.ST⟩]
noncomputable def KE.b (k : KE) : List DictEntry := [⟨k.hs 0, .str "__module__" (k.ts 0), .str "cpy313.functools" (k.ts 1)⟩, ⟨k.hs 2, .str "__firstlineno__" (k.ts 4), .int 43 (k.ts 5)⟩, ⟨k.hs 3, .str "__slots__" (k.ts 6), .ref k.SL⟩,
      ⟨k.hs 4, .str "__init__" (k.ts 7), .ref k.f1⟩, ⟨k.hs 5, .str "__lt__" (k.ts 8), .ref k.f2⟩, ⟨k.hs 6, .str "__gt__" (k.ts 9), .ref k.f3⟩, ⟨k.hs 7, .str "__eq__" (k.ts 10), .ref k.f4⟩, ⟨k.hs 8, .str "__le__" (k.ts 11), .ref k.f5⟩, ⟨k.hs 9, .str "__ge__" (k.ts 12), .ref k.f6⟩, ⟨k.hs 10, .str "__hash__" (k.ts 13), .none⟩, ⟨k.hs 11, .str "__static_attributes__" (k.ts 14), .ref k.ST⟩]
noncomputable def KE.c (k : KE) (w : Params) (t : Tok) (me : Addr) : List DictEntry := k.b ++ [⟨PyData.keyHash w "obj", .str "obj" t, .ref me⟩]
noncomputable def KE.dd (k : KE) (w : Params) (t t2 : Tok) (me : Addr) : List DictEntry := k.c w t me ++ [⟨PyData.keyHash w "__doc__", .str "__doc__" t2, .none⟩]
noncomputable abbrev clsK (ns : Addr) (mro : List Value) (hd : Bool) (sn : List Str) (sl : Array (Option Value)) : Obj := { cls := .type "type", data := .cls { name := "K", bases := [.type "object"], mro := mro, ns := ns, qualname := "cmp_to_key.<locals>.K", hasDict := hd, slotNames := sn }, slots := sl }
noncomputable abbrev memO (C : Addr) (t : Tok) : Obj := { cls := .type "member_descriptor", data := .fields #[.str "obj" t, .ref C, .builtin "proto.slot", .builtin "proto.slot#set", rawInt 0] }
noncomputable abbrev clsF (C ns T : Addr) (nt q3 : Tok) : Obj := clsK ns [.ref C, .type "object"] false ["obj"] #[some (.ref T), none, some (.str "K" nt), some (.str "cmp_to_key.<locals>.K" q3), some (.builtin "object.__new__"), some (.bool false)]
variable (k : KE)
theorem k_find : k.a.toArray.find? (·.key.isStr "__slots__") = some ⟨k.hs 3, .str "__slots__" (k.ts 6), .ref k.SL⟩ := by kernel_rfl
theorem k_any1 : k.a.toArray.any (·.key.isStr "obj") = false := by kernel_rfl
theorem k_any2 : k.a.toArray.any (·.key.isStr "__module__") = true := by kernel_rfl
theorem k_any3 : k.a.toArray.any (·.key.isStr "__del__") = false := by kernel_rfl
theorem k_emp : k.a.toArray.isEmpty = false := by kernel_rfl
theorem k_siz : k.a.toArray.size = 12 := by kernel_rfl
theorem k_g1 : getL "__qualname__" k.a = some (some (.str "cmp_to_key.<locals>.K" (k.ts 3))) := by kernel_rfl
theorem k_g2 : getL "__doc__" k.a = some none := by kernel_rfl
theorem k_g3 : getL "__new__" k.b = some none := by kernel_rfl
theorem k_g4 : getL "__init_subclass__" k.b = some none := by kernel_rfl
theorem k_g5 : getL "__class_getitem__" k.b = some none := by kernel_rfl
theorem k_g6 : getL "__classcell__" k.b = some none := by kernel_rfl
theorem k_g7 : getL "__classdictcell__" k.b = some none := by kernel_rfl
theorem k_g8 : getL "obj" k.b = some none := by kernel_rfl
theorem k_has : nsHas "__qualname__" (dictOf k.a n) = pure true := by kernel_rfl
theorem k_drop : Obj.dropName "__qualname__" (dictOf k.a n) = dictOf k.b (n + 1) := by kernel_rfl
local macro_rules | `(tactic| k_mem) => `(tactic| assumption)
theorem W_try {α : Type} {m' : Sem α} {kk : Value → Sem α} {Q : α → Shared → Prop} {s : Shared} (hq : wpAny (model prog w) A m' Q (fun e s' => wpAny (model prog w) A (kk e) Q E s') s) : wpAny (model prog w) A (Sem.tryCatch m' kk) Q E s := wpAny_tryCatch hq
theorem W_forL {α β : Type} {b : β} {f : α → β → Sem (ForInStep β)} {s : Shared} : ∀ {l : List α} {Q : β → Shared → Prop} (_ : ∀ e ∈ l, ∀ Q : ForInStep β → Shared → Prop, Q (.yield b) s → wpAny (model prog w) A (f e b) Q E s) (_ : Q b s), wpAny (model prog w) A (forIn l b f) Q E s
  | [], Q, _, hq => by rw [List.forIn_nil]; exact wpAny_pure hq
  | e :: r, Q, hf, hq => by
    rw [List.forIn_cons]
    refine wpAny_bind (hf e (.head _) _ ?_)
    exact W_forL (fun e he => hf e (.tail _ he)) hq
theorem W_forA {α β : Type} {b : β} {f : α → β → Sem (ForInStep β)} {s : Shared} {l : List α} {Q : β → Shared → Prop} (hq : Q b s) (hf : ∀ e ∈ l, ∀ Q : ForInStep β → Shared → Prop, Q (.yield b) s → wpAny (model prog w) A (f e b) Q E s) : wpAny (model prog w) A (forIn l.toArray b f) Q E s := by
  rw [List.forIn_toArray]
  exact W_forL hf hq
theorem W_grow {q : Addr} {o : Obj} {h' : Heap} (F : Fr h₀ L h m) (N : News h₀ L h news) (hq : q = h.objs.size) (ho : h'.get? q = some o) (k : ∀ b o, h.get? b = some o → h'.get? b = some o) : Fr h₀ L h' m ∧ News h₀ L h' ((q, o) :: news) ∧ ∀ p ∈ news, p.1 < q := by
  subst hq
  refine ⟨F.keptAll k, fun p hp => ?_, fun p hp => Heap.lt_size (N p hp).1⟩
  rcases List.mem_cons.mp hp with rfl | hp
  · refine ⟨ho, fun q => ?_, ?_⟩
    · exact absurd F.ns.lt (by rw [← q]; exact Nat.lt_irrefl _)
    · cases z : h₀.get? h.objs.size with
      | none => rfl
      | some o => exact absurd (Heap.lt_size (F.keep _ _ z)) (Nat.lt_irrefl _)
  · exact ⟨k _ _ (N p hp).1, (N p hp).2⟩
theorem mro_of_news {C : Addr} {tc : Value} {dd : Option Addr} {sl : Array (Option Value)} {cd : ClassData} {l : List Value} (N : News h₀ L h news) (h1 : (C, (⟨tc, dd, .cls cd, sl⟩ : Obj)) ∈ news) (hm : cd.mro = l) : Looks (model prog w) h (mroOf (.ref C)) l := by
  subst hm
  exact ((Looks.ld (part := none) (N _ h1).1).andThen .now).andThen .now
theorem sub_of_news {C : Addr} {T : Value} {tc : Value} {dd : Option Addr} {sl : Array (Option Value)} {cd : ClassData} {l : List Value} (N : News h₀ L h news) (h1 : (C, (⟨tc, dd, .cls cd, sl⟩ : Obj)) ∈ news) (hm : cd.mro = l) (hne : l.isEmpty = false) (hT : l.contains T = true) : Looks (model prog w) h (isSubtype (.ref C) T) true := by
  have X : Frag.In [(C, (⟨tc, dd, .cls cd, sl⟩ : Obj))] h := fun a o e => by
    simp only [List.lookup] at e
    split at e
    · rename_i z; cases e; rw [beq_iff_eq.mp z]; exact (N _ h1).1
    · cases e
  refine looks_subIn X ?_
  have hc : clsIn [(C, (⟨tc, dd, .cls cd, sl⟩ : Obj))] C = some cd := by unfold clsIn; simp [List.lookup]
  show mroIn _ _ _ = _
  unfold mroIn
  rw [hc, Option.bind_some, hm, if_neg (by rw [hne]; decide), hT]
theorem W_sup {C : Addr} {tc : Value} {dd : Option Addr} {sl : Array (Option Value)} {cd : ClassData} {Q : Value → Shared → Prop} (F : Fr h₀ L h m) (N : News h₀ L h news) (h1 : (C, (⟨tc, dd, .cls cd, sl⟩ : Obj)) ∈ news) (hm : cd.mro = [.ref C, .type "object"])
    (hq : ∀ so h', Fr h₀ L h' m → News h₀ L h' ((so, ks_superObj C C C) :: news) → (∀ p ∈ news, p.1 < so) → Q (.ref so) ⟨h', g, d, t, os⟩) : wpAny (model prog w) A (call (.type "super") [.ref C, .ref C]) Q E ⟨h, g, d, t, os⟩ := by
  refine call_super_cls (N _ h1).1 rfl (sub_of_news N h1 hm rfl (by simp)) fun h' e k => ?_
  obtain ⟨F', N', l'⟩ := W_grow F N rfl e k
  exact hq _ _ F' N' l'
theorem W_isattr {C so : Addr} {tc : Value} {dd : Option Addr} {sl : Array (Option Value)} {cd : ClassData} {ex : Bool} {K : Frag} {Q : Value → Shared → Prop} (F : Fr h₀ L h m) (N : News h₀ L h news) (X : K.In h₀) (hany : nsIn K cStatics "thirdparty.any" = some none) (h1 : (C, (⟨tc, dd, .cls cd, sl⟩ : Obj)) ∈ news) (hm : cd.mro = [.ref C, .type "object"]) (h2 : (so, ks_superObj C C C) ∈ news)
    (hq : ∀ q h', Fr h₀ L h' m → News h₀ L h' ((q, isObj C) :: news) → (∀ p ∈ news, p.1 < q) → Q (.ref q) ⟨h', g, d, t + 1, os⟩) : wpAny (model prog w) A (getAttr (.ref so) "__init_subclass__" ex) Q E ⟨h, g, d, t, os⟩ := by
  refine is_attr (N _ h1).1 rfl (sub_of_news N h1 hm rfl (by simp)) (N _ h2).1 (looks_opaque (X.keeps F.keep) hany) (mro_of_news N h1 hm) ?_
  obtain ⟨F', N', l'⟩ := W_grow (o := isObj C) F N rfl (Heap.get?_push_at rfl rfl) (fun b o e => Heap.get?_push_of_some _ e)
  exact hq _ _ F' N' l'
theorem W_iscall {C q : Addr} {dd : Option Addr} {sl : Array (Option Value)} {cd : ClassData} {Q : Value → Shared → Prop} (N : News h₀ L h news) (h1 : (C, (⟨.type "type", dd, .cls cd, sl⟩ : Obj)) ∈ news) (hqn : cd.qualname = "cmp_to_key.<locals>.K") (h2 : (q, isObj C) ∈ news)
    (hq : Q .none ⟨h, g, d, t, os⟩) : wpAny (model prog w) A (call (.ref q) []) Q E ⟨h, g, d, t, os⟩ := is_call (N _ h1).1 rfl rfl hqn (N _ h2).1 hq
theorem W_eb {bs : List Value} {Q : Value → Shared → Prop} {s : Shared} (hb : bs = [.type "object"]) (hq : Q (.type "object") s) : wpAny (model prog w) A (Builtin.extendedBase bs) Q E s := by
  subst hb; exact wpAny_of_eq TF.eb hq
theorem W_nt {bs : List Value} {Q : Unit → Shared → Prop} {s : Shared} (hb : bs = [.type "object"]) (hq : Q () s) : wpAny (model prog w) A (Builtin.notOverATurnedClass bs) Q E s := by
  subst hb; exact wpAny_of_eq TF.nt hq
theorem W_lz {bs : List Value} {Q : List Value → Shared → Prop} {s : Shared} (hb : bs = [.type "object"]) (hq : Q [.type "object"] s) : wpAny (model prog w) A (Builtin.linearize bs mroOf) Q E s := by
  subst hb; exact wpAny_of_eq TF.lz hq
theorem W_anyM {f : Value → Sem Bool} {l : List Value} {Q : Bool → Shared → Prop} {s : Shared} (hb : List.anyM f l = pure false) (hq : Q false s) : wpAny (model prog w) A (List.anyM f l) Q E s := wpAny_of_eq hb hq
theorem slots_read {bs : List Value} {es : Array DictEntry} {en : DictEntry} {tk : Tok} {Q : Builtin.Slots.Plan → Shared → Prop} (F : Fr h₀ L h m) (N : News h₀ L h news) (hb : bs = [.type "object"]) (hf : es.find? (·.key.isStr "__slots__") = some en) (hv : en.val = .ref SL) (hany : es.any (·.key.isStr "obj") = false)
    (hSL : (SL, listOf #[.str "obj" tk] 0) ∈ news) (hq : ∀ h', Fr h₀ L h' m → News h₀ L h' news → Q { names := ["obj"], dict := false, weak := false, inherited := [] } ⟨h', g, d, t, os⟩) :
    wpAny (model prog w) A (Builtin.Slots.read "K" bs es) Q E ⟨h, g, d, t, os⟩ := by
  subst hb
  have q2 := TF.gw
  have q3 := TF.gd
  have q4 := TF.vsz
  have q5 := TF.bb
  have q6 := TF.sn
  have g1 : ∀ h, (#[].push ("obj" : Str))[(#[].push ("obj" : Str)).size - 1 - 0]'h = "obj" := fun _ => rfl
  unfold Builtin.Slots.read
  refine wpAny_bind (wpAny_of_eq q5 (wpAny_bind (wpAny_of_eq q6 (wpAny_bind (wpAny_of_eq q3 (wpAny_bind (wpAny_of_eq q2 (wpAny_bind (wpAny_of_eq q4 ?_)))))))))
  rw [hf]
  dsimp only
  rw [hv]
  refine wpAny_bind (wpAny_rule ?_)
  repeat (first | ((with_reducible show wpAny _ _ (collect _) _ _ _); refine wpAny_collect_seq SL (.inl rfl) (N _ hSL).1 rfl rfl (fun h' k' => ?_); replace hq := hq h' (F.keptAll k') (N.grown k'); dsimp only) | (first | with_reducible (first | refine wpAny_pure ?_ | refine wpAny_bind ?_ | refine wpAny_holding ?_ | refine wpAny_standAt ?_ | refine wpAny_point ?_ | refine wpAny_rule ?_ | refine wpAny_letGo ?_ | refine wpAny_mkInt' ?_ | refine wpAny_fresh' ?_ | refine wpAny_attempt ?_ | refine wpAny_throw ?_ | refine wpAny_of_eq (by assumption) ?_ | refine wpAny_call ?_ | refine wpAny_runValue ?_ | refine wpAny_run ?_) | ((with_reducible refine' W_mkStr ?hx ?_); (case hx => size_fits)) | ((with_reducible refine' W_load ?hN ?hm ?_); (case hN => assumption); (case hm => k_mem)) | ((with_reducible refine' W_ld ?hN ?hm ?_); (case hN => assumption); (case hm => k_mem)) | ((with_reducible refine' W_nsGet ?hN ?hm ?he ?_); (case hN => assumption); (case hm => k_mem); (case he => first | assumption | k_get)) | ((with_reducible refine' W_lookup0 ?hN ?h1 ?hm ?hn ?h2 ?he ?ho ?_); (case hN => assumption); (case h1 => k_mem); (case hm => rfl); (case hn => rfl); (case h2 => k_mem); (case he => assumption); (case ho => assumption)) | ((with_reducible refine' W_alloc ?hF ?hN ?hf ?_); (case hF => assumption); (case hN => assumption); (case hf => rfl); intro a' h' F' N' l'; (try k_lt l'); (try simp only [Option.getD_some, List.isEmpty_cons, Bool.false_eq_true, if_false] at N')) | ((with_reducible refine' W_setSlot ?hF ?hN ?hU ?hi ?hf ?he ?_); (case hF => assumption); (case hN => assumption); (case hU => k_updF); (case hi => decide); (case he => k_slotset); (case hf => rfl); intro h' F' N'; (try dsimp only at N')) | ((with_reducible refine' W_updCls ?hF ?hN ?hU ?he ?hp ?_); (case hF => assumption); (case hN => assumption); (case hU => k_updF); (case he => exact rfl); (case hp => rfl); intro h' F' N'; (try dsimp only at N'); (try simp only [k_any3, Bool.or_self] at N')) | ((with_reducible refine' W_nsSet ?hF ?hN ?hU ?hl ?he ?_); (case hF => assumption); (case hN => assumption); (case hU => k_updF); (case hl => k_get); (case he => k_put); intro h' F' N'; (try dsimp only at N')) | ((with_reducible refine' wpAny_ite_false ?hc ?_); (case hc => first | rfl | (simp only [*, Bool.not_true, Bool.not_false, Bool.false_eq_true, decide_false, decide_true]; done) | (decide +kernel))) | ((with_reducible refine' wpAny_ite_true ?hc ?_); (case hc => first | rfl | (simp only [*, Bool.not_true, Bool.not_false, Bool.false_eq_true, decide_false, decide_true]; done) | (decide +kernel))) | wp_delta | with_reducible_and_instances refine wpAny_pure ?_ | with_reducible_and_instances refine wpAny_bind ?_) | (simp only [TF.i1, TF.i2, hany, g1, Bool.false_and]))
  exact hq
theorem type_new {tk tk2 nt : Tok} {Q : Fin → Shared → Prop} (F : Fr h₀ L h m) (X : K.In h₀) (hany : nsIn K cStatics "thirdparty.any" = some none) (hsys : nsA ≠ sysModules)
   (N : News h₀ L h news) (m1 : (nsA, dictOf k.a 12) ∈ news) (m2 : (T, tupO #[.type "object"]) ∈ news) (m3 : (k.SL, listOf #[.str "obj" tk] 0) ∈ news) (m4 : (k.ST, tupO #[.str "obj" tk2]) ∈ news) (m5 : (k.f1, fO fd1) ∈ news) (m6 : (k.f2, fO fd2) ∈ news) (m7 : (k.f3, fO fd3) ∈ news) (m8 : (k.f4, fO fd4) ∈ news) (m9 : (k.f5, fO fd5) ∈ news) (ma : (k.f6, fO fd6) ∈ news)
   (hq : ∀ C ns' me h' tk' t0 t1 t2, Fr h₀ L h' m → News h₀ L h' ((me, memO C t0) :: (C, clsF C ns' T nt (k.ts 3)) :: (ns', dictOf (k.dd w.params t1 t2 me) 3) :: news) → (∀ p ∈ news, p.1 < ns') → ns' < C → C < me → Q (.done (.ret (.ref C))) ⟨h', g, d, tk', os⟩) :
   wpAny (model prog w) A (Builtin.«type.__new__» ⟨[.type "type", .str "K" nt, .ref T, .ref nsA], []⟩) Q E ⟨h, g, d, t, os⟩ := by
  have e1 := TF.s_tt
  have e2 := TF.s_dd
  have e3 := TF.s_yy
  have e4 := TF.t_obj
  have e5 := TF.s_oo
  have q1 := TF.eb
  have q2 := TF.gw
  have q3 := TF.gd
  have q7 := TF.mh
  have q9 := TF.mb
  have e6 := TF.l_iter
  have b1 : (nsA == sysModules) = false := beq_eq_false_iff_ne.mpr hsys
  have a1 := k_emp k
  have a2 := k_any2 k
  have a3 := k_any3 k
  have g1 := k_g1 k
  have g2 := k_g2 k
  have g3 := k_g3 k
  have g4 := k_g4 k
  have g5 := k_g5 k
  have g6 := k_g6 k
  have g7 := k_g7 k
  have g8 := k_g8 k
  have o1 := TF.on
  have u0 := TF.sn0
  have u1 := TF.sn1
  have u2 := TF.sn2
  have u3 := TF.sn3
  have u4 := TF.sn4
  have u5 := TF.sn5
  have u6 := TF.sn6
  unfold Builtin.«type.__new__»
  repeat (first
    | ((with_reducible refine' W_seq ?hN ?hm ?_); (case hN => assumption); (case hm => k_mem))
    | ((with_reducible refine' W_nt ?hb ?_); (case hb => rfl))
    | ((with_reducible refine' W_eb ?hb ?_); (case hb => rfl))
    | ((with_reducible refine' W_lz ?hb ?_); (case hb => rfl))
    | ((with_reducible refine' W_anyM ?hb ?_); (case hb => (rw [TF.flt]; kernel_rfl)))
    | ((with_reducible refine' slots_read ?hF ?hN ?hb (k_find k) rfl (k_any1 k) ?hm ?_); (case hF => assumption); (case hN => assumption); (case hb => rfl); (case hm => k_mem); intro h' F' N')
    | ((with_reducible refine' W_nsDel ?hF ?hN ?hU (k_has k) (k_drop k) ?_); (case hF => assumption); (case hN => assumption); (case hU => k_updF); intro h' F' N'; (try dsimp only at N'))
    | (with_reducible refine W_try ?_)
    | ((with_reducible refine' W_forA ?_ ?hf); (case hf => intro e he Q' hq'; simp only [List.mem_cons, List.not_mem_nil, or_false] at he; (rcases he with rfl | rfl | rfl | rfl | rfl | rfl | rfl | rfl | rfl | rfl | rfl | rfl | rfl) <;> (repeat (first | with_reducible (first | refine wpAny_pure ?_ | refine wpAny_bind ?_ | refine wpAny_holding ?_ | refine wpAny_standAt ?_ | refine wpAny_point ?_ | refine wpAny_rule ?_ | refine wpAny_letGo ?_ | refine wpAny_mkInt' ?_ | refine wpAny_fresh' ?_ | refine wpAny_attempt ?_ | refine wpAny_throw ?_ | refine wpAny_of_eq (by assumption) ?_ | refine wpAny_call ?_ | refine wpAny_runValue ?_ | refine wpAny_run ?_) | ((with_reducible refine' W_mkStr ?hx ?_); (case hx => size_fits)) | ((with_reducible refine' W_load ?hN ?hm ?_); (case hN => assumption); (case hm => k_mem)) | ((with_reducible refine' W_ld ?hN ?hm ?_); (case hN => assumption); (case hm => k_mem)) | ((with_reducible refine' W_nsGet ?hN ?hm ?he ?_); (case hN => assumption); (case hm => k_mem); (case he => first | assumption | k_get)) | ((with_reducible refine' W_lookup0 ?hN ?h1 ?hm ?hn ?h2 ?he ?ho ?_); (case hN => assumption); (case h1 => k_mem); (case hm => rfl); (case hn => rfl); (case h2 => k_mem); (case he => assumption); (case ho => assumption)) | ((with_reducible refine' W_alloc ?hF ?hN ?hf ?_); (case hF => assumption); (case hN => assumption); (case hf => rfl); intro a' h' F' N' l'; (try k_lt l'); (try simp only [Option.getD_some, List.isEmpty_cons, Bool.false_eq_true, if_false] at N')) | ((with_reducible refine' W_setSlot ?hF ?hN ?hU ?hi ?hf ?he ?_); (case hF => assumption); (case hN => assumption); (case hU => k_updF); (case hi => decide); (case he => k_slotset); (case hf => rfl); intro h' F' N'; (try dsimp only at N')) | ((with_reducible refine' W_updCls ?hF ?hN ?hU ?he ?hp ?_); (case hF => assumption); (case hN => assumption); (case hU => k_updF); (case he => exact rfl); (case hp => rfl); intro h' F' N'; (try dsimp only at N'); (try simp only [k_any3, Bool.or_self] at N')) | ((with_reducible refine' W_nsSet ?hF ?hN ?hU ?hl ?he ?_); (case hF => assumption); (case hN => assumption); (case hU => k_updF); (case hl => k_get); (case he => k_put); intro h' F' N'; (try dsimp only at N')) | ((with_reducible refine' wpAny_ite_false ?hc ?_); (case hc => first | rfl | (simp only [*, Bool.not_true, Bool.not_false, Bool.false_eq_true, decide_false, decide_true]; done) | (decide +kernel))) | ((with_reducible refine' wpAny_ite_true ?hc ?_); (case hc => first | rfl | (simp only [*, Bool.not_true, Bool.not_false, Bool.false_eq_true, decide_false, decide_true]; done) | (decide +kernel))) | wp_delta | with_reducible_and_instances refine wpAny_pure ?_ | with_reducible_and_instances refine wpAny_bind ?_)) <;> exact hq'))
    | ((with_reducible refine' W_sup ?hF ?hN ?h1 ?hm ?_); (case hF => assumption); (case hN => assumption); (case h1 => k_mem); (case hm => rfl); intro so h' F' N' l'; (try k_lt l'))
    | ((with_reducible refine' W_isattr ?hF ?hN X hany ?h1 ?hm ?h2 ?_); (case hF => assumption); (case hN => assumption); (case h1 => k_mem); (case hm => rfl); (case h2 => k_mem); intro so h' F' N' l'; (try k_lt l'))
    | ((with_reducible refine' W_iscall ?hN ?h1 ?hm ?h2 ?_); (case hN => assumption); (case h1 => k_mem); (case hm => rfl); (case h2 => k_mem))
    | (first | with_reducible (first | refine wpAny_pure ?_ | refine wpAny_bind ?_ | refine wpAny_holding ?_ | refine wpAny_standAt ?_ | refine wpAny_point ?_ | refine wpAny_rule ?_ | refine wpAny_letGo ?_ | refine wpAny_mkInt' ?_ | refine wpAny_fresh' ?_ | refine wpAny_attempt ?_ | refine wpAny_throw ?_ | refine wpAny_of_eq (by assumption) ?_ | refine wpAny_call ?_ | refine wpAny_runValue ?_ | refine wpAny_run ?_) | ((with_reducible refine' W_mkStr ?hx ?_); (case hx => size_fits)) | ((with_reducible refine' W_load ?hN ?hm ?_); (case hN => assumption); (case hm => k_mem)) | ((with_reducible refine' W_ld ?hN ?hm ?_); (case hN => assumption); (case hm => k_mem)) | ((with_reducible refine' W_nsGet ?hN ?hm ?he ?_); (case hN => assumption); (case hm => k_mem); (case he => first | assumption | k_get)) | ((with_reducible refine' W_lookup0 ?hN ?h1 ?hm ?hn ?h2 ?he ?ho ?_); (case hN => assumption); (case h1 => k_mem); (case hm => rfl); (case hn => rfl); (case h2 => k_mem); (case he => assumption); (case ho => assumption)) | ((with_reducible refine' W_alloc ?hF ?hN ?hf ?_); (case hF => assumption); (case hN => assumption); (case hf => rfl); intro a' h' F' N' l'; (try k_lt l'); (try simp only [Option.getD_some, List.isEmpty_cons, Bool.false_eq_true, if_false] at N')) | ((with_reducible refine' W_setSlot ?hF ?hN ?hU ?hi ?hf ?he ?_); (case hF => assumption); (case hN => assumption); (case hU => k_updF); (case hi => decide); (case he => k_slotset); (case hf => rfl); intro h' F' N'; (try dsimp only at N')) | ((with_reducible refine' W_updCls ?hF ?hN ?hU ?he ?hp ?_); (case hF => assumption); (case hN => assumption); (case hU => k_updF); (case he => exact rfl); (case hp => rfl); intro h' F' N'; (try dsimp only at N'); (try simp only [k_any3, Bool.or_self] at N')) | ((with_reducible refine' W_nsSet ?hF ?hN ?hU ?hl ?he ?_); (case hF => assumption); (case hN => assumption); (case hU => k_updF); (case hl => k_get); (case he => k_put); intro h' F' N'; (try dsimp only at N')) | ((with_reducible refine' wpAny_ite_false ?hc ?_); (case hc => first | rfl | (simp only [*, Bool.not_true, Bool.not_false, Bool.false_eq_true, decide_false, decide_true]; done) | (decide +kernel))) | ((with_reducible refine' wpAny_ite_true ?hc ?_); (case hc => first | rfl | (simp only [*, Bool.not_true, Bool.not_false, Bool.false_eq_true, decide_false, decide_true]; done) | (decide +kernel))) | wp_delta | with_reducible_and_instances refine wpAny_pure ?_ | with_reducible_and_instances refine wpAny_bind ?_))
  have N2 := cb_drop (news := _ :: _ :: _ :: news) N' (fun p hp => List.Mem.tail _ (.tail _ hp))
  refine hq _ _ _ h' _ _ _ _ F' N2 ?_ ?_ ?_
  · assumption
  · show @LT.lt Nat _ _ _; omega
  · show @LT.lt Nat _ _ _; omega
end
end Mine
end
section
open PySem PySem.W PyProof.Rows PySem.Calls
set_option Elab.async false
set_option maxRecDepth 100000
set_option maxHeartbeats 8000000
set_option linter.unusedVariables false
namespace Mine
namespace TC
theorem can : (((Manifest.find? "type").bind (·.mro.findSome? fun t => (Manifest.find? t).bind fun b => if b.noNew then some true else if b.attrs.any (·.1 == "__new__") then some false else none)).getD false) = false := by kernel_rfl
theorem mro : mroOf (.type "type") = pure [.type "type", .type "object"] := by rw [mroOf_type]; kernel_rfl
theorem made : Bind.madeBy (.type "type") = pure (some "type.__new__") := by kernel_rfl
theorem sbase : Bind.staticBase (.type "type") = pure (.type "type") := by kernel_rfl
theorem entry_new : entryFor table "type.__new__" = some Builtin.«type.__new__» := entryFor_of_tree (by kernel_rfl)
theorem chk_new (a b c : Value) : checkBuiltinCall "type.__new__" ⟨[.type "type", a, b, c], []⟩ = pure () := by kernel_rfl
theorem chk_type (nt : Tok) (T ns : Addr) : checkTypeCall "type" ⟨[.str "K" nt, .ref T, .ref ns], []⟩ = pure () := by kernel_rfl
theorem l_init : typeLookup (.type "type") "__init__" = pure (some (.builtin "type.__init__")) := by rw [typeLookup_type, builtinLookup_eq_fast]; kernel_rfl
theorem entry_init : entryFor table "type.__init__" = some Builtin.«type.__init__» := entryFor_of_tree (by kernel_rfl)
theorem slot_init : Slot "type" "__init__" "type.__init__" := .of (owner := "type") (n := "__init__") (by rw [typeLookup_type, builtinLookup_eq_fast]; kernel_rfl) (by decide +kernel) (by decide +kernel) (by decide +kernel)
  (by first | exact .inl (by decide +kernel) | exact .inr (by decide +kernel)) (by rw [isSubtype_type]; kernel_rfl)
theorem args_init (a b c d : Value) : argsOk "type.__init__" ⟨[a, b, c, d], []⟩ := by unfold argsOk; kernel_rfl
theorem isub : isSubtype (.type "type") (.type "type") = pure true := by rw [isSubtype_type]; kernel_rfl
end TC
section
variable {prog : Program} {w : World} {A : Around} {E : Value → Shared → Prop} {h₀ h : Heap} {L : Addr} {m : Str → Option Value} {news : List (Addr × Obj)} {g : Array GenState} {d : Drawn} {t : Nat} {os : OsState} 
  {nsA T : Addr} {fd1 fd2 fd3 fd4 fd5 fd6 : FuncData} {K : Frag} (k : KE)
theorem call_type3 {tk tk2 nt : Tok} {Q : Value → Shared → Prop} (F : Fr h₀ L h m) (X : K.In h₀) (hany : nsIn K cStatics "thirdparty.any" = some none) (hsys : nsA ≠ sysModules)
   (N : News h₀ L h news) (m1 : (nsA, dictOf k.a 12) ∈ news) (m2 : (T, tupO #[.type "object"]) ∈ news) (m3 : (k.SL, listOf #[.str "obj" tk] 0) ∈ news) (m4 : (k.ST, tupO #[.str "obj" tk2]) ∈ news) (m5 : (k.f1, fO fd1) ∈ news) (m6 : (k.f2, fO fd2) ∈ news) (m7 : (k.f3, fO fd3) ∈ news) (m8 : (k.f4, fO fd4) ∈ news) (m9 : (k.f5, fO fd5) ∈ news) (ma : (k.f6, fO fd6) ∈ news)
   (hq : ∀ C ns' me h' tk' t0 t1 t2, Fr h₀ L h' m → News h₀ L h' ((me, memO C t0) :: (C, clsF C ns' T nt (k.ts 3)) :: (ns', dictOf (k.dd w.params t1 t2 me) 3) :: news) → (∀ p ∈ news, p.1 < ns') → ns' < C → C < me → Q (.ref C) ⟨h', g, d, tk', os⟩) :
   wpAny (model prog w) A (call (.type "type") [.str "K" nt, .ref T, .ref nsA]) Q E ⟨h, g, d, t, os⟩ := by
  refine wpAny_call (codeAny_of_tree ?_)
  show wpAny _ _ (callAny (.type "type") _) _ _ _
  refine wpAny_pure ⟨Code.quiet_builtin _ (by decide +kernel), codeAny_builtin PySem.F.entry_type_call ?_⟩
  have h1 := TC.can
  have h2 := TC.mro
  have h3 := TC.made
  have h4 := TC.chk_type nt T nsA
  have h5 := TC.isub
  have h6 := TC.l_init
  unfold Builtin.«type.__call__»
  repeat (any_goals (first | assumption | (first | with_reducible (first | refine PySem.wpAny_pure ?_ | refine PySem.wpAny_bind ?_ | refine PySem.wpAny_holding ?_ | refine PySem.wpAny_standAt ?_ | refine PySem.wpAny_point ?_ | refine PySem.wpAny_rule ?_ | refine PySem.wpAny_letGo ?_ | refine PySem.wpAny_mkInt' ?_ | refine PySem.wpAny_fresh' ?_ | refine PySem.wpAny_alloc' ?_ | refine PySem.wpAny_attempt ?_ | refine PySem.wpAny_throw ?_ | refine PySem.wpAny_of_eq (by assumption) ?_ | refine PySem.wpAny_typeOf (by assumption) ?_ | refine PySem.wpAny_specialOf_val (by assumption) (by assumption) ?_ | refine PySem.wpAny_specialOf (by assumption) (by assumption) ?_ | refine PySem.wpAny_isInstance_val (by assumption) (by assumption) ?_ | refine PySem.wpAny_isInstance (by assumption) (by assumption) ?_ | refine PySem.wpAny_call ?_ | refine PySem.wpAny_runValue ?_ | refine PySem.wpAny_run ?_) | ((with_reducible refine' PySem.wpAny_mkStr' ?_ ?hx); (case hx => size_fits)) | ((with_reducible refine' PySem.wpAny_load' ?ho ?_); (case ho => heap_get)) | ((with_reducible refine' PySem.wpAny_update' ?ho ?_); (case ho => heap_get)) | ((with_reducible refine' PySem.wpAny_loadPart' ?ho ?_); (case ho => heap_get)) | ((with_reducible refine' PySem.wpAny_updatePart' ?ho ?_); (case ho => heap_get)) | ((with_reducible refine' PySem.wpAny_handled_none ?ho ?_); (case ho => assumption)) | ((with_reducible refine' PySem.wpAny_ite_false ?ho ?_); (case ho => rfl)) | ((with_reducible refine' PySem.wpAny_ite_true ?ho ?_); (case ho => rfl)) | ((with_reducible refine' PySem.wpAny_ite_false ?ho ?_); (case ho => (simp [*]; done))) | ((with_reducible refine' PySem.wpAny_ite_true ?ho ?_); (case ho => (simp [*]; done))) | wp_delta | with_reducible_and_instances refine PySem.wpAny_pure ?_ | with_reducible_and_instances refine PySem.wpAny_bind ?_)))
  show codeAny _ _ (.call (.builtin "type.__new__") ⟨[.type "type", .str "K" nt, .ref T, .ref nsA], []⟩) _ _
  refine codeAny_of_tree ?_
  show wpAny _ _ (do checkBuiltinCall "type.__new__" ⟨[.type "type", .str "K" nt, .ref T, .ref nsA], []⟩; again (.builtin "type.__new__" ⟨[.type "type", .str "K" nt, .ref T, .ref nsA], []⟩)) _ _ _
  refine wpAny_bind (wpAny_of_eq (TC.chk_new _ _ _) (wpAny_pure ⟨Code.quiet_builtin _ (by decide +kernel), codeAny_builtin TC.entry_new ?_⟩))
  refine type_new k F X hany hsys N m1 m2 m3 m4 m5 m6 m7 m8 m9 ma (fun C ns' me h' tk' t0 t1 t2 F' N' l1 l2 l3 => ?_)
  have hC := (N' (C, clsF C ns' T nt (k.ts 3)) (.tail _ (.head _))).1
  have hTC : ∀ tk, (⟨h', g, d, tk, os⟩ : Shared).TypeIs (.ref C) "type" := fun _ => ⟨_, hC, rfl⟩
  have hbi := TC.slot_init.bind (.ref C)
  dsimp only
  repeat (any_goals (first | (with_reducible refine wpAny_isInstance (hTC _) h5 ?_) | (with_reducible refine wpAny_typeOf (hTC _) ?_) | assumption | (first | with_reducible (first | refine PySem.wpAny_pure ?_ | refine PySem.wpAny_bind ?_ | refine PySem.wpAny_holding ?_ | refine PySem.wpAny_standAt ?_ | refine PySem.wpAny_point ?_ | refine PySem.wpAny_rule ?_ | refine PySem.wpAny_letGo ?_ | refine PySem.wpAny_mkInt' ?_ | refine PySem.wpAny_fresh' ?_ | refine PySem.wpAny_alloc' ?_ | refine PySem.wpAny_attempt ?_ | refine PySem.wpAny_throw ?_ | refine PySem.wpAny_of_eq (by assumption) ?_ | refine PySem.wpAny_typeOf (by assumption) ?_ | refine PySem.wpAny_specialOf_val (by assumption) (by assumption) ?_ | refine PySem.wpAny_specialOf (by assumption) (by assumption) ?_ | refine PySem.wpAny_isInstance_val (by assumption) (by assumption) ?_ | refine PySem.wpAny_isInstance (by assumption) (by assumption) ?_ | refine PySem.wpAny_call ?_ | refine PySem.wpAny_runValue ?_ | refine PySem.wpAny_run ?_) | ((with_reducible refine' PySem.wpAny_mkStr' ?_ ?hx); (case hx => size_fits)) | ((with_reducible refine' PySem.wpAny_load' ?ho ?_); (case ho => heap_get)) | ((with_reducible refine' PySem.wpAny_update' ?ho ?_); (case ho => heap_get)) | ((with_reducible refine' PySem.wpAny_loadPart' ?ho ?_); (case ho => heap_get)) | ((with_reducible refine' PySem.wpAny_updatePart' ?ho ?_); (case ho => heap_get)) | ((with_reducible refine' PySem.wpAny_handled_none ?ho ?_); (case ho => assumption)) | ((with_reducible refine' PySem.wpAny_ite_false ?ho ?_); (case ho => rfl)) | ((with_reducible refine' PySem.wpAny_ite_true ?ho ?_); (case ho => rfl)) | ((with_reducible refine' PySem.wpAny_ite_false ?ho ?_); (case ho => (simp [*]; done))) | ((with_reducible refine' PySem.wpAny_ite_true ?ho ?_); (case ho => (simp [*]; done))) | wp_delta | with_reducible_and_instances refine PySem.wpAny_pure ?_ | with_reducible_and_instances refine PySem.wpAny_bind ?_)))
  show codeAny _ _ (.call (.builtin "type.__init__") ⟨[.ref C, .str "K" nt, .ref T, .ref nsA], []⟩) _ _
  refine codeAny_call_builtin TC.slot_init.plain TC.entry_init (TC.slot_init.check _ _ _ _ _ _ _ _ (hTC _) (TC.args_init _ _ _ _) ?_)
  unfold Builtin.«type.__init__»
  repeat (any_goals (first | assumption | (first | with_reducible (first | refine PySem.wpAny_pure ?_ | refine PySem.wpAny_bind ?_ | refine PySem.wpAny_holding ?_ | refine PySem.wpAny_standAt ?_ | refine PySem.wpAny_point ?_ | refine PySem.wpAny_rule ?_ | refine PySem.wpAny_letGo ?_ | refine PySem.wpAny_mkInt' ?_ | refine PySem.wpAny_fresh' ?_ | refine PySem.wpAny_alloc' ?_ | refine PySem.wpAny_attempt ?_ | refine PySem.wpAny_throw ?_ | refine PySem.wpAny_of_eq (by assumption) ?_ | refine PySem.wpAny_typeOf (by assumption) ?_ | refine PySem.wpAny_specialOf_val (by assumption) (by assumption) ?_ | refine PySem.wpAny_specialOf (by assumption) (by assumption) ?_ | refine PySem.wpAny_isInstance_val (by assumption) (by assumption) ?_ | refine PySem.wpAny_isInstance (by assumption) (by assumption) ?_ | refine PySem.wpAny_call ?_ | refine PySem.wpAny_runValue ?_ | refine PySem.wpAny_run ?_) | ((with_reducible refine' PySem.wpAny_mkStr' ?_ ?hx); (case hx => size_fits)) | ((with_reducible refine' PySem.wpAny_load' ?ho ?_); (case ho => heap_get)) | ((with_reducible refine' PySem.wpAny_update' ?ho ?_); (case ho => heap_get)) | ((with_reducible refine' PySem.wpAny_loadPart' ?ho ?_); (case ho => heap_get)) | ((with_reducible refine' PySem.wpAny_updatePart' ?ho ?_); (case ho => heap_get)) | ((with_reducible refine' PySem.wpAny_handled_none ?ho ?_); (case ho => assumption)) | ((with_reducible refine' PySem.wpAny_ite_false ?ho ?_); (case ho => rfl)) | ((with_reducible refine' PySem.wpAny_ite_true ?ho ?_); (case ho => rfl)) | ((with_reducible refine' PySem.wpAny_ite_false ?ho ?_); (case ho => (simp [*]; done))) | ((with_reducible refine' PySem.wpAny_ite_true ?ho ?_); (case ho => (simp [*]; done))) | wp_delta | with_reducible_and_instances refine PySem.wpAny_pure ?_ | with_reducible_and_instances refine PySem.wpAny_bind ?_)))
  all_goals exact hq _ _ _ _ _ _ _ _ F' N' l1 l2 l3
end
end Mine
end
section
open PySem PySem.W PyProof.Rows PySem.Calls
set_option Elab.async false
set_option maxRecDepth 100000
set_option maxHeartbeats 8000000
set_option linter.unusedVariables false
namespace Mine
noncomputable def CodeO (o : Obj) (P : Addr) : Prop := ∀ (h : Heap) (c : Addr), h.get? c = some o → c ≠ P → CodeHd h c P
noncomputable def CodeQ (o : Obj) (q : Str) : Prop := ∃ vs t, o.data = .fields vs ∧ vs[1]? = some (.str q t)
theorem CodeO.hd {h : Heap} {c P : Addr} {o : Obj} (x : CodeO o P) (e : h.get? c = some o) (hne : c ≠ P) : CodeHd h c P := x h c e hne
theorem CodeO.of {h : Heap} {c P : Addr} (x : CodeHd h c P) : ∃ o, h.get? c = some o ∧ CodeO o P ∧ c ≠ P := by
  unfold CodeO
  unfold CodeHd at x ⊢
  obtain ⟨o, vs, file, tf, flags, tg, inF, text, tt, e, r1, r2, r3, r4, r5, r6, r7, r8, hne⟩ := x
  exact ⟨o, e, fun _ _ e' hne' => ⟨o, vs, file, tf, flags, tg, inF, text, tt, e', r1, r2, r3, r4, r5, r6, r7, r8, hne'⟩, hne⟩
theorem CodeQ.rc {h : Heap} {c : Addr} {o : Obj} {q : Str} (x : CodeQ o q) (e : h.get? c = some o) : h.CodeRec (.ref c) q :=
  let ⟨vs, t, r1, r2⟩ := x; ⟨c, o, vs, t, rfl, e, r1, r2⟩
section
variable {M : Model} {A : Around} {E : Value → Shared → Prop} {s : Shared} {h₀ : Heap} {L a c P : Addr} {m mg mb : Str → Option Value} {news : List (Addr × Obj)} {g : Obj → List (Addr × Obj)} {env : Env} {oc : Obj}
  {p : Program} {loose : List Str} {mean : ExcName → Option Value} {name qual : Str} {params : Arguments} {body : List Stmt} {scope : Scope} {ps : Array Value} {pos : Pos} {firstLine : Nat} {clos : List (Str × Addr)}
theorem nestE_miss {Q : Value → Shared → Prop} (F : Fr h₀ L s.heap m) (N : News h₀ L s.heap news) (T : Top p loose mean mg mb h₀) (hcode : env.code = .ref c) (hge : env.globals = mainGlobals) (hcm : (c, oc) ∈ news) (hco : CodeO oc P) (hcp : c ≠ P) (U : UpdF P (tabObj ps) news g) (ht : TriplesOk ps.toList) (hnf : codeAmong pos ps.toList = none)
    (hcl : closureFor scope env = pure clos)
    (h : ∀ f c' o' ctv doc h' tk, Fr h₀ L h' m →
      News h₀ L h' ((f, fnMade name qual params body scope clos doc ((mg "__name__").getD .none) c' ctv) :: (c', o') :: g (tabObj (ps ++ #[rawInt pos.line, rawInt pos.col, .ref c']))) →
      CodeQ o' qual → (∀ q ∈ news, q.1 < c') → c' < f → Q (.ref f) { s with heap := h', toks := tk }) :
    wpAny M A (makeFunction name qual params (.stmts body) scope env [] [] [] pos firstLine) Q E s := by
  obtain ⟨own, rest, rfl, hgr, h1, h2⟩ := U.split
  have hm := N (P, tabObj ps) (List.mem_append_right _ (.head _))
  have hgs := T.g.keeps F.keep
  obtain ⟨bm, ob, b1, b2, b3, b4, b5, b6⟩ := T.bmain
  have hgP : mainGlobals ≠ P := fun q => by
    obtain ⟨o, es, ep, e, hd, _⟩ := hgs
    rw [q, hm.1] at e; cases e; cases hd
  have hbP : bm ≠ P := fun q => by
    have e := F.keep _ _ b3
    rw [q, hm.1] at e; cases e; cases b4
  have hbG : bm ≠ mainGlobals := fun q => by
    obtain ⟨o, es, ep, e, hd, _⟩ := T.g
    rw [q, e] at b3; cases b3; rw [hd] at b6; cases b6
  refine makeFunction_K (mg := mg) hcl hge hgs hcode (hco.hd (N _ hcm).1 hcp) hm.1 ht hnf hgP ⟨bm, ob, b1, b2, hbG, hbP, F.keep _ _ b3, b4, b5, b6⟩ fun c' ctv doc h' tk hx hge hlt hrec htb => ?_
  obtain ⟨c₂, oc, vs, t, e2, hoc, hd, hv⟩ := hrec
  cases e2
  have hLs : L < s.heap.objs.size := F.ns.lt
  have hLc : L < c' := Nat.lt_of_lt_of_le hLs hge
  have old : ∀ b o, h₀.get? b = some o → h'.get? b = some o := fun b o e => hx b o (fun q => by rw [q, hm.2.2] at e; cases e) (F.keep b o e)
  have fresh : ∀ b, L < b → h₀.get? b = none := fun b hb => Heap.get?_none_of_le (Nat.le_trans F.above (Nat.le_of_lt hb))
  refine h h'.objs.size c' oc ctv doc _ tk ⟨(F.ns.extBut hx hm.2.1.symm).push _, fun b o e => Heap.get?_push_of_some _ (old b o e), F.above⟩ (fun q hq => ?_) ⟨vs, t, hd, hv⟩
    (fun q hq => Nat.lt_of_lt_of_le (Heap.lt_size (N q hq).1) hge) hlt
  rcases List.mem_cons.mp hq with rfl | hq
  · exact ⟨Heap.get?_push_size _ rfl, Nat.ne_of_gt (Nat.lt_trans hLc hlt), fresh _ (Nat.lt_trans hLc hlt)⟩
  · rcases List.mem_cons.mp hq with rfl | hq
    · exact ⟨Heap.get?_push_of_some _ hoc, Nat.ne_of_gt hLc, fresh _ hLc⟩
    · rw [hgr] at hq
      rcases List.mem_append.mp hq with hq | hq
      · have n := N q (List.mem_append_left _ hq)
        exact ⟨Heap.get?_push_of_some _ (hx _ _ (h1 q hq) n.1), n.2⟩
      · rcases List.mem_cons.mp hq with rfl | hq
        · exact ⟨Heap.get?_push_of_some _ htb, hm.2⟩
        · have n := N q (List.mem_append_right _ (.tail _ hq))
          exact ⟨Heap.get?_push_of_some _ (hx _ _ (h2 q hq) n.1), n.2⟩
theorem nestE_hit {Q : Value → Shared → Prop} {c' : Addr} (F : Fr h₀ L s.heap m) (N : News h₀ L s.heap news) (T : Top p loose mean mg mb h₀) (hcode : env.code = .ref c) (hge : env.globals = mainGlobals) (hcm : (c, oc) ∈ news) (hco : CodeO oc P) (hcp : c ≠ P) (hmem : (P, tabObj ps) ∈ news) (ht : TriplesOk ps.toList) (hf : codeAmong pos ps.toList = some (.ref c'))
    (hcl : closureFor scope env = pure clos)
    (h : ∀ f ctv doc h' tk, Fr h₀ L h' m → News h₀ L h' ((f, fnMade name qual params body scope clos doc ((mg "__name__").getD .none) c' ctv) :: news) → (∀ q ∈ news, q.1 < f) → Q (.ref f) { s with heap := h', toks := tk }) :
    wpAny M A (makeFunction name qual params (.stmts body) scope env [] [] [] pos firstLine) Q E s := by
  have hm := N (P, tabObj ps) hmem
  have hgs := T.g.keeps F.keep
  obtain ⟨bm, ob, b1, b2, b3, b4, b5, b6⟩ := T.bmain
  have hbP : bm ≠ P := fun q => by
    have e := F.keep _ _ b3
    rw [q, hm.1] at e; cases e; cases b4
  have hbG : bm ≠ mainGlobals := fun q => by
    obtain ⟨o, es, ep, e, hd, _⟩ := T.g
    rw [q, e] at b3; cases b3; rw [hd] at b6; cases b6
  refine makeFunction_hit (mg := mg) hcl hge hgs hcode (hco.hd (N _ hcm).1 hcp) hm.1 ht hf ⟨bm, ob, b1, b2, hbG, hbP, F.keep _ _ b3, b4, b5, b6⟩ fun ctv doc h' tk hk hsz => ?_
  have hLs : L < h'.objs.size := Nat.lt_of_lt_of_le F.ns.lt hsz
  have fresh : ∀ b, L < b → h₀.get? b = none := fun b hb => Heap.get?_none_of_le (Nat.le_trans F.above (Nat.le_of_lt hb))
  refine h h'.objs.size ctv doc _ tk ⟨(F.ns.keeps hk).push _, fun b o e => Heap.get?_push_of_some _ (hk b o (F.keep b o e)), F.above⟩ (fun q hq => ?_) (fun q hq => Nat.lt_of_lt_of_le (Heap.lt_size (N q hq).1) hsz)
  rcases List.mem_cons.mp hq with rfl | hq
  · exact ⟨Heap.get?_push_size _ rfl, Nat.ne_of_gt hLs, fresh _ hLs⟩
  · exact ⟨Heap.get?_push_of_some _ (hk _ _ (N q hq).1), (N q hq).2⟩
theorem classCode_miss {Q : Value → Shared → Prop} (F : Fr h₀ L s.heap m) (N : News h₀ L s.heap news) (hcode : env.code = .ref c) (C : CodeHd h₀ c P) (U : UpdF P (tabObj ps) news g) (ht : TriplesOk ps.toList) (hnf : codeAmong pos ps.toList = none)
    (h : ∀ c' P' o' h' tk, Fr h₀ L h' m → News h₀ L h' ((c', o') :: (P', tabObj #[]) :: g (tabObj (ps ++ #[rawInt pos.line, rawInt pos.col, .ref c']))) →
      CodeO o' P' → CodeQ o' qual → c' ≠ P' → (∀ q ∈ news, q.1 < c') → (∀ q ∈ news, q.1 < P') → Q (.ref c') { s with heap := h', toks := tk }) :
    wpAny M A (classCode env pos firstLine name qual scope) Q E s := by
  obtain ⟨own, rest, rfl, hgr, h1, h2⟩ := U.split
  have hm := N (P, tabObj ps) (List.mem_append_right _ (.head _))
  obtain ⟨o, vs, file, tf, flags, tg, inF, text, tt, op, ho, hd, h11, h2', h7, h9, h10, hop, hpd, htr, hne⟩ := (C.keeps F.keep).code hm.1 ht
  have eop : op = tabObj ps := Option.some.inj (hop.symm.trans hm.1)
  subst eop
  unfold classCode codeAt
  rw [hcode, if_neg (show ¬ ((Value.ref c == Value.none) = true) from Bool.false_ne_true)]
  refine wpAny_bind (wpAny_fieldsOf ho hd ?_)
  rw [h11]
  refine wpAny_bind (wpAny_fieldsOf hop hpd ?_)
  rw [hnf, h2', h7, h9, h10]
  refine wpAny_bind (wpAny_newCodeX fun c' P' h' tk hk hc' hP' hcode' htab' hrec' => ?_)
  have hLs : L < s.heap.objs.size := F.ns.lt
  have fresh : ∀ b, L < b → h₀.get? b = none := fun b hb => Heap.get?_none_of_le (Nat.le_trans F.above (Nat.le_of_lt hb))
  have F1 : Fr h₀ L h' m := F.keptAll hk
  obtain ⟨o', ho', hco', hne'⟩ := CodeO.of (CodeHd.of hcode' htab')
  obtain ⟨c₂, o₂, vs₂, t₂, e₂, g₂, r₂⟩ := hrec'
  cases e₂
  have eo : o₂ = o' := Option.some.inj (g₂.symm.trans ho')
  subst eo
  have N1 : News h₀ L h' (((c', o₂) :: (P', tabObj #[]) :: own) ++ (P, tabObj ps) :: rest) := by
    intro q hq
    rcases List.mem_cons.mp hq with rfl | hq
    · exact ⟨ho', Nat.ne_of_gt (Nat.lt_of_lt_of_le hLs hc'), fresh _ (Nat.lt_of_lt_of_le hLs hc')⟩
    · rcases List.mem_cons.mp hq with rfl | hq
      · exact ⟨htab'.2, Nat.ne_of_gt (Nat.lt_of_lt_of_le hLs hP'), fresh _ (Nat.lt_of_lt_of_le hLs hP')⟩
      · exact ⟨hk _ _ (N q hq).1, (N q hq).2⟩
  have lt1 : ∀ q ∈ own ++ (P, tabObj ps) :: rest, q.1 < c' := fun q hq => Nat.lt_of_lt_of_le (Heap.lt_size (N q hq).1) hc'
  have lt2 : ∀ q ∈ own ++ (P, tabObj ps) :: rest, q.1 < P' := fun q hq => Nat.lt_of_lt_of_le (Heap.lt_size (N q hq).1) hP'
  have hcP : c' ≠ P := Nat.ne_of_gt (lt1 (P, tabObj ps) (by simp))
  have hPP : P' ≠ P := Nat.ne_of_gt (lt2 (P, tabObj ps) (by simp))
  have e : Obj.mapFields (fun vs => if (codeAmong pos vs.toList).isSome = true then vs else vs ++ #[rawInt pos.line, rawInt pos.col, .ref c']) (tabObj ps) = tabObj (ps ++ #[rawInt pos.line, rawInt pos.col, .ref c']) := by
    simp only [Obj.mapFields, hnf]; rfl
  have U2 := news_upd F1 N1 (fun q hq => by
    rcases List.mem_cons.mp hq with rfl | hq
    · exact hcP
    · rcases List.mem_cons.mp hq with rfl | hq
      · exact hPP
      · exact h1 q hq) h2 e rfl
  have hop' := hk _ _ hop
  refine wpAny_bind (wpAny_updateFieldsOfTheText hop' hpd ?_)
  refine wpAny_bind (wpAny_fieldsOf (U2.2 (P, _) (List.mem_append_right _ (.head _))).1 rfl ?_)
  have hl : (ps ++ #[rawInt pos.line, rawInt pos.col, Value.ref c']).toList = ps.toList ++ [rawInt pos.line, rawInt pos.col, .ref c'] := by simp
  rw [hl, codeAmong_snoc _ htr hnf]
  refine wpAny_pure (h c' P' o₂ _ tk U2.1 ?_ hco' ⟨vs₂, t₂, r₂⟩ hne' lt1 lt2)
  rw [hgr]
  exact U2.2
theorem classCode_hit {Q : Value → Shared → Prop} {c' : Addr} (F : Fr h₀ L s.heap m) (N : News h₀ L s.heap news) (hcode : env.code = .ref c) (C : CodeHd h₀ c P) (hmem : (P, tabObj ps) ∈ news) (ht : TriplesOk ps.toList) (hf : codeAmong pos ps.toList = some (.ref c'))
    (h : Q (.ref c') s) : wpAny M A (classCode env pos firstLine name qual scope) Q E s := by
  obtain ⟨o, vs, file, tf, flags, tg, inF, text, tt, op, ho, hd, h11, h2, h7, h9, h10, hop, hpd, htr, hne⟩ := (C.keeps F.keep).code (N _ hmem).1 ht
  unfold classCode codeAt
  rw [hcode, if_neg (show ¬ ((Value.ref c == Value.none) = true) from Bool.false_ne_true)]
  refine wpAny_bind (wpAny_fieldsOf ho hd ?_)
  rw [h11]
  refine wpAny_bind (wpAny_fieldsOf hop hpd ?_)
  rw [hf]
  exact wpAny_pure h
end
end Mine
end
section
open PySem PySem.W PyProof.Rows PySem.Calls
set_option Elab.async false
set_option maxRecDepth 100000
set_option maxHeartbeats 8000000
set_option linter.unusedVariables false
namespace Mine
namespace PR
theorem tga : typeLookup (.type "type") "__getattribute__" = pure (some (.builtin "type.__getattribute__")) := by rw [typeLookup_type, builtinLookup_eq_fast]; kernel_rfl
theorem ga : typeLookup (.type "type") "__getattr__" = pure none := by rw [typeLookup_type, builtinLookup_eq_fast]; kernel_rfl
theorem prep : typeLookup (.type "type") "__prepare__" = pure (some (.builtin "type.__prepare__")) := by rw [typeLookup_type, builtinLookup_eq_fast]; kernel_rfl
theorem type_prep : typeOf (.builtin "type.__prepare__") = pure (.type "classmethod_descriptor") := by show builtinType _ = _; rw [builtinType_eq_fast]; kernel_rfl
theorem l_set : typeLookup (.type "classmethod_descriptor") "__set__" = pure none := by rw [typeLookup_type, builtinLookup_eq_fast]; kernel_rfl
theorem l_del : typeLookup (.type "classmethod_descriptor") "__delete__" = pure none := by rw [typeLookup_type, builtinLookup_eq_fast]; kernel_rfl
theorem opq : opaqueClassAbove (.type "type") = pure none := by kernel_rfl
theorem t_type : typeOf (.type "type") = pure (.type "type") := by kernel_rfl
theorem entry_prep : entryFor table "type.__prepare__" = some Builtin.«type.__prepare__» := entryFor_of_tree (by kernel_rfl)
theorem quiet_prep {as : Args} : (Code.builtin "type.__prepare__" as).quiet = true := Code.quiet_builtin _ (by decide +kernel)
end PR
noncomputable abbrev prepO : Obj := { cls := .type "builtin_function_or_method", data := .fields #[.builtin "type.__prepare__", .type "type"] }
section
variable {prog : Program} {w : World} {A : Around} {E : Value → Shared → Prop} {h₀ h : Heap} {L : Addr} {m : Str → Option Value} {news : List (Addr × Obj)} {g : Array GenState} {d : Drawn} {t : Nat} {os : OsState} {C so q ns : Addr}
theorem prep_get {Q : Value → Shared → Prop} 
   (hq : Q (.ref h.objs.size) ⟨h.push prepO, g, d, t, os⟩) :
   wpAny (model prog w) A (call (.builtin "classmethod_descriptor.__get__") [.builtin "type.__prepare__", .none, .type "type"]) Q E ⟨h, g, d, t, os⟩ := by
  have hown : ".".intercalate ("type.__prepare__".cutAt '.').dropLast = "type" := by decide +kernel
  have h1 := TC.isub
  refine wpAny_call ?_
  refine codeAny_call_builtin (by decide +kernel) SI.entry_get ?_
  refine @check_slot (model prog w) _ _ ⟨h, g, d, t, os⟩ "classmethod_descriptor.__get__" "classmethod_descriptor" "__get__" (.builtin "type.__prepare__") [.none, .type "type"] [] _ (by decide +kernel) (by decide +kernel) ((Looks.of_pure PR.type_prep).andThen (Looks.of_pure SI.sub_c)) (SI.args_get _ _ _) ?_
  unfold Builtin.«classmethod_descriptor.__get__»
  repeat (any_goals (first | (with_reducible exact hq) | (first | with_reducible (first | refine PySem.wpAny_pure ?_ | refine PySem.wpAny_bind ?_ | refine PySem.wpAny_holding ?_ | refine PySem.wpAny_standAt ?_ | refine PySem.wpAny_point ?_ | refine PySem.wpAny_rule ?_ | refine PySem.wpAny_letGo ?_ | refine PySem.wpAny_mkInt' ?_ | refine PySem.wpAny_fresh' ?_ | refine PySem.wpAny_alloc' ?_ | refine PySem.wpAny_attempt ?_ | refine PySem.wpAny_throw ?_ | refine PySem.wpAny_of_eq (by assumption) ?_ | refine PySem.wpAny_typeOf (by assumption) ?_ | refine PySem.wpAny_specialOf_val (by assumption) (by assumption) ?_ | refine PySem.wpAny_specialOf (by assumption) (by assumption) ?_ | refine PySem.wpAny_isInstance_val (by assumption) (by assumption) ?_ | refine PySem.wpAny_isInstance (by assumption) (by assumption) ?_ | refine PySem.wpAny_call ?_ | refine PySem.wpAny_runValue ?_ | refine PySem.wpAny_run ?_) | ((with_reducible refine' PySem.wpAny_mkStr' ?_ ?hx); (case hx => size_fits)) | ((with_reducible refine' PySem.wpAny_load' ?ho ?_); (case ho => heap_get)) | ((with_reducible refine' PySem.wpAny_update' ?ho ?_); (case ho => heap_get)) | ((with_reducible refine' PySem.wpAny_loadPart' ?ho ?_); (case ho => heap_get)) | ((with_reducible refine' PySem.wpAny_updatePart' ?ho ?_); (case ho => heap_get)) | ((with_reducible refine' PySem.wpAny_handled_none ?ho ?_); (case ho => assumption)) | ((with_reducible refine' PySem.wpAny_ite_false ?ho ?_); (case ho => rfl)) | ((with_reducible refine' PySem.wpAny_ite_true ?ho ?_); (case ho => rfl)) | ((with_reducible refine' PySem.wpAny_ite_false ?ho ?_); (case ho => (simp [*]; done))) | ((with_reducible refine' PySem.wpAny_ite_true ?ho ?_); (case ho => (simp [*]; done))) | wp_delta | with_reducible_and_instances refine PySem.wpAny_pure ?_ | with_reducible_and_instances refine PySem.wpAny_bind ?_) | (rw [hown])))
theorem prep_call {nm T : Value} {Q : Value → Shared → Prop} (hb : h.get? q = some prepO) 
    (hq : Q (.ref h.objs.size) ⟨h.push (dictOf [] 0), g, d, t, os⟩) :
    wpAny (model prog w) A (call (.ref q) [nm, T]) Q E ⟨h, g, d, t, os⟩ := by
  refine wpAny_call (codeAny_of_tree ?_)
  show wpAny _ A.in1 (callAny (.ref q) ⟨[nm, T], []⟩) _ _ _
  simp only [callAny]
  refine wpAny_bind (wpAny_load hb ?_)
  simp only [show (Value.type "builtin_function_or_method" == Value.type "method" || Value.type "builtin_function_or_method" == Value.type "builtin_function_or_method" || Value.type "builtin_function_or_method" == Value.type "method-wrapper") = true by decide, if_true]
  show wpAny _ _ (if (Value.type "builtin_function_or_method" != Value.type "method") = true then _ else _) _ _ _
  rw [if_pos (by decide)]
  have hck : checkBoundCall "type.__prepare__" ⟨[.type "type", nm, T], []⟩ = pure () := by kernel_rfl
  refine wpAny_bind (wpAny_of_eq hck (wpAny_pure ⟨PR.quiet_prep, codeAny_builtin PR.entry_prep ?_⟩))
  unfold Builtin.«type.__prepare__»
  repeat (any_goals (first | (with_reducible exact hq) | (first | with_reducible (first | refine PySem.wpAny_pure ?_ | refine PySem.wpAny_bind ?_ | refine PySem.wpAny_holding ?_ | refine PySem.wpAny_standAt ?_ | refine PySem.wpAny_point ?_ | refine PySem.wpAny_rule ?_ | refine PySem.wpAny_letGo ?_ | refine PySem.wpAny_mkInt' ?_ | refine PySem.wpAny_fresh' ?_ | refine PySem.wpAny_alloc' ?_ | refine PySem.wpAny_attempt ?_ | refine PySem.wpAny_throw ?_ | refine PySem.wpAny_of_eq (by assumption) ?_ | refine PySem.wpAny_typeOf (by assumption) ?_ | refine PySem.wpAny_specialOf_val (by assumption) (by assumption) ?_ | refine PySem.wpAny_specialOf (by assumption) (by assumption) ?_ | refine PySem.wpAny_isInstance_val (by assumption) (by assumption) ?_ | refine PySem.wpAny_isInstance (by assumption) (by assumption) ?_ | refine PySem.wpAny_call ?_ | refine PySem.wpAny_runValue ?_ | refine PySem.wpAny_run ?_) | ((with_reducible refine' PySem.wpAny_mkStr' ?_ ?hx); (case hx => size_fits)) | ((with_reducible refine' PySem.wpAny_load' ?ho ?_); (case ho => heap_get)) | ((with_reducible refine' PySem.wpAny_update' ?ho ?_); (case ho => heap_get)) | ((with_reducible refine' PySem.wpAny_loadPart' ?ho ?_); (case ho => heap_get)) | ((with_reducible refine' PySem.wpAny_updatePart' ?ho ?_); (case ho => heap_get)) | ((with_reducible refine' PySem.wpAny_handled_none ?ho ?_); (case ho => assumption)) | ((with_reducible refine' PySem.wpAny_ite_false ?ho ?_); (case ho => rfl)) | ((with_reducible refine' PySem.wpAny_ite_true ?ho ?_); (case ho => rfl)) | ((with_reducible refine' PySem.wpAny_ite_false ?ho ?_); (case ho => (simp [*]; done))) | ((with_reducible refine' PySem.wpAny_ite_true ?ho ?_); (case ho => (simp [*]; done))) | wp_delta | with_reducible_and_instances refine PySem.wpAny_pure ?_ | with_reducible_and_instances refine PySem.wpAny_bind ?_)))
  all_goals exact hq
theorem nilIn {h : Heap} : Frag.In [] h := fun a o e => by cases e
theorem cls_prep : findCls [] (.type "type") (.type "type") "__prepare__" = some (.get (.builtin "classmethod_descriptor.__get__") (.builtin "type.__prepare__") .none (.type "type")) := by kernel_rfl
set_option maxHeartbeats 400000 in
theorem tga_prep {tk : Tok} {l : List Value} (hl : l = [.type "type", .str "__prepare__" tk]) {Q : Value → Shared → Prop} (hq : Q (.ref h.objs.size) ⟨h.push prepO, g, d, t, os⟩) :
   wpAny (model prog w) A (call (.builtin "type.__getattribute__") l) Q E ⟨h, g, d, t, os⟩ := by
  subst hl
  have L0 : Looks (model prog w) h (typeOf (.type "type")) (.type "type") := Looks.of_pure PR.t_type
  refine wpAny_call (codeAny_call_builtin KF.slot_tga.plain KF.entry_tga ?_)
  refine @check_slot (model prog w) _ _ ⟨h, g, d, t, os⟩ "type.__getattribute__" "type" "__getattribute__" (.type "type") [.str "__prepare__" tk] [] _ (by decide +kernel) (by decide +kernel) (L0.andThen (Looks.of_pure TC.isub)) (KF.args_tga _ _) ?_
  refine tga_run (s := ⟨h, g, d, t, os⟩) (K := []) (c := .type "type") (mc := .type "type") (name := "__prepare__") (tk := tk) (r := .get (.builtin "classmethod_descriptor.__get__") (.builtin "type.__prepare__") .none (.type "type")) nilIn (Looks.of_pure PR.opq) L0 cls_prep ?_
  unfold CFound.run
  refine wpAny_bind (wpAny_holding ?_)
  refine prep_get ?_
  refine wpAny_pure ?_
  exact hq
theorem prep_attr {Q : Option Value → Shared → Prop} (hq : Q (some (.ref h.objs.size)) ⟨h.push prepO, g, d, t + 1, os⟩) : wpAny (model prog w) A (getAttr? (.type "type") "__prepare__") Q E ⟨h, g, d, t, os⟩ := by
  have a1 := PR.tga
  have a2 := PR.ga
  have a9 := PR.t_type
  have a3 := KF.slot_tga.bind (.type "type")
  unfold getAttr?
  repeat (first | ((with_reducible refine' tga_prep ?hl ?_); (case hl => rfl)) | (first | with_reducible (first | refine PySem.wpAny_pure ?_ | refine PySem.wpAny_bind ?_ | refine PySem.wpAny_holding ?_ | refine PySem.wpAny_standAt ?_ | refine PySem.wpAny_point ?_ | refine PySem.wpAny_rule ?_ | refine PySem.wpAny_letGo ?_ | refine PySem.wpAny_mkInt' ?_ | refine PySem.wpAny_fresh' ?_ | refine PySem.wpAny_alloc' ?_ | refine PySem.wpAny_attempt ?_ | refine PySem.wpAny_throw ?_ | refine PySem.wpAny_of_eq (by assumption) ?_ | refine PySem.wpAny_typeOf (by assumption) ?_ | refine PySem.wpAny_specialOf_val (by assumption) (by assumption) ?_ | refine PySem.wpAny_specialOf (by assumption) (by assumption) ?_ | refine PySem.wpAny_isInstance_val (by assumption) (by assumption) ?_ | refine PySem.wpAny_isInstance (by assumption) (by assumption) ?_ | refine PySem.wpAny_call ?_ | refine PySem.wpAny_runValue ?_ | refine PySem.wpAny_run ?_) | ((with_reducible refine' PySem.wpAny_mkStr' ?_ ?hx); (case hx => size_fits)) | ((with_reducible refine' PySem.wpAny_load' ?ho ?_); (case ho => heap_get)) | ((with_reducible refine' PySem.wpAny_update' ?ho ?_); (case ho => heap_get)) | ((with_reducible refine' PySem.wpAny_loadPart' ?ho ?_); (case ho => heap_get)) | ((with_reducible refine' PySem.wpAny_updatePart' ?ho ?_); (case ho => heap_get)) | ((with_reducible refine' PySem.wpAny_handled_none ?ho ?_); (case ho => assumption)) | ((with_reducible refine' PySem.wpAny_ite_false ?ho ?_); (case ho => rfl)) | ((with_reducible refine' PySem.wpAny_ite_true ?ho ?_); (case ho => rfl)) | ((with_reducible refine' PySem.wpAny_ite_false ?ho ?_); (case ho => (simp [*]; done))) | ((with_reducible refine' PySem.wpAny_ite_true ?ho ?_); (case ho => (simp [*]; done))) | wp_delta | with_reducible_and_instances refine PySem.wpAny_pure ?_ | with_reducible_and_instances refine PySem.wpAny_bind ?_))
  all_goals exact hq
end
end Mine
end
section
open PySem PySem.W PyProof.Rows PySem.Calls
set_option Elab.async false
set_option maxRecDepth 100000
set_option maxHeartbeats 8000000
set_option linter.unusedVariables false
namespace Mine
theorem W_guard {M : Model} {A : Around} {E : Value → Shared → Prop} {s : Shared} {h₀ : Heap} {L : Addr} {m mg mb : Str → Option Value} {p : Program} {loose : List Str} {mean : ExcName → Option Value} {env : Env} {Q : Unit → Shared → Prop}
   (F : Fr h₀ L s.heap m) (T : Top p loose mean mg mb h₀) (hb : env.builtins = builtinsNs) (hq : Q () s) : wpAny M A (buildClassGuard env) Q E s := by
  unfold buildClassGuard
  rw [hb]
  refine wpAny_bind (wpAny_nsGet (T.b.keeps F.keep) ?_)
  rw [(T.builtins "__build_class__" (by decide +kernel)).trans (by kernel_rfl : bootBuiltins "__build_class__" = some (.builtin "__build_class__"))]
  exact wpAny_pure hq
section
variable {prog : Program} {w : World} {A : Around} {E : Value → Shared → Prop} {h₀ h : Heap} {L : Addr} {m mg mb : Str → Option Value} {news : List (Addr × Obj)} {g : Array GenState} {d : Drawn} {t : Nat} {os : OsState} {p : Program} {loose : List Str} {mean : ExcName → Option Value}
theorem W_nsG {ns : Addr} {name : Str} {r : Option Value} {Q : Option Value → Shared → Prop} (F : Fr h₀ L h m) (T : Top p loose mean mg mb h₀) (hn : ns = mainGlobals) (e : mg name = r) (hq : Q r ⟨h, g, d, t, os⟩) : wpAny (model prog w) A (nsGet ns name) Q E ⟨h, g, d, t, os⟩ := by
  subst hn e
  exact wpAny_nsGet (T.g.keeps F.keep) hq
theorem W_nsB {ns : Addr} {name : Str} {r : Option Value} {Q : Option Value → Shared → Prop} (F : Fr h₀ L h m) (T : Top p loose mean mg mb h₀) (hn : ns = builtinsNs) (e : mb name = r) (hq : Q r ⟨h, g, d, t, os⟩) : wpAny (model prog w) A (nsGet ns name) Q E ⟨h, g, d, t, os⟩ := by
  subst hn e
  exact wpAny_nsGet (T.b.keeps F.keep) hq
theorem W_bf {a b : Addr} {Q : Addr → Shared → Prop} (F : Fr h₀ L h m) (T : Top p loose mean mg mb h₀) (hn : a = mainGlobals) (hq : Q builtinsNs ⟨h, g, d, t, os⟩) : wpAny (model prog w) A (builtinsFor a b) Q E ⟨h, g, d, t, os⟩ := by
  subst hn
  obtain ⟨bm, ob, b1, b2, b3, b4, b5, b6⟩ := T.bmain
  exact wpAny_builtinsFor (T.g.keeps F.keep) b1 b2 (F.keep _ _ b3) b4 b5 b6 hq
theorem W_prep {Q : Option Value → Shared → Prop} (F : Fr h₀ L h m) (N : News h₀ L h news) (hq : ∀ q h', Fr h₀ L h' m → News h₀ L h' ((q, prepO) :: news) → (∀ p ∈ news, p.1 < q) → Q (some (.ref q)) ⟨h', g, d, t + 1, os⟩) : wpAny (model prog w) A (getAttr? (.type "type") "__prepare__") Q E ⟨h, g, d, t, os⟩ :=
  prep_attr (hq _ _ (F.push _) (N.push F _) (fun p hp => Heap.lt_size (N p hp).1))
theorem W_ntm {what : String} {a : Addr} {Q : Unit → Shared → Prop} (hl : 106 < a) (hq : Q () ⟨h, g, d, t, os⟩) : wpAny (model prog w) A (notTheModulesDict what a) Q E ⟨h, g, d, t, os⟩ := by
  unfold notTheModulesDict
  have : (a == sysModules) = false := beq_eq_false_iff_ne.mpr (by intro e; subst e; exact absurd hl (by decide))
  rw [this]
  exact wpAny_pure hq
theorem W_enter {Q : Unit → Shared → Prop} (F : Fr h₀ L h m) (T : Top p loose mean mg mb h₀) (hd : A.depth < recursionLimit) (hq : Q () ⟨h, g, d, t, os⟩) : wpAny (model prog w) A enterFrame Q E ⟨h, g, d, t, os⟩ := wpAny_enterFrame (T.nolimit.keeps F.keep) hd hq
theorem W_assignN {env : Env} {x : Str} {pos' pos : Pos} {value : Expr} {Q : Flow → Shared → Prop} (hs : swapsWith value (some (.Name x pos')) pos.line env = pure false) (hq : wpAny (model prog w) A (eval value env) (fun v s₁ => wpAny (model prog w) A (storeName env x v) (fun _ => Q .next) E s₁) E ⟨h, g, d, t, os⟩) : wpAny (model prog w) A (exec (.Assign [.Name x pos'] value pos) env) Q E ⟨h, g, d, t, os⟩ := by
  rw [exec_Assign_Name env x pos' value pos hs]
  refine wpAny_bind (wpAny_standAt (wpAny_bind (wpAny_mono hq (fun v s' h' => ?_) fun _ _ z => z)))
  exact wpAny_bind (wpAny_standAt (wpAny_bind (wpAny_bindName (wpAny_mono h' (fun _ _ h'' => wpAny_pure h'') fun _ _ z => z))))
theorem W_prepcall {q : Addr} {l : List Value} {kw : List (Str × Value)} {nm T : Value} {Q : Value → Shared → Prop} (hl : l = [nm, T]) (hk : kw = []) (F : Fr h₀ L h m) (N : News h₀ L h news) (hm : (q, prepO) ∈ news) (hq : ∀ q h', Fr h₀ L h' m → News h₀ L h' ((q, dictOf [] 0) :: news) → (∀ p ∈ news, p.1 < q) → Q (.ref q) ⟨h', g, d, t, os⟩) : wpAny (model prog w) A (call (.ref q) l kw) Q E ⟨h, g, d, t, os⟩ := by
  subst hl hk
  exact prep_call (N _ hm).1 (hq _ _ (F.push _) (N.push F _) (fun p hp => Heap.lt_size (N p hp).1))
noncomputable def Stop (P : Prop) : Prop := P
theorem unstop {P : Prop} (h : P) : Stop P := h
theorem CodeQ.cast {o : Obj} {q q' : Str} (h : CodeQ o q) (e : q = q') : CodeQ o q' := e ▸ h
theorem W_nest {env : Env} {oc : Obj} {c P : Addr} {name qual : Str} {params : Arguments} {body : List Stmt} {scope : Scope} {ps : Array Value} {pos : Pos} {firstLine : Nat} {clos : List (Str × Addr)} {gf : Obj → List (Addr × Obj)} {Q : Value → Shared → Prop} (q2 : Str) (hqn : qual = q2) (F : Fr h₀ L h m) (N : News h₀ L h news) (T : Top p loose mean mg mb h₀) (hcode : env.code = .ref c) (hge : env.globals = mainGlobals) (hcm : (c, oc) ∈ news) (hco : CodeO oc P) (hcp : c ≠ P) (U : UpdF P (tabObj ps) news gf) (ht : TriplesOk ps.toList) (hnf : codeAmong pos ps.toList = none)
    (hcl : closureFor scope env = pure clos)
    (hq : ∀ f c' o' ctv doc h' tk, Fr h₀ L h' m →
      News h₀ L h' ((f, fnMade name q2 params body scope clos doc ((mg "__name__").getD .none) c' ctv) :: (c', o') :: gf (tabObj (ps ++ #[rawInt pos.line, rawInt pos.col, .ref c']))) →
      CodeQ o' q2 → (∀ q ∈ news, q.1 < c') → c' < f → Q (.ref f) ⟨h', g, d, tk, os⟩) :
    wpAny (model prog w) A (makeFunction name qual params (.stmts body) scope env [] [] [] pos firstLine) Q E ⟨h, g, d, t, os⟩ := by
  subst hqn
  exact nestE_miss (s := ⟨h, g, d, t, os⟩) F N T hcode hge hcm hco hcp U ht hnf hcl hq
theorem W_nestH {env : Env} {oc : Obj} {c c' P : Addr} {name qual : Str} {params : Arguments} {body : List Stmt} {scope : Scope} {ps : Array Value} {pos : Pos} {firstLine : Nat} {clos : List (Str × Addr)} {Q : Value → Shared → Prop} (q2 : Str) (hqn : qual = q2) (F : Fr h₀ L h m) (N : News h₀ L h news) (T : Top p loose mean mg mb h₀) (hcode : env.code = .ref c) (hge : env.globals = mainGlobals) (hcm : (c, oc) ∈ news) (hco : CodeO oc P) (hcp : c ≠ P) (hmem : (P, tabObj ps) ∈ news) (ht : TriplesOk ps.toList) (hf : codeAmong pos ps.toList = some (.ref c'))
    (hcl : closureFor scope env = pure clos)
    (hq : ∀ f ctv doc h' tk, Fr h₀ L h' m → News h₀ L h' ((f, fnMade name q2 params body scope clos doc ((mg "__name__").getD .none) c' ctv) :: news) → (∀ q ∈ news, q.1 < f) → Q (.ref f) ⟨h', g, d, tk, os⟩) :
    wpAny (model prog w) A (makeFunction name qual params (.stmts body) scope env [] [] [] pos firstLine) Q E ⟨h, g, d, t, os⟩ := by
  subst hqn
  exact nestE_hit (s := ⟨h, g, d, t, os⟩) F N T hcode hge hcm hco hcp hmem ht hf hcl hq
theorem W_ccode {env : Env} {c P : Addr} {name qual : Str} {scope : Scope} {ps : Array Value} {pos : Pos} {firstLine : Nat} {gf : Obj → List (Addr × Obj)} {Q : Value → Shared → Prop} (q2 : Str) (hqn : qual = q2) (F : Fr h₀ L h m) (N : News h₀ L h news) (hcode : env.code = .ref c) (C : CodeHd h₀ c P) (U : UpdF P (tabObj ps) news gf) (ht : TriplesOk ps.toList) (hnf : codeAmong pos ps.toList = none)
    (hq : ∀ c' P' o' h' tk, Fr h₀ L h' m → News h₀ L h' ((c', o') :: (P', tabObj #[]) :: gf (tabObj (ps ++ #[rawInt pos.line, rawInt pos.col, .ref c']))) →
      CodeO o' P' → CodeQ o' q2 → c' ≠ P' → (∀ q ∈ news, q.1 < c') → (∀ q ∈ news, q.1 < P') → Q (.ref c') ⟨h', g, d, tk, os⟩) :
    wpAny (model prog w) A (classCode env pos firstLine name qual scope) Q E ⟨h, g, d, t, os⟩ := by
  subst hqn
  exact classCode_miss (s := ⟨h, g, d, t, os⟩) F N hcode C U ht hnf hq
theorem W_ccodeH {env : Env} {c c' P : Addr} {name qual : Str} {scope : Scope} {ps : Array Value} {pos : Pos} {firstLine : Nat} {Q : Value → Shared → Prop} (F : Fr h₀ L h m) (N : News h₀ L h news) (hcode : env.code = .ref c) (C : CodeHd h₀ c P) (hmem : (P, tabObj ps) ∈ news) (ht : TriplesOk ps.toList) (hf : codeAmong pos ps.toList = some (.ref c'))
    (hq : Q (.ref c') ⟨h, g, d, t, os⟩) : wpAny (model prog w) A (classCode env pos firstLine name qual scope) Q E ⟨h, g, d, t, os⟩ :=
  classCode_hit (s := ⟨h, g, d, t, os⟩) F N hcode C hmem ht hf hq
theorem W_stopM {name qual : Str} {params : Arguments} {body : FuncBody} {scope : Scope} {env : Env} {a b cc} {pos : Pos} {n : Nat} {Q : Value → Shared → Prop} {s : Shared} (hq : Stop (wpAny (model prog w) A (makeFunction name qual params body scope env a b cc pos n) Q E s)) : wpAny (model prog w) A (makeFunction name qual params body scope env a b cc pos n) Q E s := hq
theorem W_texts {x : Str} {l : List Str} {Q : List Value → Shared → Prop} (hl : l = [x]) (hq : ∀ tk, Q [.str x t] ⟨h, g, d, tk, os⟩) : wpAny (model prog w) A (l.mapM mkText) Q E ⟨h, g, d, t, os⟩ := by
  subst hl
  rw [List.mapM_cons]
  refine wpAny_bind ?_
  unfold mkText
  refine wpAny_bind (wpAny_fresh' (wpAny_pure ?_))
  rw [List.mapM_nil]
  exact wpAny_bind (wpAny_pure (wpAny_pure (hq _)))
theorem W_stopT {l : List Value} {kw : List (Str × Value)} {Q : Value → Shared → Prop} {s : Shared} (hq : Stop (wpAny (model prog w) A (call (.type "type") l kw) Q E s)) : wpAny (model prog w) A (call (.type "type") l kw) Q E s := hq
theorem W_stopB {env : Env} {x : Str} {v : Value} {Q : Unit → Shared → Prop} {s : Shared} (hq : Stop (wpAny (model prog w) A (bindName env x v) Q E s)) : wpAny (model prog w) A (bindName env x v) Q E s := hq
theorem ne_sys {a : Addr} (h : @LT.lt Nat _ 106 a) : a ≠ sysModules := by intro e; subst e; exact absurd h (by decide)
theorem W_type3 {nsA T SL ST f1 f2 f3 f4 f5 f6 : Addr} {fd1 fd2 fd3 fd4 fd5 fd6 : FuncData} {K : Frag} {tk tk2 nt t0 t1 t2 t3 t4 t5 t6 t7 t8 t9 t10 t11 t12 t13 t14 : Tok} {l : List Value} {kw : List (Str × Value)} {Q : Value → Shared → Prop} (hl : l = [.str "K" nt, .ref T, .ref nsA]) (hkw : kw = []) (F : Fr h₀ L h m) (X : K.In h₀) (hany : nsIn K cStatics "thirdparty.any" = some none) (hsys : nsA ≠ sysModules)
   (N : News h₀ L h news) (m1 : (nsA, dictOf [⟨PyData.keyHash w.params "__module__", .str "__module__" t0, .str "cpy313.functools" t1⟩, ⟨PyData.keyHash w.params "__qualname__", .str "__qualname__" t2, .str "cmp_to_key.<locals>.K" t3⟩, ⟨PyData.keyHash w.params "__firstlineno__", .str "__firstlineno__" t4, .int 43 t5⟩, ⟨PyData.keyHash w.params "__slots__", .str "__slots__" t6, .ref SL⟩,
      ⟨PyData.keyHash w.params "__init__", .str "__init__" t7, .ref f1⟩, ⟨PyData.keyHash w.params "__lt__", .str "__lt__" t8, .ref f2⟩, ⟨PyData.keyHash w.params "__gt__", .str "__gt__" t9, .ref f3⟩, ⟨PyData.keyHash w.params "__eq__", .str "__eq__" t10, .ref f4⟩, ⟨PyData.keyHash w.params "__le__", .str "__le__" t11, .ref f5⟩, ⟨PyData.keyHash w.params "__ge__", .str "__ge__" t12, .ref f6⟩, ⟨PyData.keyHash w.params "__hash__", .str "__hash__" t13, .none⟩, ⟨PyData.keyHash w.params "__static_attributes__", .str "__static_attributes__" t14, .ref ST⟩] 12) ∈ news)
   (m2 : (T, tupO #[.type "object"]) ∈ news) (m3 : (SL, listOf #[.str "obj" tk] 0) ∈ news) (m4 : (ST, tupO #[.str "obj" tk2]) ∈ news) (m5 : (f1, fO fd1) ∈ news) (m6 : (f2, fO fd2) ∈ news) (m7 : (f3, fO fd3) ∈ news) (m8 : (f4, fO fd4) ∈ news) (m9 : (f5, fO fd5) ∈ news) (ma : (f6, fO fd6) ∈ news)
   (hq : ∀ (k : KE) C ns' me h' tk' u0 u1 u2, k.f1 = f1 → k.f2 = f2 → k.hs = (fun i => PyData.keyHash w.params ((["__module__", "__qualname__", "__firstlineno__", "__slots__", "__init__", "__lt__", "__gt__", "__eq__", "__le__", "__ge__", "__hash__", "__static_attributes__"] : List Str).getD i "")) → Fr h₀ L h' m → News h₀ L h' ((me, memO C u0) :: (C, clsF C ns' T nt (k.ts 3)) :: (ns', dictOf (k.dd w.params u1 u2 me) 3) :: news) → (∀ p ∈ news, p.1 < ns') → ns' < C → C < me → Q (.ref C) ⟨h', g, d, tk', os⟩) :
   wpAny (model prog w) A (call (.type "type") l kw) Q E ⟨h, g, d, t, os⟩ := by
  subst hl hkw
  let k : KE := ⟨fun i => PyData.keyHash w.params ((["__module__", "__qualname__", "__firstlineno__", "__slots__", "__init__", "__lt__", "__gt__", "__eq__", "__le__", "__ge__", "__hash__", "__static_attributes__"] : List Str).getD i ""), fun i => [t0, t1, t2, t3, t4, t5, t6, t7, t8, t9, t10, t11, t12, t13, t14].getD i 0, SL, ST, f1, f2, f3, f4, f5, f6⟩
  exact call_type3 k F X hany hsys N m1 m2 m3 m4 m5 m6 m7 m8 m9 ma (fun C ns' me h' tk' u0 u1 u2 F' N' l1 l2 l3 => hq k C ns' me h' tk' u0 u1 u2 rfl rfl rfl F' N' l1 l2 l3)
end
noncomputable def fbody? : Stmt → Option (List Stmt)
  | .FunctionDef (body := b) .. => some b
  | .ClassDef (body := b) .. => some b
  | _ => none
noncomputable def fparams? (s : Stmt) : Option Arguments := (fdOf? s).map (·.1)
noncomputable def fscope? (s : Stmt) : Option Scope := (fdOf? s).map (·.2.2)
noncomputable def kDef (i : Nat) : Option Stmt := (PySem.Challenge.pw_il0172_01.main.body[5]?).bind fun s => (fbody? s).bind fun l => (l[0]?).bind fun c => (fbody? c).bind fun l => l[i]?
noncomputable abbrev getB {α : Type} {b : α} {o : Option α} (_ : o = some b) : α := b
noncomputable abbrev initP : Arguments := getB (show (kDef 2).bind fparams? = some _ from rfl)
noncomputable abbrev initB : List Stmt := getB (show (kDef 2).bind fbody? = some _ from rfl)
noncomputable abbrev initS : Scope := getB (show (kDef 2).bind fscope? = some _ from rfl)
noncomputable abbrev ltP : Arguments := getB (show (kDef 3).bind fparams? = some _ from rfl)
noncomputable abbrev ltB : List Stmt := getB (show (kDef 3).bind fbody? = some _ from rfl)
noncomputable abbrev ltS : Scope := getB (show (kDef 3).bind fscope? = some _ from rfl)
noncomputable abbrev initO (doc nm : Value) (c1 : Addr) (ctv : Value) : Obj := fnMade "__init__" "cmp_to_key.<locals>.K.__init__" initP initB initS [] doc nm c1 ctv
noncomputable abbrev ltO (ce : Addr) (doc nm : Value) (c2 : Addr) (ctv : Value) : Obj := fnMade "__lt__" "cmp_to_key.<locals>.K.__lt__" ltP ltB ltS [("mycmp", ce)] doc nm c2 ctv
structure KI where
  C : Addr
  ns : Addr
  me : Addr
  f1 : Addr
  f2 : Addr
  ce : Addr
  c1 : Addr
  c2 : Addr
  oc : Obj
  k : KE
  T : Addr
  nt : Tok
  u0 : Tok
  u1 : Tok
  u2 : Tok
  d1 : Value
  d2 : Value
  n1 : Value
  n2 : Value
  v1 : Value
  v2 : Value
noncomputable def KI.cls (i : KI) (w : Params) : List (Addr × Obj) := [(i.me, memO i.C i.u0), (i.C, clsF i.C i.ns i.T i.nt (i.k.ts 3)), (i.ns, dictOf (i.k.dd w i.u1 i.u2 i.me) 3), (i.f2, ltO i.ce i.d2 i.n2 i.c2 i.v2), (i.f1, initO i.d1 i.n1 i.c1 i.v1), (i.ce, i.oc)]
structure KI.Ok (i : KI) (w : Params) (cmp : Value) : Prop where
  hk1 : i.k.f1 = i.f1
  hk2 : i.k.f2 = i.f2
  hhs : i.k.hs = (fun i => PyData.keyHash w ((["__module__", "__qualname__", "__firstlineno__", "__slots__", "__init__", "__lt__", "__gt__", "__eq__", "__le__", "__ge__", "__hash__", "__static_attributes__"] : List Str).getD i ""))
  cell : i.oc.data = .cell (some cmp)
  o1 : @LT.lt Nat _ i.ce i.f1
  o2 : @LT.lt Nat _ i.f1 i.f2
  o3 : @LT.lt Nat _ i.f2 i.ns
  o4 : @LT.lt Nat _ i.ns i.C
  o5 : @LT.lt Nat _ i.C i.me
structure TI where
  c : Addr
  P : Addr
  c1 : Addr
  c2 : Addr
  c3 : Addr
  c4 : Addr
  c5 : Addr
  c6 : Addr
  o : Obj
  o1 : Obj
  o2 : Obj
  o3 : Obj
  o4 : Obj
  o5 : Obj
  o6 : Obj
noncomputable abbrev TI.tab (t : TI) : Obj := tabObj #[rawInt 47, rawInt 8, .ref t.c1, rawInt 50, rawInt 8, .ref t.c2, rawInt 53, rawInt 8, .ref t.c3, rawInt 56, rawInt 8, .ref t.c4, rawInt 59, rawInt 8, .ref t.c5, rawInt 62, rawInt 8, .ref t.c6]
noncomputable def TI.l (t : TI) : List (Addr × Obj) := [(106, tabObj #[rawInt 43, rawInt 4, .ref t.c]), (t.c, t.o), (t.P, t.tab), (t.c1, t.o1), (t.c2, t.o2), (t.c3, t.o3), (t.c4, t.o4), (t.c5, t.o5), (t.c6, t.o6)]
structure TI.Ok (t : TI) : Prop where
  co : CodeO t.o t.P
  cq : CodeQ t.o "cmp_to_key.<locals>.K"
  cp : t.c ≠ t.P
  q1 : CodeQ t.o1 "cmp_to_key.<locals>.K.__init__"
  q2 : CodeQ t.o2 "cmp_to_key.<locals>.K.__lt__"
inductive CT : List (Addr × Obj) → Prop
  | first : CT [(106, tabObj #[])]
  | later (t : TI) (ok : t.Ok) : CT t.l
theorem sub_nil {l : List (Addr × Obj)} : ∀ p ∈ ([] : List (Addr × Obj)), p ∈ l := fun _ h => nomatch h
theorem sub_cons {e : Addr × Obj} {r l : List (Addr × Obj)} (h : e ∈ l) (hs : ∀ p ∈ r, p ∈ l) : ∀ p ∈ e :: r, p ∈ l := fun p hp => by
  rcases List.mem_cons.mp hp with rfl | hp
  · exact h
  · exact hs p hp
end Mine
end
section
open PySem PySem.W PyProof.Rows PySem.Calls
set_option Elab.async false
set_option maxRecDepth 100000
set_option maxHeartbeats 8000000
set_option linter.unusedVariables false
namespace Mine
noncomputable abbrev kScope : Scope := getB (show (fun s => match s with | some (Stmt.ClassDef _ _ _ _ _ _ sc _ _ _ _) => some sc | _ => none) ((PySem.Challenge.pw_il0172_01.main.body[5]?).bind fun s => (fbody? s).bind fun l => l[0]?) = some _ from rfl)
noncomputable abbrev kEnv (q c fr ce : Addr) : Env := { scope := kScope, locals := q, globals := mainGlobals, cells := [(Str.ofString "mycmp", ce)], qual := Str.ofString "cmp_to_key.<locals>.K.", code := .ref c, frame := some fr, builtins := builtinsNs }
theorem putL_ab {nm : Str} {hsh : Int} {key v : Value} : ∀ {es : List DictEntry}, es.any (·.key.isStr nm) = false → putL nm hsh key v es = es ++ [⟨hsh, key, v⟩]
  | [], _ => rfl
  | e :: r, h => by
    rw [List.any_cons, Bool.or_eq_false_iff] at h
    unfold putL
    rw [if_neg (by rw [h.1]; decide), putL_ab h.2]
    rfl
section
variable {w : World} {A : Around} {E : Value → Shared → Prop} {h₀ h : Heap} {L : Addr} {m mg mb : Str → Option Value} {g : Array GenState} {d : Drawn} {t : Nat} {os : OsState} {p : Program} {loose : List Str} {mean : ExcName → Option Value}
theorem W_storeC {q c fr ce : Addr} {nm : Str} {v : Value} {es : List DictEntry} {n : Nat} {news : List (Addr × Obj)} {gg : Obj → List (Addr × Obj)} {Q : Unit → Shared → Prop} (hk : (kEnv q c fr ce).kindOf nm = some .local)
   (F : Fr h₀ L h m) (N : News h₀ L h news) (hm : (q, dictOf es n) ∈ news) (U : UpdF q (dictOf es n) news gg) (hl : (getL nm es).isSome = true) (hab : es.any (·.key.isStr nm) = false)
   (hq : ∀ h', Fr h₀ L h' m → News h₀ L h' (gg (dictOf (es ++ [⟨PyData.keyHash w.params nm, .str nm t, v⟩]) (n + 1))) → Q () ⟨h', g, d, t + 1, os⟩) : wpAny (model PySem.Challenge.rw_il0172_01.row.prog w) A (storeName (kEnv q c fr ce) nm v) Q E ⟨h, g, d, t, os⟩ := by
  unfold storeName
  rw [hk]
  refine (show wpAny (model PySem.Challenge.rw_il0172_01.row.prog w) A (localSet (kEnv q c fr ce) nm v) Q E ⟨h, g, d, t, os⟩ → _ from fun z => z) ?_
  unfold localSet
  refine wpAny_bind (W_load N hm ?_)
  refine (show wpAny (model PySem.Challenge.rw_il0172_01.row.prog w) A (nsSet q nm v) Q E ⟨h, g, d, t, os⟩ → _ from fun z => z) ?_
  refine W_nsSet F N U hl ?_ hq
  rw [putL_ab hab]
  unfold putN
  rw [hab]
  rfl
theorem W_defM {q c P fr ce : Addr} {oc : Obj} {es : List DictEntry} {n : Nat} {ps : Array Value} {tl : List (Addr × Obj)} {nm : Str} {pr : Arguments} {b : List Stmt} {sc : Scope} {pos : Pos} {rest : List Stmt} {clos : List (Str × Addr)} {Q : Flow → Shared → Prop} (q2 : Str)
   (hqn : qualnameIn (kEnv q c fr ce) nm nm = q2) (hpd : pr.defaults = []) (hpk : pr.kw_defaults = []) (hpa : annTrees pr none (kEnv q c fr ce) = []) (hk : (kEnv q c fr ce).kindOf nm = some .local) (hcl : closureFor sc (kEnv q c fr ce) = pure clos)
   (F : Fr h₀ L h m) (T : Top p loose mean mg mb h₀) (N : News h₀ L h ((q, dictOf es n) :: (P, tabObj ps) :: tl)) (hc : (c, oc) ∈ tl) (hco : CodeO oc P) (hcp : c ≠ P) (hqP : q ≠ P) (htl : ∀ e ∈ tl, e.1 ≠ q ∧ e.1 ≠ P)
   (ht : TriplesOk ps.toList) (hnf : codeAmong pos ps.toList = none) (hl : (getL nm es).isSome = true) (hab : es.any (·.key.isStr nm) = false)
   (hq : ∀ f c' o' ctv doc h' tk tn, Fr h₀ L h' m → News h₀ L h' ((q, dictOf (es ++ [⟨PyData.keyHash w.params nm, .str nm tn, .ref f⟩]) (n + 1)) :: (P, tabObj (ps ++ #[rawInt pos.line, rawInt pos.col, .ref c'])) :: (f, fnMade nm q2 pr b sc clos doc ((mg "__name__").getD .none) c' ctv) :: (c', o') :: tl) →
     CodeQ o' q2 → @LT.lt Nat _ q c' → @LT.lt Nat _ P c' → (∀ e ∈ tl, @LT.lt Nat _ e.1 c') → @LT.lt Nat _ c' f → (∀ e ∈ (f, fnMade nm q2 pr b sc clos doc ((mg "__name__").getD .none) c' ctv) :: (c', o') :: tl, e.1 ≠ q ∧ e.1 ≠ P) → wpAny (model PySem.Challenge.rw_il0172_01.row.prog w) A (execs rest (kEnv q c fr ce)) Q E ⟨h', g, d, tk, os⟩) :
   wpAny (model PySem.Challenge.rw_il0172_01.row.prog w) A (execs (.FunctionDef nm pr b [] none [] sc none nm pos :: rest) (kEnv q c fr ce)) Q E ⟨h, g, d, t, os⟩ := by
  refine wpAny_execs_cons (nestDef_K hpd hpk hpa ?_)
  refine W_nest q2 hqn F N T rfl rfl (.tail _ (.tail _ hc)) hco hcp (.tail hqP (.head fun e he => (htl e he).2)) ht hnf hcl (fun f c' o' ctv doc h' tk F' N' hq1 l1 l2 => ?_)
  have l1 : ∀ e ∈ (q, dictOf es n) :: (P, tabObj ps) :: tl, @LT.lt Nat _ e.1 c' := l1
  have l2 : @LT.lt Nat _ c' f := l2
  have lq : @LT.lt Nat _ q c' := l1 _ (.head _)
  have lP : @LT.lt Nat _ P c' := l1 _ (.tail _ (.head _))
  refine W_storeC hk F' N' (.tail _ (.tail _ (.head _))) (.tail (Nat.ne_of_gt (Nat.lt_trans lq l2)) (.tail (Nat.ne_of_gt lq) (.head fun e he => ?_))) hl hab (fun h2 F2 N2 => ?_)
  · rcases List.mem_cons.mp he with rfl | he
    · exact Ne.symm hqP
    · exact (htl e he).1
  · refine hq f c' o' ctv doc h2 _ tk F2 (cb_drop N2 (fun e he => ?_)) hq1 lq lP (fun e he => l1 e (.tail _ (.tail _ he))) l2 (fun e he => ?_)
    · rcases List.mem_cons.mp he with rfl | he
      · exact .tail _ (.tail _ (.head _))
      rcases List.mem_cons.mp he with rfl | he
      · exact .tail _ (.tail _ (.tail _ (.head _)))
      rcases List.mem_cons.mp he with rfl | he
      · exact .head _
      rcases List.mem_cons.mp he with rfl | he
      · exact .tail _ (.head _)
      · exact .tail _ (.tail _ (.tail _ (.tail _ he)))
    · rcases List.mem_cons.mp he with rfl | he
      · exact ⟨Nat.ne_of_gt (Nat.lt_trans lq l2), Nat.ne_of_gt (Nat.lt_trans lP l2)⟩
      rcases List.mem_cons.mp he with rfl | he
      · exact ⟨Nat.ne_of_gt lq, Nat.ne_of_gt lP⟩
      · exact htl e he
theorem W_defH {q c c' P fr ce : Addr} {oc : Obj} {es : List DictEntry} {n : Nat} {ps : Array Value} {tl : List (Addr × Obj)} {nm : Str} {pr : Arguments} {b : List Stmt} {sc : Scope} {pos : Pos} {rest : List Stmt} {clos : List (Str × Addr)} {Q : Flow → Shared → Prop} (q2 : Str)
   (hqn : qualnameIn (kEnv q c fr ce) nm nm = q2) (hpd : pr.defaults = []) (hpk : pr.kw_defaults = []) (hpa : annTrees pr none (kEnv q c fr ce) = []) (hk : (kEnv q c fr ce).kindOf nm = some .local) (hcl : closureFor sc (kEnv q c fr ce) = pure clos)
   (F : Fr h₀ L h m) (T : Top p loose mean mg mb h₀) (N : News h₀ L h ((q, dictOf es n) :: tl)) (hc : (c, oc) ∈ tl) (hco : CodeO oc P) (hcp : c ≠ P) (hP : (P, tabObj ps) ∈ tl) (htl : ∀ e ∈ tl, e.1 ≠ q)
   (ht : TriplesOk ps.toList) (hnf : codeAmong pos ps.toList = some (.ref c')) (hl : (getL nm es).isSome = true) (hab : es.any (·.key.isStr nm) = false)
   (hq : ∀ f ctv doc h' tk tn, Fr h₀ L h' m → News h₀ L h' ((q, dictOf (es ++ [⟨PyData.keyHash w.params nm, .str nm tn, .ref f⟩]) (n + 1)) :: (f, fnMade nm q2 pr b sc clos doc ((mg "__name__").getD .none) c' ctv) :: tl) →
     @LT.lt Nat _ q f → (∀ e ∈ tl, @LT.lt Nat _ e.1 f) → (∀ e ∈ (f, fnMade nm q2 pr b sc clos doc ((mg "__name__").getD .none) c' ctv) :: tl, e.1 ≠ q) → wpAny (model PySem.Challenge.rw_il0172_01.row.prog w) A (execs rest (kEnv q c fr ce)) Q E ⟨h', g, d, tk, os⟩) :
   wpAny (model PySem.Challenge.rw_il0172_01.row.prog w) A (execs (.FunctionDef nm pr b [] none [] sc none nm pos :: rest) (kEnv q c fr ce)) Q E ⟨h, g, d, t, os⟩ := by
  refine wpAny_execs_cons (nestDef_K hpd hpk hpa ?_)
  refine W_nestH q2 hqn F N T rfl rfl (.tail _ hc) hco hcp (.tail _ hP) ht hnf hcl (fun f ctv doc h' tk F' N' l1 => ?_)
  have l1 : ∀ e ∈ (q, dictOf es n) :: tl, @LT.lt Nat _ e.1 f := l1
  have lq : @LT.lt Nat _ q f := l1 _ (.head _)
  refine W_storeC hk F' N' (.tail _ (.head _)) (.tail (Nat.ne_of_gt lq) (.head htl)) hl hab (fun h2 F2 N2 => ?_)
  refine hq f ctv doc h2 _ tk F2 (cb_drop N2 (fun e he => ?_)) lq (fun e he => l1 e (.tail _ he)) (fun e he => ?_)
  · rcases List.mem_cons.mp he with rfl | he
    · exact .tail _ (.head _)
    rcases List.mem_cons.mp he with rfl | he
    · exact .head _
    · exact .tail _ (.tail _ he)
  · rcases List.mem_cons.mp he with rfl | he
    · exact Nat.ne_of_gt lq
    · exact htl e he
end
end Mine
end
section
open PySem PySem.W PyProof.Rows PySem.Calls
set_option Elab.async false
set_option maxRecDepth 100000
set_option maxHeartbeats 8000000
set_option linter.unusedVariables false
namespace Mine
noncomputable abbrev kBody : List Stmt := getB (show (PySem.Challenge.pw_il0172_01.main.body[5]?).bind (fun s => (fbody? s).bind fun l => (l[0]?).bind fbody?) = some _ from rfl)
theorem headA {h₀ h : Heap} {L x : Addr} {o : Obj} {r : List (Addr × Obj)} (N : News h₀ L h ((x, o) :: r)) : ∃ y, y = x := ⟨x, rfl⟩
theorem rot3 {α : Type} {a b c : α} {l : List α} : ∀ p ∈ b :: c :: a :: l, p ∈ a :: b :: c :: l := by
  intro p hp
  rcases List.mem_cons.mp hp with rfl | hp
  · exact .tail _ (.head _)
  rcases List.mem_cons.mp hp with rfl | hp
  · exact .tail _ (.tail _ (.head _))
  rcases List.mem_cons.mp hp with rfl | hp
  · exact .head _
  · exact .tail _ (.tail _ (.tail _ hp))
theorem rot2 {α : Type} {a b : α} {l : List α} : ∀ p ∈ b :: a :: l, p ∈ a :: b :: l := by
  intro p hp
  rcases List.mem_cons.mp hp with rfl | hp
  · exact .tail _ (.head _)
  rcases List.mem_cons.mp hp with rfl | hp
  · exact .head _
  · exact .tail _ (.tail _ hp)
theorem neC {q P : Addr} {o : Obj} {tl : List (Addr × Obj)} (hqP : q ≠ P) (h : ∀ e ∈ tl, e.1 ≠ q ∧ e.1 ≠ P) : ∀ e ∈ (P, o) :: tl, e.1 ≠ q := by
  intro e he
  rcases List.mem_cons.mp he with rfl | he
  · exact Ne.symm hqP
  · exact (h e he).1
theorem consT {q P a : Addr} {o : Obj} {tl : List (Addr × Obj)} (h1 : a ≠ q) (h2 : a ≠ P) (h : ∀ e ∈ tl, e.1 ≠ q ∧ e.1 ≠ P) : ∀ e ∈ (a, o) :: tl, e.1 ≠ q ∧ e.1 ≠ P := by
  intro e he
  rcases List.mem_cons.mp he with rfl | he
  · exact ⟨h1, h2⟩
  · exact h e he
theorem consH {q a : Addr} {o : Obj} {tl : List (Addr × Obj)} (h1 : a ≠ q) (h : ∀ e ∈ tl, e.1 ≠ q) : ∀ e ∈ (a, o) :: tl, e.1 ≠ q := by
  intro e he
  rcases List.mem_cons.mp he with rfl | he
  · exact h1
  · exact h e he
section
variable {w : World} {A : Around} {E : Value → Shared → Prop} {h₀ h : Heap} {L : Addr} {m mg mb : Str → Option Value} {g : Array GenState} {d : Drawn} {t : Nat} {os : OsState} {p : Program} {loose : List Str} {mean : ExcName → Option Value}
theorem W_stopD {prog : Program} {nm : Str} {pr : Arguments} {b : List Stmt} {l : List Expr} {r : Option Expr} {tp : List TypeParam} {sc : Scope} {ts : Option Scope} {bi : Str} {pos : Pos} {rest : List Stmt} {env : Env} {Q : Flow → Shared → Prop} {s : Shared} (hq : Stop (wpAny (model prog w) A (execs (.FunctionDef nm pr b l r tp sc ts bi pos :: rest) env) Q E s)) : wpAny (model prog w) A (execs (.FunctionDef nm pr b l r tp sc ts bi pos :: rest) env) Q E s := hq
theorem W_bodyM {q c P fr ce T0 : Addr} {oc oce : Obj} {a0 a1 a2 b1 b2 : Tok} {va : Value} {tl news Tb : List (Addr × Obj)} {Q : Flow → Shared → Prop}
   (F : Fr h₀ L h m) (T : Top p loose mean mg mb h₀) (N : News h₀ L h ((q, dictOf [⟨PyData.keyHash w.params "__module__", .str "__module__" a0, va⟩, ⟨PyData.keyHash w.params "__qualname__", .str "__qualname__" a1, .str "cmp_to_key.<locals>.K" b1⟩, ⟨PyData.keyHash w.params "__firstlineno__", .str "__firstlineno__" a2, .int 43 b2⟩] 3) :: (P, tabObj #[]) :: tl)) (hc : (c, oc) ∈ tl) (hco : CodeO oc P) (hcq : CodeQ oc "cmp_to_key.<locals>.K") (hcp : c ≠ P) (hqP : q ≠ P) (htl : ∀ e ∈ tl, e.1 ≠ q ∧ e.1 ≠ P)
   (hT0 : (T0, tupO #[.type "object"]) ∈ tl) (hce : (ce, oce) ∈ tl) (h106 : (106, tabObj #[rawInt 43, rawInt 4, .ref c]) ∈ tl) (hnw : ∀ e ∈ news, e ∈ tl) (hTb : Tb = [(106, tabObj #[])]) (hlc : ∀ e ∈ news, @LT.lt Nat _ e.1 c) (hlP : ∀ e ∈ news, @LT.lt Nat _ e.1 P)
   (hq : ∀ (tI : TI) (SL f1 f2 f3 f4 f5 f6 : Addr) (fd3 fd4 fd5 fd6 : FuncData) (d1 d2 v1 v2 : Value) (x0 x1 x2 x3 x4 x5 x6 x7 x8 x9 x10 x11 x12 x13 sk : Tok) tl' h' tk', tI.Ok → (∀ e ∈ tI.l, (∃ r ∈ Tb, r.1 = e.1) ∨ (∀ r ∈ news, @LT.lt Nat _ r.1 e.1)) → (∀ e ∈ tI.l ++ news, e ∈ tl') → Fr h₀ L h' m → News h₀ L h' ((q, dictOf [⟨PyData.keyHash w.params "__module__", .str "__module__" x0, .str "cpy313.functools" x1⟩, ⟨PyData.keyHash w.params "__qualname__", .str "__qualname__" x2, .str "cmp_to_key.<locals>.K" x3⟩, ⟨PyData.keyHash w.params "__firstlineno__", .str "__firstlineno__" x4, .int 43 x5⟩, ⟨PyData.keyHash w.params "__slots__", .str "__slots__" x6, .ref SL⟩, ⟨PyData.keyHash w.params "__init__", .str "__init__" x7, .ref f1⟩, ⟨PyData.keyHash w.params "__lt__", .str "__lt__" x8, .ref f2⟩, ⟨PyData.keyHash w.params "__gt__", .str "__gt__" x9, .ref f3⟩, ⟨PyData.keyHash w.params "__eq__", .str "__eq__" x10, .ref f4⟩, ⟨PyData.keyHash w.params "__le__", .str "__le__" x11, .ref f5⟩, ⟨PyData.keyHash w.params "__ge__", .str "__ge__" x12, .ref f6⟩, ⟨PyData.keyHash w.params "__hash__", .str "__hash__" x13, .none⟩] 11) :: tl') →
     (SL, listOf #[.str "obj" sk] 0) ∈ tl' → (T0, tupO #[.type "object"]) ∈ tl' → (ce, oce) ∈ tl' → (f1, initO d1 ((mg "__name__").getD .none) tI.c1 v1) ∈ tl' → (f2, ltO ce d2 ((mg "__name__").getD .none) tI.c2 v2) ∈ tl' → (f3, fO fd3) ∈ tl' → (f4, fO fd4) ∈ tl' → (f5, fO fd5) ∈ tl' → (f6, fO fd6) ∈ tl' → @LT.lt Nat _ ce f1 → @LT.lt Nat _ f1 f2 → (∀ e ∈ tl', e.1 ≠ q) → Q .next ⟨h', g, d, tk', os⟩) : wpAny (model PySem.Challenge.rw_il0172_01.row.prog w) A (execs kBody (kEnv q c fr ce)) Q E ⟨h, g, d, t, os⟩ := by
  repeat (first
    | (with_reducible refine W_stopD ?_)
    | (with_reducible refine wpAny_execs_cons ?_)
    | (with_reducible refine wpAny_onRaise ?_)
    | ((with_reducible refine' W_assignN ?hs ?_); (case hs => rfl))
    | (first | with_reducible (first | refine wpAny_pure ?_ | refine wpAny_bind ?_ | refine wpAny_holding ?_ | refine wpAny_standAt ?_ | refine wpAny_point ?_ | refine wpAny_rule ?_ | refine wpAny_letGo ?_ | refine wpAny_mkInt' ?_ | refine wpAny_fresh' ?_ | refine wpAny_attempt ?_ | refine wpAny_throw ?_ | refine wpAny_of_eq (by assumption) ?_ | refine wpAny_call ?_ | refine wpAny_runValue ?_ | refine wpAny_run ?_) | ((with_reducible refine' W_mkStr ?hx ?_); (case hx => size_fits)) | ((with_reducible refine' W_load ?hN ?hm ?_); (case hN => assumption); (case hm => k_mem)) | ((with_reducible refine' W_ld ?hN ?hm ?_); (case hN => assumption); (case hm => k_mem)) | ((with_reducible refine' W_nsGet ?hN ?hm ?he ?_); (case hN => assumption); (case hm => k_mem); (case he => first | assumption | k_get)) | ((with_reducible refine' W_lookup0 ?hN ?h1 ?hm ?hn ?h2 ?he ?ho ?_); (case hN => assumption); (case h1 => k_mem); (case hm => rfl); (case hn => rfl); (case h2 => k_mem); (case he => assumption); (case ho => assumption)) | ((with_reducible refine' W_alloc ?hF ?hN ?hf ?_); (case hF => assumption); (case hN => assumption); (case hf => rfl); intro a' h' F' N' l'; (try k_lt l'); (try simp only [Option.getD_some, List.isEmpty_cons, Bool.false_eq_true, if_false] at N')) | ((with_reducible refine' W_setSlot ?hF ?hN ?hU ?hi ?hf ?he ?_); (case hF => assumption); (case hN => assumption); (case hU => k_updF); (case hi => decide); (case he => k_slotset); (case hf => rfl); intro h' F' N'; (try dsimp only at N')) | ((with_reducible refine' W_updCls ?hF ?hN ?hU ?he ?hp ?_); (case hF => assumption); (case hN => assumption); (case hU => k_updF); (case he => exact rfl); (case hp => rfl); intro h' F' N'; (try dsimp only at N'); (try simp only [k_any3, Bool.or_self] at N')) | ((with_reducible refine' W_nsSet ?hF ?hN ?hU ?hl ?he ?_); (case hF => assumption); (case hN => assumption); (case hU => first | exact .head (neC hqP (by assumption)) | exact .head (by assumption) | exact .tail (by k_ne) (.head (neC hqP (by assumption))) | exact .tail (by k_ne) (.head (by assumption))); (case hl => k_get); (case he => k_put); intro h' F' N'; (try dsimp only at N')) | ((with_reducible refine' wpAny_ite_false ?hc ?_); (case hc => first | rfl | (simp only [*, Bool.not_true, Bool.not_false, Bool.false_eq_true, decide_false, decide_true]; done) | (decide +kernel))) | ((with_reducible refine' wpAny_ite_true ?hc ?_); (case hc => first | rfl | (simp only [*, Bool.not_true, Bool.not_false, Bool.false_eq_true, decide_false, decide_true]; done) | (decide +kernel))) | wp_delta | with_reducible_and_instances refine wpAny_pure ?_ | with_reducible_and_instances refine wpAny_bind ?_))
  refine unstop ?_
  rename News h₀ L _ _ => N1
  rename Fr h₀ L _ _ => F1
  obtain ⟨SL, rfl⟩ := headA N1
  rename @LT.lt Nat _ q SL ∧ _ => lS
  have N1 := cb_drop N1 rot3
  refine W_defM "cmp_to_key.<locals>.K.__init__" (by kernel_rfl) rfl rfl rfl rfl rfl F1 T N1 (.tail _ hc) hco hcp hqP (consT (Nat.ne_of_gt lS.1) (Nat.ne_of_gt lS.2.1) htl) (by trivial) (by rfl) (by kernel_rfl) (by kernel_rfl) (fun f1 c1 o1 v1 d1 h' tk' x7 F1 N1 hq1 _ _ lc1 ld1 htl1 => ?_)
  simp only [List.append_toArray, List.cons_append, List.nil_append] at N1
  refine W_defM "cmp_to_key.<locals>.K.__lt__" (by kernel_rfl) rfl rfl rfl rfl rfl F1 T N1 (.tail _ (.tail _ (.tail _ hc))) hco hcp hqP htl1 (by trivial) (by rfl) (by kernel_rfl) (by kernel_rfl) (fun f2 c2 o2 v2 d2 h' tk' x8 F1 N1 hq2 _ _ lc2 ld2 htl2 => ?_)
  simp only [List.append_toArray, List.cons_append, List.nil_append] at N1
  refine W_defM "cmp_to_key.<locals>.K.__gt__" (by kernel_rfl) rfl rfl rfl rfl rfl F1 T N1 (.tail _ (.tail _ (.tail _ (.tail _ (.tail _ hc))))) hco hcp hqP htl2 (by trivial) (by rfl) (by kernel_rfl) (by kernel_rfl) (fun f3 c3 o3 v3 d3 h' tk' x9 F1 N1 hq3 _ _ lc3 ld3 htl3 => ?_)
  simp only [List.append_toArray, List.cons_append, List.nil_append] at N1
  refine W_defM "cmp_to_key.<locals>.K.__eq__" (by kernel_rfl) rfl rfl rfl rfl rfl F1 T N1 (.tail _ (.tail _ (.tail _ (.tail _ (.tail _ (.tail _ (.tail _ hc))))))) hco hcp hqP htl3 (by trivial) (by rfl) (by kernel_rfl) (by kernel_rfl) (fun f4 c4 o4 v4 d4 h' tk' x10 F1 N1 hq4 _ _ lc4 ld4 htl4 => ?_)
  simp only [List.append_toArray, List.cons_append, List.nil_append] at N1
  refine W_defM "cmp_to_key.<locals>.K.__le__" (by kernel_rfl) rfl rfl rfl rfl rfl F1 T N1 (.tail _ (.tail _ (.tail _ (.tail _ (.tail _ (.tail _ (.tail _ (.tail _ (.tail _ hc))))))))) hco hcp hqP htl4 (by trivial) (by rfl) (by kernel_rfl) (by kernel_rfl) (fun f5 c5 o5 v5 d5 h' tk' x11 F1 N1 hq5 _ _ lc5 ld5 htl5 => ?_)
  simp only [List.append_toArray, List.cons_append, List.nil_append] at N1
  refine W_defM "cmp_to_key.<locals>.K.__ge__" (by kernel_rfl) rfl rfl rfl rfl rfl F1 T N1 (.tail _ (.tail _ (.tail _ (.tail _ (.tail _ (.tail _ (.tail _ (.tail _ (.tail _ (.tail _ (.tail _ hc))))))))))) hco hcp hqP htl5 (by trivial) (by rfl) (by kernel_rfl) (by kernel_rfl) (fun f6 c6 o6 v6 d6 h' tk' x12 F1 N1 hq6 _ _ lc6 ld6 htl6 => ?_)
  simp only [List.append_toArray, List.cons_append, List.nil_append] at N1
  repeat (first
    | (with_reducible refine W_stopD ?_)
    | (with_reducible refine wpAny_execs_cons ?_)
    | (with_reducible refine wpAny_onRaise ?_)
    | ((with_reducible refine' W_assignN ?hs ?_); (case hs => rfl))
    | (first | with_reducible (first | refine wpAny_pure ?_ | refine wpAny_bind ?_ | refine wpAny_holding ?_ | refine wpAny_standAt ?_ | refine wpAny_point ?_ | refine wpAny_rule ?_ | refine wpAny_letGo ?_ | refine wpAny_mkInt' ?_ | refine wpAny_fresh' ?_ | refine wpAny_attempt ?_ | refine wpAny_throw ?_ | refine wpAny_of_eq (by assumption) ?_ | refine wpAny_call ?_ | refine wpAny_runValue ?_ | refine wpAny_run ?_) | ((with_reducible refine' W_mkStr ?hx ?_); (case hx => size_fits)) | ((with_reducible refine' W_load ?hN ?hm ?_); (case hN => assumption); (case hm => k_mem)) | ((with_reducible refine' W_ld ?hN ?hm ?_); (case hN => assumption); (case hm => k_mem)) | ((with_reducible refine' W_nsGet ?hN ?hm ?he ?_); (case hN => assumption); (case hm => k_mem); (case he => first | assumption | k_get)) | ((with_reducible refine' W_lookup0 ?hN ?h1 ?hm ?hn ?h2 ?he ?ho ?_); (case hN => assumption); (case h1 => k_mem); (case hm => rfl); (case hn => rfl); (case h2 => k_mem); (case he => assumption); (case ho => assumption)) | ((with_reducible refine' W_alloc ?hF ?hN ?hf ?_); (case hF => assumption); (case hN => assumption); (case hf => rfl); intro a' h' F' N' l'; (try k_lt l'); (try simp only [Option.getD_some, List.isEmpty_cons, Bool.false_eq_true, if_false] at N')) | ((with_reducible refine' W_setSlot ?hF ?hN ?hU ?hi ?hf ?he ?_); (case hF => assumption); (case hN => assumption); (case hU => k_updF); (case hi => decide); (case he => k_slotset); (case hf => rfl); intro h' F' N'; (try dsimp only at N')) | ((with_reducible refine' W_updCls ?hF ?hN ?hU ?he ?hp ?_); (case hF => assumption); (case hN => assumption); (case hU => k_updF); (case he => exact rfl); (case hp => rfl); intro h' F' N'; (try dsimp only at N'); (try simp only [k_any3, Bool.or_self] at N')) | ((with_reducible refine' W_nsSet ?hF ?hN ?hU ?hl ?he ?_); (case hF => assumption); (case hN => assumption); (case hU => first | exact .head (neC hqP (by assumption)) | exact .head (by assumption) | exact .tail (by k_ne) (.head (neC hqP (by assumption))) | exact .tail (by k_ne) (.head (by assumption))); (case hl => k_get); (case he => k_put); intro h' F' N'; (try dsimp only at N')) | ((with_reducible refine' wpAny_ite_false ?hc ?_); (case hc => first | rfl | (simp only [*, Bool.not_true, Bool.not_false, Bool.false_eq_true, decide_false, decide_true]; done) | (decide +kernel))) | ((with_reducible refine' wpAny_ite_true ?hc ?_); (case hc => first | rfl | (simp only [*, Bool.not_true, Bool.not_false, Bool.false_eq_true, decide_false, decide_true]; done) | (decide +kernel))) | wp_delta | with_reducible_and_instances refine wpAny_pure ?_ | with_reducible_and_instances refine wpAny_bind ?_))
  rename News h₀ L _ _ => N2
  rename Fr h₀ L _ _ => F2
  have lt : ∀ e ∈ tl, @LT.lt Nat _ e.1 c1 := fun e he => lc1 e (.tail _ he)
  have c12 : @LT.lt Nat _ c1 c2 := Nat.lt_trans ld1 (lc2 _ (.head _))
  have c23 : @LT.lt Nat _ c2 c3 := Nat.lt_trans ld2 (lc3 _ (.head _))
  have c34 : @LT.lt Nat _ c3 c4 := Nat.lt_trans ld3 (lc4 _ (.head _))
  have c45 : @LT.lt Nat _ c4 c5 := Nat.lt_trans ld4 (lc5 _ (.head _))
  have c56 : @LT.lt Nat _ c5 c6 := Nat.lt_trans ld5 (lc6 _ (.head _))
  have ln : ∀ r ∈ news, @LT.lt Nat _ r.1 c1 := fun r hr => lt r (hnw r hr)
  refine' hq ⟨c, P, c1, c2, c3, c4, c5, c6, oc, o1, o2, o3, o4, o5, o6⟩ SL f1 f2 f3 f4 f5 f6 _ _ _ _ d1 d2 v1 v2 _ _ _ _ _ _ _ _ _ _ _ _ _ _ _ _ _ _ ⟨hco, hcq, hcp, hq1, hq2⟩ ?tabs ?sub F2 N2 ?m1 ?m2 ?m3 ?m4 ?m5 ?m6 ?m7 ?m8 ?m9 ?la ?lb ?hne
  case tabs =>
    intro e he
    unfold TI.l at he
    simp only [List.mem_cons, List.not_mem_nil, or_false] at he
    rcases he with rfl | rfl | rfl | rfl | rfl | rfl | rfl | rfl | rfl
    · rw [hTb]; exact .inl ⟨_, .head _, rfl⟩
    · exact .inr hlc
    · exact .inr hlP
    all_goals exact .inr (fun r hr => Nat.lt_of_lt_of_le (ln r hr) (by (show @LE.le Nat _ _ _); omega))
  case sub =>
    intro e he
    rcases List.mem_append.mp he with he | he
    · unfold TI.l at he
      simp only [List.mem_cons, List.not_mem_nil, or_false] at he
      rcases he with rfl | rfl | rfl | rfl | rfl | rfl | rfl | rfl | rfl
      · exact (.tail _ (.tail _ (.tail _ (.tail _ (.tail _ (.tail _ (.tail _ (.tail _ (.tail _ (.tail _ (.tail _ (.tail _ (.tail _ (.tail _ h106))))))))))))))
      · exact (.tail _ (.tail _ (.tail _ (.tail _ (.tail _ (.tail _ (.tail _ (.tail _ (.tail _ (.tail _ (.tail _ (.tail _ (.tail _ (.tail _ hc))))))))))))))
      all_goals k_mem
    · exact (.tail _ (.tail _ (.tail _ (.tail _ (.tail _ (.tail _ (.tail _ (.tail _ (.tail _ (.tail _ (.tail _ (.tail _ (.tail _ (.tail _ (hnw e he)))))))))))))))
  case m2 => exact (.tail _ (.tail _ (.tail _ (.tail _ (.tail _ (.tail _ (.tail _ (.tail _ (.tail _ (.tail _ (.tail _ (.tail _ (.tail _ (.tail _ hT0))))))))))))))
  case m3 => exact (.tail _ (.tail _ (.tail _ (.tail _ (.tail _ (.tail _ (.tail _ (.tail _ (.tail _ (.tail _ (.tail _ (.tail _ (.tail _ (.tail _ hce))))))))))))))
  case la => exact Nat.lt_trans (lt _ hce) ld1
  case lb => exact Nat.lt_trans (lc2 _ (.head _)) ld2
  case hne =>
    intro e he
    rcases List.mem_cons.mp he with rfl | he
    · exact Ne.symm hqP
    · exact (htl6 e he).1
  case m1 => k_mem
  case m4 => k_mem
  case m5 => k_mem
  case m6 => k_mem
  case m7 => k_mem
  case m8 => k_mem
  case m9 => k_mem
theorem W_bodyH {q fr ce T0 : Addr} {oce : Obj} {a0 a1 a2 b1 b2 : Tok} {va : Value} {tl news Tb : List (Addr × Obj)} {Q : Flow → Shared → Prop} (tI : TI) (okT : tI.Ok)
   (F : Fr h₀ L h m) (T : Top p loose mean mg mb h₀) (N : News h₀ L h ((q, dictOf [⟨PyData.keyHash w.params "__module__", .str "__module__" a0, va⟩, ⟨PyData.keyHash w.params "__qualname__", .str "__qualname__" a1, .str "cmp_to_key.<locals>.K" b1⟩, ⟨PyData.keyHash w.params "__firstlineno__", .str "__firstlineno__" a2, .int 43 b2⟩] 3) :: tl)) (hI : ∀ e ∈ tI.l, e ∈ tl) (htl : ∀ e ∈ tl, e.1 ≠ q)
   (hT0 : (T0, tupO #[.type "object"]) ∈ tl) (hce : (ce, oce) ∈ tl) (hnw : ∀ e ∈ news, e ∈ tl) (hTb : Tb = tI.l)
   (hq : ∀ (tI : TI) (SL f1 f2 f3 f4 f5 f6 : Addr) (fd3 fd4 fd5 fd6 : FuncData) (d1 d2 v1 v2 : Value) (x0 x1 x2 x3 x4 x5 x6 x7 x8 x9 x10 x11 x12 x13 sk : Tok) tl' h' tk', tI.Ok → (∀ e ∈ tI.l, (∃ r ∈ Tb, r.1 = e.1) ∨ (∀ r ∈ news, @LT.lt Nat _ r.1 e.1)) → (∀ e ∈ tI.l ++ news, e ∈ tl') → Fr h₀ L h' m → News h₀ L h' ((q, dictOf [⟨PyData.keyHash w.params "__module__", .str "__module__" x0, .str "cpy313.functools" x1⟩, ⟨PyData.keyHash w.params "__qualname__", .str "__qualname__" x2, .str "cmp_to_key.<locals>.K" x3⟩, ⟨PyData.keyHash w.params "__firstlineno__", .str "__firstlineno__" x4, .int 43 x5⟩, ⟨PyData.keyHash w.params "__slots__", .str "__slots__" x6, .ref SL⟩, ⟨PyData.keyHash w.params "__init__", .str "__init__" x7, .ref f1⟩, ⟨PyData.keyHash w.params "__lt__", .str "__lt__" x8, .ref f2⟩, ⟨PyData.keyHash w.params "__gt__", .str "__gt__" x9, .ref f3⟩, ⟨PyData.keyHash w.params "__eq__", .str "__eq__" x10, .ref f4⟩, ⟨PyData.keyHash w.params "__le__", .str "__le__" x11, .ref f5⟩, ⟨PyData.keyHash w.params "__ge__", .str "__ge__" x12, .ref f6⟩, ⟨PyData.keyHash w.params "__hash__", .str "__hash__" x13, .none⟩] 11) :: tl') →
     (SL, listOf #[.str "obj" sk] 0) ∈ tl' → (T0, tupO #[.type "object"]) ∈ tl' → (ce, oce) ∈ tl' → (f1, initO d1 ((mg "__name__").getD .none) tI.c1 v1) ∈ tl' → (f2, ltO ce d2 ((mg "__name__").getD .none) tI.c2 v2) ∈ tl' → (f3, fO fd3) ∈ tl' → (f4, fO fd4) ∈ tl' → (f5, fO fd5) ∈ tl' → (f6, fO fd6) ∈ tl' → @LT.lt Nat _ ce f1 → @LT.lt Nat _ f1 f2 → (∀ e ∈ tl', e.1 ≠ q) → Q .next ⟨h', g, d, tk', os⟩) : wpAny (model PySem.Challenge.rw_il0172_01.row.prog w) A (execs kBody (kEnv q tI.c fr ce)) Q E ⟨h, g, d, t, os⟩ := by
  have hc : (tI.c, tI.o) ∈ tl := hI _ (.tail _ (.head _))
  have hP : (tI.P, tI.tab) ∈ tl := hI _ (.tail _ (.tail _ (.head _)))
  repeat (first
    | (with_reducible refine W_stopD ?_)
    | (with_reducible refine wpAny_execs_cons ?_)
    | (with_reducible refine wpAny_onRaise ?_)
    | ((with_reducible refine' W_assignN ?hs ?_); (case hs => rfl))
    | (first | with_reducible (first | refine wpAny_pure ?_ | refine wpAny_bind ?_ | refine wpAny_holding ?_ | refine wpAny_standAt ?_ | refine wpAny_point ?_ | refine wpAny_rule ?_ | refine wpAny_letGo ?_ | refine wpAny_mkInt' ?_ | refine wpAny_fresh' ?_ | refine wpAny_attempt ?_ | refine wpAny_throw ?_ | refine wpAny_of_eq (by assumption) ?_ | refine wpAny_call ?_ | refine wpAny_runValue ?_ | refine wpAny_run ?_) | ((with_reducible refine' W_mkStr ?hx ?_); (case hx => size_fits)) | ((with_reducible refine' W_load ?hN ?hm ?_); (case hN => assumption); (case hm => k_mem)) | ((with_reducible refine' W_ld ?hN ?hm ?_); (case hN => assumption); (case hm => k_mem)) | ((with_reducible refine' W_nsGet ?hN ?hm ?he ?_); (case hN => assumption); (case hm => k_mem); (case he => first | assumption | k_get)) | ((with_reducible refine' W_lookup0 ?hN ?h1 ?hm ?hn ?h2 ?he ?ho ?_); (case hN => assumption); (case h1 => k_mem); (case hm => rfl); (case hn => rfl); (case h2 => k_mem); (case he => assumption); (case ho => assumption)) | ((with_reducible refine' W_alloc ?hF ?hN ?hf ?_); (case hF => assumption); (case hN => assumption); (case hf => rfl); intro a' h' F' N' l'; (try k_lt l'); (try simp only [Option.getD_some, List.isEmpty_cons, Bool.false_eq_true, if_false] at N')) | ((with_reducible refine' W_setSlot ?hF ?hN ?hU ?hi ?hf ?he ?_); (case hF => assumption); (case hN => assumption); (case hU => k_updF); (case hi => decide); (case he => k_slotset); (case hf => rfl); intro h' F' N'; (try dsimp only at N')) | ((with_reducible refine' W_updCls ?hF ?hN ?hU ?he ?hp ?_); (case hF => assumption); (case hN => assumption); (case hU => k_updF); (case he => exact rfl); (case hp => rfl); intro h' F' N'; (try dsimp only at N'); (try simp only [k_any3, Bool.or_self] at N')) | ((with_reducible refine' W_nsSet ?hF ?hN ?hU ?hl ?he ?_); (case hF => assumption); (case hN => assumption); (case hU => first | exact .head (neC hqP (by assumption)) | exact .head (by assumption) | exact .tail (by k_ne) (.head (neC hqP (by assumption))) | exact .tail (by k_ne) (.head (by assumption))); (case hl => k_get); (case he => k_put); intro h' F' N'; (try dsimp only at N')) | ((with_reducible refine' wpAny_ite_false ?hc ?_); (case hc => first | rfl | (simp only [*, Bool.not_true, Bool.not_false, Bool.false_eq_true, decide_false, decide_true]; done) | (decide +kernel))) | ((with_reducible refine' wpAny_ite_true ?hc ?_); (case hc => first | rfl | (simp only [*, Bool.not_true, Bool.not_false, Bool.false_eq_true, decide_false, decide_true]; done) | (decide +kernel))) | wp_delta | with_reducible_and_instances refine wpAny_pure ?_ | with_reducible_and_instances refine wpAny_bind ?_))
  refine unstop ?_
  rename News h₀ L _ _ => N1
  rename Fr h₀ L _ _ => F1
  obtain ⟨SL, rfl⟩ := headA N1
  rename @LT.lt Nat _ q SL ∧ _ => lS
  have lSt := allLt_to lS.2
  have N1 := cb_drop N1 rot2
  refine W_defH (c' := tI.c1) "cmp_to_key.<locals>.K.__init__" (by kernel_rfl) rfl rfl rfl rfl rfl F1 T N1 (.tail _ hc) okT.co okT.cp (.tail _ hP) (consH (Nat.ne_of_gt lS.1) htl) (by trivial) (by kernel_rfl) (by kernel_rfl) (by kernel_rfl) (fun f1 v1 d1 h' tk' x7 F1 N1 _ ld1 htl1 => ?_)
  simp only [List.cons_append, List.nil_append] at N1
  refine W_defH (c' := tI.c2) "cmp_to_key.<locals>.K.__lt__" (by kernel_rfl) rfl rfl rfl rfl rfl F1 T N1 (.tail _ (.tail _ hc)) okT.co okT.cp (.tail _ (.tail _ hP)) htl1 (by trivial) (by kernel_rfl) (by kernel_rfl) (by kernel_rfl) (fun f2 v2 d2 h' tk' x8 F1 N1 _ ld2 htl2 => ?_)
  simp only [List.cons_append, List.nil_append] at N1
  refine W_defH (c' := tI.c3) "cmp_to_key.<locals>.K.__gt__" (by kernel_rfl) rfl rfl rfl rfl rfl F1 T N1 (.tail _ (.tail _ (.tail _ hc))) okT.co okT.cp (.tail _ (.tail _ (.tail _ hP))) htl2 (by trivial) (by kernel_rfl) (by kernel_rfl) (by kernel_rfl) (fun f3 v3 d3 h' tk' x9 F1 N1 _ ld3 htl3 => ?_)
  simp only [List.cons_append, List.nil_append] at N1
  refine W_defH (c' := tI.c4) "cmp_to_key.<locals>.K.__eq__" (by kernel_rfl) rfl rfl rfl rfl rfl F1 T N1 (.tail _ (.tail _ (.tail _ (.tail _ hc)))) okT.co okT.cp (.tail _ (.tail _ (.tail _ (.tail _ hP)))) htl3 (by trivial) (by kernel_rfl) (by kernel_rfl) (by kernel_rfl) (fun f4 v4 d4 h' tk' x10 F1 N1 _ ld4 htl4 => ?_)
  simp only [List.cons_append, List.nil_append] at N1
  refine W_defH (c' := tI.c5) "cmp_to_key.<locals>.K.__le__" (by kernel_rfl) rfl rfl rfl rfl rfl F1 T N1 (.tail _ (.tail _ (.tail _ (.tail _ (.tail _ hc))))) okT.co okT.cp (.tail _ (.tail _ (.tail _ (.tail _ (.tail _ hP))))) htl4 (by trivial) (by kernel_rfl) (by kernel_rfl) (by kernel_rfl) (fun f5 v5 d5 h' tk' x11 F1 N1 _ ld5 htl5 => ?_)
  simp only [List.cons_append, List.nil_append] at N1
  refine W_defH (c' := tI.c6) "cmp_to_key.<locals>.K.__ge__" (by kernel_rfl) rfl rfl rfl rfl rfl F1 T N1 (.tail _ (.tail _ (.tail _ (.tail _ (.tail _ (.tail _ hc)))))) okT.co okT.cp (.tail _ (.tail _ (.tail _ (.tail _ (.tail _ (.tail _ hP)))))) htl5 (by trivial) (by kernel_rfl) (by kernel_rfl) (by kernel_rfl) (fun f6 v6 d6 h' tk' x12 F1 N1 _ ld6 htl6 => ?_)
  simp only [List.cons_append, List.nil_append] at N1
  repeat (first
    | (with_reducible refine W_stopD ?_)
    | (with_reducible refine wpAny_execs_cons ?_)
    | (with_reducible refine wpAny_onRaise ?_)
    | ((with_reducible refine' W_assignN ?hs ?_); (case hs => rfl))
    | (first | with_reducible (first | refine wpAny_pure ?_ | refine wpAny_bind ?_ | refine wpAny_holding ?_ | refine wpAny_standAt ?_ | refine wpAny_point ?_ | refine wpAny_rule ?_ | refine wpAny_letGo ?_ | refine wpAny_mkInt' ?_ | refine wpAny_fresh' ?_ | refine wpAny_attempt ?_ | refine wpAny_throw ?_ | refine wpAny_of_eq (by assumption) ?_ | refine wpAny_call ?_ | refine wpAny_runValue ?_ | refine wpAny_run ?_) | ((with_reducible refine' W_mkStr ?hx ?_); (case hx => size_fits)) | ((with_reducible refine' W_load ?hN ?hm ?_); (case hN => assumption); (case hm => k_mem)) | ((with_reducible refine' W_ld ?hN ?hm ?_); (case hN => assumption); (case hm => k_mem)) | ((with_reducible refine' W_nsGet ?hN ?hm ?he ?_); (case hN => assumption); (case hm => k_mem); (case he => first | assumption | k_get)) | ((with_reducible refine' W_lookup0 ?hN ?h1 ?hm ?hn ?h2 ?he ?ho ?_); (case hN => assumption); (case h1 => k_mem); (case hm => rfl); (case hn => rfl); (case h2 => k_mem); (case he => assumption); (case ho => assumption)) | ((with_reducible refine' W_alloc ?hF ?hN ?hf ?_); (case hF => assumption); (case hN => assumption); (case hf => rfl); intro a' h' F' N' l'; (try k_lt l'); (try simp only [Option.getD_some, List.isEmpty_cons, Bool.false_eq_true, if_false] at N')) | ((with_reducible refine' W_setSlot ?hF ?hN ?hU ?hi ?hf ?he ?_); (case hF => assumption); (case hN => assumption); (case hU => k_updF); (case hi => decide); (case he => k_slotset); (case hf => rfl); intro h' F' N'; (try dsimp only at N')) | ((with_reducible refine' W_updCls ?hF ?hN ?hU ?he ?hp ?_); (case hF => assumption); (case hN => assumption); (case hU => k_updF); (case he => exact rfl); (case hp => rfl); intro h' F' N'; (try dsimp only at N'); (try simp only [k_any3, Bool.or_self] at N')) | ((with_reducible refine' W_nsSet ?hF ?hN ?hU ?hl ?he ?_); (case hF => assumption); (case hN => assumption); (case hU => first | exact .head (neC hqP (by assumption)) | exact .head (by assumption) | exact .tail (by k_ne) (.head (neC hqP (by assumption))) | exact .tail (by k_ne) (.head (by assumption))); (case hl => k_get); (case he => k_put); intro h' F' N'; (try dsimp only at N')) | ((with_reducible refine' wpAny_ite_false ?hc ?_); (case hc => first | rfl | (simp only [*, Bool.not_true, Bool.not_false, Bool.false_eq_true, decide_false, decide_true]; done) | (decide +kernel))) | ((with_reducible refine' wpAny_ite_true ?hc ?_); (case hc => first | rfl | (simp only [*, Bool.not_true, Bool.not_false, Bool.false_eq_true, decide_false, decide_true]; done) | (decide +kernel))) | wp_delta | with_reducible_and_instances refine wpAny_pure ?_ | with_reducible_and_instances refine wpAny_bind ?_))
  rename News h₀ L _ _ => N2
  rename Fr h₀ L _ _ => F2
  refine' hq tI SL f1 f2 f3 f4 f5 f6 _ _ _ _ d1 d2 v1 v2 _ _ _ _ _ _ _ _ _ _ _ _ _ _ _ _ _ _ okT ?tabs ?sub F2 N2 ?m1 ?m2 ?m3 ?m4 ?m5 ?m6 ?m7 ?m8 ?m9 ?la ?lb ?hne
  case tabs =>
    intro e he
    rw [hTb]; exact .inl ⟨e, he, rfl⟩
  case sub =>
    intro e he
    rcases List.mem_append.mp he with he | he
    · exact (.tail _ (.tail _ (.tail _ (.tail _ (.tail _ (.tail _ (.tail _ (hI e he))))))))
    · exact (.tail _ (.tail _ (.tail _ (.tail _ (.tail _ (.tail _ (.tail _ (hnw e he))))))))
  case m2 => exact (.tail _ (.tail _ (.tail _ (.tail _ (.tail _ (.tail _ (.tail _ hT0)))))))
  case m3 => exact (.tail _ (.tail _ (.tail _ (.tail _ (.tail _ (.tail _ (.tail _ hce)))))))
  case la => exact ld1 _ (.tail _ hce)
  case lb => exact ld2 _ (.head _)
  case hne => exact htl6
  case m1 => k_mem
  case m4 => k_mem
  case m5 => k_mem
  case m6 => k_mem
  case m7 => k_mem
  case m8 => k_mem
  case m9 => k_mem
end
end Mine
end
section
open PySem PySem.W PyProof.Rows PySem.Calls
set_option Elab.async false
set_option maxRecDepth 100000
set_option maxHeartbeats 8000000
set_option linter.unusedVariables false
namespace Mine
section
theorem fresh_KB2 : True ∧ True := by
  w_top off
  exact ⟨trivial, trivial⟩
end
noncomputable abbrev kPos : Pos := getB (show (fun s => match s with | some (Stmt.ClassDef _ _ _ _ _ _ _ _ _ _ ps) => some ps | _ => none) ((PySem.Challenge.pw_il0172_01.main.body[5]?).bind fun s => (fbody? s).bind fun l => l[0]?) = some _ from rfl)
theorem UpdF.pre {d : Addr} {o : Obj} {r : List (Addr × Obj)} {gf : Obj → List (Addr × Obj)} (U : UpdF d o r gf) : ∀ {pre : List (Addr × Obj)}, (∀ e ∈ pre, e.1 ≠ d) → UpdF d o (pre ++ r) (fun o' => pre ++ gf o')
  | [], _ => U
  | _ :: _, h => .tail (h _ (.head _)) (UpdF.pre U fun e he => h e (.tail _ he))
theorem CT.lt {Tb news : List (Addr × Obj)} {a : Addr} (h : CT Tb) (l : ∀ e ∈ Tb ++ news, @LT.lt Nat _ e.1 a) : @LT.lt Nat _ 106 a := by
  cases h with
  | first => exact l _ (.head _)
  | later t ok => exact l _ (.head _)
noncomputable def BodyOk (w : World) (p : Program) (loose : List Str) (mean : ExcName → Option Value) (mg mb : Str → Option Value) (h₀ : Heap) (L : Addr) (g : Array GenState) (d : Drawn) (os : OsState) (Tb news : List (Addr × Obj)) (c : Addr) (rest : List (Addr × Obj)) : Prop :=
  ∀ {A : Around} {E : Value → Shared → Prop} {Q : Flow → Shared → Prop} {h : Heap} {t : Nat} {m : Str → Option Value} {q fr ce T0 : Addr} {oce : Obj} {a0 a1 a2 b1 b2 : Tok} {va : Value}, Fr h₀ L h m → Top p loose mean mg mb h₀ → News h₀ L h ((q, dictOf [⟨PyData.keyHash w.params "__module__", .str "__module__" a0, va⟩, ⟨PyData.keyHash w.params "__qualname__", .str "__qualname__" a1, .str "cmp_to_key.<locals>.K" b1⟩, ⟨PyData.keyHash w.params "__firstlineno__", .str "__firstlineno__" a2, .int 43 b2⟩] 3) :: (T0, tupO #[.type "object"]) :: (ce, oce) :: rest) → q ≠ T0 → q ≠ ce → (∀ r ∈ rest, r.1 ≠ q ∧ r.1 ≠ T0 ∧ r.1 ≠ ce) →
   (∀ (tI : TI) (SL f1 f2 f3 f4 f5 f6 : Addr) (fd3 fd4 fd5 fd6 : FuncData) (d1 d2 v1 v2 : Value) (x0 x1 x2 x3 x4 x5 x6 x7 x8 x9 x10 x11 x12 x13 sk : Tok) tl' h' tk', tI.Ok → (∀ e ∈ tI.l, (∃ r ∈ Tb, r.1 = e.1) ∨ (∀ r ∈ news, @LT.lt Nat _ r.1 e.1)) → (∀ e ∈ tI.l ++ news, e ∈ tl') → Fr h₀ L h' m → News h₀ L h' ((q, dictOf [⟨PyData.keyHash w.params "__module__", .str "__module__" x0, .str "cpy313.functools" x1⟩, ⟨PyData.keyHash w.params "__qualname__", .str "__qualname__" x2, .str "cmp_to_key.<locals>.K" x3⟩, ⟨PyData.keyHash w.params "__firstlineno__", .str "__firstlineno__" x4, .int 43 x5⟩, ⟨PyData.keyHash w.params "__slots__", .str "__slots__" x6, .ref SL⟩, ⟨PyData.keyHash w.params "__init__", .str "__init__" x7, .ref f1⟩, ⟨PyData.keyHash w.params "__lt__", .str "__lt__" x8, .ref f2⟩, ⟨PyData.keyHash w.params "__gt__", .str "__gt__" x9, .ref f3⟩, ⟨PyData.keyHash w.params "__eq__", .str "__eq__" x10, .ref f4⟩, ⟨PyData.keyHash w.params "__le__", .str "__le__" x11, .ref f5⟩, ⟨PyData.keyHash w.params "__ge__", .str "__ge__" x12, .ref f6⟩, ⟨PyData.keyHash w.params "__hash__", .str "__hash__" x13, .none⟩] 11) :: tl') →
     (SL, listOf #[.str "obj" sk] 0) ∈ tl' → (T0, tupO #[.type "object"]) ∈ tl' → (ce, oce) ∈ tl' → (f1, initO d1 ((mg "__name__").getD .none) tI.c1 v1) ∈ tl' → (f2, ltO ce d2 ((mg "__name__").getD .none) tI.c2 v2) ∈ tl' → (f3, fO fd3) ∈ tl' → (f4, fO fd4) ∈ tl' → (f5, fO fd5) ∈ tl' → (f6, fO fd6) ∈ tl' → @LT.lt Nat _ ce f1 → @LT.lt Nat _ f1 f2 → (∀ e ∈ tl', e.1 ≠ q) → Q .next ⟨h', g, d, tk', os⟩) → wpAny (model PySem.Challenge.rw_il0172_01.row.prog w) A (execs kBody (kEnv q c fr ce)) Q E ⟨h, g, d, t, os⟩
section
variable {w : World} {A : Around} {E : Value → Shared → Prop} {h₀ h : Heap} {L : Addr} {m mg mb : Str → Option Value} {g : Array GenState} {d : Drawn} {t : Nat} {os : OsState} {p : Program} {loose : List Str} {mean : ExcName → Option Value}
theorem bodyM {news : List (Addr × Obj)} {c P : Addr} {oc : Obj} (hco : CodeO oc P) (hcq : CodeQ oc "cmp_to_key.<locals>.K") (hcp : c ≠ P) (h106 : (106 : Nat) ≠ P) (hlc : ∀ e ∈ news, @LT.lt Nat _ e.1 c) (hlP : ∀ e ∈ news, @LT.lt Nat _ e.1 P) :
   BodyOk w p loose mean mg mb h₀ L g d os [(106, tabObj #[])] news c ((c, oc) :: (P, tabObj #[]) :: (106, tabObj #[rawInt 43, rawInt 4, .ref c]) :: news) := by
  intro A E Q h t m q fr ce T0 oce a0 a1 a2 b1 b2 va F T N n1 n2 n3 hq
  have nP := n3 _ (.tail _ (.head _))
  refine W_bodyM (P := P) (a0 := a0) (a1 := a1) (a2 := a2) (b1 := b1) (b2 := b2) (va := va) (tl := (T0, tupO #[.type "object"]) :: (ce, oce) :: (c, oc) :: (106, tabObj #[rawInt 43, rawInt 4, .ref c]) :: news) F T (cb_drop N ?_) (.tail _ (.tail _ (.head _))) hco hcq hcp (Ne.symm nP.1) ?_ (.head _) (.tail _ (.head _)) (.tail _ (.tail _ (.tail _ (.head _)))) (fun e he => .tail _ (.tail _ (.tail _ (.tail _ he)))) rfl hlc hlP hq
  · intro e he
    rcases List.mem_cons.mp he with rfl | he
    · exact .head _
    rcases List.mem_cons.mp he with rfl | he
    · exact .tail _ (.tail _ (.tail _ (.tail _ (.head _))))
    rcases List.mem_cons.mp he with rfl | he
    · exact .tail _ (.head _)
    rcases List.mem_cons.mp he with rfl | he
    · exact .tail _ (.tail _ (.head _))
    rcases List.mem_cons.mp he with rfl | he
    · exact .tail _ (.tail _ (.tail _ (.head _)))
    · exact .tail _ (.tail _ (.tail _ (.tail _ (.tail _ he))))
  · intro e he
    rcases List.mem_cons.mp he with rfl | he
    · exact ⟨Ne.symm n1, Ne.symm nP.2.1⟩
    rcases List.mem_cons.mp he with rfl | he
    · exact ⟨Ne.symm n2, Ne.symm nP.2.2⟩
    rcases List.mem_cons.mp he with rfl | he
    · exact ⟨(n3 _ (.head _)).1, hcp⟩
    rcases List.mem_cons.mp he with rfl | he
    · exact ⟨(n3 _ (.tail _ (.tail _ (.head _)))).1, h106⟩
    · exact ⟨(n3 _ (.tail _ (.tail _ (.tail _ he)))).1, Nat.ne_of_lt (hlP e he)⟩
theorem bodyH {news : List (Addr × Obj)} (tI : TI) (okT : tI.Ok) : BodyOk w p loose mean mg mb h₀ L g d os tI.l news tI.c (tI.l ++ news) := by
  intro A E Q h t m q fr ce T0 oce a0 a1 a2 b1 b2 va F T N n1 n2 n3 hq
  refine W_bodyH tI okT F T N (fun e he => .tail _ (.tail _ (List.mem_append_left _ he))) ?_ (.head _) (.tail _ (.head _)) (fun e he => .tail _ (.tail _ (List.mem_append_right _ he))) rfl hq
  intro e he
  rcases List.mem_cons.mp he with rfl | he
  · exact Ne.symm n1
  rcases List.mem_cons.mp he with rfl | he
  · exact Ne.symm n2
  · exact (n3 e he).1
theorem W_cc {env : Env} {name qual : Str} {scope : Scope} {firstLine : Nat} {pre news Tb : List (Addr × Obj)} {Q : Value → Shared → Prop} (hqn : qual = "cmp_to_key.<locals>.K") (hT : CT Tb) (F : Fr h₀ L h m) (N : News h₀ L h (pre ++ (Tb ++ news))) (hcode : env.code = .ref 110) (C : CodeHd h₀ 110 106)
   (hlt : ∀ e ∈ pre, ∀ r ∈ Tb ++ news, @LT.lt Nat _ r.1 e.1) (hnw : ∀ e ∈ news, e.1 ≠ 106)
   (hq : ∀ c' h' tk' rest, Fr h₀ L h' m → News h₀ L h' (pre ++ rest) → (∀ e ∈ pre, ∀ r ∈ rest, r.1 ≠ e.1) → BodyOk w p loose mean mg mb h₀ L g d os Tb news c' rest → Q (.ref c') ⟨h', g, d, tk', os⟩) :
   wpAny (model PySem.Challenge.rw_il0172_01.row.prog w) A (classCode env kPos firstLine name qual scope) Q E ⟨h, g, d, t, os⟩ := by
  cases hT with
  | first =>
    have hp : ∀ e ∈ pre, e.1 ≠ 106 := fun e he => Nat.ne_of_gt (hlt e he _ (.head _))
    refine W_ccode "cmp_to_key.<locals>.K" hqn F N hcode C (UpdF.pre (.head hnw) hp) (by trivial) rfl (fun c' P' o' h' tk' F' N' hco hcq hcp lc lP => ?_)
    have lc : ∀ e ∈ pre ++ ((106, tabObj #[]) :: news), @LT.lt Nat _ e.1 c' := lc
    have lP : ∀ e ∈ pre ++ ((106, tabObj #[]) :: news), @LT.lt Nat _ e.1 P' := lP
    refine hq c' h' tk' ((c', o') :: (P', tabObj #[]) :: (106, tabObj #[rawInt 43, rawInt 4, .ref c']) :: news) F' (cb_drop N' ?_) ?_ (bodyM hco hcq hcp (Nat.ne_of_lt (lP _ (List.mem_append_right _ (.head _)))) (fun e he => lc e (List.mem_append_right _ (.tail _ he))) (fun e he => lP e (List.mem_append_right _ (.tail _ he))))
    · intro e he
      rcases List.mem_append.mp he with he | he
      · exact .tail _ (.tail _ (List.mem_append_left _ he))
      rcases List.mem_cons.mp he with rfl | he
      · exact .head _
      rcases List.mem_cons.mp he with rfl | he
      · exact .tail _ (.head _)
      · exact .tail _ (.tail _ (List.mem_append_right _ he))
    · intro e he r hr
      rcases List.mem_cons.mp hr with rfl | hr
      · exact Nat.ne_of_gt (lc e (List.mem_append_left _ he))
      rcases List.mem_cons.mp hr with rfl | hr
      · exact Nat.ne_of_gt (lP e (List.mem_append_left _ he))
      rcases List.mem_cons.mp hr with rfl | hr
      · exact Ne.symm (hp e he)
      · exact Nat.ne_of_lt (hlt e he r (.tail _ hr))
  | later tI okT =>
    refine W_ccodeH (c' := tI.c) F N hcode C (List.mem_append_right _ (List.mem_append_left _ (.head _))) (by trivial) (by kernel_rfl) ?_
    exact hq tI.c h t (tI.l ++ news) F N (fun e he r hr => Nat.ne_of_lt (hlt e he r hr)) (bodyH tI okT)
theorem headO {h₀ h : Heap} {L x : Addr} {o : Obj} {r : List (Addr × Obj)} (N : News h₀ L h ((x, o) :: r)) : ∃ y, y = o := ⟨o, rfl⟩
theorem run_cast {b : List Stmt} {env env' : Env} {Q : Flow → Shared → Prop} {s : Shared} (e : env = env') (h : wpAny (model PySem.Challenge.rw_il0172_01.row.prog w) A (run (.body b env')) Q E s) : wpAny (model PySem.Challenge.rw_il0172_01.row.prog w) A (run (.body b env)) Q E s := by subst e; exact h
end
noncomputable def Fresh (Ta Tb news : List (Addr × Obj)) : Prop := ∀ p ∈ Tb, (∃ q ∈ Ta, q.1 = p.1) ∨ ∀ q ∈ news, @LT.lt Nat _ q.1 p.1
theorem Fresh.refl {Ta news : List (Addr × Obj)} : Fresh Ta Ta news := fun p hp => .inl ⟨p, hp, rfl⟩
theorem Fresh.trans {Ta Tb Tc a b : List (Addr × Obj)} (h1 : Fresh Ta Tb a) (h2 : Fresh Tb Tc b) (hs : ∀ p ∈ a, p ∈ b) : Fresh Ta Tc a := by
  intro p hp
  rcases h2 p hp with ⟨q, hq, e⟩ | h
  · rcases h1 q hq with ⟨r, hr, e'⟩ | h'
    · exact .inl ⟨r, hr, e'.trans e⟩
    · exact .inr (fun x hx => by rw [← e]; exact h' x hx)
  · exact .inr (fun x hx => h x (hs x hx))
local macro_rules | `(tactic| k_mem) => `(tactic| assumption)
section
variable {w : World} {p : Program} {loose : List Str} {mean : ExcName → Option Value} {mg mb : Str → Option Value} {dp un : Nat} {gd : Option (List Code)} {cn : Str} {cs : Scope} {a : Addr} {ccd : Value} {cl : List (Str × Addr)} {outer : List Env} {A₀ : Around} {base h₀ : Heap} {L : Addr} {m : Str → Option Value} {news : List (Addr × Obj)} {s : Shared} {Q E : Value → Shared → Prop}
local macro_rules | `(tactic| k_updF) => `(tactic| (refine UpdF.head (by assumption)))
theorem W_stopK {prog : Program} {A : Around} {env : Env} {pos : Pos} {n : Nat} {x y : Str} {sc : Scope} {Q : Value → Shared → Prop} (hq : Stop (wpAny (model prog w) A (classCode env pos n x y sc) Q E s)) : wpAny (model prog w) A (classCode env pos n x y sc) Q E s := hq
theorem c_cmp {cmp : Addr} {Tb : List (Addr × Obj)} (hT : CT Tb) (HC : CodeHd h₀ 110 106) (hn106 : ∀ p ∈ news, p.1 ≠ 106) (B : Below A₀ base outer h₀) (F : Fr h₀ L s.heap m) (X : (hd.heap_39 w.params).In h₀) (N : News h₀ L s.heap (Tb ++ news)) (T : Top p loose mean mg mb h₀) (hk : cs.kind = .function) (hd : dp + 5 < recursionLimit) (hu : un + 40 < cLine) 
   (hret : ∀ h' tk' (i : KI) (tI : TI), tI.Ok → Fresh Tb tI.l news → i.Ok w.params (.ref cmp) → i.c1 = tI.c1 → i.c2 = tI.c2 → Fr h₀ L h' m → News h₀ L h' (i.cls w.params ++ (tI.l ++ news)) → (∀ p ∈ news, @LT.lt Nat _ p.1 i.ce) → Q (.ref i.C) { s with heap := h', toks := tk' }) :
   wpAny (model PySem.Challenge.rw_il0172_01.row.prog w) (ktrTop dp un gd cn cs L a ccd cl outer) (call (.ref 111) [.ref cmp]) Q E s := by
  revert X; k_fill; intro X
  refine wpAny_call ?_
  k_dflt (refine' code_defC ?k1 ?k2 ?k3 ?k4 ?k5 ?kA ?kF ?kK ?k6 ?k7 ?k8 ?k9 ?kB ?kD ?_ ?c2 ?c3 ?c4; (case kA => exact rfl); (case kF => exact rfl); (case kK => first | exact rfl | assumption); (case k1 => k_asm); (case k2 => k_asm); (case k3 => k_asm); (case k4 => k_asm); (case k5 => k_asm); (case k6 => k_is); (case k7 => k_is); (case k8 => ktr_room); (case k9 => first | exact BindsTo.of_eq rfl | exact binds_K (by k_in) rfl (by k_is) rfl rfl rfl); (case kB => exact rfl); (case kD => decide +kernel); (case c2 => exact rfl); (case c3 => exact rfl); (case c4 => exact rfl); k_whole; intro g' L' h' tk' cells' FG' F' N' Y' B' X' T' l1; (try k_lt l1); k_cells Y'; (try simp only [List.cons_append, List.nil_append] at N'); (try dsimp only); (try k_lift B'); (try k_fold))
  refine hideQ ?_
  intro WQ hWQ
  refine genM F' ?_
  clear F'
  intro mF F'
  k_steps
  have h106 : @LT.lt Nat _ 106 L' := hT.lt l1
  have o1 : mg "object" = none := mg_none_of X' T'.g (by k_is)
  have o2 : mb "object" = some (.type "object") := (T'.builtins "object" (by decide +kernel)).trans (by kernel_rfl)
  have o3 := mg_of (n := "__name__") X' T'.g (by k_is)
  have HC' := HC.keeps FG'.keep
  have e3 : typeLookup (.type "dict") "__getitem__" = pure (some (.builtin "dict.__getitem__")) := by rw [typeLookup_type, builtinLookup_eq_fast]; kernel_rfl
  have e1 := TF.t_obj
  have e2 := TF.s_yy
  rw [arm_exec_ClassDef]
  repeat (first
    | ((with_reducible refine' W_nsG ?hF ?hT ?hn ?he ?_); (case hF => assumption); (case hT => assumption); (case hn => rfl); (case he => first | assumption | rfl))
    | ((with_reducible refine' W_nsB ?hF ?hT ?hn ?he ?_); (case hF => assumption); (case hT => assumption); (case hn => rfl); (case he => assumption))
    | ((with_reducible refine' W_bf ?hF ?hT ?hn ?_); (case hF => assumption); (case hT => assumption); (case hn => rfl))
    | ((with_reducible refine' W_prep ?hF ?hN ?_); (case hF => assumption); (case hN => assumption); intro q' h' F' N' l'; (try k_lt l'))
    | ((with_reducible refine' W_prepcall ?hl ?hk ?hF ?hN ?hm ?_); (case hl => rfl); (case hk => rfl); (case hF => assumption); (case hN => assumption); (case hm => k_mem); intro q' h' F' N' l'; (try k_lt l'))
    | ((with_reducible refine' W_ntm ?hl ?_); (case hl => (show @LT.lt Nat _ _ _; omega)))
    | ((with_reducible refine W_stopK ?_))
    | ((with_reducible refine' W_enter ?hF ?hT ?hd ?_); (case hF => assumption); (case hT => assumption); (case hd => ktr_room))
    | (with_reducible refine wpAny_onRaise ?_)
    | ((with_reducible refine' W_guard ?hF ?hT ?hb ?_); (case hF => assumption); (case hT => assumption); (case hb => rfl)) | (first | with_reducible (first | refine wpAny_pure ?_ | refine wpAny_bind ?_ | refine wpAny_holding ?_ | refine wpAny_standAt ?_ | refine wpAny_point ?_ | refine wpAny_rule ?_ | refine wpAny_letGo ?_ | refine wpAny_mkInt' ?_ | refine wpAny_fresh' ?_ | refine wpAny_attempt ?_ | refine wpAny_throw ?_ | refine wpAny_of_eq (by assumption) ?_ | refine wpAny_call ?_ | refine wpAny_runValue ?_ | refine wpAny_run ?_) | ((with_reducible refine' W_mkStr ?hx ?_); (case hx => size_fits)) | ((with_reducible refine' W_load ?hN ?hm ?_); (case hN => assumption); (case hm => k_mem)) | ((with_reducible refine' W_ld ?hN ?hm ?_); (case hN => assumption); (case hm => k_mem)) | ((with_reducible refine' W_nsGet ?hN ?hm ?he ?_); (case hN => assumption); (case hm => k_mem); (case he => first | assumption | k_get)) | ((with_reducible refine' W_lookup0 ?hN ?h1 ?hm ?hn ?h2 ?he ?ho ?_); (case hN => assumption); (case h1 => k_mem); (case hm => rfl); (case hn => rfl); (case h2 => k_mem); (case he => assumption); (case ho => assumption)) | ((with_reducible refine' W_alloc ?hF ?hN ?hf ?_); (case hF => assumption); (case hN => assumption); (case hf => rfl); intro a' h' F' N' l'; (try k_lt l'); (try simp only [Option.getD_some, List.isEmpty_cons, Bool.false_eq_true, if_false] at N')) | ((with_reducible refine' W_setSlot ?hF ?hN ?hU ?hi ?hf ?he ?_); (case hF => assumption); (case hN => assumption); (case hU => k_updF); (case hi => decide); (case he => k_slotset); (case hf => rfl); intro h' F' N'; (try dsimp only at N')) | ((with_reducible refine' W_updCls ?hF ?hN ?hU ?he ?hp ?_); (case hF => assumption); (case hN => assumption); (case hU => k_updF); (case he => exact rfl); (case hp => rfl); intro h' F' N'; (try dsimp only at N'); (try simp only [k_any3, Bool.or_self] at N')) | ((with_reducible refine' W_nsSet ?hF ?hN ?hU ?hl ?he ?_); (case hF => assumption); (case hN => assumption); (case hU => k_updF); (case hl => k_get); (case he => k_put); intro h' F' N'; (try dsimp only at N')) | ((with_reducible refine' wpAny_ite_false ?hc ?_); (case hc => first | rfl | (simp only [*, Bool.not_true, Bool.not_false, Bool.false_eq_true, decide_false, decide_true]; done) | (decide +kernel))) | ((with_reducible refine' wpAny_ite_true ?hc ?_); (case hc => first | rfl | (simp only [*, Bool.not_true, Bool.not_false, Bool.false_eq_true, decide_false, decide_true]; done) | (decide +kernel))) | wp_delta | with_reducible_and_instances refine wpAny_pure ?_ | with_reducible_and_instances refine wpAny_bind ?_))
  refine unstop ?_
  rename News g' L' _ _ => N2
  rename Fr g' L' _ _ => F2
  refine W_cc (p := p) (loose := loose) (mean := mean) (mg := mg) (mb := mb) (pre := [_, _, _, _]) (by kernel_rfl) hT F2 N2 rfl HC' ?hlt hn106 ?_
  case hlt =>
    intro e he r hr
    have hr0 : @LT.lt Nat _ r.1 L' := l1 r hr
    simp only [List.mem_cons, List.not_mem_nil, or_false] at he
    rcases he with rfl | rfl | rfl | rfl <;> (show @LT.lt Nat _ _ _; omega)
  intro c' h2 tk2 rest F3 N3 hd hbody
  obtain ⟨hr1, hr2, hr3, hr4⟩ := And.intro (hd _ (.head _)) (And.intro (hd _ (.tail _ (.head _))) (And.intro (hd _ (.tail _ (.tail _ (.head _)))) (hd _ (.tail _ (.tail _ (.tail _ (.head _)))))))
  dsimp only at hr1 hr2 hr3 hr4
  obtain ⟨q, hq0⟩ := headA N3
  subst hq0
  replace N3 := cb_drop (news := (q, _) :: (_, tupO #[.type "object"]) :: (_, _) :: rest) N3 (fun e he => by
    rcases List.mem_cons.mp he with rfl | he
    · exact .head _
    rcases List.mem_cons.mp he with rfl | he
    · exact .tail _ (.tail _ (.head _))
    rcases List.mem_cons.mp he with rfl | he
    · exact .tail _ (.tail _ (.tail _ (.head _)))
    · exact .tail _ (.tail _ (.tail _ (.tail _ he))))
  obtain ⟨T0, hT0⟩ := headA (cb_drop N3 (fun e he => List.Mem.tail _ he))
  subst hT0
  obtain ⟨oce, hoc⟩ := headO (cb_drop N3 (fun e he => List.Mem.tail _ (List.Mem.tail _ he)))
  subst hoc
  rename _ ∧ T0 < q ∧ _ => lq
  have hqt : ∀ e ∈ ((T0, tupO #[.type "object"]) : Addr × Obj) :: (L' + 1, oce) :: rest, e.1 ≠ q := by
    intro e he
    rcases List.mem_cons.mp he with rfl | he
    · (show (_ : Nat) ≠ _; omega)
    rcases List.mem_cons.mp he with rfl | he
    · (show (_ : Nat) ≠ _; omega)
    · exact hr1 e he
  repeat (first
    | ((with_reducible refine' W_enter ?hF ?hT ?hd ?_); (case hF => assumption); (case hT => assumption); (case hd => ktr_room))
    | (with_reducible refine wpAny_onRaise ?_)
    | ((with_reducible refine' W_guard ?hF ?hT ?hb ?_); (case hF => assumption); (case hT => assumption); (case hb => rfl)) | ((with_reducible refine' W_nsG ?hF ?hT ?hn ?he ?_); (case hF => assumption); (case hT => assumption); (case hn => rfl); (case he => first | assumption | rfl))
    | ((with_reducible refine' W_bf ?hF ?hT ?hn ?_); (case hF => assumption); (case hT => assumption); (case hn => rfl)) | (first | with_reducible (first | refine wpAny_pure ?_ | refine wpAny_bind ?_ | refine wpAny_holding ?_ | refine wpAny_standAt ?_ | refine wpAny_point ?_ | refine wpAny_rule ?_ | refine wpAny_letGo ?_ | refine wpAny_mkInt' ?_ | refine wpAny_fresh' ?_ | refine wpAny_attempt ?_ | refine wpAny_throw ?_ | refine wpAny_of_eq (by assumption) ?_ | refine wpAny_call ?_ | refine wpAny_runValue ?_ | refine wpAny_run ?_) | ((with_reducible refine' W_mkStr ?hx ?_); (case hx => size_fits)) | ((with_reducible refine' W_load ?hN ?hm ?_); (case hN => assumption); (case hm => k_mem)) | ((with_reducible refine' W_ld ?hN ?hm ?_); (case hN => assumption); (case hm => k_mem)) | ((with_reducible refine' W_nsGet ?hN ?hm ?he ?_); (case hN => assumption); (case hm => k_mem); (case he => first | assumption | k_get)) | ((with_reducible refine' W_lookup0 ?hN ?h1 ?hm ?hn ?h2 ?he ?ho ?_); (case hN => assumption); (case h1 => k_mem); (case hm => rfl); (case hn => rfl); (case h2 => k_mem); (case he => assumption); (case ho => assumption)) | ((with_reducible refine' W_alloc ?hF ?hN ?hf ?_); (case hF => assumption); (case hN => assumption); (case hf => rfl); intro a' h' F' N' l'; (try k_lt l'); (try simp only [Option.getD_some, List.isEmpty_cons, Bool.false_eq_true, if_false] at N')) | ((with_reducible refine' W_setSlot ?hF ?hN ?hU ?hi ?hf ?he ?_); (case hF => assumption); (case hN => assumption); (case hU => k_updF); (case hi => decide); (case he => k_slotset); (case hf => rfl); intro h' F' N'; (try dsimp only at N')) | ((with_reducible refine' W_updCls ?hF ?hN ?hU ?he ?hp ?_); (case hF => assumption); (case hN => assumption); (case hU => k_updF); (case he => exact rfl); (case hp => rfl); intro h' F' N'; (try dsimp only at N'); (try simp only [k_any3, Bool.or_self] at N')) | ((with_reducible refine' W_nsSet ?hF ?hN ?hU ?hl ?he ?_); (case hF => assumption); (case hN => assumption); (case hU => k_updF); (case hl => k_get); (case he => k_put); intro h' F' N'; (try dsimp only at N')) | ((with_reducible refine' wpAny_ite_false ?hc ?_); (case hc => first | rfl | (simp only [*, Bool.not_true, Bool.not_false, Bool.false_eq_true, decide_false, decide_true]; done) | (decide +kernel))) | ((with_reducible refine' wpAny_ite_true ?hc ?_); (case hc => first | rfl | (simp only [*, Bool.not_true, Bool.not_false, Bool.false_eq_true, decide_false, decide_true]; done) | (decide +kernel))) | wp_delta | with_reducible_and_instances refine wpAny_pure ?_ | with_reducible_and_instances refine wpAny_bind ?_))
  rename News g' L' _ _ => N4
  rename Fr g' L' _ _ => F4
  obtain ⟨fr, hfr⟩ := headA N4
  subst hfr
  refine run_cast (env' := kEnv q c' fr (L' + 1)) (by kernel_rfl) ?_
  refine wpAny_run (codeAny_body rfl rfl ?_)
  refine hideQE ?_
  intro WB EB hWB hEB
  refine hbody F4 T' (cb_drop N4 (fun e he => List.Mem.tail _ he)) (by (show (_ : Nat) ≠ _; omega)) (by (show (_ : Nat) ≠ _; omega)) (fun r hr => ⟨Ne.symm (Ne.symm (hr1 r hr)), hr3 r hr, hr4 r hr⟩) ?_
  intro tI SL f1 f2 f3 f4 f5 f6 fd3 fd4 fd5 fd6 d1 d2 v1 v2 x0 x1 x2 x3 x4 x5 x6 x7 x8 x9 x10 x11 x12 x13 sk tl' h5 tk5 okT hfr hsub F5 N5 m1 m2 m3 m4 m5 m6 m7 m8 m9 la lb hne
  refine hWB _ _ ?_
  clear hEB hWB hbody N4 N3 N2
  dsimp only
  repeat (first
    | (with_reducible refine W_stopT ?_)
    | (with_reducible refine wpAny_onRaise ?_)
    | ((with_reducible refine' W_texts ?hl ?_); (case hl => rfl); intro tk')
    | (first | with_reducible (first | refine wpAny_pure ?_ | refine wpAny_bind ?_ | refine wpAny_holding ?_ | refine wpAny_standAt ?_ | refine wpAny_point ?_ | refine wpAny_rule ?_ | refine wpAny_letGo ?_ | refine wpAny_mkInt' ?_ | refine wpAny_fresh' ?_ | refine wpAny_attempt ?_ | refine wpAny_throw ?_ | refine wpAny_of_eq (by assumption) ?_ | refine wpAny_call ?_ | refine wpAny_runValue ?_ | refine wpAny_run ?_) | ((with_reducible refine' W_mkStr ?hx ?_); (case hx => size_fits)) | ((with_reducible refine' W_load ?hN ?hm ?_); (case hN => assumption); (case hm => k_mem)) | ((with_reducible refine' W_ld ?hN ?hm ?_); (case hN => assumption); (case hm => k_mem)) | ((with_reducible refine' W_nsGet ?hN ?hm ?he ?_); (case hN => assumption); (case hm => k_mem); (case he => first | assumption | k_get)) | ((with_reducible refine' W_lookup0 ?hN ?h1 ?hm ?hn ?h2 ?he ?ho ?_); (case hN => assumption); (case h1 => k_mem); (case hm => rfl); (case hn => rfl); (case h2 => k_mem); (case he => assumption); (case ho => assumption)) | ((with_reducible refine' W_alloc ?hF ?hN ?hf ?_); (case hF => assumption); (case hN => assumption); (case hf => rfl); intro a' h' F' N' l'; (try k_lt l'); (try simp only [Option.getD_some, List.isEmpty_cons, Bool.false_eq_true, if_false] at N')) | ((with_reducible refine' W_setSlot ?hF ?hN ?hU ?hi ?hf ?he ?_); (case hF => assumption); (case hN => assumption); (case hU => k_updF); (case hi => decide); (case he => k_slotset); (case hf => rfl); intro h' F' N'; (try dsimp only at N')) | ((with_reducible refine' W_updCls ?hF ?hN ?hU ?he ?hp ?_); (case hF => assumption); (case hN => assumption); (case hU => k_updF); (case he => exact rfl); (case hp => rfl); intro h' F' N'; (try dsimp only at N'); (try simp only [k_any3, Bool.or_self] at N')) | ((with_reducible refine' W_nsSet ?hF ?hN ?hU ?hl ?he ?_); (case hF => assumption); (case hN => assumption); (case hU => k_updF); (case hl => k_get); (case he => k_put); intro h' F' N'; (try dsimp only at N')) | ((with_reducible refine' wpAny_ite_false ?hc ?_); (case hc => first | rfl | (simp only [*, Bool.not_true, Bool.not_false, Bool.false_eq_true, decide_false, decide_true]; done) | (decide +kernel))) | ((with_reducible refine' wpAny_ite_true ?hc ?_); (case hc => first | rfl | (simp only [*, Bool.not_true, Bool.not_false, Bool.false_eq_true, decide_false, decide_true]; done) | (decide +kernel))) | wp_delta | with_reducible_and_instances refine wpAny_pure ?_ | with_reducible_and_instances refine wpAny_bind ?_))
  refine unstop ?_
  ((with_reducible refine' W_type3 ?hl ?hkw ?hF X' ?hany ?hsys ?hN ?m1 ?m2 ?m3 ?m4 ?m5 ?m6 ?m7 ?m8 ?m9 ?ma ?_); (case hl => rfl); (case hkw => rfl); (case hF => assumption); (case hN => assumption); (case m1 => k_mem); (case m2 => k_mem); (case m3 => k_mem); (case m4 => k_mem); (case m5 => k_mem); (case m6 => k_mem); (case m7 => k_mem); (case m8 => k_mem); (case m9 => k_mem); (case ma => k_mem); (case hany => k_is); (case hsys => exact ne_sys (by (show @LT.lt Nat _ _ _; omega))); intro k' C' n' me' h' tk' u0 u1 u2 hk1 hk2 hk3 F' N' l1' l2' l3')
  repeat (first | (with_reducible refine W_stopB ?_) | (first | with_reducible (first | refine wpAny_pure ?_ | refine wpAny_bind ?_ | refine wpAny_holding ?_ | refine wpAny_standAt ?_ | refine wpAny_point ?_ | refine wpAny_rule ?_ | refine wpAny_letGo ?_ | refine wpAny_mkInt' ?_ | refine wpAny_fresh' ?_ | refine wpAny_attempt ?_ | refine wpAny_throw ?_ | refine wpAny_of_eq (by assumption) ?_ | refine wpAny_call ?_ | refine wpAny_runValue ?_ | refine wpAny_run ?_) | ((with_reducible refine' W_mkStr ?hx ?_); (case hx => size_fits)) | ((with_reducible refine' W_load ?hN ?hm ?_); (case hN => assumption); (case hm => k_mem)) | ((with_reducible refine' W_ld ?hN ?hm ?_); (case hN => assumption); (case hm => k_mem)) | ((with_reducible refine' W_nsGet ?hN ?hm ?he ?_); (case hN => assumption); (case hm => k_mem); (case he => first | assumption | k_get)) | ((with_reducible refine' W_lookup0 ?hN ?h1 ?hm ?hn ?h2 ?he ?ho ?_); (case hN => assumption); (case h1 => k_mem); (case hm => rfl); (case hn => rfl); (case h2 => k_mem); (case he => assumption); (case ho => assumption)) | ((with_reducible refine' W_alloc ?hF ?hN ?hf ?_); (case hF => assumption); (case hN => assumption); (case hf => rfl); intro a' h' F' N' l'; (try k_lt l'); (try simp only [Option.getD_some, List.isEmpty_cons, Bool.false_eq_true, if_false] at N')) | ((with_reducible refine' W_setSlot ?hF ?hN ?hU ?hi ?hf ?he ?_); (case hF => assumption); (case hN => assumption); (case hU => k_updF); (case hi => decide); (case he => k_slotset); (case hf => rfl); intro h' F' N'; (try dsimp only at N')) | ((with_reducible refine' W_updCls ?hF ?hN ?hU ?he ?hp ?_); (case hF => assumption); (case hN => assumption); (case hU => k_updF); (case he => exact rfl); (case hp => rfl); intro h' F' N'; (try dsimp only at N'); (try simp only [k_any3, Bool.or_self] at N')) | ((with_reducible refine' W_nsSet ?hF ?hN ?hU ?hl ?he ?_); (case hF => assumption); (case hN => assumption); (case hU => k_updF); (case hl => k_get); (case he => k_put); intro h' F' N'; (try dsimp only at N')) | ((with_reducible refine' wpAny_ite_false ?hc ?_); (case hc => first | rfl | (simp only [*, Bool.not_true, Bool.not_false, Bool.false_eq_true, decide_false, decide_true]; done) | (decide +kernel))) | ((with_reducible refine' wpAny_ite_true ?hc ?_); (case hc => first | rfl | (simp only [*, Bool.not_true, Bool.not_false, Bool.false_eq_true, decide_false, decide_true]; done) | (decide +kernel))) | wp_delta | with_reducible_and_instances refine wpAny_pure ?_ | with_reducible_and_instances refine wpAny_bind ?_))
  refine unstop ?_
  k_steps
  refine wpAny_pure ?_
  dsimp only
  k_steps
  refine hWQ _ _ ?_
  k_steps
  rename News h₀ L _ _ => NN
  have lf2 : @LT.lt Nat _ f2 n' := l1' (f2, _) (.tail _ (.tail _ m5))
  refine hret _ _ ⟨C', n', me', f1, f2, L' + 1, tI.c1, tI.c2, oce, k', _, _, _, _, _, _, _, _, _, _, _⟩ tI okT (fun e he => hfr e he) ⟨hk1, hk2, hk3, ?_, la, lb, lf2, l2', l3'⟩ rfl rfl (by assumption) (cb_drop NN (sub_cons (by k_mem) (sub_cons (by k_mem) (sub_cons (by k_mem) (sub_cons (by k_mem) (sub_cons (by k_mem) (sub_cons (by k_mem) (fun e he => .tail _ (.tail _ (.tail _ (.tail _ (.tail _ (hsub e he))))))))))))) (fun e he => Nat.lt_succ_of_lt (l1 e (List.mem_append_right _ he)))
  refine Eq.trans (by assumption) ?_
  rfl
end
end Mine
end
section
open PySem PySem.W PyProof.Rows PySem.Calls
set_option Elab.async false
set_option maxRecDepth 100000
set_option maxHeartbeats 8000000
set_option linter.unusedVariables false
namespace Mine
section
variable {w : Params} {i : KI} {cmp : Value}
theorem ne_of {a b : Addr} (h : @LT.lt Nat _ a b) : (a == b) = false := beq_eq_false_iff_ne.mpr (Nat.ne_of_lt h)
theorem ne_of' {a b : Addr} (h : @LT.lt Nat _ b a) : (a == b) = false := beq_eq_false_iff_ne.mpr (Nat.ne_of_gt h)
theorem lk_me : (i.cls w).lookup i.me = some (memO i.C i.u0) := by unfold KI.cls; rw [List.lookup_cons]; simp
theorem lk_C (ok : i.Ok w cmp) : (i.cls w).lookup i.C = some (clsF i.C i.ns i.T i.nt (i.k.ts 3)) := by
  have := ok.o5
  unfold KI.cls; simp only [List.lookup_cons, ne_of this, beq_self_eq_true]
theorem lk_ns (ok : i.Ok w cmp) : (i.cls w).lookup i.ns = some (dictOf (i.k.dd w i.u1 i.u2 i.me) 3) := by
  have h1 := ok.o4
  have h2 := Nat.lt_trans h1 ok.o5
  unfold KI.cls; simp only [List.lookup_cons, ne_of h1, ne_of h2, beq_self_eq_true]
theorem lk_f2 (ok : i.Ok w cmp) : (i.cls w).lookup i.f2 = some (ltO i.ce i.d2 i.n2 i.c2 i.v2) := by
  have h1 := ok.o3
  have h2 := Nat.lt_trans h1 ok.o4
  have h3 := Nat.lt_trans h2 ok.o5
  unfold KI.cls; simp only [List.lookup_cons, ne_of h1, ne_of h2, ne_of h3, beq_self_eq_true]
theorem lk_f1 (ok : i.Ok w cmp) : (i.cls w).lookup i.f1 = some (initO i.d1 i.n1 i.c1 i.v1) := by
  have h0 := ok.o2
  have h1 := Nat.lt_trans h0 ok.o3
  have h2 := Nat.lt_trans h1 ok.o4
  have h3 := Nat.lt_trans h2 ok.o5
  unfold KI.cls; simp only [List.lookup_cons, ne_of h0, ne_of h1, ne_of h2, ne_of h3, beq_self_eq_true]
theorem kd_init {k : KE} {t u : Tok} {me : Addr} : (k.dd w t u me).find? (·.key.isStr "__init__") = some ⟨k.hs 4, .str "__init__" (k.ts 7), .ref k.f1⟩ := by kernel_rfl
theorem kd_lt {k : KE} {t u : Tok} {me : Addr} : (k.dd w t u me).find? (·.key.isStr "__lt__") = some ⟨k.hs 5, .str "__lt__" (k.ts 8), .ref k.f2⟩ := by kernel_rfl
theorem kd_obj {k : KE} {t u : Tok} {me : Addr} : (k.dd w t u me).find? (·.key.isStr "obj") = some ⟨PyData.keyHash w "obj", .str "obj" t, .ref me⟩ := by kernel_rfl
theorem kd_set {k : KE} {t u : Tok} {me : Addr} : (k.dd w t u me).find? (·.key.isStr "__setattr__") = none := by kernel_rfl
theorem kd_ga {k : KE} {t u : Tok} {me : Addr} : (k.dd w t u me).find? (·.key.isStr "__getattribute__") = none := by kernel_rfl
theorem kd_gt {k : KE} {t u : Tok} {me : Addr} : (k.dd w t u me).find? (·.key.isStr "__getattr__") = none := by kernel_rfl
theorem kd_any {k : KE} {t u : Tok} {me : Addr} : (k.dd w t u me).any (·.refKey) = false := by kernel_rfl
theorem f_init (ok : i.Ok w cmp) : findIn (i.cls w) (.ref i.C) "__init__" = some (some (.ref i.f1)) := by
  simp only [findIn, lk_C ok, alongIn, ownIn, nsIn, lk_ns ok, kd_init, ok.hk1]
theorem f_lt (ok : i.Ok w cmp) : findIn (i.cls w) (.ref i.C) "__lt__" = some (some (.ref i.f2)) := by
  simp only [findIn, lk_C ok, alongIn, ownIn, nsIn, lk_ns ok, kd_lt, ok.hk2]
theorem f_obj (ok : i.Ok w cmp) : findIn (i.cls w) (.ref i.C) "obj" = some (some (.ref i.me)) := by
  simp only [findIn, lk_C ok, alongIn, ownIn, nsIn, lk_ns ok, kd_obj]
theorem f_set (ok : i.Ok w cmp) : findIn (i.cls w) (.ref i.C) "__setattr__" = some (some (.builtin "object.__setattr__")) := by
  simp only [findIn, lk_C ok, alongIn, ownIn, nsIn, lk_ns ok, kd_set, kd_any, Bool.false_eq_true, if_false]
  kernel_rfl
theorem f_ga (ok : i.Ok w cmp) : findIn (i.cls w) (.ref i.C) "__getattribute__" = some (some (.builtin "object.__getattribute__")) := by
  simp only [findIn, lk_C ok, alongIn, ownIn, nsIn, lk_ns ok, kd_ga, kd_any, Bool.false_eq_true, if_false]
  kernel_rfl
theorem f_gt (ok : i.Ok w cmp) : findIn (i.cls w) (.ref i.C) "__getattr__" = some none := by
  simp only [findIn, lk_C ok, alongIn, ownIn, nsIn, lk_ns ok, kd_gt, kd_any, Bool.false_eq_true, if_false]
  kernel_rfl
theorem t_f1 (ok : i.Ok w cmp) : typeIn (i.cls w) (.ref i.f1) = some (.type "function") := by unfold typeIn; dsimp only; rw [lk_f1 ok]; rfl
theorem t_f2 (ok : i.Ok w cmp) : typeIn (i.cls w) (.ref i.f2) = some (.type "function") := by unfold typeIn; dsimp only; rw [lk_f2 ok]; rfl
theorem t_me : typeIn (i.cls w) (.ref i.me) = some (.type "member_descriptor") := by unfold typeIn; dsimp only; rw [lk_me]; rfl
theorem t_C (ok : i.Ok w cmp) : typeIn (i.cls w) (.ref i.C) = some (.type "type") := by unfold typeIn; dsimp only; rw [lk_C ok]; rfl
theorem c_C (ok : i.Ok w cmp) : ∃ cd, clsIn (i.cls w) i.C = some cd ∧ cd.mro = [.ref i.C, .type "object"] ∧ cd.ns = i.ns ∧ cd.slotNames = (["obj"] : List Str) ∧ cd.hasDict = false := by
  unfold clsIn; rw [lk_C ok]; exact ⟨_, rfl, rfl, rfl, rfl, rfl⟩
theorem mk_C (ok : i.Ok w cmp) : makesIn (i.cls w) i.C = true := by
  have h1 : specialIn (i.cls w) (.ref i.C) "__call__" = some (some (.builtin "type.__call__")) := by
    simp only [specialIn, t_C ok, Option.bind_some, findIn]; kernel_rfl
  have h2 : instIn (i.cls w) (.ref i.C) (.type "type") = some true := by
    simp only [instIn, t_C ok, Option.bind_some, subIn]; kernel_rfl
  unfold makesIn
  rw [lk_C ok]
  dsimp only
  rw [h1, h2]
  simp
theorem po_C (ok : i.Ok w cmp) : plainOver (i.cls w) i.C = true := by
  simp only [plainOver, clsIn, lk_C ok]; rfl
theorem tk_me : takesIn (i.cls w) (.ref i.me) = some true := by
  have h1 : ∃ v, specialIn (i.cls w) (.ref i.me) "__set__" = some (some v) := by
    refine ⟨.builtin "member_descriptor.__set__", ?_⟩
    simp only [specialIn, t_me, Option.bind_some, findIn]; kernel_rfl
  obtain ⟨v, h1⟩ := h1
  unfold takesIn
  rw [h1]
theorem ti_obj (ok : i.Ok w cmp) : takerIn (i.cls w) i.C "obj" = some (some (.ref i.me)) := by
  simp only [takerIn, f_obj ok, Option.bind_some, tk_me]; rfl
theorem sl_obj (ok : i.Ok w cmp) : slotIn (i.cls w) i.me i.C = some 0 := by
  have h1 : recIn (i.cls w) i.me "member_descriptor" = some [.str "obj" i.u0, .ref i.C, .builtin "proto.slot", .builtin "proto.slot#set", rawInt 0] := by unfold recIn; rw [lk_me]; rfl
  obtain ⟨cd, h2, h3, h4, h5, h6⟩ := c_C ok
  unfold slotIn
  rw [h1, h2]
  dsimp only [rawInt]
  rw [h3, h5]
  simp
theorem g_me : specialIn (i.cls w) (.ref i.me) "__get__" = some (some (.builtin "member_descriptor.__get__")) := by
  simp only [specialIn, t_me, Option.bind_some, findIn]; kernel_rfl
theorem kin {h₀ h : Heap} {L : Addr} {news : List (Addr × Obj)} (N : News h₀ L h news) (hs : ∀ p ∈ i.cls w, p ∈ news) : Frag.In (i.cls w) h := fun a o e => (N _ (hs _ (mem_of_lookupK e))).1
theorem isc_C (ok : i.Ok w cmp) : isClsIn (i.cls w) i.C = true := by
  simp only [isClsIn, clsIn, lk_C ok]; rfl
theorem pg_C (ok : i.Ok w cmp) : plainGet (i.cls w) i.C "obj" = true := by
  unfold plainGet
  rw [f_ga ok, f_gt ok]
  simp
theorem fo_C {od : Obj} (ok : i.Ok w cmp) : findObj (i.cls w) i.C (some od) "obj" = some (.bind (.builtin "member_descriptor.__get__") (.ref i.me)) :=
  findObj_data (isc_C ok) (f_obj ok) g_me tk_me
end
end Mine
end
section
open PySem PySem.W PyProof.Rows PySem.Calls
set_option Elab.async false
set_option maxRecDepth 100000
set_option maxHeartbeats 8000000
set_option linter.unusedVariables false
namespace Mine
section
theorem fresh_KE1 : True ∧ True := by
  w_top off
  exact ⟨trivial, trivial⟩
end
noncomputable abbrev kInst (C dx : Addr) (v : Value) : Obj := { cls := .ref C, dict := some dx, data := .plain, slots := #[some v] }
section
variable {prog : Program} {w : World} {A : Around} {E : Value → Shared → Prop} {s : Shared} {h₀ : Heap} {L : Addr} {m : Str → Option Value} {news : List (Addr × Obj)} {i : KI} {cmp : Value} {x dx : Addr} {v : Value}
theorem instK {od : Obj} (N : News h₀ L s.heap news) {ox : Obj} (hx : (x, ox) ∈ news) (hc : ox.cls = .ref i.C) (hn : notCls ox = true) (hd : ox.dict = some dx) (hdx : (dx, od) ∈ news) : InstAt s.heap x ox i.C (some od) := by
  refine ⟨(N _ hx).1, hc, hn, ?_⟩
  rw [hd]
  exact (N _ hdx).1
theorem W_setK {Q : Unit → Shared → Prop} {od : Obj} {post : List (Addr × Obj)} (ok : i.Ok w.params cmp) (F : Fr h₀ L s.heap m) (N : News h₀ L s.heap ((x, instObj i.C dx) :: post)) (hs : ∀ p ∈ i.cls w.params, p ∈ post) (hdx : (dx, od) ∈ post) (hne : ∀ p ∈ post, p.1 ≠ x)
   (h : ∀ h', Fr h₀ L h' m → News h₀ L h' ((x, kInst i.C dx v) :: post) → Q () { s with heap := h', toks := s.toks + 1 }) :
   wpAny (model prog w) A (setAttr (.ref x) "obj" v) Q E s := by
  have X := kin (i := i) (w := w.params) N (fun p hp => .tail _ (hs p hp))
  have I : InstAt s.heap x (instObj i.C dx) i.C (some od) := instK N (.head _) rfl rfl rfl (.tail _ hdx)
  exact set_plain X I (f_set ok) (osa_descr (s := { s with toks := s.toks + 1 }) KF.slot_mset X I (po_C ok) (ti_obj ok) t_me
    (slot_set (s := { s with toks := s.toks + 1 }) (pre := []) (ox' := kInst i.C dx v) F N X I (sl_obj ok) (by decide) (fun p hp => nomatch hp) hne rfl rfl fun h' F' N' => h h' F' N'))
theorem W_getK {Q : Value → Shared → Prop} {od : Obj} {expr : Bool} (ok : i.Ok w.params cmp) (N : News h₀ L s.heap news) (hs : ∀ p ∈ i.cls w.params, p ∈ news) (hx : (x, kInst i.C dx v) ∈ news) (hdx : (dx, od) ∈ news) (hh : handedIn v = true)
   (h : Q v { s with toks := s.toks + 1 }) : wpAny (model prog w) A (getAttr (.ref x) "obj" expr) Q E s := by
  have X := kin (i := i) (w := w.params) N hs
  have I : InstAt s.heap x (kInst i.C dx v) i.C (some od) := instK N hx rfl rfl rfl hdx
  exact get_bind X I (f_ga ok) (fo_C ok) (f_gt ok) (wpAny_call (slot_get (s := { s with toks := s.toks + 1 }) X I (sl_obj ok) rfl (handed_on hh h)))
end
section
variable {w : World} {p : Program} {loose : List Str} {mean : ExcName → Option Value} {mg mb : Str → Option Value} {dp un : Nat} {gd : Option (List Code)} {cn : Str} {cs : Scope} {a : Addr} {ccd : Value} {cl : List (Str × Addr)} {outer : List Env} {A₀ : Around} {base h₀ : Heap} {L : Addr} {m : Str → Option Value} {news : List (Addr × Obj)} {s : Shared} {Q E : Value → Shared → Prop}
local macro_rules | `(tactic| walk_at "setAttr ref") => `(tactic| (k_here; k_dflt (refine W_setK (by assumption) (by k_asm) (by k_asm) (by assumption) (by exact .head _) (by assumption) ?_; k_whole; intro h' F' N')))
theorem c_K {i : KI} {cmp v : Value} {o1 : Obj} (ok : i.Ok w.params cmp) (hq1 : CodeQ o1 "cmp_to_key.<locals>.K.__init__") (B : Below A₀ base outer h₀) (F : Fr h₀ L s.heap m) (X : (hd.heap_39 w.params).In h₀) (N : News h₀ L s.heap news) (T : Top p loose mean mg mb h₀) (hk : cs.kind = .function) (hs : ∀ p ∈ i.cls w.params, p ∈ news) (hc1 : (i.c1, o1) ∈ news) (hd : dp + 2 < recursionLimit) (hu : un + 16 < cLine)
   (hret : ∀ h' tk' x dx, Fr h₀ L h' m → News h₀ L h' ((x, kInst i.C dx v) :: (dx, emptyDict) :: news) → (∀ p ∈ news, p.1 < dx) → dx < x → Q (.ref x) { s with heap := h', toks := tk' }) :
   wpAny (model PySem.Challenge.rw_il0172_01.row.prog w) (ktrTop dp un gd cn cs L a ccd cl outer) (call (.ref i.C) [v]) Q E s := by
  revert X; k_fill; intro X
  refine wpAny_call ?_
  k_dflt (refine make_K F N (kin N hs) (mk_C ok) (f_init ok) (t_f1 ok) (fun x dx h1 F1 N1 lx ly => ?_))
  have hcr : h1.CodeRec (.ref i.c1) "cmp_to_key.<locals>.K.__init__" := hq1.rc (N1 _ (.tail _ (.tail _ hc1))).1
  have hm : (i.f1, initO i.d1 i.n1 i.c1 i.v1) ∈ (x, instObj i.C dx) :: (dx, emptyDict) :: news := .tail _ (.tail _ (hs _ (by unfold KI.cls; simp)))
  have hs' : ∀ p ∈ i.cls w.params, p ∈ (dx, emptyDict) :: news := fun p hp => .tail _ (hs p hp)
  have hne : ∀ p ∈ (dx, emptyDict) :: news, p.1 ≠ x := fun p hp => by
    rcases List.mem_cons.mp hp with rfl | hp
    · exact Nat.ne_of_lt ly
    · exact Nat.ne_of_lt (Nat.lt_trans (lx p hp) ly)
  k_dflt (refine' code_nest ?k1 ?k2 ?k3 ?k4 ?k5 ?kA ?kF ?kK ?k6 ?k7 ?k8 ?k9 ?kB ?_ ?c2 ?c3 ?c4 ?c5; (case kA => exact rfl); (case kF => exact rfl); (case kK => first | exact rfl | assumption); (case k1 => k_asm); (case k2 => k_asm); (case k3 => k_asm); (case k4 => k_asm); (case k5 => k_asm); (case k6 => exact hm); (case k7 => exact hcr); (case k8 => ktr_room); (case k9 => exact BindsTo.of_eq rfl); (case c5 => decide); (case kB => exact locs rfl); (case c2 => exact rfl); (case c3 => exact rfl); (case c4 => exact rfl); k_whole; intro g' L' h' FG' F' N' B' X' T'; (try dsimp only); (try k_lift B'); (try k_fold))
  k_steps
  exact hret _ _ x dx (by assumption) (by assumption) lx ly
end
end Mine
end
section
open PySem PySem.W PyProof.Rows PySem.Calls
set_option Elab.async false
set_option maxRecDepth 100000
set_option maxHeartbeats 8000000
set_option linter.unusedVariables false
namespace Mine
section
theorem fresh_KF1 : True ∧ True := by
  w_top off
  exact ⟨trivial, trivial⟩
end
noncomputable def CallsInt (w : World) (p : Program) (loose : List Str) (mean : ExcName → Option Value) (mg mb : Str → Option Value) (lam : Value) (need : List (Addr × Obj)) (v u : Value) (n : Int) : Prop :=
  ∀ {dp un : Nat} {gd : Option (List Code)} {cn : Str} {cs : Scope} {a : Addr} {ccd : Value} {cl : List (Str × Addr)} {outer : List Env} {A₀ : Around} {base h₀ : Heap} {L : Addr} {m : Str → Option Value} {news : List (Addr × Obj)} {s : Shared} {Q E : Value → Shared → Prop},
    Below A₀ base outer h₀ → Fr h₀ L s.heap m → (hd.heap_39 w.params).In h₀ → News h₀ L s.heap news → Top p loose mean mg mb h₀ → cs.kind = .function → (∀ q ∈ need, q ∈ news) → dp + 2 < recursionLimit → un + 16 < cLine →
    (∀ h' tk' t, Fr h₀ L h' m → News h₀ L h' news → Q (.int n t) { s with heap := h', toks := tk' }) →
    wpAny (model PySem.Challenge.rw_il0172_01.row.prog w) (ktrTop dp un gd cn cs L a ccd cl outer) (call lam [v, u]) Q E s
section
variable {w : World} {p : Program} {loose : List Str} {mean : ExcName → Option Value} {mg mb : Str → Option Value} {dp un : Nat} {gd : Option (List Code)} {cn : Str} {cs : Scope} {a : Addr} {ccd : Value} {cl : List (Str × Addr)} {outer : List Env} {A₀ : Around} {base h₀ : Heap} {L : Addr} {m : Str → Option Value} {news : List (Addr × Obj)} {s : Shared} {Q E : Value → Shared → Prop}
local macro_rules | `(tactic| walk_at "getAttr ref") => `(tactic| (k_here; k_dflt (refine W_getK (by assumption) (by k_asm) (by assumption) (by assumption) (by assumption) (by assumption) ?_; k_whole)))
local macro_rules | `(tactic| k_mem) => `(tactic| assumption)
local macro_rules | `(tactic| walk_at "eval Name") => `(tactic| (k_here; (with_reducible show wpAny _ _ (eval (Expr.Name (PySem.Str.ofString "mycmp") _) _) _ _ _); k_dflt (refine nameX_F (o := KI.oc _) (by k_asm) (by rfl) (by assumption) (by assumption) ?_ (by rfl) (by rfl); k_whole)))
local macro_rules | `(tactic| walk_at "callWith ref") => `(tactic| (k_here; k_dflt (refine callWith_F (by exact FnAt.of (by k_asm) (by assumption)) ?_; k_whole)))
theorem c_lt {i : KI} {cmp : Addr} {v u : Value} {o2 : Obj} {x dx y dy : Addr} {ox oy : Obj} {need : List (Addr × Obj)} {n : Int} (ok : i.Ok w.params (.ref cmp)) (hq2 : CodeQ o2 "cmp_to_key.<locals>.K.__lt__") (B : Below A₀ base outer h₀) (F : Fr h₀ L s.heap m) (X : (hd.heap_39 w.params).In h₀) (N : News h₀ L s.heap news) (T : Top p loose mean mg mb h₀) (hk : cs.kind = .function) (hs : ∀ p ∈ i.cls w.params, p ∈ news) (hc2 : (i.c2, o2) ∈ news) (hd : dp + 4 < recursionLimit) (hu : un + 32 < cLine)
   (hcmp : CallsInt w p loose mean mg mb (.ref cmp) need v u n) (hneed : ∀ q ∈ need, q ∈ news) {oc : Value} {od : Option Addr} {fd : FuncData} {sl : Array (Option Value)} (hfn : (cmp, (⟨oc, od, .func fd, sl⟩ : Obj)) ∈ news) (hx : (x, kInst i.C dx v) ∈ news) (hdx : (dx, ox) ∈ news) (hy : (y, kInst i.C dy u) ∈ news) (hdy : (dy, oy) ∈ news) (hv : handedIn v = true) (hu' : handedIn u = true)
   (hret : ∀ h' tk', Fr h₀ L h' m → News h₀ L h' news → Q (.bool (decide (n < 0))) { s with heap := h', toks := tk' }) :
   wpAny (model PySem.Challenge.rw_il0172_01.row.prog w) (ktrTop dp un gd cn cs L a ccd cl outer) (call (.ref i.f2) [.ref x, .ref y]) Q E s := by
  revert X; k_fill; intro X
  refine wpAny_call ?_
  have hcr : s.heap.CodeRec (.ref i.c2) "cmp_to_key.<locals>.K.__lt__" := hq2.rc (N _ hc2).1
  have hm : (i.f2, ltO i.ce i.d2 i.n2 i.c2 i.v2) ∈ news := hs _ (by unfold KI.cls; simp)
  have hce : (i.ce, i.oc) ∈ news := hs _ (by unfold KI.cls; simp)
  have hcell := ok.cell
  k_dflt (refine' code_nest ?k1 ?k2 ?k3 ?k4 ?k5 ?kA ?kF ?kK ?k6 ?k7 ?k8 ?k9 ?kB ?_ ?c2 ?c3 ?c4 ?c5; (case kA => exact rfl); (case kF => exact rfl); (case kK => first | exact rfl | assumption); (case k1 => k_asm); (case k2 => k_asm); (case k3 => k_asm); (case k4 => k_asm); (case k5 => k_asm); (case k6 => exact hm); (case k7 => exact hcr); (case k8 => ktr_room); (case k9 => exact BindsTo.of_eq rfl); (case c5 => decide); (case kB => exact locs rfl); (case c2 => exact rfl); (case c3 => exact rfl); (case c4 => exact rfl); k_whole; intro g' L' h' FG' F' N' B' X' T'; (try dsimp only); (try k_lift B'); (try k_fold))
  dsimp only [ltS, ltB, ltP, getB]
  k_steps
  k_dflt (refine' hcmp ?B ?F ?X ?N ?T ?K ?s ?d ?u ?_; (case B => k_asm); (case F => k_asm); (case X => k_asm); (case N => k_asm); (case T => k_asm); (case K => first | exact rfl | assumption); (case s => assumption); (case d => ktr_room); (case u => ktr_units); k_whole; intro h9 tk9 t9 F9 N9; (try dsimp only); (try k_fold))
  k_steps
  exact hret _ _ (by assumption) (by assumption)
end
end Mine
end
section
open PySem PySem.W PyProof.Rows PySem.Calls
set_option Elab.async false
set_option maxRecDepth 100000
set_option maxHeartbeats 8000000
set_option linter.unusedVariables false
namespace Mine
noncomputable def evB {α : Type} (n : Nat) (c : Nat → Nat → Bool) : KasT α → Option α
  | .ret a => some a
  | .ask i j k => if i < n ∧ j < n then evB n c (k (c i j)) else none
section
variable {prog : Program} {w : World} {A : Around} {E : Value → Shared → Prop} {κ : SortKind} {it : Array Keyed}
theorem kas_ev {α : Type} {J : Shared → Prop} {n : Nat} {c : Nat → Nat → Bool} (hask : ∀ i j s (C : Bool → Shared → Prop), i < n → j < n → J s → (∀ s', J s' → C (c i j) s') → kas_cmp prog w A κ it i j C s) {G : α → Shared → Prop} :
    ∀ (t : KasT α) (s : Shared) (a : α), J s → evB n c t = some a → (∀ s', J s' → G a s') → t.kasWp (kas_cmp prog w A κ it) G s
  | .ret a, s, a', hJ, he, hG => by cases he; exact hG s hJ
  | .ask i j k, s, a', hJ, he, hG => by
    unfold evB at he
    split at he
    · rename_i h
      exact hask i j s _ h.1 h.2 hJ (fun s' hJ' => kas_ev hask (k (c i j)) s' a' hJ' he hG)
    · cases he
end
noncomputable def permV (vs : List Value) (p : Array Nat) : List Value := p.toList.map fun i => vs.getD i Value.none
noncomputable def SortOk (n : Nat) (c : Nat → Nat → Bool) (p : Array Nat) : Prop := p.size = n ∧ (if n < 2 then p = (List.range n).toArray else evB n c (kas_sort n) = some p)
noncomputable def keysOf (xs : List (Addr × Addr)) : List Value := xs.map fun q => .ref q.1
noncomputable def Insts (C : Addr) (vs : List Value) (xs : List (Addr × Addr)) (own : List (Addr × Obj)) : Prop := ∀ (j : Nat) (v : Value) (q : Addr × Addr), vs[j]? = some v → xs[j]? = some q → (q.1, kInst C q.2 v) ∈ own ∧ (q.2, emptyDict) ∈ own
theorem Insts.snoc {C x dx : Addr} {v : Value} {vs : List Value} {xs : List (Addr × Addr)} {own : List (Addr × Obj)} (h : Insts C vs xs own) (hv : vs[xs.length]? = some v) : Insts C vs (xs ++ [(x, dx)]) ((x, kInst C dx v) :: (dx, emptyDict) :: own) := by
  intro j u q hu hq
  rw [List.getElem?_append] at hq
  split at hq
  · obtain ⟨a, b⟩ := h j u q hu hq
    exact ⟨.tail _ (.tail _ a), .tail _ (.tail _ b)⟩
  · rename_i hj
    have hj2 : j = xs.length := by
      cases z : j - xs.length with
      | zero => omega
      | succ k => rw [z] at hq; simp at hq
    subst hj2
    simp at hq
    subst hq
    rw [hv] at hu
    cases hu
    exact ⟨.head _, .tail _ (.head _)⟩
section
variable {prog : Program} {w : World} {A : Around} {E : Value → Shared → Prop} {s : Shared} {h₀ : Heap} {L a kS C : Addr} {m : Str → Option Value} {news own : List (Addr × Obj)} {vs : List Value} {e e1 : Nat} {P : PySem.Fin → Shared → Prop} {p : Array Nat} {c : Nat → Nat → Bool}
theorem sk_tail {st : SortSt} {keys : Array Value} (F : Fr h₀ L s.heap m) (N : News h₀ L s.heap ((kS, seqObj "list" keys e) :: (a, seqObj "list" #[] e1) :: own)) (hka : kS ≠ a) (hna : ∀ p ∈ own, p.1 ≠ kS ∧ p.1 ≠ a)
    (hks : keys.size = vs.length) (h64 : vs.length < 64) (hp : p.size = vs.length) (har : (arrOf st).map (·.2) = (permV vs p).toArray) (hfl : failedOf st = none)
    (h : ∀ h' tk c, Fr h₀ L h' m → News h₀ L h' ((a, seqObj "list" (permV vs p).toArray c) :: own) → P (.done (.ret .none)) { s with heap := h', toks := tk }) :
    wpAny (model prog w) A (ksk_tail a false e1 (.ref kS) st) P E s := by
  have nk := N (kS, seqObj "list" keys e) (.head _)
  have na := N (a, seqObj "list" #[] e1) (.tail _ (.head _))
  have Nn : News h₀ L s.heap own := fun p hp => N p (.tail _ (.tail _ hp))
  have hout : (permV vs p).toArray.size = vs.length := by rw [List.size_toArray]; unfold permV; rw [List.length_map, Array.length_toList, hp]
  have s1 := Heap.SameBut.update s.heap kS (Obj.mapSeq fun _ => (#[] : Array Value))
  have na1 : (s.heap.update kS (Obj.mapSeq fun _ => (#[] : Array Value))).get? a = some (seqObj "list" #[] e1) := (s1.2 a hka.symm).trans na.1
  have s2 := Heap.SameBut.update (s.heap.update kS (Obj.mapSeq fun _ => (#[] : Array Value))) a (Obj.mapSeq fun _ => (permV vs p).toArray)
  obtain ⟨c2, hc2⟩ : ∃ c2, ((s.heap.update kS (Obj.mapSeq fun _ => (#[] : Array Value))).update a (Obj.mapSeq fun _ => (permV vs p).toArray)).get? a = some (seqObj "list" (permV vs p).toArray c2) :=
    ⟨_, get?_update_seq na1 fun _ => (permV vs p).toArray⟩
  have N2 := kas_news (kas_news Nn s1 (fun p hp => (hna p hp).1)) s2 (fun p hp => (hna p hp).2)
  unfold ksk_tail
  try dsimp only
  refine wpAny_bind (listUpdate_at nk.1 rfl ?_ (by rw [hks, sizeLine_eq]; omega) (Nat.zero_le _))
  refine wpAny_bind (wpAny_letGo ?_)
  refine wpAny_bind (seqEpoch_at na1 rfl ?_)
  rw [har]
  simp only [Bool.false_eq_true, if_false]
  refine wpAny_bind (listUpdate_at na1 rfl ?_ (Nat.zero_le _) (Nat.le_trans (Nat.le_of_eq hout) (by rw [sizeLine_eq]; omega)))
  rw [hfl]
  simp only [bne_self_eq_false, Bool.false_eq_true, if_false]
  refine wpAny_pure (h _ _ c2 (kas_fr (kas_fr F s1 nk.2.1 nk.2.2) s2 na.2.1 na.2.2) (fun p hp => ?_))
  rcases List.mem_cons.mp hp with rfl | hp
  · exact ⟨hc2, na.2⟩
  · exact N2 p hp
theorem sk_end {xs : List (Addr × Addr)} (F : Fr h₀ L s.heap m) (N : News h₀ L s.heap ((kS, seqObj "list" (keysOf xs).toArray e) :: (a, seqObj "list" #[] e1) :: own)) (hka : kS ≠ a) (hna : ∀ p ∈ own, p.1 ≠ kS ∧ p.1 ≠ a)
    (hxs : xs.length = vs.length) (h64 : vs.length < 64) (hi : Insts C vs xs own) (ok : SortOk vs.length c p)
    (hLt : ∀ i j v u x y dx dy, vs[i]? = some v → vs[j]? = some u → ∀ (h : Heap) (tk : Nat) (nw : List (Addr × Obj)) (Q : Bool → Shared → Prop), Fr h₀ L h m → News h₀ L h nw → (∀ p ∈ own, p ∈ nw) → (x, kInst C dx v) ∈ nw → (dx, emptyDict) ∈ nw → (y, kInst C dy u) ∈ nw → (dy, emptyDict) ∈ nw →
      (∀ h' tk', Fr h₀ L h' m → News h₀ L h' nw → Q (c i j) { s with heap := h', toks := tk' }) → wpAny (model prog w) A (keyLt' oneType' (.ref x) (.ref y)) Q (fun _ _ => False) { s with heap := h, toks := tk })
    (h : ∀ h' tk c, Fr h₀ L h' m → News h₀ L h' ((a, seqObj "list" (permV vs p).toArray c) :: own) → P (.done (.ret .none)) { s with heap := h', toks := tk }) :
    wpAny (model prog w) A (ksk_end a false vs.toArray e1 (.ref kS) (keysOf xs).toArray) P E s := by
  have hks : (keysOf xs).toArray.size = vs.length := by rw [List.size_toArray]; unfold keysOf; rw [List.length_map, hxs]
  have hzs : ((keysOf xs).toArray.zip vs.toArray).size = vs.length := by rw [Array.size_zip, hks, List.size_toArray, Nat.min_self]
  have hpn := ok.1
  have item : ∀ i, i < vs.length → ∃ q v, xs[i]? = some q ∧ vs[i]? = some v ∧ kas_item ((keysOf xs).toArray.zip vs.toArray) i = (.ref q.1, v) := by
    intro i hlt
    have h1 : i < xs.length := by omega
    refine ⟨xs[i], vs[i], by simp [h1], by simp [hlt], ?_⟩
    unfold kas_item
    have h2 : i < ((keysOf xs).toArray.zip vs.toArray).size := by omega
    simp [Array.getD, keysOf, Nat.lt_min, h1, hlt]
  have item2 : ∀ i, (kas_item ((keysOf xs).toArray.zip vs.toArray) i).2 = vs.getD i Value.none := by
    intro i
    by_cases hlt : i < vs.length
    · obtain ⟨q, v, -, hv, e⟩ := item i hlt
      rw [e]
      simp [hv]
    · unfold kas_item
      have h2 : ¬ i < ((keysOf xs).toArray.zip vs.toArray).size := by omega
      have e3 : vs.getD i Value.none = Value.none := by simp [Nat.le_of_not_lt hlt]
      rw [e3]
      simp [Array.getD, Nat.lt_min, hlt]
  unfold ksk_end
  try dsimp only
  rw [if_neg Bool.false_ne_true, if_neg Bool.false_ne_true]
  by_cases h2 : vs.toArray.size < 2
  · rw [if_pos h2, if_pos h2]
    refine wpAny_bind (wpAny_pure ?_)
    rw [StateT.run_pure]
    refine wpAny_bind (wpAny_pure ?_)
    try dsimp only
    refine sk_tail (keys := (keysOf xs).toArray) F N hka hna hks h64 hpn ?_ rfl h
    rw [List.size_toArray] at h2
    have h3 := ok.2
    rw [if_pos h2] at h3
    show ((keysOf xs).toArray.zip vs.toArray).map (·.2) = _
    have e := kas_range ((keysOf xs).toArray.zip vs.toArray)
    rw [hzs] at e
    rw [← e, Array.map_map, h3]
    apply Array.toList_inj.mp
    unfold permV
    simp only [Array.toList_map]
    exact List.map_congr_left fun i _ => item2 i
  · rw [if_neg h2, if_neg h2]
    rw [List.size_toArray] at h2
    have h3 := ok.2
    rw [if_neg h2] at h3
    have hT : ∀ v ∈ keysOf xs, Looks (model prog w) s.heap (typeOf v) (.ref C) := by
      intro v hv
      unfold keysOf at hv
      obtain ⟨q, hq, rfl⟩ := List.mem_map.mp hv
      obtain ⟨j, hj⟩ := List.getElem?_of_mem hq
      have hj2 : j < vs.length := by
        have := (List.getElem?_eq_some_iff.mp hj).1
        omega
      obtain ⟨h4, -⟩ := hi j vs[j] q (by simp [hj2]) hj
      exact (Looks.ld (N _ (.tail _ (.tail _ h4))).1).andThen .now
    refine wpAny_bind (kas_kind (T := .ref C) (by unfold keysOf; rw [List.length_map]; omega) hT rfl (by simp) ?_)
    have est : SortSt.mk' oneType' ((keysOf xs).toArray.zip vs.toArray) #[] 7 none = kas_st oneType' ((keysOf xs).toArray.zip vs.toArray) (List.toArray (List.range vs.length)) := by
      have e := kas_range ((keysOf xs).toArray.zip vs.toArray)
      rw [hzs] at e
      show SortSt.mk' oneType' _ #[] 7 none = SortSt.mk' oneType' ((List.toArray (List.range vs.length)).map (kas_item _)) #[] 7 none
      rw [e]
    have ask : (kas_sort vs.length).kasWp (kas_cmp prog w A oneType' ((keysOf xs).toArray.zip vs.toArray)) (fun p' s' => p' = p ∧ ∃ h' tk, s' = { s with heap := h', toks := tk } ∧ Fr h₀ L h' m ∧ News h₀ L h' ((kS, seqObj "list" (keysOf xs).toArray e) :: (a, seqObj "list" #[] e1) :: own)) s := by
      refine kas_ev (J := fun s' => ∃ h' tk, s' = { s with heap := h', toks := tk } ∧ Fr h₀ L h' m ∧ News h₀ L h' ((kS, seqObj "list" (keysOf xs).toArray e) :: (a, seqObj "list" #[] e1) :: own)) (n := vs.length) (c := c) ?_ _ s p ⟨_, _, rfl, F, N⟩ h3 (fun s' hJ => ⟨rfl, hJ⟩)
      rintro i j s₁ C₁ hi1 hj1 ⟨h', tk, rfl, F', N'⟩ hC
      obtain ⟨q, v, hq, hv, e₁⟩ := item i hi1
      obtain ⟨q', v', hq', hv', e₂⟩ := item j hj1
      unfold kas_cmp
      rw [e₁, e₂]
      obtain ⟨b1, b2⟩ := hi i v q hv hq
      obtain ⟨b3, b4⟩ := hi j v' q' hv' hq'
      exact hLt i j v v' q.1 q'.1 q.2 q'.2 hv hv' h' tk _ _ F' N' (fun p hp => .tail _ (.tail _ hp)) (.tail _ (.tail _ b1)) (.tail _ (.tail _ b2)) (.tail _ (.tail _ b3)) (.tail _ (.tail _ b4)) (fun h'' tk'' F'' N'' => hC _ ⟨_, _, rfl, F'', N''⟩)
    have run := kas_runs (E := E) (Q := fun _ st' s' => ∃ p' : Array Nat, arrOf st' = p'.map (kas_item ((keysOf xs).toArray.zip vs.toArray)) ∧ failedOf st' = none ∧ p' = p ∧ ∃ h' tk, s' = { s with heap := h', toks := tk } ∧ Fr h₀ L h' m ∧ News h₀ L h' ((kS, seqObj "list" (keysOf xs).toArray e) :: (a, seqObj "list" #[] e1) :: own))
      (by omega) h64 (fun p' st' s' a1 a2 a3 a4 => ⟨p', a2, a3, a4⟩) ask
    rw [← est] at run
    refine wpAny_bind (wpAny_mono run ?_ fun _ _ e => e)
    rintro ⟨⟨⟩, st'⟩ s' ⟨p', har, hf, rfl, h', tk, rfl, F', N'⟩
    dsimp only
    refine sk_tail (keys := (keysOf xs).toArray) (s := { s with heap := h', toks := tk }) F' N' hka hna hks h64 hpn ?_ hf (fun h'' tk'' c F'' N'' => h h'' tk'' c F'' N'')
    rw [har]
    apply Array.toList_inj.mp
    rw [Array.map_map, Array.toList_map]
    unfold permV
    exact List.map_congr_left fun i _ => item2 i
end
end Mine
end
section
open PySem PySem.W PyProof.Rows PySem.Calls
set_option Elab.async false
set_option maxRecDepth 100000
set_option maxHeartbeats 8000000
set_option linter.unusedVariables false
namespace Mine
section
variable {prog : Program} {w : World} {A : Around} {E : Value → Shared → Prop} {s : Shared} {h₀ : Heap} {L a kS C : Addr} {m : Str → Option Value} {news own : List (Addr × Obj)} {vs : List Value} {e e1 : Nat} {P : PySem.Fin → Shared → Prop} {p : Array Nat} {c : Nat → Nat → Bool}
noncomputable def KCall (prog : Program) (w : World) (A : Around) (C : Addr) (h₀ : Heap) (L : Addr) (m : Str → Option Value) (news : List (Addr × Obj)) (s : Shared) (vs : List Value) : Prop :=
  ∀ (j : Nat) (v : Value), vs[j]? = some v → ∀ (h : Heap) (tk : Nat) (nw : List (Addr × Obj)) (Q : Value → Shared → Prop), Fr h₀ L h m → News h₀ L h nw → (∀ p ∈ news, p ∈ nw) →
    (∀ h' tk' x dx, Fr h₀ L h' m → News h₀ L h' ((x, kInst C dx v) :: (dx, emptyDict) :: nw) → (∀ p ∈ nw, p.1 < dx) → @LT.lt Nat _ dx x → Q (.ref x) { s with heap := h', toks := tk' }) →
    wpAny (model prog w) A (call (.ref C) [v]) Q (fun _ _ => False) { s with heap := h, toks := tk }
noncomputable def LtCall (prog : Program) (w : World) (A : Around) (C : Addr) (h₀ : Heap) (L : Addr) (m : Str → Option Value) (news : List (Addr × Obj)) (s : Shared) (vs : List Value) (c : Nat → Nat → Bool) : Prop :=
  ∀ (i j : Nat) (v u : Value) (x y dx dy : Addr), vs[i]? = some v → vs[j]? = some u → ∀ (h : Heap) (tk : Nat) (nw : List (Addr × Obj)) (Q : Bool → Shared → Prop), Fr h₀ L h m → News h₀ L h nw → (∀ p ∈ news, p ∈ nw) → (x, kInst C dx v) ∈ nw → (dx, emptyDict) ∈ nw → (y, kInst C dy u) ∈ nw → (dy, emptyDict) ∈ nw →
      (∀ h' tk', Fr h₀ L h' m → News h₀ L h' nw → Q (c i j) { s with heap := h', toks := tk' }) → wpAny (model prog w) A (keyLt' oneType' (.ref x) (.ref y)) Q (fun _ _ => False) { s with heap := h, toks := tk }
theorem sk_rest (F : Fr h₀ L s.heap m) (N : News h₀ L s.heap ((kS, seqObj "list" #[] 0) :: (a, seqObj "list" #[] e1) :: news)) (hka : kS ≠ a) (hlt : ∀ p ∈ news, p.1 ≠ kS ∧ p.1 ≠ a) 
    (h64 : vs.length < 64) (ok : SortOk vs.length c p) (hK : KCall prog w A C h₀ L m news s vs) (hLt : LtCall prog w A C h₀ L m news s vs c)
    (h : ∀ h' tk c, Fr h₀ L h' m → News h₀ L h' ((a, seqObj "list" (permV vs p).toArray c) :: news) → P (.done (.ret .none)) { s with heap := h', toks := tk }) :
    wpAny (model prog w) A (ksk_rest a (.ref C) false vs.toArray e1 (.ref kS)) P E s := by
  unfold ksk_rest
  refine wpAny_bind (wpAny_rule ?_)
  first
    | rw [List.forIn_toArray]
    | (rw [← Array.forIn_toList]; simp only [List.toList_toArray])
    | rw [← Array.forIn_toList]
  refine wpAny_bind (ksk_fold (fun i s' => ∃ h' tk xs e own, s' = { s with heap := h', toks := tk } ∧ Fr h₀ L h' m ∧ News h₀ L h' ((kS, seqObj "list" (keysOf xs).toArray e) :: (a, seqObj "list" #[] e1) :: own) ∧ xs.length = i ∧ Insts C vs xs own ∧ (∀ p ∈ news, p ∈ own) ∧ (∀ p ∈ own, p.1 ≠ kS ∧ p.1 ≠ a)) vs 0 s
    ⟨s.heap, s.toks, [], 0, news, rfl, F, N, rfl, fun j v q _ hq => by simp at hq, fun p hp => hp, hlt⟩ ?step ?done)
  case step =>
    rintro j x s' hx ⟨h', tk, xs, e, own, rfl, F', N', hl, hi, hsub, hne⟩
    simp only [Nat.zero_add] at hl ⊢
    have hj : j < vs.length := (List.getElem?_eq_some_iff.mp hx).1
    refine wpAny_bind (wpAny_attempt (wpAny_mono (hK j x hx h' tk _ _ F' N' (fun p hp => .tail _ (.tail _ (hsub p hp))) (fun g tk2 q dq F2 N2 lq ly => ?_)) (fun _ _ z => z) fun _ _ hF => hF.elim))
    try dsimp only
    have nk := N2 (kS, seqObj "list" (keysOf xs).toArray e) (.tail _ (.tail _ (.head _)))
    have na := N2 (a, seqObj "list" #[] e1) (.tail _ (.tail _ (.tail _ (.head _))))
    have s1 := Heap.SameBut.update g kS (Obj.mapSeq (·.push (.ref q)))
    have hks : (keysOf xs).toArray.size = j := by rw [List.size_toArray]; unfold keysOf; rw [List.length_map, hl]
    have e2 : (keysOf xs).toArray.push (.ref q) = (keysOf (xs ++ [(q, dq)])).toArray := by unfold keysOf; simp
    obtain ⟨c2, hc2⟩ : ∃ c2, (g.update kS (Obj.mapSeq (·.push (.ref q)))).get? kS = some (seqObj "list" ((keysOf xs).toArray.push (.ref q)) c2) := ⟨_, get?_update_seq nk.1 (·.push (.ref q))⟩
    rw [e2] at hc2
    have lk := lq (kS, seqObj "list" (keysOf xs).toArray e) (.head _)
    have la := lq (a, seqObj "list" #[] e1) (.tail _ (.head _))
    have hne2 : ∀ p ∈ (q, kInst C dq x) :: (dq, emptyDict) :: own, p.1 ≠ kS ∧ p.1 ≠ a := by
      intro p hp
      rcases List.mem_cons.mp hp with rfl | hp
      · exact ⟨Nat.ne_of_gt (Nat.lt_trans lk ly), Nat.ne_of_gt (Nat.lt_trans la ly)⟩
      · rcases List.mem_cons.mp hp with rfl | hp
        · exact ⟨Nat.ne_of_gt lk, Nat.ne_of_gt la⟩
        · exact hne p hp
    refine wpAny_bind (listUpdate_at nk.1 rfl ?_ (by rw [hks, sizeLine_eq]; omega) (Nat.le_trans (Nat.le_of_eq (Array.size_push ..)) (by rw [hks, sizeLine_eq]; omega)))
    refine wpAny_pure ⟨rfl, _, _, xs ++ [(q, dq)], c2, (q, kInst C dq x) :: (dq, emptyDict) :: own, rfl, kas_fr F2 s1 nk.2.1 nk.2.2, fun p hp => ?_, by rw [List.length_append, hl]; rfl, hi.snoc (by rw [hl]; exact hx), fun p hp => .tail _ (.tail _ (hsub p hp)), hne2⟩
    rcases List.mem_cons.mp hp with rfl | hp
    · exact ⟨hc2, nk.2⟩
    · rcases List.mem_cons.mp hp with rfl | hp
      · exact ⟨(s1.2 a hka.symm).trans na.1, na.2⟩
      · refine kas_news (fun q hq => N2 q ?_) s1 (fun p hp => (hne2 p hp).1) p hp
        rcases List.mem_cons.mp hq with rfl | hq
        · exact .head _
        · rcases List.mem_cons.mp hq with rfl | hq
          · exact .tail _ (.head _)
          · exact .tail _ (.tail _ (.tail _ (.tail _ hq)))
  case done =>
    rintro s' ⟨h', tk, xs, e, own, rfl, F', N', hl, hi, hsub, hne⟩
    have nk := N' (kS, seqObj "list" (keysOf xs).toArray e) (.head _)
    try dsimp only
    refine wpAny_bind (listItems_at nk.1 rfl ?_)
    refine sk_end (s := { s with heap := h', toks := tk }) F' N' hka hne (by omega) h64 hi ok (fun i j v u x y dx dy hv hu h'' tk'' nw Q F'' N'' hs b1 b2 b3 b4 hq => hLt i j v u x y dx dy hv hu h'' tk'' nw Q F'' N'' (fun p hp => hs p (hsub p hp)) b1 b2 b3 b4 hq) (fun h3 tk3 c3 F3 N3 => h h3 tk3 c3 F3 (fun p hp => N3 p ?_))
    rcases List.mem_cons.mp hp with rfl | hp
    · exact .head _
    · exact .tail _ (hsub p hp)
theorem sk_sort {n : Nat} (F : Fr h₀ L s.heap m) (N : News h₀ L s.heap news) (ho : s.heap.get? a = some (seqObj "list" vs.toArray n)) (haL : a ≠ L) (ha0 : h₀.get? a = none) (hna : ∀ p ∈ news, p.1 ≠ a)
    (h64 : vs.length < 64) (ok : SortOk vs.length c p) (hK : KCall prog w A C h₀ L m news s vs) (hLt : LtCall prog w A C h₀ L m news s vs c)
    (h : ∀ h' tk c, Fr h₀ L h' m → News h₀ L h' ((a, seqObj "list" (permV vs p).toArray c) :: news) → P (.done (.ret .none)) { s with heap := h', toks := tk }) :
    wpAny (model prog w) A (ksk_tree a (.ref C) false) P E s := by
  have ha : a < s.heap.objs.size := Heap.lt_size ho
  have s1 := Heap.SameBut.update s.heap a (Obj.mapSeq fun _ => (#[] : Array Value))
  obtain ⟨e1, ho1⟩ : ∃ e1, (s.heap.update a (Obj.mapSeq fun _ => (#[] : Array Value))).get? a = some (seqObj "list" #[] e1) := ⟨_, get?_update_seq ho fun _ => #[]⟩
  have F1 := kas_fr F s1 haL ha0
  have N1 := kas_news N s1 hna
  have hkS : ((s.heap.update a (Obj.mapSeq fun _ => (#[] : Array Value))).push (seqObj "tuple" vs.toArray 0)).objs.size = s.heap.objs.size + 1 := by rw [size_push', Heap.size_update]
  have hLk : L < ((s.heap.update a (Obj.mapSeq fun _ => (#[] : Array Value))).push (seqObj "tuple" vs.toArray 0)).objs.size := (F1.push _).ns.lt
  unfold ksk_tree
  refine wpAny_bind (listItems_at ho rfl ?_)
  refine wpAny_bind (listUpdate_at ho rfl ?_ (by rw [List.size_toArray, sizeLine_eq]; omega) (Nat.zero_le _))
  refine wpAny_bind (seqEpoch_at ho1 rfl ?_)
  refine wpAny_bind (wpAny_newTuple ?_ (by show vs.length ≤ _; rw [sizeLine_eq]; omega))
  refine wpAny_bind (wpAny_newList ?_ (Nat.zero_le _))
  refine wpAny_holding ?_
  refine sk_rest (s := { s with heap := ((s.heap.update a (Obj.mapSeq fun _ => (#[] : Array Value))).push (seqObj "tuple" vs.toArray 0)).push (seqObj "list" #[] 0) }) (kS := ((s.heap.update a (Obj.mapSeq fun _ => (#[] : Array Value))).push (seqObj "tuple" vs.toArray 0)).objs.size)
    ((F1.push _).push _) (fun p hp => ?_) (by rw [hkS]; exact Nat.ne_of_gt (Nat.lt_succ_of_lt ha)) (fun p hp => ⟨by rw [hkS]; exact Nat.ne_of_lt (Nat.lt_succ_of_lt (Heap.lt_size (N p hp).1)), hna p hp⟩) h64 ok hK hLt h
  rcases List.mem_cons.mp hp with rfl | hp
  · exact ⟨Heap.get?_push_size _ rfl, Nat.ne_of_gt hLk, Heap.get?_none_of_le (Nat.le_trans F.above (Nat.le_of_lt hLk))⟩
  · rcases List.mem_cons.mp hp with rfl | hp
    · exact ⟨Heap.get?_push_of_some _ (Heap.get?_push_of_some _ ho1), haL, ha0⟩
    · exact ⟨Heap.get?_push_of_some _ (Heap.get?_push_of_some _ (N1 p hp).1), (N1 p hp).2⟩
end
section
variable {prog : Program} {w : World} {A : Around} {E : Value → Shared → Prop} {s : Shared} {h₀ : Heap} {L l C : Addr} {m : Str → Option Value} {news : List (Addr × Obj)} {vs : List Value} {Q : Value → Shared → Prop} {p : Array Nat} {c : Nat → Nat → Bool}
theorem W_sortK (F : Fr h₀ L s.heap m) (N : News h₀ L s.heap news) (hl : s.heap.IsList l vs.toArray) (h64 : vs.length < 64) (ok : SortOk vs.length c p) (hK : KCall prog w A.in1.in1 C h₀ L m news s vs) (hLt : LtCall prog w A.in1.in1 C h₀ L m news s vs c)
    (h : ∀ D h' tk c, Fr h₀ L h' m → News h₀ L h' ((D, seqObj "list" (permV vs p).toArray c) :: news) → (∀ q ∈ news, q.1 < D) → Q (.ref D) { s with heap := h', toks := tk }) :
    wpAny (model prog w) A (call (.builtin "sorted") [.ref l] [(Str.ofString "key", .ref C)]) Q E s := by
  refine call_function_entry_kw kind_sorted plain_sorted entry_sorted (ksk_s1 _ _) ?_
  unfold Builtin.«sorted»
  refine wpAny_bind (m := checkCount "sorted" 1 1 _) (wpAny_pure ?_)
  refine wpAny_bind (collect_list hl ?_ (by rw [sizeLine_eq]; omega))
  refine wpAny_bind (wpAny_newList ?_ (by rw [sizeLine_eq]; omega))
  have hsz : ((s.heap.push (seqObj "list" #[] 0)).update s.heap.objs.size (Obj.mapSeq (· ++ vs.toArray))).objs.size = s.heap.objs.size + 1 := by
    rw [Heap.size_update, size_push']
  have hoL : (((s.heap.push (seqObj "list" #[] 0)).update s.heap.objs.size (Obj.mapSeq (· ++ vs.toArray))).push (seqObj "list" vs.toArray 0)).get? (s.heap.objs.size + 1) = some (seqObj "list" vs.toArray 0) := by
    rw [← hsz]; exact Heap.get?_push_size _ rfl
  have keep : ∀ b o, s.heap.get? b = some o → (((s.heap.push (seqObj "list" #[] 0)).update s.heap.objs.size (Obj.mapSeq (· ++ vs.toArray))).push (seqObj "list" vs.toArray 0)).get? b = some o := fun b o q => by
    have hlt : b < s.heap.objs.size := Heap.lt_size q
    rw [Heap.get?_push_ne _ _ _ (by rw [hsz]; exact Nat.ne_of_lt (Nat.lt_succ_of_lt hlt)), Heap.get?_update_ne _ _ _ _ (Nat.ne_of_lt hlt), Heap.get?_push_ne _ _ _ (Nat.ne_of_lt hlt)]
    exact q
  have hL : L < s.heap.objs.size := F.ns.lt
  show wpAny _ _ _ _ _ { s with heap := ((s.heap.push (seqObj "list" #[] 0)).update s.heap.objs.size (Obj.mapSeq (· ++ vs.toArray))).push (seqObj "list" vs.toArray 0) }
  rw [hsz]
  refine wpAny_bind (wpAny_holding (wpAny_call_entry_kw slot_list_sort ⟨_, hoL, rfl⟩ entry_list_sort ?body (ksk_l1 _ _)))
  case body =>
    have ht' := ksk_t1 C (s.heap.objs.size + 1)
    show wpAny (model prog w) A.in1.in1 (Builtin.«list.sort» ⟨[.ref (s.heap.objs.size + 1)], [(Str.ofString "key", .ref C)]⟩) _ _ _
    rw [ht']
    refine sk_sort (s := { s with heap := ((s.heap.push (seqObj "list" #[] 0)).update s.heap.objs.size (Obj.mapSeq (· ++ vs.toArray))).push (seqObj "list" vs.toArray 0) })
      (F.kept keep) (N.grown keep) hoL (Nat.ne_of_gt (Nat.lt_succ_of_lt hL)) (Heap.get?_none_of_le (Nat.le_trans F.above (Nat.le_succ_of_le (Nat.le_of_lt hL))))
      (fun p hp => Nat.ne_of_lt (Nat.lt_succ_of_lt (Heap.lt_size (N p hp).1))) h64 ok hK hLt fun h' tk c F' N' => ⟨_, rfl, ?_⟩
    exact wpAny_pure ⟨_, rfl, h _ h' tk c F' N' (fun q hq => Nat.lt_succ_of_lt (Heap.lt_size (N q hq).1))⟩
end
end Mine
end
section
open PySem PySem.W PyProof.Rows PySem.Calls
set_option Elab.async false
set_option maxRecDepth 100000
set_option maxHeartbeats 8000000
set_option linter.unusedVariables false
namespace Mine
inductive StrsOf : List Value → List Str → Prop
  | nil : StrsOf [] []
  | cons {vs : List Value} {xs : List Str} (x : Str) (t : Tok) (h : StrsOf vs xs) : StrsOf (.str x t :: vs) (x :: xs)
theorem StrsOf.append {a b : List Value} {x y : List Str} (h : StrsOf a x) (h2 : StrsOf b y) : StrsOf (a ++ b) (x ++ y) := by
  induction h with
  | nil => exact h2
  | cons x t _ ih => exact .cons x t ih
theorem StrsOf.length {a : List Value} {x : List Str} (h : StrsOf a x) : a.length = x.length := by
  induction h with
  | nil => rfl
  | cons x t _ ih => rw [List.length_cons, List.length_cons, ih]
theorem StrsOf.at {a : List Value} {x : List Str} (h : StrsOf a x) : ∀ {i : Nat} {v : Value}, a[i]? = some v → ∃ t y, x[i]? = some y ∧ v = .str y t := by
  induction h with
  | nil => intro i v h; simp at h
  | cons y t _ ih =>
    intro i v e
    cases i with
    | zero => simp at e; exact ⟨t, y, by simp, e.symm⟩
    | succ i => simp only [List.getElem?_cons_succ] at e ⊢; exact ih e
theorem StrsOf.at' {a : List Value} {x : List Str} (h : StrsOf a x) : ∀ {i : Nat} {y : Str}, x[i]? = some y → ∃ t, a[i]? = some (.str y t) := by
  induction h with
  | nil => intro i v h; simp at h
  | cons y t _ ih =>
    intro i v e
    cases i with
    | zero => simp at e; subst e; exact ⟨t, by simp⟩
    | succ i => simp only [List.getElem?_cons_succ] at e ⊢; exact ih e
structure Tr where
  n : Nat
  nm : Nat → Str
  ch : Nat → List Nat
noncomputable def Tr.Below (t : Tr) (w : World) (bx : Addr) (news : List (Addr × Obj)) : Prop :=
  ∃ ob kvs, (bx, ob) ∈ news ∧ ob.IsDictOf (PySem.strKind PySem.Challenge.rw_il0172_01.row.prog w) kvs ∧ ∀ i, i < t.n → ∃ l cv ep, valueAt kvs (t.nm i) = some (.ref l) ∧ (l, listOf (List.toArray cv) ep) ∈ news ∧ StrsOf cv ((t.ch i).map t.nm)
theorem Tr.Below.mono {t : Tr} {w : World} {bx : Addr} {a b : List (Addr × Obj)} (h : t.Below w bx a) (hs : ∀ p ∈ a, p ∈ b) : t.Below w bx b := by
  obtain ⟨ob, kvs, h1, h2, h3⟩ := h
  refine ⟨ob, kvs, hs _ h1, h2, fun i hi => ?_⟩
  obtain ⟨l, cv, ep, a1, a2, a3⟩ := h3 i hi
  exact ⟨l, cv, ep, a1, hs _ a2, a3⟩
noncomputable def walkI (ch : Nat → List Nat) (pm : Nat → Array Nat) : Nat → Nat → List Nat
  | 0, i => [i]
  | f + 1, i => ((pm i).toList.flatMap fun k => walkI ch pm f ((ch i).getD k 0)) ++ [i]
end Mine
end
section
open PySem PySem.W PyProof.Rows PySem.Calls
set_option Elab.async false
set_option maxRecDepth 100000
set_option maxHeartbeats 8000000
set_option linter.unusedVariables false
namespace Mine
section
variable {prog : Program} {w : World} {A : Around} {E : Value → Shared → Prop} {s : Shared} {h₀ : Heap} {L : Addr} {m : Str → Option Value} {news : List (Addr × Obj)}
theorem W_addL {l b : Addr} {xs ys : List Value} {e1 e2 : Nat} {Q : Value → Shared → Prop} (F : Fr h₀ L s.heap m) (N : News h₀ L s.heap news) (hl : (l, listOf xs.toArray e1) ∈ news) (hb : (b, listOf ys.toArray e2) ∈ news) (hsz : xs.length + ys.length ≤ 1000)
    (h : ∀ D h', Fr h₀ L h' m → News h₀ L h' ((D, listOf (xs ++ ys).toArray 0) :: news) → (∀ p ∈ news, p.1 < D) → Q (.ref D) { s with heap := h' }) : wpAny (model prog w) A (binaryOp .Add (.ref l) (.ref b)) Q E s := by
  refine add_arrays F N ⟨_, (N _ hl).1, rfl, _, rfl⟩ ⟨_, (N _ hb).1, rfl, _, rfl⟩ (fun h' F' N' => ?_) (by rw [sizeLine_eq, List.size_toArray, List.size_toArray]; omega)
  exact h _ h' F' N' (fun p hp => Heap.lt_size (N p hp).1)
end
theorem CT.mem {Tb : List (Addr × Obj)} (h : CT Tb) : ∃ o, ((106 : Addr), o) ∈ Tb := by
  cases h with
  | first => exact ⟨_, .head _⟩
  | later t ok => exact ⟨_, .head _⟩
theorem mem_swap {x : Addr × Obj} {T r : List (Addr × Obj)} : ∀ p ∈ T ++ (x :: r), p ∈ x :: (T ++ r) := by
  intro p hp
  rcases List.mem_append.mp hp with hp | hp
  · exact .tail _ (List.mem_append_left _ hp)
  · rcases List.mem_cons.mp hp with rfl | hp
    · exact .head _
    · exact .tail _ (List.mem_append_right _ hp)
section
variable {w : World} {p : Program} {loose : List Str} {mean : ExcName → Option Value} {mg mb : Str → Option Value} {dp un : Nat} {gd : Option (List Code)} {cn : Str} {cs : Scope} {a : Addr} {ccd : Value} {cl : List (Str × Addr)} {outer : List Env} {A₀ : Around} {base h₀ : Heap} {L : Addr} {m : Str → Option Value} {news : List (Addr × Obj)} {s : Shared} {Q E : Value → Shared → Prop}
theorem kcall {i : KI} {lam : Addr} {t : TI} {vs : List Value} {xs : List Str} (ok : i.Ok w.params (.ref lam)) (okT : t.Ok) (e1 : i.c1 = t.c1) (hvs : StrsOf vs xs) (B : Below A₀ base outer h₀) (X : (hd.heap_39 w.params).In h₀) (T : Top p loose mean mg mb h₀) (hk : cs.kind = .function) (hs : ∀ p ∈ i.cls w.params, p ∈ news) (ht : ∀ p ∈ t.l, p ∈ news) (hd : dp + 4 < recursionLimit) (hu : un + 32 < cLine) :
   KCall PySem.Challenge.rw_il0172_01.row.prog w (ktrTop dp un gd cn cs L a ccd cl outer).in1.in1 i.C h₀ L m news s vs := by
  intro j v hv h tk nw Q F N hsub hq
  obtain ⟨tk1, y, -, rfl⟩ := hvs.at hv
  exact c_K (s := { s with heap := h, toks := tk }) (o1 := t.o1) (dp := dp) (un := un + 1 + 1) ok okT.q1 B F X N T hk (fun p hp => hsub p (hs p hp)) (by rw [e1]; exact hsub _ (ht _ (by unfold TI.l; simp))) (by omega) (by omega) (fun h' tk' x dx F' N' l1 l2 => hq h' tk' x dx F' N' l1 l2)
theorem ltcall {i : KI} {lam : Addr} {t : TI} {vs : List Value} {xs : List Str} {need : List (Addr × Obj)} {n : Nat → Nat → Int} {oc : Value} {od : Option Addr} {fd : FuncData} {sl : Array (Option Value)} (ok : i.Ok w.params (.ref lam)) (okT : t.Ok) (e2 : i.c2 = t.c2) (hvs : StrsOf vs xs)
   (hcmp : ∀ a b v u, vs[a]? = some v → vs[b]? = some u → CallsInt w p loose mean mg mb (.ref lam) need v u (n a b)) (hneed : ∀ q ∈ need, q ∈ news) (hfn : (lam, (⟨oc, od, .func fd, sl⟩ : Obj)) ∈ news)
   (B : Below A₀ base outer h₀) (X : (hd.heap_39 w.params).In h₀) (T : Top p loose mean mg mb h₀) (hk : cs.kind = .function) (hs : ∀ p ∈ i.cls w.params, p ∈ news) (ht : ∀ p ∈ t.l, p ∈ news) (hd : dp + 6 < recursionLimit) (hu : un + 48 < cLine) :
   LtCall PySem.Challenge.rw_il0172_01.row.prog w (ktrTop dp un gd cn cs L a ccd cl outer).in1.in1 i.C h₀ L m news s vs (fun a b => decide (n a b < 0)) := by
  intro a b v u x y dx dy hv hu' h tk nw Q F N hsub b1 b2 b3 b4 hq
  have hc : CallsInt w p loose mean mg mb (.ref lam) need v u (n a b) := @hcmp a b v u hv hu'
  obtain ⟨tk1, y1, -, rfl⟩ := hvs.at hv
  obtain ⟨tk2, y2, -, rfl⟩ := hvs.at hu'
  have Xk := kin (i := i) (w := w.params) N (fun p hp => hsub p (hs p hp))
  have I : InstAt h x (kInst i.C dx (.str y1 tk1)) i.C (some emptyDict) := instK (s := { s with heap := h, toks := tk }) N b1 rfl rfl rfl b2
  rw [keyLt'_oneType, oneLt'_eq]
  simp only [if_true]
  refine wpAny_bind (wpAny_cRoomFor (by show un + 1 + 1 < cLine; omega) ?_)
  refine wpAny_bind (ifBound_K (s := { s with heap := h, toks := tk }) Xk I (f_lt ok) (beq_iff_eq.mpr (t_f2 ok)) ?_)
  refine c_lt (s := { s with heap := h, toks := tk }) (o2 := t.o2) (dp := dp) (un := un + 1 + 1) ok okT.q2 B F X N T hk (fun p hp => hsub p (hs p hp)) (by rw [e2]; exact hsub _ (ht _ (by unfold TI.l; simp))) (by omega) (by omega) hc (fun q hq => hsub q (hneed q hq)) (hsub _ hfn) b1 b2 b3 b4 rfl rfl (fun h' tk' F' N' => ?_)
  exact wpAny_truthy_bool (hq h' tk' F' N')
end
end Mine
end
section
open PySem PySem.W PyProof.Rows PySem.Calls
set_option Elab.async false
set_option maxRecDepth 100000
set_option maxHeartbeats 8000000
set_option linter.unusedVariables false
namespace Mine
section
theorem fresh_KW : True ∧ True := by
  w_top off
  exact ⟨trivial, trivial⟩
end
theorem head_addr {h₀ h : Heap} {L x : Addr} {o : Obj} {r : List (Addr × Obj)} (N : News h₀ L h ((x, o) :: r)) : ∃ y, y = x := ⟨x, rfl⟩
theorem mem_swap2 {x y : Addr × Obj} {T r : List (Addr × Obj)} : ∀ p ∈ T ++ (x :: y :: r), p ∈ x :: y :: (T ++ r) := by
  intro p hp
  rcases List.mem_append.mp hp with hp | hp
  · exact .tail _ (.tail _ (List.mem_append_left _ hp))
  · rcases List.mem_cons.mp hp with rfl | hp
    · exact .head _
    · rcases List.mem_cons.mp hp with rfl | hp
      · exact .tail _ (.head _)
      · exact .tail _ (.tail _ (List.mem_append_right _ hp))
theorem Fresh.mono {Ta Tb a b : List (Addr × Obj)} (h : Fresh Ta Tb b) (hs : ∀ p ∈ a, p ∈ b) : Fresh Ta Tb a := fun p hp => (h p hp).imp id fun k q hq => k q (hs q hq)
theorem upd2 {x a b : Str} {u v r : Option Value} {m : Str → Option Value} (h1 : x ≠ a) (h2 : x ≠ b) (h : m x = r) : (if x = a then u else if x = b then v else m x) = r := by rw [if_neg h1, if_neg h2]; exact h
theorem permV_at {vs : List Value} {p : Array Nat} {k : Nat} {v : Value} (h : (permV vs p)[k]? = some v) : ∃ q, p.toList[k]? = some q ∧ v = vs.getD q Value.none := by
  unfold permV at h
  rw [List.getElem?_map] at h
  obtain ⟨q, hq, rfl⟩ := Option.map_eq_some_iff.mp h
  exact ⟨q, hq, rfl⟩
theorem permV_length {vs : List Value} {p : Array Nat} : (permV vs p).length = p.toList.length := by unfold permV; rw [List.length_map]
theorem fm_succ {α : Type} {l : List Nat} {g : Nat → List α} {k q : Nat} (h : l[k]? = some q) : (l.take (k + 1)).flatMap g = (l.take k).flatMap g ++ g q := by
  rw [List.take_add_one, h]
  simp
theorem fm_len {α : Type} {l : List Nat} {g : Nat → List α} (k : Nat) : ((l.take k).flatMap g).length ≤ (l.flatMap g).length := by
  conv => rhs; rw [← List.take_append_drop k l, List.flatMap_append, List.length_append]
  exact Nat.le_add_right _ _
section
variable {w : World} {p : Program} {loose : List Str} {mean : ExcName → Option Value} {mg mb : Str → Option Value} {dp un : Nat} {gd : Option (List Code)} {cn : Str} {cs : Scope} {a : Addr} {ccd : Value} {cl : List (Str × Addr)} {outer : List Env} {A₀ : Around} {base h₀ : Heap} {L : Addr} {m : Str → Option Value} {news : List (Addr × Obj)} {s : Shared} {Q E : Value → Shared → Prop}
local macro_rules | `(tactic| walk_at "call ref") => `(tactic| (k_here; (with_reducible show wpAny _ _ (call (Value.ref _) _) _ _ _); refine Hold.out ?_))
local macro_rules | `(tactic| walk_at "binaryOp Add ref ref") => `(tactic| (k_here; refine Hold.out ?_))
local macro_rules | `(tactic| k_mem) => `(tactic| first | assumption | exact List.Mem.tail _ (by assumption) | exact List.Mem.tail _ (.tail _ (by assumption)) | exact List.Mem.tail _ (.tail _ (.tail _ (by assumption))))
local macro_rules | `(tactic| walk_at "eval Name") => `(tactic| (k_here; k_dflt (refine ld (by k_asm) (by assumption) ?_; k_whole)))
local macro_rules | `(tactic| walk_at "subscriptTail") => `(tactic| (k_here; (with_reducible show wpAny _ _ (subscriptTail _ _ (Value.ref _) (Value.str _ _)) _ _ _); k_dflt (refine kda_item (knd := PySem.strKind _ _) (by k_asm) (by k_mem) (by assumption) (strKind_is _ _ _ _) (by assumption) ?_)))
local macro_rules | `(tactic| walk_at "exec For Name Call cons nil") => `(tactic| (k_here; k_dflt (refine For_turns (by k_asm) ?_)))
theorem c_walk (t : Tr) (hch : ∀ i, i < t.n → ∀ j ∈ t.ch i, i < j ∧ j < t.n) (pm : Nat → Array Nat) (ci : Nat → Nat → Int) {lam bx : Addr} {need : List (Addr × Obj)} {oc : Value} {od : Option Addr} {fd : FuncData} {sl : Array (Option Value)}
  (hpm : ∀ i, i < t.n → SortOk (t.ch i).length (fun a b => decide (ci ((t.ch i).getD a 0) ((t.ch i).getD b 0) < 0)) (pm i))
  (hcmp : ∀ i j, i < t.n → j < t.n → ∀ tk u, CallsInt w p loose mean mg mb (.ref lam) need (.str (t.nm i) tk) (.str (t.nm j) u) (ci i j)) (hcl : ∀ i, i < t.n → (t.ch i).length < 64) (hpr : ∀ i, i < t.n → ∀ q ∈ (pm i).toList, q < (t.ch i).length) (hwl : ∀ f, f ≤ 20 → ∀ i, i < t.n → (walkI t.ch pm f i).length ≤ 100) (hn : t.n ≤ 20) :
  ∀ (f i : Nat), f ≤ 20 → t.n ≤ i + f → i < t.n → ∀ {dp un : Nat} {gd : Option (List Code)} {cn : Str} {cs : Scope} {a : Addr} {ccd : Value} {cl : List (Str × Addr)} {outer : List Env} {A₀ : Around} {base h₀ : Heap} {L : Addr} {m : Str → Option Value} {news : List (Addr × Obj)} {s : Shared} {Q E : Value → Shared → Prop} {Tb : List (Addr × Obj)} {tk : Tok},
   CT Tb → CodeHd h₀ 110 106 → (∀ p ∈ news, p.1 ≠ 106) → Below A₀ base outer h₀ → Fr h₀ L s.heap m → (hd.heap_39 w.params).In h₀ → News h₀ L s.heap (Tb ++ news) → Top p loose mean mg mb h₀ → cs.kind = .function → t.Below w bx news → (∀ q ∈ need, q ∈ news) → (lam, (⟨oc, od, .func fd, sl⟩ : Obj)) ∈ news → dp + f + 8 < recursionLimit → un + 8 * (f + 8) < cLine →
   (∀ h' tk' Tb' D vs e, CT Tb' → Fresh Tb Tb' news → Fr h₀ L h' m → News h₀ L h' ((D, listOf (List.toArray vs) e) :: (Tb' ++ news)) → StrsOf vs ((walkI t.ch pm f i).map t.nm) → (∀ p ∈ news, p.1 < D) → Q (.ref D) { s with heap := h', toks := tk' }) →
   wpAny (model PySem.Challenge.rw_il0172_01.row.prog w) (ktrTop dp un gd cn cs L a ccd cl outer) (call (.ref 231) [.str (t.nm i) tk, .ref bx, .ref lam]) Q E s := by
  intro f
  induction f with
  | zero => intro i h0 h1 h2; omega
  | succ f ih =>
    intro i hf20 hf hi dp un gd cn cs a ccd cl outer A₀ base h₀ L m news s Q E Tb tkp hT HC hn106 B F X N T hk hB hneed hfn hd hu hret
    revert X; k_fill; intro X
    refine wpAny_call ?_
    have hB0 := hB
    obtain ⟨ob, kvs, hb1, hb2, hb3⟩ := hB
    obtain ⟨l, cv, ep, hl1, hl2, hl3⟩ := hb3 i hi
    k_dflt (refine' code_def ?k1 ?k2 ?k3 ?k4 ?k5 ?kA ?kF ?kK ?k6 ?k7 ?k8 ?k9 ?kB ?_ ?c2 ?c3 ?c4 ?c5; (case kA => exact rfl); (case kF => exact rfl); (case kK => first | exact rfl | assumption); (case k1 => k_asm); (case k2 => k_asm); (case k3 => k_asm); (case k4 => k_asm); (case k5 => k_asm); (case k6 => k_is); (case k7 => k_is); (case k8 => ktr_room); (case k9 => first | exact BindsTo.of_eq rfl | exact binds_K (by k_in) rfl (by k_is) rfl rfl rfl); (case c5 => decide); (case kB => exact locs rfl); (case c2 => exact rfl); (case c3 => exact rfl); (case c4 => exact rfl); k_whole; intro g' L' h' FG' F' N' B' X' T'; (try dsimp only); (try k_lift B'); (try k_fold))
    refine hideQ ?_
    intro WQ hWQ
    have hb1' : (bx, ob) ∈ Tb ++ news := List.mem_append_right _ hb1
    have hl2' : (l, listOf (List.toArray cv) ep) ∈ Tb ++ news := List.mem_append_right _ hl2
    have hfn' : (lam, (⟨oc, od, .func fd, sl⟩ : Obj)) ∈ Tb ++ news := List.mem_append_right _ hfn
    k_steps
    refine Hold.in ?_
    rename News g' L' _ _ => N1
    obtain ⟨Wa, rfl⟩ := head_addr N1
    have N2 := cb_drop N1 (mem_swap (T := Tb))
    rename (∀ q ∈ Tb ++ news, _) => lW
    have lW' := lW
    obtain ⟨o106, h106⟩ := hT.mem
    have hW106 := lW (106, o106) (List.mem_append_left _ h106)
    refine' c_cmp hT (HC.keeps FG'.keep) ?hn B' ?hF X' N2 T' rfl ?hd ?hu ?_
    case hn =>
      intro q hq
      rcases List.mem_cons.mp hq with rfl | hq
      · exact Nat.ne_of_gt hW106
      · exact hn106 q hq
    case hF => assumption
    case hd => ktr_room
    case hu => ktr_units
    intro h2 tk2 iI tI okT2 hFr okI e1 e2 F2 N3 l2
    dsimp only
    k_steps
    have hcvl : cv.length = (t.ch i).length := by rw [hl3.length, List.length_map]
    have hchi : ∀ (a : Nat) (v : Value), cv[a]? = some v → ∃ tk j, (t.ch i)[a]? = some j ∧ v = Value.str (t.nm j) tk := by
      intro a v hv
      obtain ⟨tk, y, hy, rfl⟩ := hl3.at hv
      rw [List.getElem?_map] at hy
      obtain ⟨j, hj, rfl⟩ := Option.map_eq_some_iff.mp hy
      exact ⟨tk, j, hj, rfl⟩
    have hmem : ∀ p ∈ news, p ∈ iI.cls w.params ++ (tI.l ++ (Wa, PySem.W.listOf #[] 0) :: news) := fun p hp => List.mem_append_right _ (List.mem_append_right _ (.tail _ hp))
    have hIL : h2.IsList l (List.toArray cv) := ⟨PySem.W.listOf (List.toArray cv) ep, (N3 (l, PySem.W.listOf (List.toArray cv) ep) (hmem _ hl2)).1, rfl, ep, rfl⟩
    refine W_sortK (vs := cv) (p := pm i) (c := fun a b => decide (ci ((t.ch i).getD a 0) ((t.ch i).getD b 0) < 0)) F2 N3 hIL (by rw [hcvl]; exact hcl i hi) (by rw [hcvl]; exact hpm i hi) ?hK ?hLt ?cont
    case hK =>
      refine kcall (cn := Str.ofString "_law_walk") okI okT2 e1 hl3 B' X' T' rfl (fun p hp => List.mem_append_left _ hp) (fun p hp => List.mem_append_right _ (List.mem_append_left _ hp)) ?_ ?_
      · ktr_room
      · ktr_units
    case hLt =>
      refine ltcall okI okT2 e2 hl3 ?_ (fun q hq => hmem _ (hneed q hq)) (hmem _ hfn) B' X' T' rfl (fun p hp => List.mem_append_left _ hp) (fun p hp => List.mem_append_right _ (List.mem_append_left _ hp)) ?_ ?_
      · intro a b v u hv hu'
        obtain ⟨tk1, j1, hj1, rfl⟩ := hchi a v hv
        obtain ⟨tk2, j2, hj2, rfl⟩ := hchi b u hu'
        have g1 : (t.ch i).getD a 0 = j1 := by simp [hj1]
        have g2 : (t.ch i).getD b 0 = j2 := by simp [hj2]
        rw [g1, g2]
        exact @hcmp j1 j2 (hch i hi j1 (List.mem_of_getElem? hj1)).2 (hch i hi j2 (List.mem_of_getElem? hj2)).2 tk1 tk2
      · ktr_room
      · ktr_units
    case cont =>
      intro D h4 tk4 e4 F4 N4 l4
      have N5 : News g' L' h4 ((Wa, PySem.W.listOf (List.toArray []) 0) :: (tI.l ++ ((D, seqObj "list" (List.toArray (permV cv (pm i))) e4) :: news))) := cb_drop N4 (fun p hp => by
        rcases List.mem_cons.mp hp with rfl | hp
        · exact .tail _ (List.mem_append_right _ (List.mem_append_right _ (.head _)))
        · rcases List.mem_append.mp hp with hp | hp
          · exact .tail _ (List.mem_append_right _ (List.mem_append_left _ hp))
          · rcases List.mem_cons.mp hp with rfl | hp
            · exact .head _
            · exact .tail _ (hmem p hp))
      have hDW : @LT.lt Nat _ Wa D := l4 (Wa, PySem.W.listOf #[] 0) (List.mem_append_right _ (List.mem_append_right _ (.head _)))
      have hnl : ∀ p ∈ news, @LT.lt Nat _ p.1 D := fun p hp => l4 p (hmem p hp)
      have hDn : ∀ p ∈ ((D, seqObj "list" (List.toArray (permV cv (pm i))) e4) : Addr × Obj) :: news, p.1 ≠ 106 := by
        intro p hp
        rcases List.mem_cons.mp hp with rfl | hp
        · exact Nat.ne_of_gt (Nat.lt_trans hW106 hDW)
        · exact hn106 p hp
      refine iter_listI (vs := permV cv (pm i)) (fun m₀ nw I k m₁ n₁ => ∃ Tb' Wd vsW e', CT Tb' ∧ Fresh Tb Tb' news ∧ @LT.lt Nat _ 106 Wd ∧ n₁ = (Wd, PySem.W.listOf (List.toArray vsW) e') :: (Tb' ++ ((D, seqObj "list" (List.toArray (permV cv (pm i))) e4) :: news)) ∧ StrsOf vsW ((((pm i).toList.take k).flatMap fun q => walkI t.ch pm f ((t.ch i).getD q 0)).map t.nm) ∧
        m₁ (Str.ofString "place") = some (.str (t.nm i) tkp) ∧ m₁ (Str.ofString "below") = some (.ref bx) ∧ m₁ (Str.ofString "compare") = some (.ref lam) ∧ m₁ (Str.ofString "walk") = some (.ref Wd)) rfl (by assumption) N5 (.tail _ (List.mem_append_right _ (.head _))) rfl rfl
        (fun I _ => ⟨_, Wa, [], 0, .later tI okT2, hFr.mono (fun p hp => .tail _ hp), hW106, rfl, .nil, rfl, rfl, rfl, rfl⟩) ?turn ?done
      case turn =>
        intro I k v m₁ n₁ h₁ tk₁ it lI hv hit hJ hs hI F₁ N₁
        refine hideT ?_
        intro W hW
        obtain ⟨Tb', Wd, vsW, e', hCT, hFrT, hWd, rfl, hSW, hm1, hm2, hm3, hm4⟩ := hJ
        obtain ⟨q, hq, rfl⟩ := permV_at hv
        have hql := hpr i hi q (List.mem_of_getElem? hq)
        obtain ⟨tkc, hvc⟩ := hl3.at' (i := q) (y := t.nm ((t.ch i).getD q 0)) (by simp [List.getElem?_map, hql])
        have hvc2 : cv.getD q Value.none = .str (t.nm ((t.ch i).getD q 0)) tkc := by simp [hvc]
        rw [hvc2]
        have hcj : (t.ch i).getD q 0 ∈ t.ch i := by
          have : (t.ch i).getD q 0 = (t.ch i)[q] := by simp [hql]
          rw [this]; exact List.getElem_mem hql
        obtain ⟨hij, hjn⟩ := hch i hi _ hcj
        k_steps
        refine Hold.in ?_
        rename News g' _ _ ((I, it) :: _) => N6
        have N7 := cb_drop N6 (mem_swap2 (T := Tb') (x := (I, it)) (y := (Wd, PySem.W.listOf (List.toArray vsW) e')))
        have hI106 : @LT.lt Nat _ 106 I := Nat.lt_trans hW106 (lI (Wa, PySem.W.listOf (List.toArray []) 0) (.head _))
        refine' ih ((t.ch i).getD q 0) (by omega) (by omega) hjn hCT (HC.keeps FG'.keep) ?hn B' ?hF X' N7 T' rfl ?hB ?hnd ?hf ?hd ?hu ?cont2
        case hn =>
          intro p hp
          rcases List.mem_cons.mp hp with rfl | hp
          · exact Nat.ne_of_gt hI106
          · rcases List.mem_cons.mp hp with rfl | hp
            · exact Nat.ne_of_gt hWd
            · exact hDn p hp
        case hF => assumption
        case hB => exact hB0.mono (fun p hp => .tail _ (.tail _ (.tail _ hp)))
        case hnd => exact fun q hq => .tail _ (.tail _ (.tail _ (hneed q hq)))
        case hf => exact .tail _ (.tail _ (.tail _ hfn))
        case hd => ktr_room
        case hu => ktr_units
        case cont2 =>
          intro h5 tk5 Tb5 D5 vs5 e5 hCT5 hFr5 F5 N8 hS5 l5
          dsimp only
          have hlen1 := hSW.length
          have hlen2 := hS5.length
          rw [List.length_map] at hlen1 hlen2
          have hbd : ((pm i).toList.flatMap fun q => walkI t.ch pm f ((t.ch i).getD q 0)).length ≤ 100 := by
            have := hwl (f + 1) hf20 i hi
            unfold walkI at this
            rw [List.length_append] at this
            omega
          have hsucc := fm_succ (g := fun q => walkI t.ch pm f ((t.ch i).getD q 0)) hq
          have hbd2 := Nat.le_trans (fm_len (l := (pm i).toList) (g := fun q => walkI t.ch pm f ((t.ch i).getD q 0)) (k + 1)) hbd
          rw [hsucc, List.length_append] at hbd2
          refine W_addL F5 N8 (.tail _ (List.mem_append_right _ (.tail _ (.head _)))) (.head _) (by omega) (fun D6 h6 F6 N9 l6 => ?_)
          dsimp only
          k_steps
          rename News g' _ _ ((D6, _) :: _) => NA
          refine hW _ _ ?_
          refine TEnd.intro ((D6, PySem.W.listOf (List.toArray (vsW ++ vs5)) 0) :: (Tb5 ++ ((D, seqObj "list" (List.toArray (permV cv (pm i))) e4) :: news))) (by assumption) (cb_drop NA ?sub) ?hs2 ?hI2 ⟨Tb5, D6, vsW ++ vs5, 0, hCT5, hFrT.trans hFr5 (fun p hp => .tail _ (.tail _ (.tail _ hp))), ?d106, rfl, ?st, ?q1, ?q2, ?q3, ?q4⟩
          case q1 => rw [if_neg (by decide), if_neg (by decide)]; exact hm1
          case q2 => rw [if_neg (by decide), if_neg (by decide)]; exact hm2
          case q3 => rw [if_neg (by decide), if_neg (by decide)]; exact hm3
          case q4 => exact if_pos rfl
          case sub =>
            intro p hp
            rcases List.mem_cons.mp hp with rfl | hp
            · exact .tail _ (.tail _ (List.mem_append_right _ (.head _)))
            · rcases List.mem_cons.mp hp with rfl | hp
              · exact .head _
              · rcases List.mem_append.mp hp with hp | hp
                · exact .tail _ (.tail _ (List.mem_append_left _ hp))
                · exact .tail _ (.tail _ (List.mem_append_right _ (.tail _ (.tail _ hp))))
          case hs2 =>
            intro p hp
            rw [List.mem_singleton.mp hp]
            exact .tail _ (List.mem_append_right _ (.head _))
          case hI2 =>
            intro p hp
            rcases List.mem_cons.mp hp with rfl | hp
            · exact Nat.ne_of_gt (l6 (I, it) (.tail _ (List.mem_append_right _ (.head _))))
            · rcases List.mem_append.mp hp with hp | hp
              · rcases hFr5 p hp with ⟨q, hq, e⟩ | hh
                · rw [← e]; exact hI q (.tail _ (List.mem_append_left _ hq))
                · exact Nat.ne_of_gt (hh (I, it) (.head _))
              · exact hI p (.tail _ (List.mem_append_right _ hp))
          case d106 =>
            exact Nat.lt_trans hI106 (l6 (I, it) (.tail _ (List.mem_append_right _ (.head _))))
          case st =>
            rw [hsucc, List.map_append]
            exact hSW.append hS5
      case done =>
        rintro I m' news' h' tk' ⟨Tb', Wd, vsW, e', hCT, hFrT, hWd, rfl, hSW, hm1, hm2, hm3, hm4⟩ hI F₁ N₁
        k_steps
        refine Hold.in ?_
        rename News g' _ _ ((_, _) :: (Wd, _) :: _) => NB
        obtain ⟨Pa, rfl⟩ := head_addr NB
        have hlen1 := hSW.length
        rw [List.length_map] at hlen1
        rw [permV_length, List.take_length] at hSW hlen1
        have hbd : ((pm i).toList.flatMap fun q => walkI t.ch pm f ((t.ch i).getD q 0)).length + 1 ≤ 100 := by
          have := hwl (f + 1) hf20 i hi
          unfold walkI at this
          rw [List.length_append] at this
          exact this
        refine W_addL (xs := vsW) (ys := [.str (t.nm i) tkp]) (by assumption) NB (.tail _ (.head _)) (.head _) (by rw [List.length_singleton]; omega) (fun D6 h6 F6 N9 l6 => ?_)
        dsimp only
        k_steps
        refine hWQ _ _ ?_
        k_steps
        rename News h₀ L _ ((D6, _) :: _) => NC
        refine hret _ _ Tb' D6 (vsW ++ [.str (t.nm i) tkp]) 0 hCT hFrT (by assumption) (cb_drop NC ?sub) ?st ?lt
        case sub =>
          intro p hp
          rcases List.mem_cons.mp hp with rfl | hp
          · exact .head _
          · rcases List.mem_append.mp hp with hp | hp
            · exact .tail _ (.tail _ (.tail _ (List.mem_append_left _ hp)))
            · exact .tail _ (.tail _ (.tail _ (List.mem_append_right _ (.tail _ hp))))
        case st =>
          unfold walkI
          rw [List.map_append]
          exact hSW.append (.cons _ _ .nil)
        case lt =>
          exact fun p hp => l6 p (.tail _ (.tail _ (List.mem_append_right _ (.tail _ hp))))
end
end Mine
end
section
open PySem PySem.W PyProof.Rows PySem.Calls
set_option Elab.async false
set_option maxRecDepth 100000
set_option maxHeartbeats 8000000
set_option linter.unusedVariables false
namespace Mine
namespace MP
theorem mro : mroOf (.type "map") = pure [.type "map", .type "object"] := by rw [mroOf_type]; kernel_rfl
theorem l_new : typeLookup (.type "map") "__new__" = pure (some (.builtin "map.__new__")) := by rw [typeLookup_type, builtinLookup_eq_fast]; kernel_rfl
theorem slot_init : Slot "map" "__init__" "object.__init__" := .of (owner := "object") (n := "__init__") (by rw [typeLookup_type, builtinLookup_eq_fast]; kernel_rfl) (by decide +kernel) (by decide +kernel) (by decide +kernel)
  (by first | exact .inl (by decide +kernel) | exact .inr (by decide +kernel)) (by rw [isSubtype_type]; kernel_rfl)
theorem slot_next : Slot "map" "__next__" "map.__next__" := .of (owner := "map") (n := "__next__") (by rw [typeLookup_type, builtinLookup_eq_fast]; kernel_rfl) (by decide +kernel) (by decide +kernel) (by decide +kernel)
  (by first | exact .inl (by decide +kernel) | exact .inr (by decide +kernel)) (by rw [isSubtype_type]; kernel_rfl)
theorem slot_iter : Slot "map" "__iter__" "map.__iter__" := .of (owner := "map") (n := "__iter__") (by rw [typeLookup_type, builtinLookup_eq_fast]; kernel_rfl) (by decide +kernel) (by decide +kernel) (by decide +kernel)
  (by first | exact .inl (by decide +kernel) | exact .inr (by decide +kernel)) (by rw [isSubtype_type]; kernel_rfl)
theorem called : TypeCalled "map" "map.__new__" "object.__init__" :=
  ⟨by decide +kernel, by decide +kernel, ⟨_, _, mro⟩, madeBy_type mro l_new (by decide +kernel), by decide +kernel, by rw [isSubtype_type]; kernel_rfl, slot_init⟩
theorem typeCall (a b : Value) : checkTypeCall "map" ⟨[a, b], []⟩ = pure () := by kernel_rfl
theorem newCall (a b : Value) : checkBuiltinCall "map.__new__" ⟨[.type "map", a, b], []⟩ = pure () := by kernel_rfl
theorem entry_new : entryFor table "map.__new__" = some Builtin.«map.__new__» := entryFor_of_tree (by kernel_rfl)
theorem entry_next : entryFor table "map.__next__" = some Builtin.«map.__next__» := entryFor_of_tree (by kernel_rfl)
theorem entry_iter : entryFor table "map.__iter__" = some Builtin.«dict_keyiterator.__iter__» :=
  entryFor_alias (id' := "dict_keyiterator.__iter__") (by kernel_rfl) (by first | rfl | decide +kernel | (unfold String.splitOn; simp +decide [String.splitOnAux])) (by decide +kernel) (by kernel_rfl)
theorem args_next (a : Value) : argsOk "map.__next__" ⟨[a], []⟩ := by unfold argsOk; kernel_rfl
theorem args_iter (a : Value) : argsOk "map.__iter__" ⟨[a], []⟩ := by unfold argsOk; kernel_rfl
theorem no_len : typeLookup (.type "map") "__len__" = pure none := by rw [typeLookup_type, builtinLookup_eq_fast]; kernel_rfl
theorem no_hint : typeLookup (.type "map") "__length_hint__" = pure none := by rw [typeLookup_type, builtinLookup_eq_fast]; kernel_rfl
theorem t_map : typeOf (.type "map") = pure (.type "type") := by kernel_rfl
theorem s_map : isSubtype (.type "map") (.type "map") = pure true := by rw [isSubtype_type]; kernel_rfl
end MP
noncomputable abbrev mapO (tu f : Addr) : Obj := { cls := .type "map", data := .fields #[.ref tu, .ref f] }
noncomputable abbrev liO (l : Addr) (i : Int) (t : Tok) : Obj := { cls := .type "list_iterator", data := .fields #[.ref l, .int i t] }
section
variable {prog : Program} {w : World} {A : Around} {E : Value → Shared → Prop} {h₀ h : Heap} {L : Addr} {m : Str → Option Value} {news : List (Addr × Obj)} {g : Array GenState} {d : Drawn} {t : Nat} {os : OsState}
theorem snd_addr {h₀ h : Heap} {L x : Addr} {a : Addr × Obj} {o : Obj} {r : List (Addr × Obj)} (N : News h₀ L h (a :: (x, o) :: r)) : ∃ y, y = x := ⟨x, rfl⟩
theorem W_pyIterL {P : Addr} {vs : Array Value} {ep : Nat} {Q : Value → Shared → Prop} (F : Fr h₀ L h m) (N : News h₀ L h news) (hm : (P, listOf vs ep) ∈ news)
   (hq : ∀ i h', Fr h₀ L h' m → News h₀ L h' ((i, liO P 0 0) :: news) → (∀ p ∈ news, p.1 < i) → Q (.ref i) ⟨h', g, d, t, os⟩) : wpAny (model prog w) A (pyIter (.ref P)) Q E ⟨h, g, d, t, os⟩ := by
  refine wpAny_pyIter_list ⟨_, (N _ hm).1, rfl, _, rfl⟩ (hq _ _ (F.push _) (N.push F _) (fun p hp => Heap.lt_size (N p hp).1))
theorem map_call {f P : Addr} {vs : Array Value} {ep : Nat} {Q : Value → Shared → Prop} (F : Fr h₀ L h m) (N : News h₀ L h news) (hP : (P, listOf vs ep) ∈ news)
   (hq : ∀ i tu mp h', Fr h₀ L h' m → News h₀ L h' ((mp, mapO tu f) :: (tu, tupO #[.ref i]) :: (i, liO P 0 0) :: news) → (∀ p ∈ news, p.1 < i) → i < tu → tu < mp → Q (.ref mp) ⟨h', g, d, t, os⟩) :
   wpAny (model prog w) A (call (.type "map") [.ref f, .ref P]) Q E ⟨h, g, d, t, os⟩ := by
  have mk : ∀ (o : Obj) (Q' : Value → Shared → Prop), True := fun _ _ => trivial
  refine ks_callType_codesW (Q₁ := fun obj s₁ => ∃ i tu mp h', obj = .ref mp ∧ s₁ = ⟨h', g, d, t, os⟩ ∧ Fr h₀ L h' m ∧ News h₀ L h' ((mp, mapO tu f) :: (tu, tupO #[.ref i]) :: (i, liO P 0 0) :: news) ∧ (∀ p ∈ news, p.1 < i) ∧ i < tu ∧ tu < mp) MP.called (fun h => wpAny_of_eq (MP.typeCall _ _) h) PySem.F.entry_object_init ?new ?next
  case new =>
    refine codeAny_call_builtin MP.called.plain MP.entry_new (wpAny_of_eq (MP.newCall _ _) ?_)
    have e1 := MP.t_map
    have e2 := MP.s_map
    unfold Builtin.«map.__new__»
    repeat (first
      | ((with_reducible refine' W_pyIterL ?hF ?hN ?hm ?_); (case hF => assumption); (case hN => assumption); (case hm => assumption); intro i' h' F' N' l')
      | ((with_reducible refine' W_alloc ?hF ?hN ?hf ?_); (case hF => assumption); (case hN => assumption); (case hf => rfl); intro a' h' F' N' l')
      | assumption | (first | with_reducible (first | refine PySem.wpAny_pure ?_ | refine PySem.wpAny_bind ?_ | refine PySem.wpAny_holding ?_ | refine PySem.wpAny_standAt ?_ | refine PySem.wpAny_point ?_ | refine PySem.wpAny_rule ?_ | refine PySem.wpAny_letGo ?_ | refine PySem.wpAny_mkInt' ?_ | refine PySem.wpAny_fresh' ?_ | refine PySem.wpAny_alloc' ?_ | refine PySem.wpAny_attempt ?_ | refine PySem.wpAny_throw ?_ | refine PySem.wpAny_of_eq (by assumption) ?_ | refine PySem.wpAny_typeOf (by assumption) ?_ | refine PySem.wpAny_specialOf_val (by assumption) (by assumption) ?_ | refine PySem.wpAny_specialOf (by assumption) (by assumption) ?_ | refine PySem.wpAny_isInstance_val (by assumption) (by assumption) ?_ | refine PySem.wpAny_isInstance (by assumption) (by assumption) ?_ | refine PySem.wpAny_call ?_ | refine PySem.wpAny_runValue ?_ | refine PySem.wpAny_run ?_) | ((with_reducible refine' PySem.wpAny_mkStr' ?_ ?hx); (case hx => size_fits)) | ((with_reducible refine' PySem.wpAny_load' ?ho ?_); (case ho => heap_get)) | ((with_reducible refine' PySem.wpAny_update' ?ho ?_); (case ho => heap_get)) | ((with_reducible refine' PySem.wpAny_loadPart' ?ho ?_); (case ho => heap_get)) | ((with_reducible refine' PySem.wpAny_updatePart' ?ho ?_); (case ho => heap_get)) | ((with_reducible refine' PySem.wpAny_handled_none ?ho ?_); (case ho => assumption)) | ((with_reducible refine' PySem.wpAny_ite_false ?ho ?_); (case ho => rfl)) | ((with_reducible refine' PySem.wpAny_ite_true ?ho ?_); (case ho => rfl)) | ((with_reducible refine' PySem.wpAny_ite_false ?ho ?_); (case ho => (simp [*]; done))) | ((with_reducible refine' PySem.wpAny_ite_true ?ho ?_); (case ho => (simp [*]; done))) | wp_delta | with_reducible_and_instances refine PySem.wpAny_pure ?_ | with_reducible_and_instances refine PySem.wpAny_bind ?_))
    obtain ⟨tu, rfl⟩ := snd_addr N'
    refine ⟨i', tu, _, _, rfl, rfl, F', ?_, ?_, ?_, ?_⟩
    · exact N'
    · assumption
    · rename (∀ p ∈ (i', liO P 0 0) :: news, _) => l2
      exact l2 _ (.head _)
    · rename (∀ p ∈ (_, _) :: (i', liO P 0 0) :: news, _) => l3
      exact l3 _ (.head _)
  case next =>
    rintro obj s₁ ⟨i, tu, mp, h', rfl, rfl, F', N', l1, l2, l3⟩
    have hT : Shared.TypeIs ⟨h', g, d, t, os⟩ (.ref mp) "map" := ⟨_, (N' _ (.head _)).1, rfl⟩
    have hm := object_init_meets (self := .ref mp) (rest := [.ref f, .ref P]) MP.slot_init.lookup MP.called.made (by decide)
    refine ⟨hT, PySem.F.args_object_init_3 _ _ _, ?_⟩
    exact hm prog w _ _ _ ⟨hT, rfl, hq i tu mp h' F' N' l1 l2 l3⟩
end
end Mine
end
section
open PySem PySem.W PyProof.Rows PySem.Calls
set_option Elab.async false
set_option maxRecDepth 100000
set_option maxHeartbeats 8000000
set_option linter.unusedVariables false
namespace Mine
section
variable {prog : Program} {w : World} {A : Around} {E : Value → Shared → Prop} {h₀ h : Heap} {L : Addr} {m : Str → Option Value} {news : List (Addr × Obj)} {g : Array GenState} {d : Drawn} {t : Nat} {os : OsState} {s : Shared} {i tu mp f P S : Addr} {vs : List Value} {oi : Obj} {k : Nat}
noncomputable def IterO (o : Obj) (l : Addr) (k : Nat) : Prop := o.cls = .type "list_iterator" ∧ o.data = .fields #[.ref l, .int k 0]
noncomputable def FCall (prog : Program) (w : World) (A : Around) (f : Addr) (h₀ : Heap) (L : Addr) (m : Str → Option Value) (news : List (Addr × Obj)) (s : Shared) (vs : List Value) : Prop :=
  ∀ (k : Nat) (v : Value), vs[k]? = some v → ∀ (h : Heap) (tk : Nat) (nw : List (Addr × Obj)) (Q : Value → Shared → Prop), Fr h₀ L h m → News h₀ L h nw → (∀ p ∈ news, p ∈ nw) → (∀ h' tk', Fr h₀ L h' m → News h₀ L h' nw → Q v { s with heap := h', toks := tk' }) →
    wpAny (model prog w) A (call (.ref f) [v]) Q (fun _ _ => False) { s with heap := h, toks := tk }
theorem map_item {v : Value} {ep : Nat} {pre : List (Addr × Obj)} {Q : Option Value → Shared → Prop} {tk : Nat} (F : Fr h₀ L h m) (N : News h₀ L h (pre ++ (i, oi) :: news)) (hpre : ∀ p ∈ pre, p.1 ≠ i) (hnn : ∀ p ∈ news, p.1 ≠ i) (hmp : (mp, mapO tu f) ∈ pre ++ (i, oi) :: news) (htu : (tu, tupO #[.ref i]) ∈ pre ++ (i, oi) :: news) (hP : (P, listOf (List.toArray vs) ep) ∈ pre ++ (i, oi) :: news) (hoi : IterO oi P k) (hv : vs[k]? = some v)
    (hmp2 : mp ≠ i) (htu2 : tu ≠ i) (hf : FCall prog w A.in1 f h₀ L m news s vs)
    (hq : ∀ h' tk' oi', IterO oi' P (k + 1) → Fr h₀ L h' m → News h₀ L h' (pre ++ (i, oi') :: news) → Q (some v) { s with heap := h', toks := tk' }) :
    wpAny (model prog w) A (pyNext (.ref mp)) Q E { s with heap := h, toks := tk } := by
  have hmo := (N _ hmp).1
  have hto := (N _ htu).1
  have hTm : Shared.TypeIs { s with heap := h, toks := tk } (.ref mp) "map" := ⟨_, hmo, rfl⟩
  unfold pyNext
  refine wpAny_bind (wpAny_attempt (wpAny_callSpecial?_slot (name := Str.ofString "__next__") hTm MP.slot_next
    (wpAny_call_entry MP.slot_next hTm MP.entry_next ?_ (MP.args_next _))))
  show wpAny _ _ (field (.ref mp) 0 >>= _) _ _ _
  refine wpAny_bind (wpAny_field hmo rfl (x := .ref tu) rfl ?_)
  refine wpAny_bind (wpAny_seqItems hto rfl ?_)
  dsimp only
  rw [← Array.forIn_toList]
  dsimp only [List.forIn_cons, List.forIn_nil]
  refine wpAny_bind (wpAny_bind (wpAny_bind (wpAny_holding ?_)))
  have hni := (N (i, oi) (List.mem_append_right _ (.head _)))
  refine wpAny_nextOf_list_item (items := List.toArray vs) (i := k) (l := P) ⟨oi, hni.1, hoi.1, hoi.2⟩ ⟨_, (N _ hP).1, rfl, _, rfl⟩ (by simpa using hv) (fun h2 hit2 hs2 => ?_)
  obtain ⟨oi2, ho2, hc2, hd2⟩ := hit2
  have F2 := kas_fr F hs2 hni.2.1 hni.2.2
  have N2 := news_set N hpre hnn hs2 ho2
  refine wpAny_pure ?_
  dsimp only
  refine wpAny_pure (a := #[v]) ?_
  have hm2 : h2.get? mp = some (mapO tu f) := (hs2.2 mp hmp2).trans hmo
  refine wpAny_bind (wpAny_field hm2 rfl (x := .ref f) rfl ?_)
  refine wpAny_bind (wpAny_holding (wpAny_mono (hf k v hv h2 tk _ _ F2 N2 (fun p hp => List.mem_append_right _ (.tail _ hp)) (fun h3 tk3 F3 N3 => ?_)) (fun _ _ z => z) fun _ _ z => z.elim))
  refine wpAny_bind (wpAny_letGo ?_)
  exact wpAny_pure ⟨v, rfl, wpAny_pure (hq h3 tk3 oi2 ⟨hc2, hd2⟩ F3 N3)⟩
theorem map_end {ep : Nat} {pre : List (Addr × Obj)} {Q : Option Value → Shared → Prop} {tk : Nat} (hh : A.handled = none) (F : Fr h₀ L h m) (N : News h₀ L h (pre ++ (i, oi) :: news)) (hpre : ∀ p ∈ pre, p.1 ≠ i) (hnn : ∀ p ∈ news, p.1 ≠ i) (hmp : (mp, mapO tu f) ∈ pre ++ (i, oi) :: news) (htu : (tu, tupO #[.ref i]) ∈ pre ++ (i, oi) :: news) (hP : (P, listOf (List.toArray vs) ep) ∈ pre ++ (i, oi) :: news) (hoi : IterO oi P k) (hv : vs[k]? = none)
    (hq : ∀ h' tk', Fr h₀ L h' m → News h₀ L h' (pre ++ news) → Q none { s with heap := h', toks := tk' }) :
    wpAny (model prog w) A (pyNext (.ref mp)) Q E { s with heap := h, toks := tk } := by
  have hmo := (N _ hmp).1
  have hto := (N _ htu).1
  have hTm : Shared.TypeIs { s with heap := h, toks := tk } (.ref mp) "map" := ⟨_, hmo, rfl⟩
  have hs : isSubtype (.type "StopIteration") (.type "StopIteration") = pure true := by rw [isSubtype_type]; kernel_rfl
  unfold pyNext
  refine wpAny_bind (wpAny_attempt (wpAny_callSpecial?_slot (name := Str.ofString "__next__") hTm MP.slot_next
    (wpAny_call_entry MP.slot_next hTm MP.entry_next ?_ (MP.args_next _))))
  show wpAny _ _ (field (.ref mp) 0 >>= _) _ _ _
  refine wpAny_bind (wpAny_field hmo rfl (x := .ref tu) rfl ?_)
  refine wpAny_bind (wpAny_seqItems hto rfl ?_)
  dsimp only
  rw [← Array.forIn_toList]
  dsimp only [List.forIn_cons, List.forIn_nil]
  refine wpAny_bind (wpAny_bind (wpAny_bind (wpAny_holding ?_)))
  have hni := (N (i, oi) (List.mem_append_right _ (.head _)))
  refine wpAny_nextOf_list_end (items := List.toArray vs) (i := k) (l := P) hh ⟨oi, hni.1, hoi.1, hoi.2⟩ ⟨_, (N _ hP).1, rfl, _, rfl⟩ (by simpa using hv) (fun h2 e hs2 he => ?_)
  obtain ⟨oe, hoe, hce⟩ := he
  have hT : Shared.TypeIs { s with heap := h2, toks := tk } (.ref e) "StopIteration" := ⟨oe, hoe, hce⟩
  refine wpAny_bind (wpAny_isInstance hT hs ?_)
  rw [if_pos rfl]
  refine wpAny_pure (hq h2 tk ?_ ?_)
  · exact ⟨F.ns.extBut hs2 hni.2.1.symm, fun b o eb => hs2 b o (fun q => by rw [q, hni.2.2] at eb; cases eb) (F.keep b o eb), F.above⟩
  · intro p hp
    have hne : p.1 ≠ i := (List.mem_append.mp hp).elim (hpre p) (hnn p)
    have hm : p ∈ pre ++ (i, oi) :: news := (List.mem_append.mp hp).elim (fun z => List.mem_append_left _ z) (fun z => List.mem_append_right _ (.tail _ z))
    exact ⟨hs2 _ _ hne (N p hm).1, (N p hm).2⟩
end
end Mine
end
section
open PySem PySem.W PyProof.Rows PySem.Calls
set_option Elab.async false
set_option maxRecDepth 100000
set_option maxHeartbeats 8000000
set_option linter.unusedVariables false
namespace Mine
section
variable {prog : Program} {w : World} {A : Around} {E : Value → Shared → Prop} {h₀ h : Heap} {L : Addr} {m : Str → Option Value} {news : List (Addr × Obj)} {g : Array GenState} {d : Drawn} {t : Nat} {os : OsState} {s : Shared} {i tu mp f P S : Addr} {vs : List Value} {oi : Obj} {k : Nat} {R : Result → Shared → Prop}
noncomputable abbrev mapPre (S : Addr) (acc : List Value) (c : Nat) (mp tu f i : Addr) : List (Addr × Obj) := [(S, listOf (List.toArray acc) c), (mp, mapO tu f), (tu, tupO #[.ref i])]
theorem map_loop {ep : Nat} {res : Value} (hh : A.handled = none) (hP : (P, listOf (List.toArray vs) ep) ∈ news) (hnn : ∀ p ∈ news, p.1 ≠ i ∧ p.1 ≠ S) (a1 : S ≠ i) (a2 : mp ≠ i) (a3 : tu ≠ i) (a4 : mp ≠ S) (a5 : tu ≠ S) (hsz : vs.length ≤ 1000)
    (hf : FCall prog w A.in1.in1 f h₀ L m news s vs)
    (hR : ∀ h' tk' c, Fr h₀ L h' m → News h₀ L h' ((S, listOf (List.toArray vs) c) :: news) → R (.ok (.ret res)) { s with heap := h', toks := tk' }) :
    ∀ (n k : Nat) (h : Heap) (tk : Nat) (oi : Obj) (c : Nat), vs.length - k = n → k ≤ vs.length → Fr h₀ L h m → News h₀ L h (mapPre S (vs.take k) c mp tu f i ++ (i, oi) :: news) → IterO oi P k →
    codeAny (model prog w) A (.builtin "list.extend.loop" ⟨[.ref S, .ref mp, res], []⟩) R { s with heap := h, toks := tk } := by
  have hpre : ∀ acc c, ∀ p ∈ mapPre S acc c mp tu f i, p.1 ≠ i := by
    intro acc c p hp
    simp only [mapPre, List.mem_cons, List.not_mem_nil, or_false] at hp
    rcases hp with rfl | rfl | rfl
    · exact a1
    · exact a2
    · exact a3
  intro n
  induction n with
  | zero =>
    intro k h tk oi c hn hk F N hoi
    have hkk : k = vs.length := by omega
    subst hkk
    refine codeAny_builtin PySem.F.entry_extend_loop ?_
    rw [Around.under_plainId PySem.F.plain_extend_loop _]
    show wpAny _ A.in1 (pyNext (.ref mp) >>= _) _ _ _
    refine wpAny_bind (map_end (vs := vs) (k := vs.length) (show A.in1.handled = none from hh) F N (hpre _ _) (fun p hp => (hnn p hp).1) (.tail _ (.head _)) (.tail _ (.tail _ (.head _))) (List.mem_append_right _ (.tail _ hP)) hoi (by simp) (fun h' tk' F' N' => ?_))
    refine wpAny_pure (hR h' tk' c F' (fun p hp => N' p ?_))
    rcases List.mem_cons.mp hp with rfl | hp
    · rw [List.take_length]; exact .head _
    · exact List.mem_append_right _ hp
  | succ n ih =>
    intro k h tk oi c hn hk F N hoi
    have hkl : k < vs.length := by omega
    refine codeAny_builtin PySem.F.entry_extend_loop ?_
    rw [Around.under_plainId PySem.F.plain_extend_loop _]
    show wpAny _ A.in1 (pyNext (.ref mp) >>= _) _ _ _
    refine wpAny_bind (map_item (vs := vs) (k := k) (v := vs[k]) F N (hpre _ _) (fun p hp => (hnn p hp).1) (.tail _ (.head _)) (.tail _ (.tail _ (.head _))) (List.mem_append_right _ (.tail _ hP)) hoi (by simp [hkl]) a2 a3 hf (fun h' tk' oi' hoi' F' N' => ?_))
    have nS := N' (S, listOf (List.toArray (vs.take k)) c) (.head _)
    have s1 := Heap.SameBut.update h' S (Obj.mapSeq (·.push vs[k]))
    obtain ⟨c2, hc2⟩ : ∃ c2, (h'.update S (Obj.mapSeq (·.push vs[k]))).get? S = some (seqObj "list" ((List.toArray (vs.take k)).push vs[k]) c2) := ⟨_, get?_update_seq nS.1 (·.push vs[k])⟩
    have e2 : (List.toArray (vs.take k)).push vs[k] = List.toArray (vs.take (k + 1)) := by
      rw [List.take_add_one]; simp [hkl]
    rw [e2] at hc2
    show wpAny _ A.in1 (updateSeq S (·.push vs[k]) >>= _) _ _ _
    refine wpAny_bind (wpAny_updateSeq nS.1 rfl (wpAny_pure ⟨plainId_quiet PySem.F.plain_extend_loop _, ?_⟩) (by rw [sizeLine_eq, List.size_toArray, List.length_take]; omega) (by rw [e2, sizeLine_eq, List.size_toArray, List.length_take]; omega))
    refine ih (k + 1) _ tk' oi' c2 (by omega) (by omega) (kas_fr F' s1 nS.2.1 nS.2.2) ?_ hoi'
    intro p hp
    rcases List.mem_cons.mp hp with rfl | hp
    · exact ⟨hc2, nS.2⟩
    · refine kas_news (fun q hq => N' q (.tail _ hq)) s1 (fun q hq => ?_) p hp
      rcases List.mem_cons.mp hq with rfl | hq
      · exact a4
      · rcases List.mem_cons.mp hq with rfl | hq
        · exact a5
        · rcases List.mem_cons.mp hq with rfl | hq
          · exact a1.symm
          · exact (hnn q hq).2
theorem map_collect {ep : Nat} {Q : List Value → Shared → Prop} (hh : A.handled = none) (F : Fr h₀ L h m) (N : News h₀ L h ((mp, mapO tu f) :: (tu, tupO #[.ref i]) :: (i, oi) :: news)) (hoi : IterO oi P 0) (hP : (P, listOf (List.toArray vs) ep) ∈ news) (hnn : ∀ p ∈ news, p.1 ≠ i) (a2 : mp ≠ i) (a3 : tu ≠ i) (hsz : vs.length ≤ 1000) {tk : Nat}
    (hf : FCall prog w A.in1.in1 f h₀ L m news s vs)
    (hq : ∀ h' tk', Fr h₀ L h' m → News h₀ L h' news → Q vs { s with heap := h', toks := tk' }) :
    wpAny (model prog w) A (collect (.ref mp)) Q E { s with heap := h, toks := tk } := by
  have hTm : ∀ (h' : Heap) (tk' : Nat), h'.get? mp = some (mapO tu f) → Shared.TypeIs { s with heap := h', toks := tk' } (.ref mp) "map" := fun _ _ e => ⟨_, e, rfl⟩
  have hmo := (N _ (.head _)).1
  have lt : ∀ p ∈ (mp, mapO tu f) :: (tu, tupO #[.ref i]) :: (i, oi) :: news, p.1 < h.objs.size := fun p hp => Heap.lt_size (N p hp).1
  have hSm : h.objs.size ≠ mp := Nat.ne_of_gt (lt _ (.head _))
  unfold collect
  refine wpAny_bind (wpAny_runValue (codeAny_builtin PySem.F.entry_proto_collect ?_))
  rw [Around.under_plainId PySem.F.plain_proto_collect _]
  show wpAny _ A.in1 (newList [] >>= fun l => again (.builtin "list.__iadd__" ⟨[l, .ref mp], []⟩)) _ _ _
  refine wpAny_bind (wpAny_newObj_type ?_)
  refine wpAny_pure ⟨plainId_quiet PySem.F.plain_list_iadd _, codeAny_builtin PySem.F.entry_list_iadd ?_⟩
  rw [Around.under_plainId PySem.F.plain_list_iadd _]
  have hm1 : (h.push { cls := .type "list", data := .seq ([] : List Value).toArray }).get? mp = some (mapO tu f) := Heap.get?_push_of_some _ hmo
  show wpAny _ A.in1 (Builtin.List.listExtendWith (.ref h.objs.size) (.ref mp) (.ref h.objs.size)) _ _ _
  unfold Builtin.List.listExtendWith
  refine wpAny_bind (wpAny_typeOf (hTm _ _ hm1) ?_)
  have h1 : Builtin.List.listSameRef (.ref h.objs.size) (.ref mp) = false := by simp [Builtin.List.listSameRef, hSm]
  have h2 : (Value.type "map" == Value.type "list") = false := by decide
  have h3 : (Value.type "map" == Value.type "tuple") = false := by decide
  simp only [h1, h2, h3, Bool.or_false, Bool.false_eq_true, if_false]
  refine wpAny_bind (wpAny_pyIter_slot (hTm _ _ hm1) MP.slot_iter (wpAny_call_entry MP.slot_iter (hTm _ _ hm1) MP.entry_iter ?_ (MP.args_iter _)))
  refine wpAny_pure ⟨_, rfl, "map", _, (hTm _ _ hm1), MP.slot_next.lookup, ?_⟩
  refine wpAny_bind (wpAny_holding ?_)
  unfold Builtin.List.listLengthHint
  refine wpAny_bind (wpAny_specialOf (hTm _ _ hm1) MP.no_len ?_)
  show wpAny _ A.in1 (specialOf (Value.ref mp) (Str.ofString "__length_hint__") >>= _) _ _ _
  refine wpAny_bind (wpAny_specialOf (hTm _ _ hm1) MP.no_hint ?_)
  refine wpAny_pure ?_
  show wpAny _ A.in1 (rule "list.extend.makes-room" >>= fun _ => Builtin.List.listTouch (.ref h.objs.size) >>= fun _ =>
    again (.builtin "list.extend.loop" ⟨[.ref h.objs.size, .ref mp, .ref h.objs.size], []⟩)) _ _ _
  refine wpAny_bind (wpAny_rule ?_)
  have hS₁ : (h.push { cls := .type "list", data := .seq ([] : List Value).toArray }).get? h.objs.size = some { cls := .type "list", data := .seq ([] : List Value).toArray } := Heap.get?_push_size _ rfl
  refine wpAny_bind ?_
  show wpAny _ A.in1 (updateSeq h.objs.size (·.push .none) >>= fun _ => updateSeq h.objs.size (·.pop)) _ _ _
  refine wpAny_bind (wpAny_updateSeq hS₁ rfl ?_)
  have hS₂ := Heap.get?_update_self (Obj.mapSeq (·.push Value.none)) hS₁ rfl
  refine wpAny_updateSeq hS₂ rfl ?_
  have hS₃ := Heap.get?_update_self (Obj.mapSeq (·.pop)) hS₂ rfl
  have F1 := F.push { cls := .type "list", data := .seq ([] : List Value).toArray }
  have N1 := N.push F { cls := .type "list", data := .seq ([] : List Value).toArray }
  have nS := N1 (h.objs.size, { cls := .type "list", data := .seq ([] : List Value).toArray }) (.head _)
  have b1 := Heap.SameBut.update (h.push { cls := .type "list", data := .seq ([] : List Value).toArray }) h.objs.size (Obj.mapSeq (·.push Value.none))
  have b2 := Heap.SameBut.update ((h.push { cls := .type "list", data := .seq ([] : List Value).toArray }).update h.objs.size (Obj.mapSeq (·.push Value.none))) h.objs.size (Obj.mapSeq (·.pop))
  have F3 := kas_fr (kas_fr F1 b1 nS.2.1 nS.2.2) b2 nS.2.1 nS.2.2
  have N3 := kas_news (kas_news (fun p hp => N1 p (.tail _ hp)) b1 (fun p hp => Nat.ne_of_lt (lt p hp))) b2 (fun p hp => Nat.ne_of_lt (lt p hp))
  refine wpAny_pure ⟨plainId_quiet PySem.F.plain_extend_loop _, map_loop (s := s) (vs := vs) hh hP (fun p hp => ⟨hnn p hp, Nat.ne_of_lt (lt p (.tail _ (.tail _ (.tail _ hp))))⟩) (Nat.ne_of_gt (lt _ (.tail _ (.tail _ (.head _))))) a2 a3 (Nat.ne_of_lt (lt _ (.head _))) (Nat.ne_of_lt (lt _ (.tail _ (.head _)))) hsz hf (fun h' tk' c F' N' => ?_) (vs.length - 0) 0 _ tk oi 2 rfl (Nat.zero_le _) F3 (fun p hp => ?_) hoi⟩
  · show wpAny _ A (load h.objs.size >>= _) _ _ _
    refine wpAny_bind (wpAny_load (N' _ (.head _)).1 ?_)
    exact wpAny_pure (hq h' tk' F' (fun p hp => N' p (.tail _ hp)))
  · rcases List.mem_cons.mp hp with rfl | hp
    · exact ⟨hS₃, nS.2⟩
    · exact N3 p hp
end
end Mine
end
section
open PySem PySem.W PyProof.Rows PySem.Calls
set_option Elab.async false
set_option maxRecDepth 100000
set_option maxHeartbeats 8000000
set_option linter.unusedVariables false
namespace Mine
section
variable {prog : Program} {w : World} {A : Around} {E : Value → Shared → Prop} {h₀ h : Heap} {L : Addr} {m : Str → Option Value} {news : List (Addr × Obj)} {s : Shared} {i tu mp f P : Addr} {vs : List Value} {oi : Obj}
noncomputable def StopC (P : Prop) : Prop := P
theorem W_stopC {v : Value} {Q : List Value → Shared → Prop} {s : Shared} (hq : StopC (wpAny (model prog w) A (collect v) Q E s)) : wpAny (model prog w) A (collect v) Q E s := hq
theorem unstopC {P : Prop} (h : P) : StopC P := h
theorem map_tuple {ep : Nat} {Q : Value → Shared → Prop} (hh : A.handled = none) (F : Fr h₀ L s.heap m) (N : News h₀ L s.heap ((mp, mapO tu f) :: (tu, tupO #[.ref i]) :: (i, oi) :: news)) (hoi : IterO oi P 0) (hP : (P, listOf (List.toArray vs) ep) ∈ news) (l1 : ∀ p ∈ news, p.1 < i) (l2 : i < tu) (l3 : tu < mp) (hsz : vs.length ≤ 1000)
    (hf : FCall prog w A.in1.in1.in1.in1 f h₀ L m news s vs)
    (hq : ∀ D h' tk', Fr h₀ L h' m → News h₀ L h' ((D, tupO (List.toArray vs)) :: news) → (∀ p ∈ news, p.1 < D) → Q (.ref D) { s with heap := h', toks := tk' }) :
    wpAny (model prog w) A (call (.type "tuple") [.ref mp]) Q E s := by
  obtain ⟨h, g, d, t, os⟩ := s
  have hTm : Shared.TypeIs ⟨h, g, d, t, os⟩ (.ref mp) "map" := ⟨_, (N _ (.head _)).1, rfl⟩
  refine ks_callType_codesW (Q₁ := fun obj s₁ => ∃ D h' tk', obj = .ref D ∧ s₁ = ⟨h', g, d, tk', os⟩ ∧ Fr h₀ L h' m ∧ News h₀ L h' ((D, tupO (List.toArray vs)) :: news) ∧ (∀ p ∈ news, p.1 < D)) PySem.F.called_tuple (fun h => wpAny_of_eq (PySem.F.typeCall_tuple_1 _) h) PySem.F.entry_object_init ?new ?next
  case new =>
    refine codeAny_call_builtin PySem.F.called_tuple.plain PySem.F.entry_tuple_new (wpAny_of_eq (PySem.F.newCall_tuple_1 _) ?_)
    have hsub := sub_tuple_self
    have hinit := init_tuple_lookup
    have hmh := madeHere_tuple
    have hmo := (N _ (.head _)).1
    unfold Builtin.«tuple.__new__»
    repeat (first
      | ((with_reducible refine W_stopC ?_))
      | (with_reducible refine wpAny_typeOf hTm ?_)
      | (with_reducible refine wpAny_loadPart hmo ?_)
      | assumption | (first | with_reducible (first | refine PySem.wpAny_pure ?_ | refine PySem.wpAny_bind ?_ | refine PySem.wpAny_holding ?_ | refine PySem.wpAny_standAt ?_ | refine PySem.wpAny_point ?_ | refine PySem.wpAny_rule ?_ | refine PySem.wpAny_letGo ?_ | refine PySem.wpAny_mkInt' ?_ | refine PySem.wpAny_fresh' ?_ | refine PySem.wpAny_alloc' ?_ | refine PySem.wpAny_attempt ?_ | refine PySem.wpAny_throw ?_ | refine PySem.wpAny_of_eq (by assumption) ?_ | refine PySem.wpAny_typeOf (by assumption) ?_ | refine PySem.wpAny_specialOf_val (by assumption) (by assumption) ?_ | refine PySem.wpAny_specialOf (by assumption) (by assumption) ?_ | refine PySem.wpAny_isInstance_val (by assumption) (by assumption) ?_ | refine PySem.wpAny_isInstance (by assumption) (by assumption) ?_ | refine PySem.wpAny_call ?_ | refine PySem.wpAny_runValue ?_ | refine PySem.wpAny_run ?_) | ((with_reducible refine' PySem.wpAny_mkStr' ?_ ?hx); (case hx => size_fits)) | ((with_reducible refine' PySem.wpAny_load' ?ho ?_); (case ho => heap_get)) | ((with_reducible refine' PySem.wpAny_update' ?ho ?_); (case ho => heap_get)) | ((with_reducible refine' PySem.wpAny_loadPart' ?ho ?_); (case ho => heap_get)) | ((with_reducible refine' PySem.wpAny_updatePart' ?ho ?_); (case ho => heap_get)) | ((with_reducible refine' PySem.wpAny_handled_none ?ho ?_); (case ho => assumption)) | ((with_reducible refine' PySem.wpAny_ite_false ?ho ?_); (case ho => rfl)) | ((with_reducible refine' PySem.wpAny_ite_true ?ho ?_); (case ho => rfl)) | ((with_reducible refine' PySem.wpAny_ite_false ?ho ?_); (case ho => (simp [*]; done))) | ((with_reducible refine' PySem.wpAny_ite_true ?ho ?_); (case ho => (simp [*]; done))) | wp_delta | with_reducible_and_instances refine PySem.wpAny_pure ?_ | with_reducible_and_instances refine PySem.wpAny_bind ?_))
    refine unstopC ?_
    refine map_collect (A := A.in1.in1) (s := ⟨h, g, d, t, os⟩) (show A.in1.in1.handled = none from hh) F N hoi hP (fun p hp => Nat.ne_of_lt (l1 p hp)) (Nat.ne_of_gt (Nat.lt_trans l2 l3)) (Nat.ne_of_gt l2) hsz hf (fun h2 tk2 F2 N2 => ?_)
    repeat (first
      | ((with_reducible refine' W_alloc ?hF ?hN ?hf ?_); (case hF => assumption); (case hN => assumption); (case hf => rfl); intro a' h' F' N' l')
      | assumption | (first | with_reducible (first | refine PySem.wpAny_pure ?_ | refine PySem.wpAny_bind ?_ | refine PySem.wpAny_holding ?_ | refine PySem.wpAny_standAt ?_ | refine PySem.wpAny_point ?_ | refine PySem.wpAny_rule ?_ | refine PySem.wpAny_letGo ?_ | refine PySem.wpAny_mkInt' ?_ | refine PySem.wpAny_fresh' ?_ | refine PySem.wpAny_alloc' ?_ | refine PySem.wpAny_attempt ?_ | refine PySem.wpAny_throw ?_ | refine PySem.wpAny_of_eq (by assumption) ?_ | refine PySem.wpAny_typeOf (by assumption) ?_ | refine PySem.wpAny_specialOf_val (by assumption) (by assumption) ?_ | refine PySem.wpAny_specialOf (by assumption) (by assumption) ?_ | refine PySem.wpAny_isInstance_val (by assumption) (by assumption) ?_ | refine PySem.wpAny_isInstance (by assumption) (by assumption) ?_ | refine PySem.wpAny_call ?_ | refine PySem.wpAny_runValue ?_ | refine PySem.wpAny_run ?_) | ((with_reducible refine' PySem.wpAny_mkStr' ?_ ?hx); (case hx => size_fits)) | ((with_reducible refine' PySem.wpAny_load' ?ho ?_); (case ho => heap_get)) | ((with_reducible refine' PySem.wpAny_update' ?ho ?_); (case ho => heap_get)) | ((with_reducible refine' PySem.wpAny_loadPart' ?ho ?_); (case ho => heap_get)) | ((with_reducible refine' PySem.wpAny_updatePart' ?ho ?_); (case ho => heap_get)) | ((with_reducible refine' PySem.wpAny_handled_none ?ho ?_); (case ho => assumption)) | ((with_reducible refine' PySem.wpAny_ite_false ?ho ?_); (case ho => rfl)) | ((with_reducible refine' PySem.wpAny_ite_true ?ho ?_); (case ho => rfl)) | ((with_reducible refine' PySem.wpAny_ite_false ?ho ?_); (case ho => (simp [*]; done))) | ((with_reducible refine' PySem.wpAny_ite_true ?ho ?_); (case ho => (simp [*]; done))) | wp_delta | with_reducible_and_instances refine PySem.wpAny_pure ?_ | with_reducible_and_instances refine PySem.wpAny_bind ?_))
    rw [if_neg (show ¬ (vs.toArray.size > sizeLine) by rw [sizeLine_eq, List.size_toArray]; omega)]
    dsimp only
    repeat (first
      | ((with_reducible refine' W_alloc ?hF ?hN ?hf ?_); (case hF => assumption); (case hN => assumption); (case hf => rfl); intro a' h' F' N' l')
      | assumption | (first | with_reducible (first | refine PySem.wpAny_pure ?_ | refine PySem.wpAny_bind ?_ | refine PySem.wpAny_holding ?_ | refine PySem.wpAny_standAt ?_ | refine PySem.wpAny_point ?_ | refine PySem.wpAny_rule ?_ | refine PySem.wpAny_letGo ?_ | refine PySem.wpAny_mkInt' ?_ | refine PySem.wpAny_fresh' ?_ | refine PySem.wpAny_alloc' ?_ | refine PySem.wpAny_attempt ?_ | refine PySem.wpAny_throw ?_ | refine PySem.wpAny_of_eq (by assumption) ?_ | refine PySem.wpAny_typeOf (by assumption) ?_ | refine PySem.wpAny_specialOf_val (by assumption) (by assumption) ?_ | refine PySem.wpAny_specialOf (by assumption) (by assumption) ?_ | refine PySem.wpAny_isInstance_val (by assumption) (by assumption) ?_ | refine PySem.wpAny_isInstance (by assumption) (by assumption) ?_ | refine PySem.wpAny_call ?_ | refine PySem.wpAny_runValue ?_ | refine PySem.wpAny_run ?_) | ((with_reducible refine' PySem.wpAny_mkStr' ?_ ?hx); (case hx => size_fits)) | ((with_reducible refine' PySem.wpAny_load' ?ho ?_); (case ho => heap_get)) | ((with_reducible refine' PySem.wpAny_update' ?ho ?_); (case ho => heap_get)) | ((with_reducible refine' PySem.wpAny_loadPart' ?ho ?_); (case ho => heap_get)) | ((with_reducible refine' PySem.wpAny_updatePart' ?ho ?_); (case ho => heap_get)) | ((with_reducible refine' PySem.wpAny_handled_none ?ho ?_); (case ho => assumption)) | ((with_reducible refine' PySem.wpAny_ite_false ?ho ?_); (case ho => rfl)) | ((with_reducible refine' PySem.wpAny_ite_true ?ho ?_); (case ho => rfl)) | ((with_reducible refine' PySem.wpAny_ite_false ?ho ?_); (case ho => (simp [*]; done))) | ((with_reducible refine' PySem.wpAny_ite_true ?ho ?_); (case ho => (simp [*]; done))) | wp_delta | with_reducible_and_instances refine PySem.wpAny_pure ?_ | with_reducible_and_instances refine PySem.wpAny_bind ?_))
    exact ⟨_, _, _, rfl, rfl, F', N', l'⟩
  case next =>
    rintro obj s₁ ⟨D, h', tk', rfl, rfl, F', N', l'⟩
    have hT : Shared.TypeIs ⟨h', g, d, tk', os⟩ (.ref D) "tuple" := ⟨_, (N' _ (.head _)).1, rfl⟩
    have hm := object_init_meets (self := .ref D) (rest := [.ref mp]) PySem.F.called_tuple.init.lookup PySem.F.called_tuple.made (by decide)
    refine ⟨hT, PySem.F.args_object_init_2 _ _, ?_⟩
    exact hm prog w _ _ _ ⟨hT, rfl, hq D h' tk' F' N' l'⟩
end
end Mine
end
section
open PySem PySem.W PyProof.Rows PySem.Calls
set_option Elab.async false
set_option maxRecDepth 100000
set_option maxHeartbeats 8000000
set_option linter.unusedVariables false
namespace Mine
open LCg
section
variable {prog : Program} {w : World} {A : Around} {E : Value → Shared → Prop} {s : Shared} {h₀ : Heap} {L : Addr} {m : Str → Option Value} {env : Env}
noncomputable abbrev tupX (its : Array Value) : Obj := { cls := .type "tuple", data := .seq its }
theorem tup_st {ax I : Addr} {its : Array Value} : ∀ i (h h' : Heap) (o : Obj) (nw : List (Addr × Obj)), (h.IsTupleIter I ax i ∧ h.IsTuple ax its) → h.get? I = some o → h'.get? I = some o → (∀ b o, h₀.get? b = some o → h'.get? b = some o) → News h₀ L h' nw → (ax, tupX its) ∈ nw → (h'.IsTupleIter I ax i ∧ h'.IsTuple ax its) := by
  intro i h h' o nw st e e' k N S
  obtain ⟨⟨o', q, r⟩, -⟩ := st
  rw [e] at q
  cases q
  exact ⟨⟨o, e', r⟩, ⟨_, (N _ S).1, rfl, _, rfl⟩⟩
noncomputable def SrcT (prog : Program) (w : World) (A : Around) (h₀ : Heap) (L : Addr) (m : Str → Option Value) (env : Env) (elt : Expr) (x : Str) (scope : Scope) (cl : List (Str × Addr)) (Fin : Shared → List Value → List (Addr × Obj) → Prop) (xv : Value) (s₁ : Shared) : Prop :=
  ∃ ax its news, xv = .ref ax ∧ A.handled = none ∧ Fr h₀ L s₁.heap m ∧ News h₀ L s₁.heap news ∧ (ax, tupX its) ∈ news ∧ its.size ≤ sizeLine ∧
    ∀ s₂ : Shared, (∃ h, s₂ = { s₁ with heap := h }) → CompRest prog w A h₀ L m env elt x scope cl s₂ (fun nw => (ax, tupX its) ∈ nw) (fun i v => its[i]? = some v) (Fin s₂) its.size 0 [] news
theorem SrcT.mk' {elt : Expr} {x : Str} {scope : Scope} {cl : List (Str × Addr)} {Fin : Shared → List Value → List (Addr × Obj) → Prop} {ax : Addr} {its : Array Value} {news : List (Addr × Obj)} {s₁ : Shared}
    (hh : A.handled = none) (F : Fr h₀ L s₁.heap m) (N : News h₀ L s₁.heap news) (hm : (ax, tupX its) ∈ news) (hsz : its.size ≤ sizeLine)
    (h : ∀ g, CompRest prog w A h₀ L m env elt x scope cl { s₁ with heap := g } (fun nw => (ax, tupX its) ∈ nw) (fun i v => its[i]? = some v) (Fin { s₁ with heap := g }) its.size 0 [] news) :
    SrcT prog w A h₀ L m env elt x scope cl Fin (.ref ax) s₁ := ⟨ax, its, news, rfl, hh, F, N, hm, hsz, fun _ ⟨g, e⟩ => e ▸ h g⟩
theorem AssignLC_T {elt iter : Expr} {x y : Str} {px py : Pos} {scope : Scope} {cl : List (Str × Addr)} {pos spos : Pos} {Q : Flow → Shared → Prop} (F₀ : Fr h₀ L s.heap m) (hLe : env.locals = L)
    (hsw : swapsWith (.ListComp elt [⟨.Name x px, iter, [], 0⟩] scope pos) (some (.Name y py)) spos.line env = pure true)
    (hclos : closureFor scope env = pure cl) (hcell : ∀ z ∈ scope.names, z.2 ≠ .cell) (hkind : scope.kind = .function)
    (hnames : ∀ z ∈ scope.names, z.2 = .local → scope.names.lookup z.1 = some .local) (hx : scope.names.lookup x = some .local)
    (hy : env.kindOf y = some .local) (hp : (env.scope.kind == .class || (env.scope.kind == .module && env.locals != env.globals)) = false)
    (h : wpAny (model prog w) A (eval iter env) (SrcT prog w A h₀ L m env elt x scope cl (fun s₂ => FinA h₀ L m s₂ y Q)) E s)
    (hs : ∀ x, foldedSetIterable iter env x = pure x := by intro _; rfl) :
    wpAny (model prog w) A (exec (.Assign [.Name y py] (.ListComp elt [⟨.Name x px, iter, [], 0⟩] scope pos) spos) env) Q E s := by
  subst hLe
  rw [exec_Assign_Name_used _ _ _ _ hsw]
  refine wpAny_bind (wpAny_standAt (wpAny_bind ?_))
  show wpAny _ A (do let _ ← comprehension (.ListComp elt [⟨.Name x px, iter, [], 0⟩] scope pos) scope env _ (newList []) false (eval iter env) (some (assign (.Name y py) env))) _ _ s
  refine wpAny_bind (wpAny_mono (wpAny_comprehension_free (use := some (assign (.Name y py) env)) (Q := fun _ s' => Q .next s') rfl hs hclos hkind hnames
    (wpAny_mono h (fun xv s₁ h₁ => ?_) fun _ _ e => e)) (fun _ s' hq => wpAny_pure (wpAny_pure hq)) fun _ _ e => e)
  obtain ⟨ax, its, news, rfl, hh, F, N, S, hsz, R⟩ := h₁
  have hax := N _ S
  have hl : s₁.heap.IsTuple ax its := ⟨_, hax.1, rfl, _, rfl⟩
  have hlt : ax < s₁.heap.objs.size := Heap.lt_size hax.1
  refine wpAny_pyIter_tuple hl ?_
  have up : ∀ b o, s₁.heap.get? b = some o → (s₁.heap.push { cls := .type "tuple_iterator", data := .fields #[.ref ax, .int 0 0] }).get? b = some o := fun b o e => Heap.get?_push_of_some _ e
  refine block_U (Walks.tuple hh s₁.heap.objs.size ax (Nat.ne_of_lt hlt) its) hsz (fun i h st => by obtain ⟨o, e, _⟩ := st.1; exact ⟨o, e⟩) tup_st hcell hkind hx ⟨⟨_, Heap.get?_push_size _ rfl, rfl, rfl⟩, ⟨_, up _ _ hax.1, rfl, _, rfl⟩⟩ (fun b hb => ?_)
    (F.keeps up) (N.grown up) (Nat.ne_of_lt F.ns.lt) (next_is_new F) (fun p hp => Nat.ne_of_lt (Heap.lt_size (N p hp).1)) S (R _ ⟨_, rfl⟩) ?_
  · show b < (s₁.heap.push _).objs.size
    rw [Heap.size_push]
    rcases List.mem_cons.mp hb with rfl | hb
    · exact Nat.lt_succ_self _
    · rw [List.mem_singleton.mp hb]; exact Nat.lt_succ_of_lt hlt
  · intro D C h' tk m' ys news' F' N' o1 hn hC₀ hD₀ hCL hDL hCD offC fin
    show wpAny _ A (assign (.Name y py) env (.ref D)) _ _ _
    refine wpAny_assign_Name (wpAny_storeName_local hy F'.ns (fun h₂ hn₂ hs₂ => ?_) hp)
    have hL₀ : h₀.get? env.locals = none := Heap.get?_none_of_le F'.above
    have F₂ : Fr h₀ env.locals h₂ (fun z => if z = y then some (.ref D) else m z) := ⟨hn₂, fun b o e => hs₂.extBut b o (fun q => by rw [q, hL₀] at e; cases e) (F'.keep b o e), F'.above⟩
    refine ⟨m', hn.sameBut hs₂ hCL, fun h'' hs'' => fin D h'' _ (F₂.change hs'' hCL hC₀) (fun p hp => ?_) o1⟩
    have z : h₂.get? p.1 = some p.2 := hs₂.extBut _ _ (N' p hp).2.1 (N' p hp).1
    refine ⟨hs''.extBut _ _ ?_ z, (N' p hp).2⟩
    rcases List.mem_cons.mp hp with rfl | hp
    · exact Ne.symm hCD
    · exact offC p hp
theorem compEnd1 {s₁ : Shared} {hp h' : Heap} {tk : Nat} {I C D : Addr} {oI oC oD on : Obj} {nw : List (Addr × Obj)} {S : List (Addr × Obj) → Prop} {rest : Value → List (Addr × Obj) → Prop} (F : Fr h₀ L h' m) (N : News h₀ L h' ((hp.objs.size, on) :: (I, oI) :: (C, oC) :: (D, oD) :: nw)) (Np : News h₀ L hp ((I, oI) :: (C, oC) :: (D, oD) :: nw)) (off : Off3 I C D nw)
   (hS : ∀ Dn, S ((Dn, on) :: nw)) (r : ∀ Dn, rest (.ref Dn) ((Dn, on) :: nw)) : CompEnd h₀ L m s₁ I oI C oC D oD S rest (.ref hp.objs.size) { s₁ with heap := h', toks := tk } := by
  refine CompEnd.intro F N ((hp.objs.size, on) :: nw) (fun p hp => ?_) ⟨⟨Nat.ne_of_gt (Heap.lt_size (Np _ (.head _)).1), Nat.ne_of_gt (Heap.lt_size (Np _ (.tail _ (.head _))).1), Nat.ne_of_gt (Heap.lt_size (Np _ (.tail _ (.tail _ (.head _)))).1)⟩, off⟩ (hS _) (r _)
  rcases List.mem_cons.mp hp with rfl | hp
  · exact .tail _ (.head _)
  · rcases List.mem_cons.mp hp with rfl | hp
    · exact .tail _ (.tail _ (.head _))
    · rcases List.mem_cons.mp hp with rfl | hp
      · exact .tail _ (.tail _ (.tail _ (.head _)))
      · rcases List.mem_cons.mp hp with rfl | hp
        · exact .head _
        · exact .tail _ (.tail _ (.tail _ (.tail _ hp)))
end
end Mine
end
section
open PySem PySem.W PyProof.Rows PySem.Calls
set_option Elab.async false
set_option maxRecDepth 100000
set_option maxHeartbeats 8000000
set_option linter.unusedVariables false
namespace Mine
noncomputable abbrev setO (es : Array (Int × Value)) (ep : Nat) (t : SetTable) : Obj := { cls := .type "set", data := .set es ep t }
noncomputable def st0 (led : Bool) : SetTable := .fresh (finger := 0) (moves := 0) (led := led)
section
variable {prog : Program} {w : World} {A : Around} {E : Value → Shared → Prop} {h₀ h : Heap} {L : Addr} {m : Str → Option Value} {news : List (Addr × Obj)} {g : Array GenState} {d : Drawn} {t : Nat} {os : OsState} {D : Addr} {led : Bool}
theorem W_setState {es : Array (Int × Value)} {ep : Nat} {tt : SetTable} {Q : (Array (Int × Value) × Nat × SetTable) → Shared → Prop} (N : News h₀ L h news) (hm : (D, setO es ep tt) ∈ news) (hf : tt.fits es.size = true) (hq : Q (es, ep, tt) ⟨h, g, d, t, os⟩) : wpAny (model prog w) A (setState D) Q E ⟨h, g, d, t, os⟩ :=
  wpAny_setState_of (N _ hm).1 rfl hf hq
theorem fits0 : (st0 led).fits (#[] : Array (Int × Value)).size = true := by cases led <;> decide +kernel
theorem slot_bool_hash : Slot "bool" "__hash__" "int.__hash__" := .of (owner := "int") (n := "__hash__") (by rw [typeLookup_type, builtinLookup_eq_fast]; kernel_rfl) (by decide +kernel) (by decide +kernel) (by decide +kernel)
  (by first | exact .inl (by decide +kernel) | exact .inr (by decide +kernel)) (by rw [isSubtype_type]; kernel_rfl)
theorem typeIs_bool (s : Shared) (b : Bool) : s.TypeIs (.bool b) "bool" := rfl
theorem pyHash_true {s : Shared} {Q : Int → Shared → Prop} (hq : Q 1 { s with toks := s.toks + 1 }) : wpAny (model prog w) A (pyHash (.bool true)) Q E s := by
  unfold pyHash
  have hv : [Value.bool true].any Value.onHeap = false := rfl
  refine wpAny_bind ?_
  rw [cRoomFor, if_neg (by rw [hv]; exact Bool.false_ne_true)]; refine wpAny_pure ?_
  refine wpAny_bind (wpAny_specialOf (typeIs_bool s true) slot_bool_hash.lookup ?_)
  show wpAny _ _ (if (some (Value.builtin "int.__hash__") == some Value.none) = true then _ else _) Q E s
  rw [if_neg (by decide)]
  refine wpAny_bind (wpAny_specialOf (typeIs_bool s true) slot_bool_hash.lookup ?_)
  show wpAny _ _ (callSpecialIfBoundUnlessNone? (.bool true) "__hash__" _ >>= _) Q E s
  refine wpAny_bind (wpAny_callSpecialIfBoundUnlessNone?_slot (typeIs_bool s true) slot_bool_hash
    (wpAny_call_entry slot_bool_hash (typeIs_bool s true) entry_int_hash
      (show wpAny _ _ (do ret (← mkInt (rawHash 1))) _ _ s from wpAny_ret_mkInt ?_) (args_int_hash _)))
  show wpAny _ _ (if (decide (-(2 : Int) ^ 63 ≤ rawHash 1) && decide (rawHash 1 < 2 ^ 63)) = true then _ else _) Q E _
  rw [if_pos (by decide +kernel)]
  have e : rawHash 1 = 1 := by decide +kernel
  rw [e]
  exact wpAny_pure hq
noncomputable def st1 (led : Bool) : SetTable := (layNew (st0 led) #[] 1 (.bool true)).2.1
theorem lay0 : layNew (st0 led) #[] 1 (.bool true) = (#[(1, .bool true)], st1 led, false, false) := by cases led <;> kernel_rfl
theorem fits1 : (st1 led).fits (#[((1 : Int), Value.bool true)] : Array (Int × Value)).size = true := by cases led <;> decide +kernel
theorem full1 : (st1 led).tooFull = false := by cases led <;> decide +kernel
theorem led1 : (st1 led).led = led := by cases led <;> decide +kernel
theorem below1 : (st1 led).place = #[1] := by cases led <;> decide +kernel
theorem plain1 : (st1 led).plain = true := by cases led <;> decide +kernel
theorem put_set {es es' : Array (Int × Value)} {ep : Nat} {tt t' : SetTable} : ∃ ep', Obj.putSet es' t' (setO es ep tt) = setO es' ep' t' := ⟨_, rfl⟩
theorem W_storeSet {es es' : Array (Int × Value)} {ep : Nat} {tt t' : SetTable} {Q : Unit → Shared → Prop} (F : Fr h₀ L h m) (N : News h₀ L h ((D, setO es ep tt) :: news)) (hn : ∀ p ∈ news, p.1 ≠ D) (hz : es'.size ≤ 100)
   (hq : ∀ h' ep', Fr h₀ L h' m → News h₀ L h' ((D, setO es' ep' t') :: news) → Q () ⟨h', g, d, t, os⟩) : wpAny (model prog w) A (storeSet D es' t') Q E ⟨h, g, d, t, os⟩ := by
  have nD := N _ (.head _)
  have s1 := Heap.SameBut.update h D (Obj.putSet es' t')
  obtain ⟨ep', e⟩ := put_set (es := es) (es' := es') (ep := ep) (tt := tt) (t' := t')
  have hc : (h.update D (Obj.putSet es' t')).get? D = some (setO es' ep' t') := by
    rw [← e]; exact Heap.get?_update_self _ nD.1 (by rw [e]; rfl)
  refine wpAny_storeSet_of nD.1 rfl (hq _ ep' (kas_fr F s1 nD.2.1 nD.2.2) (fun p hp => ?_)) (by rw [sizeLine_eq]; omega)
  rcases List.mem_cons.mp hp with rfl | hp
  · exact ⟨hc, nD.2⟩
  · exact kas_news (fun q hq => N q (.tail _ hq)) s1 hn p hp
theorem set_add0 {Q : Value → Shared → Prop} (F : Fr h₀ L h m) (N : News h₀ L h ((D, setO #[] 0 (st0 led)) :: news)) (hn : ∀ p ∈ news, p.1 ≠ D)
   (hq : ∀ h' ep', Fr h₀ L h' m → News h₀ L h' ((D, setO #[(1, .bool true)] ep' (st1 led)) :: news) → Q .none ⟨h', g, d, t + 1, os⟩) : wpAny (model prog w) A (call (.builtin "set.add") [.ref D, .bool true]) Q E ⟨h, g, d, t, os⟩ := by
  have hT : Shared.TypeIs ⟨h, g, d, t, os⟩ (.ref D) "set" := ⟨_, (N _ (.head _)).1, rfl⟩
  refine wpAny_call_entry PySem.F.slot_set_add hT PySem.F.entry_set_add ?_ (PySem.F.args_set_add_2 _ _)
  unfold Builtin.«set.add» Builtin.Frozenset.oneOther
  simp only [List.isEmpty_nil, bind_assoc]
  unfold Builtin.Frozenset.addrOf setAdd
  refine wpAny_bind (wpAny_pure ?_)
  try dsimp only
  refine wpAny_bind (wpAny_pure ?_)
  dsimp only
  refine wpAny_bind (wpAny_holding (wpAny_bind (pyHash_true ?_)))
  dsimp only
  unfold setAddHashed
  refine wpAny_holding ?_
  rw [show (100000 : Nat) = 99999 + 1 from rfl, setAddHashedIn]
  refine wpAny_bind (W_setState N (.head _) fits0 ?_)
  dsimp only
  rw [if_pos (show byScan (.bool true) #[] = true from by decide +kernel)]
  refine wpAny_bind ?_
  unfold setAddByScan
  refine wpAny_bind (wpAny_rule ?_)
  refine wpAny_bind (m := setScan D (.bool true) 1 true #[]) ?_
  show wpAny _ _ (pure ScanMet.absent) _ _ _
  refine wpAny_pure ?_
  dsimp only
  refine wpAny_bind (wpAny_pure ?_)
  rw [lay0]
  dsimp only
  rw [if_pos plain1]
  refine wpAny_bind (m := hashByValue 8 (.bool true)) ?_
  show wpAny _ _ (pure true) _ _ _
  refine wpAny_pure ?_
  simp only [if_true]
  refine wpAny_bind (W_storeSet F N hn (by show 1 ≤ 100; decide) (fun h' ep' F' N' => ?_))
  rw [full1]
  simp only [Bool.not_false, Bool.and_false, Bool.false_eq_true, if_false]
  refine wpAny_pure ?_
  dsimp only
  refine wpAny_pure ?_
  refine wpAny_pure ⟨_, rfl, ?_⟩
  exact hq h' ep' F' N'
theorem EqBoolTT {Q : Bool → Shared → Prop} {s : Shared} (hq : Q true s) : wpAny (model prog w) A (eqBool (.bool true) (.bool true)) Q E s := by
  unfold eqBool
  repeat (first | exact hq | (first | with_reducible (first | refine PySem.wpAny_pure ?_ | refine PySem.wpAny_bind ?_ | refine PySem.wpAny_holding ?_ | refine PySem.wpAny_standAt ?_ | refine PySem.wpAny_point ?_ | refine PySem.wpAny_rule ?_ | refine PySem.wpAny_letGo ?_ | refine PySem.wpAny_mkInt' ?_ | refine PySem.wpAny_fresh' ?_ | refine PySem.wpAny_alloc' ?_ | refine PySem.wpAny_attempt ?_ | refine PySem.wpAny_throw ?_ | refine PySem.wpAny_of_eq (by assumption) ?_ | refine PySem.wpAny_typeOf (by assumption) ?_ | refine PySem.wpAny_specialOf_val (by assumption) (by assumption) ?_ | refine PySem.wpAny_specialOf (by assumption) (by assumption) ?_ | refine PySem.wpAny_isInstance_val (by assumption) (by assumption) ?_ | refine PySem.wpAny_isInstance (by assumption) (by assumption) ?_ | refine PySem.wpAny_call ?_ | refine PySem.wpAny_runValue ?_ | refine PySem.wpAny_run ?_) | ((with_reducible refine' PySem.wpAny_mkStr' ?_ ?hx); (case hx => size_fits)) | ((with_reducible refine' PySem.wpAny_load' ?ho ?_); (case ho => heap_get)) | ((with_reducible refine' PySem.wpAny_update' ?ho ?_); (case ho => heap_get)) | ((with_reducible refine' PySem.wpAny_loadPart' ?ho ?_); (case ho => heap_get)) | ((with_reducible refine' PySem.wpAny_updatePart' ?ho ?_); (case ho => heap_get)) | ((with_reducible refine' PySem.wpAny_handled_none ?ho ?_); (case ho => assumption)) | ((with_reducible refine' PySem.wpAny_ite_false ?ho ?_); (case ho => rfl)) | ((with_reducible refine' PySem.wpAny_ite_true ?ho ?_); (case ho => rfl)) | ((with_reducible refine' PySem.wpAny_ite_false ?ho ?_); (case ho => (simp [*]; done))) | ((with_reducible refine' PySem.wpAny_ite_true ?ho ?_); (case ho => (simp [*]; done))) | wp_delta | with_reducible_and_instances refine PySem.wpAny_pure ?_ | with_reducible_and_instances refine PySem.wpAny_bind ?_))
theorem set_add1 {ep : Nat} {Q : Value → Shared → Prop} (N : News h₀ L h ((D, setO #[(1, .bool true)] ep (st1 led)) :: news)) 
   (hq : Q .none ⟨h, g, d, t + 1, os⟩) : wpAny (model prog w) A (call (.builtin "set.add") [.ref D, .bool true]) Q E ⟨h, g, d, t, os⟩ := by
  have hT : Shared.TypeIs ⟨h, g, d, t, os⟩ (.ref D) "set" := ⟨_, (N _ (.head _)).1, rfl⟩
  refine wpAny_call_entry PySem.F.slot_set_add hT PySem.F.entry_set_add ?_ (PySem.F.args_set_add_2 _ _)
  unfold Builtin.«set.add» Builtin.Frozenset.oneOther
  simp only [List.isEmpty_nil, bind_assoc]
  unfold Builtin.Frozenset.addrOf setAdd
  refine wpAny_bind (wpAny_pure ?_)
  try dsimp only
  refine wpAny_bind (wpAny_pure ?_)
  dsimp only
  refine wpAny_bind (wpAny_holding (wpAny_bind (pyHash_true ?_)))
  dsimp only
  unfold setAddHashed
  refine wpAny_holding ?_
  rw [show (100000 : Nat) = 99999 + 1 from rfl, setAddHashedIn]
  refine wpAny_bind (W_setState N (.head _) fits1 ?_)
  dsimp only
  rw [if_pos (show byScan (.bool true) #[((1 : Int), Value.bool true)] = true from by decide +kernel)]
  refine wpAny_bind ?_
  unfold setAddByScan
  refine wpAny_bind (wpAny_rule ?_)
  refine wpAny_bind (m := setScan D (.bool true) 1 true #[((1 : Int), Value.bool true)]) ?_
  show wpAny _ _ (setScanFrom D (.bool true) 1 true [((1 : Int), Value.bool true)] 0) _ _ _
  unfold setScanFrom
  rw [if_pos (by decide)]
  refine wpAny_bind ?_
  unfold setEpoch
  refine wpAny_bind (W_setState N (.head _) fits1 (wpAny_pure ?_))
  refine wpAny_bind (EqBoolTT ?_)
  rw [if_pos (by decide)]
  refine wpAny_pure ?_
  dsimp only
  refine wpAny_pure ?_
  dsimp only
  refine wpAny_pure ?_
  refine wpAny_pure ⟨_, rfl, ?_⟩
  exact hq
end
end Mine
end
section
open PySem PySem.W PyProof.Rows PySem.Calls
set_option Elab.async false
set_option maxRecDepth 100000
set_option maxHeartbeats 8000000
set_option linter.unusedVariables false
namespace Mine
open LCg
section
variable {prog : Program} {w : World} {A : Around} {R : Result → Shared → Prop} {s : Shared}
theorem compTurn_set (elt target iter : Expr) (scope : Scope) (pos : Pos) (it acc : Value) (env : Env) :
    compTurn (.SetComp elt [⟨target, iter, [], 0⟩] scope pos) 0 it acc env = (standAt iter.pos >>= fun _ => pyNext it >>= fun r => match r with
      | none => pure (.done .next)
      | some v => letOwnedTupleGo target it v >>= fun _ => assign target env v >>= fun _ =>
        (eval elt env >>= fun x => standAt elt.pos >>= fun _ => call (.builtin "set.add") [acc, x] >>= fun _ => pure ()) >>= fun _ =>
          again (.compLoop (.SetComp elt [⟨target, iter, [], 0⟩] scope pos) 0 it acc env)) := by rfl
theorem compStart_set {elt target iter : Expr} {scope : Scope} {pos : Pos} {it acc : Value} {env : Env}
    (h0 : codeAny (model prog w) A (.compLoop (.SetComp elt [⟨target, iter, [], 0⟩] scope pos) 0 it acc env) R s)
    (h : wpAny (model prog w) A (pyIter it) (fun it' s' => codeAny (model prog w) A (.compLoop (.SetComp elt [⟨target, iter, [], 0⟩] scope pos) 0 it' acc env) R s')
      (notedBy (model prog w) A env fun x s' => R (.error x) s') s) :
    codeAny (model prog w) A (.compStart (.SetComp elt [⟨target, iter, [], 0⟩] scope pos) 0 it acc env) R s := by
  refine codeAny_of_tree ?_
  show wpAny _ _ ((compStart (.SetComp elt [⟨target, iter, [], 0⟩] scope pos) 0 it acc env).onRaise (fun x => do noteFrame x env; standAt theWindowsPlace)) _ _ s
  refine wpAny_notedAt ?_
  unfold compStart
  show wpAny _ _ (ask >>= _) _ _ s
  refine wpAny_bind (wpAny_askSetting (wpAny_ite ?_))
  split
  · first
      | exact wpAny_bind (wpAny_pure (wpAny_pure (And.intro rfl h0)))
      | exact wpAny_pure (And.intro rfl h0)
  · refine wpAny_bind (wpAny_rule ?_)
    refine wpAny_bind (wpAny_standAt ?_)
    exact wpAny_bind (wpAny_mono h (fun it' s' h' => wpAny_pure (And.intro rfl h')) fun _ _ e => e)
theorem compLoop_set {elt target iter : Expr} {scope : Scope} {pos : Pos} {it acc : Value} {env : Env} (I : Nat → Shared → Prop)
    (turn : ∀ n s, I n s → wpAny (model prog w) A (pyNext it) (fun r s₁ => match r with
      | none => R (.ok .next) s₁
      | some v => wpAny (model prog w) A (assign target env v) (fun _ s₂ => wpAny (model prog w) A (eval elt env) (fun x s₃ =>
          wpAny (model prog w) A (call (.builtin "set.add") [acc, x]) (fun _ s₄ => ∃ m, m < n ∧ I m s₄) (notedBy (model prog w) A env fun e s' => R (.error e) s') s₃)
          (notedBy (model prog w) A env fun e s' => R (.error e) s') s₂) (notedBy (model prog w) A env fun e s' => R (.error e) s') s₁) (notedBy (model prog w) A env fun e s' => R (.error e) s') s)
    (n : Nat) (h : I n s) (ht : ∀ v, letOwnedTupleGo target it v = pure () := by intro _; rfl) :
    codeAny (model prog w) A (.compLoop (.SetComp elt [⟨target, iter, [], 0⟩] scope pos) 0 it acc env) R s := by
  refine codeAny_loop rfl I (fun n s hI => ?_) n h
  show wpAny _ A ((compTurn (.SetComp elt [⟨target, iter, [], 0⟩] scope pos) 0 it acc env).onRaise (fun x => do noteFrame x env; theTreesLotGoes x)) _ _ s
  refine wpAny_noted ?_
  rw [compTurn_set]
  refine wpAny_bind (wpAny_standAt (wpAny_bind (wpAny_mono (turn n s hI) (fun r s₁ h₁ => ?_) fun _ _ h' => h')))
  cases r with
  | none => exact wpAny_pure h₁
  | some v =>
    refine wpAny_bind (wpAny_of_eq (ht v) ?_)
    refine wpAny_bind (wpAny_mono h₁ (fun _ s₂ h₂ => wpAny_bind (wpAny_bind (wpAny_mono h₂ (fun x s₃ h₃ => wpAny_bind (wpAny_standAt (wpAny_bind (wpAny_mono h₃ (fun _ s₄ h₄ => wpAny_pure (wpAny_pure ⟨rfl, h₄⟩)) fun _ _ h' => h')))) fun _ _ h' => h'))) fun _ _ h' => h')
end
end Mine
end
section
open PySem PySem.W PyProof.Rows PySem.Calls
set_option Elab.async false
set_option maxRecDepth 100000
set_option maxHeartbeats 8000000
set_option linter.unusedVariables false
namespace Mine
open LCg
section
variable {prog : Program} {w : World} {A : Around} {E : Value → Shared → Prop} {s : Shared} {h₀ : Heap} {L : Addr} {m : Str → Option Value} {env : Env}
noncomputable def setStep (b : Bool) (i : Nat) (o : Obj) : Prop := (i = 0 ∧ o = setO #[] 0 (st0 b)) ∨ (0 < i ∧ ∃ ep, o = setO #[(1, .bool true)] ep (st1 b))
noncomputable def TruesAt (prog : Program) (w : World) (A : Around) (h₀ : Heap) (L : Addr) (m : Str → Option Value) (env : Env) (elt : Expr) (x : Str) (scope : Scope) (cl : List (Str × Addr)) (its : Array Value) (news : List (Addr × Obj)) (s : Shared) : Prop :=
  ∀ (k : Nat) (v : Value), its[k]? = some v → ∀ (C : Addr) (oC : Obj) (m₂ : Str → Option Value) (h : Heap) (tk : Nat) (nw : List (Addr × Obj)) (E' Q' : Value → Shared → Prop), NsObj oC m₂ → m₂ x = some v → Fr h₀ L h m → News h₀ L h ((C, oC) :: nw) → (∀ p ∈ news, p ∈ nw) →
    (∀ h' tk', Fr h₀ L h' m → News h₀ L h' ((C, oC) :: nw) → Q' (.bool true) { s with heap := h', toks := tk' }) → wpAny (model prog w) A (eval elt (compEnvC scope cl C env)) Q' E' { s with heap := h, toks := tk }
noncomputable def SrcS (prog : Program) (w : World) (A : Around) (h₀ : Heap) (L : Addr) (m : Str → Option Value) (env : Env) (elt : Expr) (x : Str) (scope : Scope) (cl : List (Str × Addr)) (Q : Value → Shared → Prop) (xv : Value) (s₁ : Shared) : Prop :=
  ∃ ax its news, xv = .ref ax ∧ A.handled = none ∧ Fr h₀ L s₁.heap m ∧ News h₀ L s₁.heap news ∧ (ax, tupX its) ∈ news ∧ 0 < its.size ∧ its.size ≤ 100 ∧
      TruesAt prog w A h₀ L m env elt x scope cl its news s₁ ∧ (∀ h' tk D ep b, Fr h₀ L h' m → News h₀ L h' ((D, setO #[(1, .bool true)] ep (st1 b)) :: news) → (∀ p ∈ news, p.1 < D) → b = !(w.params.followText "set-order") → Q (.ref D) { s₁ with heap := h', toks := tk })
theorem SrcS.mk' {elt : Expr} {x : Str} {scope : Scope} {cl : List (Str × Addr)} {Q : Value → Shared → Prop} {ax : Addr} (its : Array Value) {news : List (Addr × Obj)} {s₁ : Shared}
    (hh : A.handled = none) (F : Fr h₀ L s₁.heap m) (N : News h₀ L s₁.heap news) (hm : (ax, tupX its) ∈ news) (h0 : 0 < its.size) (hsz : its.size ≤ 100)
    (hT : TruesAt prog w A h₀ L m env elt x scope cl its news s₁) (hQ : ∀ h' tk D ep b, Fr h₀ L h' m → News h₀ L h' ((D, setO #[(1, .bool true)] ep (st1 b)) :: news) → (∀ p ∈ news, p.1 < D) → b = !(w.params.followText "set-order") → Q (.ref D) { s₁ with heap := h', toks := tk }) :
    SrcS prog w A h₀ L m env elt x scope cl Q (.ref ax) s₁ := ⟨ax, its, news, rfl, hh, F, N, hm, h0, hsz, hT, hQ⟩
theorem SetComp_T {elt iter : Expr} {x : Str} {px : Pos} {scope : Scope} {cl : List (Str × Addr)} {pos : Pos} {Q : Value → Shared → Prop} (F₀ : Fr h₀ L s.heap m)
    (hclos : closureFor scope env = pure cl) (hcell : ∀ y ∈ scope.names, y.2 ≠ .cell) (hkind : scope.kind = .function)
    (hnames : ∀ y ∈ scope.names, y.2 = .local → scope.names.lookup y.1 = some .local) (hx : scope.names.lookup x = some .local)
    (h : wpAny (model prog w) A (eval iter env) (SrcS prog w A h₀ L m env elt x scope cl Q) E s)
    (hs : ∀ x, foldedSetIterable iter env x = pure x := by intro _; rfl) :
    wpAny (model prog w) A (eval (.SetComp elt [⟨.Name x px, iter, [], 0⟩] scope pos) env) Q E s := by
  rw [arm_eval_SetComp]
  refine wpAny_comprehension_free (use := none) rfl hs hclos hkind hnames (wpAny_mono h (fun xv s₁ h₁ => ?_) fun _ _ e => e)
  obtain ⟨ax, its, news, rfl, hh, F, N, S, hz0, hz, hT, hQ⟩ := h₁
  obtain ⟨hp₁, g, d, t, os⟩ := s₁
  have hax := N _ S
  have hl : hp₁.IsTuple ax its := ⟨_, hax.1, rfl, _, rfl⟩
  have hlt : ax < hp₁.objs.size := Heap.lt_size hax.1
  refine wpAny_pyIter_tuple hl ?_
  have F1 := F.push { cls := .type "tuple_iterator", data := .fields #[.ref ax, .int 0 0] }
  have N1 := N.push F { cls := .type "tuple_iterator", data := .fields #[.ref ax, .int 0 0] }
  dsimp only at F1 N1 ⊢
  unfold newSet setsByText
  refine wpAny_bind (wpAny_bind (wpAny_askSetting (wpAny_pure ?_)))
  show wpAny _ _ (newObj (.type "set") (.set #[] 0 (.fresh 0 0 !(w.params.followText "set-order")))) _ _ _
  generalize hb : w.params.followText "set-order" = b
  (try dsimp only)
  have mkset : ∀ (Q' : Value → Shared → Prop), (∀ D h2, Fr h₀ L h2 m → News h₀ L h2 ((D, setO #[] 0 (st0 !b)) :: (hp₁.objs.size, { cls := .type "tuple_iterator", data := .fields #[.ref ax, .int 0 0] }) :: news) → (∀ p ∈ (hp₁.objs.size, ({ cls := .type "tuple_iterator", data := .fields #[.ref ax, .int 0 0] } : Obj)) :: news, p.1 < D) → h2.objs.size = D + 1 → Q' (.ref D) ⟨h2, g, d, t, os⟩) →
      wpAny (model prog w) A (newObj (.type "set") (.set #[] 0 (.fresh 0 0 !b))) Q' E ⟨hp₁.push { cls := .type "tuple_iterator", data := .fields #[.ref ax, .int 0 0] }, g, d, t, os⟩ := by
    intro Q' hq
    refine wpAny_newObj_type (hq _ _ (F1.push (setO #[] 0 (st0 !b))) (N1.push F1 (setO #[] 0 (st0 !b))) (fun p hp => Heap.lt_size (N1 p hp).1) (by rw [Heap.size_push]))
  refine mkset _ (fun D h2 F2 N2 lD hs2 => ?_)
  refine wpAny_newFunctionEnv hcell (by intro y hy; simp at hy) (fun h₃ hns₃ hsb₃ => ?_) hkind
  dsimp only at hns₃ hsb₃ ⊢
  have hCsz : h2.objs.size = D + 1 := hs2
  have hDC : D ≠ h2.objs.size := by rw [hCsz]; exact Nat.ne_of_lt (Nat.lt_succ_self _)
  have hID : @LT.lt Nat _ hp₁.objs.size D := lD _ (.head _)
  have hnD : ∀ p ∈ news, @LT.lt Nat _ p.1 D := fun p hp => lD p (.tail _ hp)
  have hIC : hp₁.objs.size ≠ h2.objs.size := by rw [hCsz]; exact Nat.ne_of_lt (Nat.lt_succ_of_lt hID)
  have hnI : ∀ p ∈ news, p.1 ≠ hp₁.objs.size := fun p hp => Nat.ne_of_lt (Heap.lt_size (N p hp).1)
  have hnC : ∀ p ∈ news, p.1 ≠ h2.objs.size := fun p hp => by rw [hCsz]; exact Nat.ne_of_lt (Nat.lt_succ_of_lt (hnD p hp))
  have hLC : L ≠ h2.objs.size := Nat.ne_of_lt F2.ns.lt
  have hC₀ : h₀.get? h2.objs.size = none := by
    cases e : h₀.get? h2.objs.size with
    | none => rfl
    | some o' => exact absurd (Heap.lt_size (F2.keep _ _ e)) (Nat.lt_irrefl _)
  have nI := N2 (hp₁.objs.size, { cls := .type "tuple_iterator", data := .fields #[.ref ax, .int 0 0] }) (.tail _ (.head _))
  have nD := N2 (D, setO #[] 0 (st0 !b)) (.head _)
  have haxI : ax ≠ hp₁.objs.size := Nat.ne_of_lt hlt
  have old : ∀ q o, h2.get? q = some o → h₃.get? q = some o := fun q o e => hsb₃.extBut q o (Nat.ne_of_lt (Heap.lt_size e)) (Heap.get?_push_of_some _ e)
  have F3 : Fr h₀ L h₃ m := F2.keeps old
  have N3 : News h₀ L h₃ ((D, setO #[] 0 (st0 !b)) :: (hp₁.objs.size, { cls := .type "tuple_iterator", data := .fields #[.ref ax, .int 0 0] }) :: news) := fun p hp => ⟨old _ _ (N2 p hp).1, (N2 p hp).2⟩
  have hst₃ : h₃.IsTupleIter hp₁.objs.size ax 0 ∧ h₃.IsTuple ax its := ⟨⟨_, (N3 _ (.tail _ (.head _))).1, rfl, rfl⟩, ⟨_, (N3 _ (.tail _ (.tail _ S))).1, rfl, _, rfl⟩⟩
  let W := Walks.tuple (prog := prog) (w := w) hh hp₁.objs.size ax haxI its
  have loop : ∀ s₃ : Shared, s₃ = ⟨h₃, g, d, t + ([] : List (Str × Value)).length, os⟩ →
      codeAny (model prog w) A (.compLoop (.SetComp elt [⟨.Name x px, iter, [], 0⟩] scope pos) 0 (.ref hp₁.objs.size) (.ref D) (compEnvC scope cl h2.objs.size env))
        (compPost (model prog w) A E none Q (.ref D) h2.objs.size) s₃ := by
    rintro s₃ rfl
    refine compLoop_set
      (fun k s' => ∃ h' tk i so m', s' = ⟨h', g, d, tk, os⟩ ∧ i ≤ its.size ∧ k = its.size + 1 - i ∧ setStep (!b) i so ∧ (h'.IsTupleIter hp₁.objs.size ax i ∧ h'.IsTuple ax its) ∧ Fr h₀ L h' m ∧ h'.Ns h2.objs.size m' ∧ News h₀ L h' ((D, so) :: news)) ?_ (its.size + 1)
      ⟨h₃, _, 0, setO #[] 0 (st0 !b), _, rfl, Nat.zero_le _, rfl, .inl ⟨rfl, rfl⟩, hst₃, F3, hns₃, fun p hp => ?_⟩
    · rintro k s' ⟨h', tk, i, so, m', rfl, hi, rfl, hso, hst', F', hn', N'⟩
      by_cases hlt : i < its.size
      · refine W.item i _ _ _ hlt hst' fun v h₂ tk₂ hPv hst₂ hk₂ => ?_
        refine wpAny_assign_Name (wpAny_storeName_local (lookup_relabel_local hx) (hn'.at' fun o e => hk₂ _ o (by simpa using Ne.symm hIC) e) (fun h₄ hn₄ hs₄ => ?_) (by simp [compEnvC, relabel, hkind]))
        obtain ⟨oC, heC, hoC⟩ := ns_obj hn₄
        obtain ⟨⟨oI, hoI, hoIr⟩, -⟩ := hst₂
        have hLI : L ≠ hp₁.objs.size := nI.2.1.symm
        have F₂ : Fr h₀ L h₂ m := fr_but F' hk₂ hLI nI.2.2
        have F₄ : Fr h₀ L h₄ m := F₂.change hs₄ hLC.symm hC₀
        have N₂ : News h₀ L h₂ ((D, so) :: news) := news_but N' hk₂ fun p hp => by
          rcases List.mem_cons.mp hp with rfl | hp
          · exact Nat.ne_of_gt hID
          · exact hnI p hp
        have N₄ : News h₀ L h₄ ((h2.objs.size, oC) :: (D, so) :: (hp₁.objs.size, oI) :: news) := fun p hp => by
          rcases List.mem_cons.mp hp with rfl | hp
          · exact ⟨heC, hLC.symm, hC₀⟩
          · rcases List.mem_cons.mp hp with rfl | hp
            · exact ⟨(hs₄.2 D hDC).trans (N₂ (D, so) (.head _)).1, (N₂ (D, so) (.head _)).2⟩
            · rcases List.mem_cons.mp hp with rfl | hp
              · exact ⟨(hs₄.2 _ hIC).trans hoI, nI.2⟩
              · exact ⟨(hs₄.2 _ (hnC p hp)).trans (N₂ p (.tail _ hp)).1, (N₂ p (.tail _ hp)).2⟩
        refine hT i v hPv h2.objs.size oC _ h₄ _ ((D, so) :: (hp₁.objs.size, oI) :: news) _ _ hoC (by simp) F₄ N₄ (fun p hp => .tail _ (.tail _ hp)) (fun h₅ tk₅ F₅ N₅ => ?_)
        have N₅' : News h₀ L h₅ ((D, so) :: (h2.objs.size, oC) :: (hp₁.objs.size, oI) :: news) := fun p hp => N₅ p (by
          rcases List.mem_cons.mp hp with rfl | hp
          · exact .tail _ (.head _)
          · rcases List.mem_cons.mp hp with rfl | hp
            · exact .head _
            · exact .tail _ (.tail _ hp))
        rcases hso with ⟨rfl, rfl⟩ | ⟨hpos, ep, rfl⟩
        · refine set_add0 F₅ N₅' (fun p hp => ?_) (fun h₆ ep' F₆ N₆ => ⟨its.size + 1 - (0 + 1), by omega, h₆, _, 0 + 1, setO #[(1, .bool true)] ep' (st1 !b), _, rfl, hlt, rfl, .inr ⟨by omega, ep', rfl⟩, ⟨⟨oI, (N₆ _ (.tail _ (.tail _ (.head _)))).1, hoIr⟩, ⟨_, (N₆ _ (.tail _ (.tail _ (.tail _ S)))).1, rfl, _, rfl⟩⟩, F₆, hoC.ns (N₆ _ (.tail _ (.head _))).1, fun p hp => ?_⟩)
          · rcases List.mem_cons.mp hp with rfl | hp
            · exact hDC.symm
            · rcases List.mem_cons.mp hp with rfl | hp
              · exact Nat.ne_of_lt hID
              · exact Nat.ne_of_lt (hnD p hp)
          · rcases List.mem_cons.mp hp with rfl | hp
            · exact N₆ _ (.head _)
            · exact N₆ _ (.tail _ (.tail _ (.tail _ hp)))
        · refine set_add1 N₅' ⟨its.size + 1 - (i + 1), by omega, h₅, _, i + 1, setO #[(1, .bool true)] ep (st1 !b), _, rfl, hlt, rfl, .inr ⟨by omega, ep, rfl⟩, ⟨⟨oI, (N₅' _ (.tail _ (.tail _ (.head _)))).1, hoIr⟩, ⟨_, (N₅' _ (.tail _ (.tail _ (.tail _ S)))).1, rfl, _, rfl⟩⟩, F₅, hoC.ns (N₅' _ (.tail _ (.head _))).1, fun p hp => ?_⟩
          rcases List.mem_cons.mp hp with rfl | hp
          · exact N₅' _ (.head _)
          · exact N₅' _ (.tail _ (.tail _ (.tail _ hp)))
      · obtain rfl : i = its.size := Nat.le_antisymm hi (Nat.not_lt.mp hlt)
        refine W.done _ _ _ hst' fun h₂ tk₂ hk₂ => ?_
        rcases hso with ⟨e0, -⟩ | ⟨-, ep, rfl⟩
        · omega
        · refine ⟨m', hn'.at' fun o e => hk₂ _ o (by simpa using Ne.symm hIC) e, fun h'' hs'' => ?_⟩
          have F₂ : Fr h₀ L h₂ m := fr_but F' hk₂ nI.2.1.symm nI.2.2
          have N₂ : News h₀ L h₂ ((D, setO #[(1, .bool true)] ep (st1 !b)) :: news) := news_but N' hk₂ fun p hp => by
            rcases List.mem_cons.mp hp with rfl | hp
            · exact Nat.ne_of_gt hID
            · exact hnI p hp
          refine hQ h'' tk₂ D ep (!b) (F₂.change hs'' hLC.symm hC₀) (fun p hp => ⟨(hs''.2 p.1 ?_).trans (N₂ p hp).1, (N₂ p hp).2⟩) hnD (by rw [hb])
          rcases List.mem_cons.mp hp with rfl | hp
          · exact hDC
          · exact hnC p hp
    · rcases List.mem_cons.mp hp with rfl | hp
      · exact N3 _ (.head _)
      · exact N3 _ (.tail _ (.tail _ hp))
  exact compStart_set (loop _ rfl) (W.self 0 _ _ _ hst₃ (loop _ rfl))
end
end Mine
end
section
open PySem PySem.W PyProof.Rows PySem.Calls
set_option Elab.async false
set_option maxRecDepth 100000
set_option maxHeartbeats 8000000
set_option linter.unusedVariables false
namespace Mine
theorem entry_set_iter : entryFor table "set.__iter__" = some Builtin.«frozenset.__iter__» :=
  entryFor_alias (id' := "frozenset.__iter__") (by kernel_rfl) (by first | rfl | decide +kernel | (unfold String.splitOn; simp +decide [String.splitOnAux])) (by decide +kernel) (by kernel_rfl)
theorem slot_seti_next : Slot "set_iterator" "__next__" "set_iterator.__next__" := .of (owner := "set_iterator") (n := "__next__") (by rw [typeLookup_type, builtinLookup_eq_fast]; kernel_rfl) (by decide +kernel) (by decide +kernel) (by decide +kernel)
  (by first | exact .inl (by decide +kernel) | exact .inr (by decide +kernel)) (by rw [isSubtype_type]; kernel_rfl)
theorem entry_seti_next : entryFor table "set_iterator.__next__" = some Builtin.«set_iterator.__next__» := entryFor_of_tree (by kernel_rfl)
theorem args_seti_next (a : Value) : argsOk "set_iterator.__next__" ⟨[a], []⟩ := by unfold argsOk; kernel_rfl
section
variable {prog : Program} {w : World} {A : Around} {E : Value → Shared → Prop} {h₀ h : Heap} {L : Addr} {m : Str → Option Value} {news : List (Addr × Obj)} {g : Array GenState} {d : Drawn} {t : Nat} {os : OsState} {D : Addr} {ep : Nat} {b : Bool}
theorem set_iter {Q : Value → Shared → Prop} (F : Fr h₀ L h m) (N : News h₀ L h ((D, setO #[(1, .bool true)] ep (st1 b)) :: news))
   (hq : ∀ I h', Fr h₀ L h' m → News h₀ L h' ((I, { cls := .type "set_iterator", data := .fields #[.int 0 0, .int 0 0, .ref D, .int 1 0, .int ep 0] }) :: (D, setO #[(1, .bool true)] ep (st1 b)) :: news) → (∀ p ∈ (D, setO #[(1, .bool true)] ep (st1 b)) :: news, p.1 < I) → Q (.ref I) ⟨h', g, d, t, os⟩) :
   wpAny (model prog w) A (pyIter (.ref D)) Q E ⟨h, g, d, t, os⟩ := by
  have hT : Shared.TypeIs ⟨h, g, d, t, os⟩ (.ref D) "set" := ⟨_, (N _ (.head _)).1, rfl⟩
  refine wpAny_pyIter_slot hT PySem.F.slot_set_iter (wpAny_call_entry PySem.F.slot_set_iter hT entry_set_iter ?_ (PySem.F.args_set_iter_1 _))
  repeat (first
    | ((with_reducible refine' W_setState ?hN ?hm ?hf ?_); (case hN => assumption); (case hm => exact .head _); (case hf => exact fits1))
    | ((with_reducible refine' W_alloc ?hF ?hN ?hf ?_); (case hF => assumption); (case hN => assumption); (case hf => rfl); intro I h2 F2 N2 lD)
    | wp_step)
  refine wpAny_askSetting (wpAny_pure (wpAny_pure ?_))
  generalize Params.followText _ _ = X
  have fin : ∀ (h2 : Heap) (Q' : PySem.Fin → Shared → Prop), True := fun _ _ => trivial
  rw [if_neg (by cases X <;> cases b <;> decide +kernel)]
  refine wpAny_bind (wpAny_pure ?_)
  dsimp only
  unfold setEpoch
  refine wpAny_bind (wpAny_bind (W_setState N (.head _) fits1 (wpAny_pure ?_)))
  refine wpAny_bind (wpAny_newObj_type ?_)
  refine wpAny_pure ⟨_, rfl, "set_iterator", _, ⟨_, Heap.get?_push_size _ rfl, rfl⟩, slot_seti_next.lookup, ?_⟩
  exact hq _ _ (F.push _) (N.push F _) (fun p hp => Heap.lt_size (N p hp).1)
noncomputable abbrev stIt (k n : Int) (D : Addr) (ep : Nat) : Obj := { cls := .type "set_iterator", data := .fields #[.int k 0, .int n 0, .ref D, .int 1 0, .int ep 0] }
theorem pick1 (next : Nat → Nat) (e : Int × Value) : pickOrder next #[e] = #[e] := by
  unfold pickOrder
  simp only [List.size_toArray, List.length_cons, List.length_nil]
  show pickOrder.go next 1 0 [e] #[] = _
  unfold pickOrder.go
  simp [Nat.mod_one]
  rfl
theorem setNext0 {Q : Option (Value × Nat) → Shared → Prop} (N : News h₀ L h news) (hm : (D, setO #[(1, .bool true)] ep (st1 b)) ∈ news) (hb : b = !(w.params.followText "set-order"))
   (hq : ∀ k, (w.params.followText "set-order" = false → k = 2) → Q (some (.bool true, k)) ⟨h, g, d, t, os⟩) : wpAny (model prog w) A (setNext D 0 0 ep) Q E ⟨h, g, d, t, os⟩ := by
  unfold setNext setsByText
  refine wpAny_bind (W_setState N hm fits1 ?_)
  dsimp only
  refine wpAny_bind (wpAny_bind (wpAny_askSetting (wpAny_pure ?_)))
  show wpAny _ _ (if (w.params.followText "set-order") = true then _ else _) _ _ _
  cases hX : w.params.followText "set-order" with
  | true =>
    rw [if_pos rfl, if_neg (by simp)]
    unfold setWalk setsByText
    refine wpAny_bind (wpAny_bind (W_setState N hm fits1 ?_))
    dsimp only
    refine wpAny_bind (wpAny_bind (wpAny_askSetting (wpAny_pure ?_)))
    show wpAny _ _ (if (w.params.followText "set-order") = true then _ else _) _ _ _
    rw [hX, if_pos rfl]
    refine wpAny_bind (wpAny_askSetting (wpAny_pure ?_))
    rw [pick1]
    refine wpAny_pure ?_
    exact hq 0 (fun e => by rw [hX] at e; cases e)
  | false =>
    rw [if_neg Bool.false_ne_true]
    rw [hX] at hb
    subst hb
    rw [if_neg (by decide +kernel)]
    refine wpAny_bind (wpAny_of_eq (a := ()) (by kernel_rfl) ?_)
    refine wpAny_of_eq (a := some (Value.bool true, 2)) (by kernel_rfl) ?_
    exact hq 2 (fun _ => rfl)
theorem pickN (next : Nat → Nat) (e : Int × Value) : (pickOrder next #[e])[1]? = none := by rw [pick1]; rfl
theorem setNext1 {k : Nat} {Q : Option (Value × Nat) → Shared → Prop} (N : News h₀ L h news) (hm : (D, setO #[(1, .bool true)] ep (st1 b)) ∈ news) (hb : b = !(w.params.followText "set-order")) (hk : w.params.followText "set-order" = false → k = 2)
   (hq : Q none ⟨h, g, d, t, os⟩) : wpAny (model prog w) A (setNext D k 1 ep) Q E ⟨h, g, d, t, os⟩ := by
  unfold setNext setsByText
  refine wpAny_bind (W_setState N hm fits1 ?_)
  dsimp only
  refine wpAny_bind (wpAny_bind (wpAny_askSetting (wpAny_pure ?_)))
  show wpAny _ _ (if (w.params.followText "set-order") = true then _ else _) _ _ _
  cases hX : w.params.followText "set-order" with
  | true =>
    rw [if_pos rfl, if_neg (by simp)]
    unfold setWalk setsByText
    refine wpAny_bind (wpAny_bind (W_setState N hm fits1 ?_))
    dsimp only
    refine wpAny_bind (wpAny_bind (wpAny_askSetting (wpAny_pure ?_)))
    show wpAny _ _ (if (w.params.followText "set-order") = true then _ else _) _ _ _
    rw [hX, if_pos rfl]
    refine wpAny_bind (wpAny_askSetting (wpAny_pure ?_))
    rw [pickN]
    exact wpAny_pure hq
  | false =>
    rw [if_neg Bool.false_ne_true]
    have hk2 := hk hX
    rw [hX] at hb
    subst hb hk2
    rw [if_neg (by decide +kernel)]
    refine wpAny_bind (wpAny_of_eq (a := ()) (by kernel_rfl) ?_)
    exact wpAny_of_eq (a := none) (by kernel_rfl) hq
theorem seti_item {I : Addr} {Q : Option Value → Shared → Prop} (F : Fr h₀ L h m) (N : News h₀ L h ((I, stIt 0 0 D ep) :: (D, setO #[(1, .bool true)] ep (st1 b)) :: news)) (hb : b = !(w.params.followText "set-order")) (hI : ∀ p ∈ (D, setO #[(1, .bool true)] ep (st1 b)) :: news, p.1 ≠ I)
   (hq : ∀ h' (k : Nat), Fr h₀ L h' m → News h₀ L h' ((I, stIt k 1 D ep) :: (D, setO #[(1, .bool true)] ep (st1 b)) :: news) → (w.params.followText "set-order" = false → k = 2) → Q (some (.bool true)) ⟨h', g, d, t, os⟩) :
   wpAny (model prog w) A (pyNext (.ref I)) Q E ⟨h, g, d, t, os⟩ := by
  have hT : Shared.TypeIs ⟨h, g, d, t, os⟩ (.ref I) "set_iterator" := ⟨_, (N _ (.head _)).1, rfl⟩
  have hit := (N _ (.head _)).1
  have nI := N _ (.head _)
  unfold pyNext
  refine wpAny_bind (wpAny_attempt (wpAny_callSpecial?_slot (name := Str.ofString "__next__") hT slot_seti_next
    (wpAny_call_entry slot_seti_next hT entry_seti_next ?_ (args_seti_next _))))
  refine wpAny_bind (wpAny_pure ?_)
  (try dsimp only)
  refine wpAny_bind (wpAny_fieldsOf hit rfl ?_)
  (try dsimp only)
  unfold setEntries
  refine wpAny_bind (wpAny_bind (W_setState N (.tail _ (.head _)) fits1 (wpAny_pure ?_)))
  (try dsimp only)
  rw [if_neg (by decide)]
  (try dsimp only)
  refine wpAny_bind (setNext0 N (.tail _ (.head _)) hb (fun k hk => ?_))
  dsimp only
  refine wpAny_bind (wpAny_setField_rec hit (by simp) fun h₁ e₁ s₁ => ?_)
  refine wpAny_bind (wpAny_setField_rec e₁ (by simp) fun h₂ e₂ s₂ => ?_)
  refine wpAny_pure ⟨_, rfl, ?_⟩
  refine wpAny_pure (hq h₂ k (kas_fr (kas_fr F s₁ nI.2.1 nI.2.2) s₂ nI.2.1 nI.2.2) (fun p hp => ?_) hk)
  rcases List.mem_cons.mp hp with rfl | hp
  · exact ⟨e₂, nI.2⟩
  · exact kas_news (kas_news (fun q hq => N q (.tail _ hq)) s₁ hI) s₂ hI p hp
theorem isStop : isSubtype (.type "StopIteration") (.type "StopIteration") = pure true := by rw [isSubtype_type]; kernel_rfl
theorem seti_end {I : Addr} {k : Nat} {Q : Option Value → Shared → Prop} (hh : A.handled = none) (F : Fr h₀ L h m) (N : News h₀ L h ((I, stIt k 1 D ep) :: (D, setO #[(1, .bool true)] ep (st1 b)) :: news)) (hb : b = !(w.params.followText "set-order")) (hk : w.params.followText "set-order" = false → k = 2) (hI : ∀ p ∈ (D, setO #[(1, .bool true)] ep (st1 b)) :: news, p.1 ≠ I)
   (hq : ∀ h', Fr h₀ L h' m → News h₀ L h' news → Q none ⟨h', g, d, t, os⟩) :
   wpAny (model prog w) A (pyNext (.ref I)) Q E ⟨h, g, d, t, os⟩ := by
  have hT : Shared.TypeIs ⟨h, g, d, t, os⟩ (.ref I) "set_iterator" := ⟨_, (N _ (.head _)).1, rfl⟩
  have hit := (N _ (.head _)).1
  have nI := N _ (.head _)
  unfold pyNext
  refine wpAny_bind (wpAny_attempt (wpAny_callSpecial?_slot (name := Str.ofString "__next__") hT slot_seti_next
    (wpAny_call_entry slot_seti_next hT entry_seti_next ?_ (args_seti_next _))))
  refine wpAny_bind (wpAny_pure ?_)
  (try dsimp only)
  refine wpAny_bind (wpAny_fieldsOf hit rfl ?_)
  (try dsimp only)
  unfold setEntries
  refine wpAny_bind (wpAny_bind (W_setState N (.tail _ (.head _)) fits1 (wpAny_pure ?_)))
  (try dsimp only)
  rw [if_neg (by decide)]
  (try dsimp only)
  rw [Int.toNat_natCast]
  refine wpAny_bind (setNext1 N (.tail _ (.head _)) hb hk ?_)
  dsimp only
  refine wpAny_bind (wpAny_setField_rec hit (by simp) fun h₁ e₁ s₁ => ?_)
  refine wpAny_bind ?_
  simp only [newExc, newTuple]
  refine wpAny_bind (wpAny_newObj_type ?_ (by size_fits))
  refine wpAny_bind (m := firstArgMember _ _) (wpAny_of_eq (a := Value.none) (by first | rfl | (simp only [firstArgMember]; rfl)) ?_)
  refine wpAny_newObj_type ?_ (by size_fits)
  simp only [raiseNew]
  refine wpAny_bind (wpAny_handled ?_)
  rw [show A.in1.handled = none from hh]
  refine wpAny_bind (wpAny_pure (wpAny_throw ?_))
  refine wpAny_bind (wpAny_isInstance (T := "StopIteration") (b := true) ⟨_, Heap.get?_push_size _ rfl, rfl⟩ isStop ?_)
  have F1 := kas_fr F s₁ nI.2.1 nI.2.2
  have N1 := kas_news (fun q hq => N q (.tail _ (.tail _ hq))) s₁ (fun p hp => hI p (.tail _ hp))
  exact wpAny_pure (hq _ ((F1.push _).push _) (fun p hp => ⟨Heap.get?_push_of_some _ (Heap.get?_push_of_some _ (N1 p hp).1), (N1 p hp).2⟩))
theorem unpackSet {Q : List Value → Shared → Prop} (hh : A.handled = none) (F : Fr h₀ L h m) (N : News h₀ L h ((D, setO #[(1, .bool true)] ep (st1 b)) :: news)) (hb : b = !(w.params.followText "set-order"))
   (hq : ∀ h', Fr h₀ L h' m → News h₀ L h' news → Q [.bool true] ⟨h', g, d, t, os⟩) : wpAny (model prog w) A (unpackItems (.ref D) 1 none) Q E ⟨h, g, d, t, os⟩ := by
  have hT : Shared.TypeIs ⟨h, g, d, t, os⟩ (.ref D) "set" := ⟨_, (N _ (.head _)).1, rfl⟩
  have hl := PySem.F.slot_set_iter.lookup
  unfold unpackItems
  have nD : ∀ p ∈ (D, setO #[(1, .bool true)] ep (st1 b)) :: news, True := fun _ _ => trivial
  repeat (first
    | ((with_reducible refine' set_iter ?hF ?hN ?_); (case hF => assumption); (case hN => assumption); intro I h2 F2 N2 l2)
    | ((with_reducible refine' seti_item ?hF ?hN hb ?hI ?_); (case hF => assumption); (case hN => assumption); (case hI => exact fun p hp => Nat.ne_of_lt (l2 p hp)); intro h3 k F3 N3 hk)
    | ((with_reducible refine' seti_end hh ?hF ?hN hb hk ?hI ?_); (case hF => assumption); (case hN => assumption); (case hI => exact fun p hp => Nat.ne_of_lt (l2 p hp)); intro h4 F4 N4)
    | (with_reducible refine wpAny_typeOf hT ?_)
    | wp_step)
  all_goals exact hq _ F4 N4
theorem assign_set1 {env : Env} {x : Str} {px tpos : Pos} {k} {Q : Unit → Shared → Prop} (hh : A.handled = none) (F : Fr h₀ L h m) (N : News h₀ L h ((D, setO #[(1, .bool true)] ep (st1 b)) :: news)) (hb : b = !(w.params.followText "set-order"))
   (hq : ∀ h', Fr h₀ L h' m → News h₀ L h' news → wpAny (model prog w) A (assign (.Name x px) env (.bool true)) Q E ⟨h', g, d, t, os⟩) : wpAny (model prog w) A (assign (.Tuple [.Name x px] k tpos) env (.ref D)) Q E ⟨h, g, d, t, os⟩ := by
  rw [arm_assign_Tuple]
  refine wpAny_bind (wpAny_standAt ?_)
  unfold unpack
  refine wpAny_bind (wpAny_holding ?_)
  show wpAny _ _ (unpackItems (.ref D) 1 none) _ _ _
  refine unpackSet hh F N hb fun h' F' N' => ?_
  show wpAny _ _ (assignInOrder [assign (.Name x px) env] [.bool true]) _ _ _
  unfold assignInOrder
  have h2 := hq h' F' N'
  refine wpAny_bind (wpAny_holding (wpAny_mono h2 (fun _ s' hs => ?_) fun _ _ e => e))
  exact wpAny_pure hs
end
end Mine
end
section
open PySem PySem.W PyProof.Rows PySem.Calls
set_option Elab.async false
set_option maxRecDepth 100000
set_option maxHeartbeats 8000000
set_option linter.unusedVariables false
namespace Mine
open LCg LCt
noncomputable def keepC (x : Str) : Bool := ((x.length : Int) != 0) && (x != Str.ofString ".")
section
variable {w : World} {p : Program} {loose : List Str} {mean : ExcName → Option Value} {mg mb : Str → Option Value} {dp un : Nat} {gd : Option (List Code)} {cn : Str} {cs : Scope} {a : Addr} {ccd : Value} {cl : List (Str × Addr)} {outer : List Env} {A₀ : Around} {base h₀ : Heap} {L : Addr} {m : Str → Option Value} {news : List (Addr × Obj)} {s : Shared} {Q E : Value → Shared → Prop}
theorem filt_test {env : Env} {scope : Scope} {cl2 : List (Str × Addr)} {C ce : Addr} {oC oce : Obj} {m₂ : Str → Option Value} {z : Str} {tz tc : Tok} {p1 p2 p3 p4 p5 : Pos} {W : Sem Value} {E' : Value → Shared → Prop} {Q' : Bool → Shared → Prop} {A : Around}
   (N : News h₀ L s.heap news)
   (hkf : (compEnvC scope cl2 C env).scope.kind = .function) (hkc : (compEnvC scope cl2 C env).kindOf (Str.ofString "c") = some .local) (hkd : (compEnvC scope cl2 C env).kindOf (Str.ofString "curdir") = some .cell) (hce : cl2.lookup (Str.ofString "curdir") = some ce)
   (hC : NsObj oC m₂) (hx : m₂ (Str.ofString "c") = some (.str z tz)) (hCm : (C, oC) ∈ news) (hcm : (ce, oce) ∈ news) (hcd : oce.data = .cell (some (.str (Str.ofString ".") tc))) (hz : z.length ≤ 100)
   (hq : ∀ tk, Q' (keepC z) { s with toks := tk }) :
   wpAny (model PySem.Challenge.rw_il0172_01.row.prog w) A (isTrue (.BoolOp .And [.Name (Str.ofString "c") p1, .Compare (.Name (Str.ofString "c") p2) [.NotEq] [.Name (Str.ofString "curdir") p3] p4] p5) (compEnvC scope cl2 C env) W) Q' E' s := by
  refine isTrue_and (isTrue_plain (LCgL.ld_own N hCm hC hx ?_ hkf hkc (by decide)) rfl)
  refine P.truthy_str (by omega) ?_
  unfold keepC at hq
  cases hb : ((z.length : Int) != 0) with
  | false =>
    simp only [hb, Bool.false_and] at hq
    exact hq _
  | true =>
    simp only [hb, Bool.true_and] at hq
    refine isTrue_and (wpAny_isTrue_Compare1 (LCgL.ld_own N hCm hC hx ?_ hkf hkc (by decide)) (by with_unfolding_all rfl))
    refine lcf_cell N hce hcm hcd ?_ hkf hkd
    refine PyProof.Rows.ne_str (wpAny_truthy_bool ?_)
    cases hb2 : (z != Str.ofString ".") with
    | false => rw [hb2] at hq; exact hq _
    | true => rw [hb2] at hq; exact isTrue_and_nil (hq _)
end
end Mine
end
section
open PySem PySem.W PyProof.Rows PySem.Calls
set_option Elab.async false
set_option maxRecDepth 100000
set_option maxHeartbeats 8000000
set_option linter.unusedVariables false
namespace Mine
open LCg LCt
theorem filter_take_succ {xs : List Str} {i : Nat} {z : Str} (h : xs[i]? = some z) : (xs.take (i + 1)).filter keepC = (xs.take i).filter keepC ++ if keepC z then [z] else [] := by
  rw [List.take_add_one, h]
  simp only [Option.toList_some, List.filter_append]
  cases hk : keepC z <;> simp [hk]
section
variable {w : World} {p : Program} {loose : List Str} {mean : ExcName → Option Value} {mg mb : Str → Option Value} {dp un : Nat} {gd : Option (List Code)} {cn : Str} {cs : Scope} {a : Addr} {ccd : Value} {cl : List (Str × Addr)} {outer : List Env} {A₀ : Around} {base h₀ : Heap} {L : Addr} {m : Str → Option Value} {news : List (Addr × Obj)} {s : Shared} {Q E : Value → Shared → Prop}
theorem filt_rest {env : Env} {scope : Scope} {cl2 : List (Str × Addr)} {A : Around} {ce : Addr} {oce : Obj} {tc : Tok} {p1 p2 p3 p4 p5 pe : Pos} {S : List (Addr × Obj) → Prop} {Fin : List Value → List (Addr × Obj) → Prop} {xs : List Str} {vs : List Value}
   (hkf : scope.kind = .function) (hkc : ∀ C, (compEnvC scope cl2 C env).kindOf (Str.ofString "c") = some .local) (hkd : ∀ C, (compEnvC scope cl2 C env).kindOf (Str.ofString "curdir") = some .cell) (hce : cl2.lookup (Str.ofString "curdir") = some ce)
   (hcm : (ce, oce) ∈ news) (hcd : oce.data = .cell (some (.str (Str.ofString ".") tc))) (hvs : StrsOf vs xs) (hz : ∀ z ∈ xs, z.length ≤ 100) (hS : S news)
   (fin : ∀ ys, StrsOf ys (xs.filter keepC) → Fin ys news) :
   CompRestT PySem.Challenge.rw_il0172_01.row.prog w A h₀ L m env (.BoolOp .And [.Name (Str.ofString "c") p1, .Compare (.Name (Str.ofString "c") p2) [.NotEq] [.Name (Str.ofString "curdir") p3] p4] p5) (.Name (Str.ofString "c") pe) (Str.ofString "c") scope cl2 s S (fun i v => (List.toArray vs)[i]? = some v) Fin (List.toArray vs).size 0 [] news := by
  have key : ∀ (j i : Nat) (ys : List Value), i + j = xs.length → StrsOf ys ((xs.take i).filter keepC) → CompRestT PySem.Challenge.rw_il0172_01.row.prog w A h₀ L m env (.BoolOp .And [.Name (Str.ofString "c") p1, .Compare (.Name (Str.ofString "c") p2) [.NotEq] [.Name (Str.ofString "curdir") p3] p4] p5) (.Name (Str.ofString "c") pe) (Str.ofString "c") scope cl2 s S (fun i v => (List.toArray vs)[i]? = some v) Fin j i ys news := by
    intro j
    induction j with
    | zero =>
      intro i ys hi hy
      have e : i = xs.length := by omega
      subst e
      rw [List.take_length] at hy
      exact CompRestT.zero (fin ys hy)
    | succ j ih =>
      intro i ys hi hy
      refine CompRestT.succ ?_
      intro v I oI C oC D m₂ h tk E' hv hC hx F N off ne
      obtain ⟨tz, z, hzx, rfl⟩ := hvs.at (by simpa using hv)
      have hs := filter_take_succ hzx
      refine filt_test (news := (I, oI) :: (C, oC) :: (D, lst ys) :: news) (s := { s with heap := h, toks := tk }) N hkf (hkc C) (hkd C) hce hC hx (.tail _ (.head _)) (.tail _ (.tail _ (.tail _ hcm))) hcd (hz z (List.mem_of_getElem? hzx)) (fun tk2 => ?_)
      cases hkz : keepC z with
      | true =>
        rw [hkz, if_pos rfl] at hs
        simp only [if_true]
        refine LCgL.ld_own (news := (I, oI) :: (C, oC) :: (D, lst ys) :: news) N (.tail _ (.head _)) hC hx ?_ hkf (hkc C) (by decide)
        refine ⟨h, tk2, news, rfl, F, N, off, hS, ih (i + 1) _ (by omega) ?_⟩
        rw [hs]
        exact hy.append (.cons z tz .nil)
      | false =>
        rw [hkz, if_neg (by decide), List.append_nil] at hs
        simp only [Bool.false_eq_true, if_false]
        refine ⟨h, tk2, news, rfl, F, N, off, hS, ih (i + 1) _ (by omega) ?_⟩
        rw [hs]
        exact hy
  have hl : (List.toArray vs).size = xs.length := by rw [List.size_toArray, hvs.length]
  rw [hl]
  exact key xs.length 0 [] (by omega) .nil
theorem filt_comp {env0 : Env} {scope1 scope2 : Scope} {cl1 cl2 : List (Str × Addr)} {A : Around} {C1 ax ce : Addr} {oC1 oce : Obj} {m1 : Str → Option Value} {tc : Tok} {p0 p1 p2 p3 p4 p5 pe px pos : Pos} {k : Nat} {xs : List Str} {vs : List Value}
   (hh : A.handled = none) (F : Fr h₀ L s.heap m) (N : News h₀ L s.heap news)
   (hC1 : NsObj oC1 m1) (hx1 : m1 (Str.ofString "s") = some (.ref ax)) (hCm : (C1, oC1) ∈ news) (hax : (ax, ({ cls := .type "list", data := .seq (List.toArray vs) k } : Obj)) ∈ news)
   (hcm : (ce, oce) ∈ news) (hcd : oce.data = .cell (some (.str (Str.ofString ".") tc))) (hvs : StrsOf vs xs) (hz : ∀ z ∈ xs, z.length ≤ 100) (hsz : xs.length ≤ 200)
   (hret : ∀ D h tk vs', Fr h₀ L h m → News h₀ L h ((D, lst vs') :: news) → Off1 D news → StrsOf vs' (xs.filter keepC) → Q (.ref D) { s with heap := h, toks := tk })
   (hce : cl2.lookup (Str.ofString "curdir") = some ce) (hkf1 : scope1.kind = .function) (hks : ∀ C, (compEnvC scope1 cl1 C env0).kindOf (Str.ofString "s") = some .local) (hkf : scope2.kind = .function)
   (hkc : ∀ C C', (compEnvC scope2 cl2 C' (compEnvC scope1 cl1 C env0)).kindOf (Str.ofString "c") = some .local) (hkd : ∀ C C', (compEnvC scope2 cl2 C' (compEnvC scope1 cl1 C env0)).kindOf (Str.ofString "curdir") = some .cell)
   (hclos : closureFor scope2 (compEnvC scope1 cl1 C1 env0) = pure cl2) (hcell : ∀ y ∈ scope2.names, y.2 ≠ .cell)
   (hnames : ∀ y ∈ scope2.names, y.2 = .local → scope2.names.lookup y.1 = some .local) (hx : scope2.names.lookup (Str.ofString "c") = some .local) 
   (hs : ∀ x, foldedSetIterable (.Name (Str.ofString "s") p0) (compEnvC scope1 cl1 C1 env0) x = pure x) :
   wpAny (model PySem.Challenge.rw_il0172_01.row.prog w) A (eval (.ListComp (.Name (Str.ofString "c") pe) [⟨.Name (Str.ofString "c") px, .Name (Str.ofString "s") p0, [.BoolOp .And [.Name (Str.ofString "c") p1, .Compare (.Name (Str.ofString "c") p2) [.NotEq] [.Name (Str.ofString "curdir") p3] p4] p5], 0⟩] scope2 pos) (compEnvC scope1 cl1 C1 env0)) Q E s := by
  refine LCt.ListComp_T F hclos hcell hkf hnames hx ?_ hs
  refine LCgL.ld_own N hCm hC1 hx1 ?_ hkf1 (hks C1) (by decide)
  refine CompSrcT.ledger hh F N hax ?_ (fun g => ?_)
  · rw [List.size_toArray, hvs.length, sizeLine_eq]; exact Nat.le_trans hsz (by decide)
  · exact filt_rest hkf (fun C => hkc C1 C) (fun C => hkd C1 C) hce hcm hcd hvs hz (.inr ⟨_, hax, rfl, _, rfl⟩) (fun ys hys D h tk F' N' o => hret D h tk ys F' N' o hys)
end
end Mine
end
section
open PySem PySem.W PyProof.Rows PySem.Calls
set_option Elab.async false
set_option maxRecDepth 100000
set_option maxHeartbeats 8000000
set_option linter.unusedVariables false
namespace Mine
open AutoSeq1 (wpAny_loadPart')
open MeetsSeq MeetsSeq2 MeetsSeq3 SeqRoads2 SeqAt
noncomputable def ltStrs : List Str → List Str → Bool
  | [], [] => false
  | [], _ :: _ => true
  | _ :: _, [] => false
  | x :: xs, y :: ys => if x == y then ltStrs xs ys else decide (x.cps.toList < y.cps.toList)
theorem StrsOf.get {a : List Value} {x : List Str} (h : StrsOf a x) : ∀ {i : Nat} {y : Str}, x[i]? = some y → ∃ t, a.toArray[i]? = some (.str y t) := fun hi => by
  obtain ⟨t, e⟩ := h.at' hi
  exact ⟨t, by simpa using e⟩
theorem gt_strR {prog : Program} {w : World} {A : Around} {E : Value → Shared → Prop} {s : Shared} {x y : Str} {t u : Tok} {Q : Value → Shared → Prop} (h : Q (.bool (y.cps.toList < x.cps.toList)) s) : wpAny (model prog w) A (richCompare .Gt (.str x t) (.str y u)) Q E s :=
  compareOp_gives (op := .Gt) (typeIs_str s x t) (typeIs_str s y u) F.slot_str_gt F.entry_str_gt (F.args_str_gt_2 _ _) (gives_str_gt x y t u) (fun e => nomatch e) h
theorem lt_loop (l b : Addr) (vs vs2 : List Value) (xs ys : List Str) (n n2 : Nat) (dd dd2 : Option Addr) (sl sl2 : Array (Option Value)) (hx : StrsOf vs xs) (hy : StrsOf vs2 ys) (k : Nat) :
    ∀ i : Nat, xs.length - i = k → Meets (Builtin.«list.__eq__.loop» ⟨[.ref l, .ref b, rawInt i, rawInt 0], []⟩)
      (fun A R s => s.heap.get? l = some { cls := .type "list", dict := dd, data := .seq vs.toArray n, slots := sl } ∧ s.heap.get? b = some { cls := .type "list", dict := dd2, data := .seq vs2.toArray n2, slots := sl2 } ∧ i ≤ xs.length ∧ i ≤ ys.length ∧
        R (.ok (.ret (.bool (ltStrs (xs.drop i) (ys.drop i))))) s) := by
  induction k with
  | zero =>
    intro i hk prog w A R s h
    obtain ⟨hp, g, d, tk, os⟩ := s; obtain ⟨hl, hb, hi, hj, h⟩ := h
    wp_walk using wpAny_loadPart' hl, wpAny_loadPart' hb
    have hi1 : (vs.toArray)[((i : Nat) : Int).toNat]? = none := by simp [hx.length]; omega
    rw [hi1]
    wp_walk using wpAny_loadPart' hl, wpAny_loadPart' hb
    have e1 : xs.drop i = [] := by simp; omega
    have e2 : decide (vs.toArray.size < vs2.toArray.size) = ltStrs ([] : List Str) (ys.drop i) := by
      have : i = xs.length := by omega
      have e3 := List.length_drop (i := i) (l := ys)
      have e4 := hx.length
      have e5 := hy.length
      cases hd : ys.drop i with
      | nil => rw [hd] at e3; simp only [List.length_nil] at e3; simp only [ltStrs, List.size_toArray, decide_eq_false_iff_not, decide_eq_true_eq]; omega
      | cons a r => rw [hd] at e3; simp only [List.length_cons] at e3; simp only [ltStrs, List.size_toArray, decide_eq_false_iff_not, decide_eq_true_eq]; omega
    rw [e1, ← e2] at h
    exact h
  | succ k ih =>
    intro i hk prog w A R s h
    obtain ⟨hp, g, d, tk, os⟩ := s; obtain ⟨hl, hb, hi, hj, h⟩ := h
    wp_walk using wpAny_loadPart' hl, wpAny_loadPart' hb
    have hlt : i < xs.length := by omega
    obtain ⟨tx, ex⟩ := hx.get (List.getElem?_eq_getElem hlt)
    have hi1 : (vs.toArray)[((i : Nat) : Int).toNat]? = some (.str xs[i] tx) := ex
    have hdx : xs.drop i = xs[i] :: xs.drop (i + 1) := List.drop_eq_getElem_cons hlt
    have hc : ((i : Int) + 1) = ((i + 1 : Nat) : Int) := by push_cast; rfl
    by_cases hlt2 : i < ys.length
    · obtain ⟨ty, ey⟩ := hy.get (List.getElem?_eq_getElem hlt2)
      have hi2 : (vs2.toArray)[((i : Nat) : Int).toNat]? = some (.str ys[i] ty) := ey
      have hdy : ys.drop i = ys[i] :: ys.drop (i + 1) := List.drop_eq_getElem_cons hlt2
      rw [hdx, hdy] at h
      rw [hi1, hi2]
      refine wpAny_bind (PyProof.Rows.eqBool_str ?_)
      simp only [ltStrs] at h
      cases hb' : (xs[i] == ys[i]) with
      | true =>
        have hb2 : (ys[i] == xs[i]) = true := by rw [beq_iff_eq] at hb' ⊢; exact hb'.symm
        simp only [hb', hb2, if_true] at h
        wp_walk
        rw [hc]
        exact ⟨plainId_quiet plain_eq_loop _, codeAny_builtin entry_eq_loop (by
          rw [Around.under_plainId plain_eq_loop _]
          exact ih (i + 1) (by omega) prog w A R _ ⟨hl, hb, by omega, by omega, h⟩)⟩
      | false =>
        have hb2 : (ys[i] == xs[i]) = false := by rw [beq_eq_false_iff_ne] at hb' ⊢; exact Ne.symm hb'
        simp only [hb', hb2, Bool.false_eq_true, if_false] at h
        wp_walk using wpAny_loadPart' hl, wpAny_loadPart' hb
        rw [hi1, hi2]
        refine wpAny_bind (PyProof.Rows.lt_str ?_)
        wp_walk
        exact h
    · have hi2 : (vs2.toArray)[((i : Nat) : Int).toNat]? = none := by simp [hy.length]; omega
      rw [hi1, hi2]
      wp_walk using wpAny_loadPart' hl, wpAny_loadPart' hb
      have e1 : ys.drop i = [] := by simp; omega
      have e2 : decide (vs.toArray.size < vs2.toArray.size) = ltStrs (xs[i] :: xs.drop (i + 1)) ([] : List Str) := by
        have e4 := hx.length
        have e5 := hy.length
        simp only [ltStrs, List.size_toArray, decide_eq_false_iff_not, decide_eq_true_eq]; omega
      rw [e1, hdx, ← e2] at h
      exact h
theorem list_lt (l b : Addr) (vs vs2 : List Value) (xs ys : List Str) (n n2 : Nat) (dd dd2 : Option Addr) (sl sl2 : Array (Option Value)) (hx : StrsOf vs xs) (hy : StrsOf vs2 ys) :
    Meets (Builtin.«list.__lt__» ⟨[.ref l, .ref b], []⟩)
      (fun A R s => s.heap.get? l = some { cls := .type "list", dict := dd, data := .seq vs.toArray n, slots := sl } ∧ s.heap.get? b = some { cls := .type "list", dict := dd2, data := .seq vs2.toArray n2, slots := sl2 } ∧
        R (.ok (.ret (.bool (ltStrs xs ys)))) s) := by
  intro prog w A R s h
  obtain ⟨hp, g, d, tk, os⟩ := s; obtain ⟨hl, hb, h⟩ := h
  have f3 := AutoSeq1.sub_list_list
  wp_walk using wpAny_loadPart' hl, wpAny_loadPart' hb
  exact ⟨plainId_quiet plain_eq_loop _, codeAny_builtin entry_eq_loop (by
    rw [Around.under_plainId plain_eq_loop _]
    exact lt_loop l b vs vs2 xs ys n n2 dd dd2 sl sl2 hx hy _ 0 rfl prog w A R _ ⟨hl, hb, Nat.zero_le _, Nat.zero_le _, h⟩)⟩
theorem rc_lt {prog : Program} {w : World} {A : Around} {s : Shared} {E Q : Value → Shared → Prop} {l b : Addr} {vs vs2 : List Value} {xs ys : List Str} (hx : StrsOf vs xs) (hy : StrsOf vs2 ys) (hl : s.heap.IsList l vs.toArray) (hb : s.heap.IsList b vs2.toArray) (hu : A.units < cLine)
    (h : Q (.bool (ltStrs xs ys)) s) : wpAny (model prog w) A (richCompare .Lt (.ref l) (.ref b)) Q E s := by
  obtain ⟨⟨cls, dd, data, sl⟩, ho, hc, n, hd⟩ := id hl
  obtain ⟨⟨cls2, dd2, data2, sl2⟩, ho2, hc2, n2, hd2⟩ := id hb
  simp only at hc hd hc2 hd2
  subst hc hd hc2 hd2
  exact richCompare_meets_room (op := .Lt) ⟨_, ho, rfl⟩ ⟨_, ho2, rfl⟩ F.slot_list_lt F.entry_list_lt (F.args_list_lt_2 _ _) (list_lt l b vs vs2 xs ys n n2 dd dd2 sl sl2 hx hy)
    ⟨ho, ho2, show Value.bool (ltStrs xs ys) ≠ Value.notImplemented ∧ Q (.bool (ltStrs xs ys)) s from ⟨(fun x => nomatch x), h⟩⟩ hu
theorem gt_loop (l b : Addr) (vs vs2 : List Value) (xs ys : List Str) (n n2 : Nat) (dd dd2 : Option Addr) (sl sl2 : Array (Option Value)) (hx : StrsOf vs xs) (hy : StrsOf vs2 ys) (k : Nat) :
    ∀ i : Nat, xs.length - i = k → Meets (Builtin.«list.__eq__.loop» ⟨[.ref l, .ref b, rawInt i, rawInt 4], []⟩)
      (fun A R s => s.heap.get? l = some { cls := .type "list", dict := dd, data := .seq vs.toArray n, slots := sl } ∧ s.heap.get? b = some { cls := .type "list", dict := dd2, data := .seq vs2.toArray n2, slots := sl2 } ∧ i ≤ xs.length ∧ i ≤ ys.length ∧
        R (.ok (.ret (.bool (ltStrs (ys.drop i) (xs.drop i))))) s) := by
  induction k with
  | zero =>
    intro i hk prog w A R s h
    obtain ⟨hp, g, d, tk, os⟩ := s; obtain ⟨hl, hb, hi, hj, h⟩ := h
    wp_walk using wpAny_loadPart' hl, wpAny_loadPart' hb
    have hi1 : (vs.toArray)[((i : Nat) : Int).toNat]? = none := by simp [hx.length]; omega
    rw [hi1]
    wp_walk using wpAny_loadPart' hl, wpAny_loadPart' hb
    have e1 : xs.drop i = [] := by simp; omega
    have e2 : decide (vs.toArray.size > vs2.toArray.size) = ltStrs (ys.drop i) ([] : List Str) := by
      have : i = xs.length := by omega
      have e3 := List.length_drop (i := i) (l := ys)
      have e4 := hx.length
      have e5 := hy.length
      cases hd : ys.drop i with
      | nil => rw [hd] at e3; simp only [List.length_nil] at e3; simp only [ltStrs, List.size_toArray, decide_eq_false_iff_not, decide_eq_true_eq]; omega
      | cons a r => rw [hd] at e3; simp only [List.length_cons] at e3; simp only [ltStrs, List.size_toArray, decide_eq_false_iff_not, decide_eq_true_eq]; omega
    rw [e1, ← e2] at h
    exact h
  | succ k ih =>
    intro i hk prog w A R s h
    obtain ⟨hp, g, d, tk, os⟩ := s; obtain ⟨hl, hb, hi, hj, h⟩ := h
    wp_walk using wpAny_loadPart' hl, wpAny_loadPart' hb
    have hlt : i < xs.length := by omega
    obtain ⟨tx, ex⟩ := hx.get (List.getElem?_eq_getElem hlt)
    have hi1 : (vs.toArray)[((i : Nat) : Int).toNat]? = some (.str xs[i] tx) := ex
    have hdx : xs.drop i = xs[i] :: xs.drop (i + 1) := List.drop_eq_getElem_cons hlt
    have hc : ((i : Int) + 1) = ((i + 1 : Nat) : Int) := by push_cast; rfl
    by_cases hlt2 : i < ys.length
    · obtain ⟨ty, ey⟩ := hy.get (List.getElem?_eq_getElem hlt2)
      have hi2 : (vs2.toArray)[((i : Nat) : Int).toNat]? = some (.str ys[i] ty) := ey
      have hdy : ys.drop i = ys[i] :: ys.drop (i + 1) := List.drop_eq_getElem_cons hlt2
      rw [hdx, hdy] at h
      rw [hi1, hi2]
      refine wpAny_bind (PyProof.Rows.eqBool_str ?_)
      simp only [ltStrs] at h
      cases hb' : (xs[i] == ys[i]) with
      | true =>
        have hb2 : (ys[i] == xs[i]) = true := by rw [beq_iff_eq] at hb' ⊢; exact hb'.symm
        simp only [hb', hb2, if_true] at h
        wp_walk
        rw [hc]
        exact ⟨plainId_quiet plain_eq_loop _, codeAny_builtin entry_eq_loop (by
          rw [Around.under_plainId plain_eq_loop _]
          exact ih (i + 1) (by omega) prog w A R _ ⟨hl, hb, by omega, by omega, h⟩)⟩
      | false =>
        have hb2 : (ys[i] == xs[i]) = false := by rw [beq_eq_false_iff_ne] at hb' ⊢; exact Ne.symm hb'
        simp only [hb', hb2, Bool.false_eq_true, if_false] at h
        wp_walk using wpAny_loadPart' hl, wpAny_loadPart' hb
        rw [hi1, hi2]
        refine wpAny_bind (gt_strR ?_)
        wp_walk
        exact h
    · have hi2 : (vs2.toArray)[((i : Nat) : Int).toNat]? = none := by simp [hy.length]; omega
      rw [hi1, hi2]
      wp_walk using wpAny_loadPart' hl, wpAny_loadPart' hb
      have e1 : ys.drop i = [] := by simp; omega
      have e2 : decide (vs.toArray.size > vs2.toArray.size) = ltStrs ([] : List Str) (xs[i] :: xs.drop (i + 1)) := by
        have e4 := hx.length
        have e5 := hy.length
        simp only [ltStrs, List.size_toArray, decide_eq_false_iff_not, decide_eq_true_eq]; omega
      rw [e1, hdx, ← e2] at h
      exact h
theorem list_gt (l b : Addr) (vs vs2 : List Value) (xs ys : List Str) (n n2 : Nat) (dd dd2 : Option Addr) (sl sl2 : Array (Option Value)) (hx : StrsOf vs xs) (hy : StrsOf vs2 ys) :
    Meets (Builtin.«list.__gt__» ⟨[.ref l, .ref b], []⟩)
      (fun A R s => s.heap.get? l = some { cls := .type "list", dict := dd, data := .seq vs.toArray n, slots := sl } ∧ s.heap.get? b = some { cls := .type "list", dict := dd2, data := .seq vs2.toArray n2, slots := sl2 } ∧
        R (.ok (.ret (.bool (ltStrs ys xs)))) s) := by
  intro prog w A R s h
  obtain ⟨hp, g, d, tk, os⟩ := s; obtain ⟨hl, hb, h⟩ := h
  have f3 := AutoSeq1.sub_list_list
  wp_walk using wpAny_loadPart' hl, wpAny_loadPart' hb
  exact ⟨plainId_quiet plain_eq_loop _, codeAny_builtin entry_eq_loop (by
    rw [Around.under_plainId plain_eq_loop _]
    exact gt_loop l b vs vs2 xs ys n n2 dd dd2 sl sl2 hx hy _ 0 rfl prog w A R _ ⟨hl, hb, Nat.zero_le _, Nat.zero_le _, h⟩)⟩
theorem rc_gt {prog : Program} {w : World} {A : Around} {s : Shared} {E Q : Value → Shared → Prop} {l b : Addr} {vs vs2 : List Value} {xs ys : List Str} (hx : StrsOf vs xs) (hy : StrsOf vs2 ys) (hl : s.heap.IsList l vs.toArray) (hb : s.heap.IsList b vs2.toArray) (hu : A.units < cLine)
    (h : Q (.bool (ltStrs ys xs)) s) : wpAny (model prog w) A (richCompare .Gt (.ref l) (.ref b)) Q E s := by
  obtain ⟨⟨cls, dd, data, sl⟩, ho, hc, n, hd⟩ := id hl
  obtain ⟨⟨cls2, dd2, data2, sl2⟩, ho2, hc2, n2, hd2⟩ := id hb
  simp only at hc hd hc2 hd2
  subst hc hd hc2 hd2
  exact richCompare_meets_room (op := .Gt) ⟨_, ho, rfl⟩ ⟨_, ho2, rfl⟩ F.slot_list_gt F.entry_list_gt (F.args_list_gt_2 _ _) (list_gt l b vs vs2 xs ys n n2 dd dd2 sl sl2 hx hy)
    ⟨ho, ho2, show Value.bool (ltStrs ys xs) ≠ Value.notImplemented ∧ Q (.bool (ltStrs ys xs)) s from ⟨(fun x => nomatch x), h⟩⟩ hu
end Mine
end
section
open PySem PySem.W PyProof.Rows PySem.Calls
set_option Elab.async false
set_option maxRecDepth 100000
set_option maxHeartbeats 8000000
set_option linter.unusedVariables false
namespace Mine
theorem rc_min {prog : Program} {w : World} {A : Around} {s : Shared} {E Q : Value → Shared → Prop} {l b : Addr} {vs vs2 : List Value} {xs ys : List Str} (hx : StrsOf vs xs) (hy : StrsOf vs2 ys) (hl : s.heap.IsList l vs.toArray) (hb : s.heap.IsList b vs2.toArray) (hu : A.units < cLine)
    (h : Q (.bool (ltStrs xs ys)) s) : wpAny (model prog w) A (richCompare .Lt (.ref l) (.ref b)) Q E s := rc_lt hx hy hl hb hu h
theorem rc_max {prog : Program} {w : World} {A : Around} {s : Shared} {E Q : Value → Shared → Prop} {l b : Addr} {vs vs2 : List Value} {xs ys : List Str} (hx : StrsOf vs xs) (hy : StrsOf vs2 ys) (hl : s.heap.IsList l vs.toArray) (hb : s.heap.IsList b vs2.toArray) (hu : A.units < cLine)
    (h : Q (.bool (ltStrs ys xs)) s) : wpAny (model prog w) A (richCompare .Gt (.ref l) (.ref b)) Q E s := rc_gt hx hy hl hb hu h
section
variable {prog : Program} {w : World} {A : Around}
theorem min_end {R : Result → Shared → Prop} {I S l : Addr} {its : Array Value} (hh : A.handled = none) (hlI : l ≠ I) (hSI : S ≠ I) (s : Shared) (vb : Value) (c : Nat) (st : s.heap.IsListIter I l its.size) (hl : s.heap.IsList l its)
    (hS : s.heap.get? S = some { cls := .type "list", dict := none, data := .seq #[vb, vb] c, slots := #[] })
    (hR : ∀ h' tk, (∀ b o, b ≠ I → b ≠ S → s.heap.get? b = some o → h'.get? b = some o) → R (.ok (.ret vb)) { s with heap := h', toks := tk }) :
    codeAny (model prog w) A (.builtin "min.loop" ⟨[.ref I, .none, .ref S], []⟩) R s := by
  have W := Walks.list (prog := prog) (w := w) (A := A.in1) hh I l hlI its
  refine codeAny_builtin F.entry_min_loop ?_
  rw [Around.under_plainId F.plain_min_loop _]
  show wpAny _ A.in1 (seqItems? (.ref S) >>= _) _ _ s
  refine wpAny_bind (wpAny_seqItems hS rfl ?_)
  show wpAny _ A.in1 (tryCatch (pyNext (.ref I)) _ >>= _) _ _ s
  refine wpAny_bind (wpAny_tryCatch (W.done s _ _ ⟨st, hl⟩ fun h' tk hk' => ?_))
  have hS' := hk' S _ (by simpa using hSI) hS
  show wpAny _ A.in1 (updateSeq S (fun _ => #[]) >>= _) _ _ _
  refine wpAny_bind ?_
  refine wpAny_updateSeq hS' rfl (wpAny_bind (wpAny_letGo (wpAny_pure ?_)))
  exact hR _ tk fun b o hbI hbS e => (Heap.get?_update_other _ _ (Ne.symm hbS)).trans (hk' b o (by simpa using hbI) e)
theorem min_two {R : Result → Shared → Prop} {I S l a b : Addr} {va vb : List Value} {xa xb : List Str} (hu : A.in1.units < cLine) (hh : A.handled = none) (hlI : l ≠ I) (hSI : S ≠ I) (hlS : l ≠ S) (haI : a ≠ I) (haS : a ≠ S) (hbI : b ≠ I) (hbS : b ≠ S) (s : Shared)
    (hx : StrsOf va xa) (hy : StrsOf vb xb) (c : Nat) (st : s.heap.IsListIter I l 1) (hl : s.heap.IsList l #[.ref a, .ref b]) (hla : s.heap.IsList a va.toArray) (hlb : s.heap.IsList b vb.toArray)
    (hS : s.heap.get? S = some { cls := .type "list", dict := none, data := .seq #[.ref a, .ref a] c, slots := #[] })
    (hR : ∀ h' tk, (∀ b o, b ≠ I → b ≠ S → s.heap.get? b = some o → h'.get? b = some o) → R (.ok (.ret (.ref (if ltStrs xb xa then b else a)))) { s with heap := h', toks := tk }) :
    codeAny (model prog w) A (.builtin "min.loop" ⟨[.ref I, .none, .ref S], []⟩) R s := by
  have hname : (toString "min" ++ toString ".loop" : String) = "min.loop" := by decide
  have W := Walks.list (prog := prog) (w := w) (A := A.in1) hh I l hlI #[.ref a, .ref b]
  refine codeAny_builtin F.entry_min_loop ?_
  rw [Around.under_plainId F.plain_min_loop _]
  show wpAny _ A.in1 (seqItems? (.ref S) >>= _) _ _ s
  refine wpAny_bind (wpAny_seqItems hS rfl ?_)
  show wpAny _ A.in1 (tryCatch (pyNext (.ref I)) _ >>= _) _ _ s
  refine wpAny_bind (wpAny_tryCatch (W.item 1 s _ _ (by show 1 < 2; decide) ⟨st, hl⟩ fun v h' tk hP hst' hk' => ?_))
  obtain rfl : v = .ref b := (Option.some.inj hP).symm
  have hS' := hk' S _ (by simpa using hSI) hS
  have hla' : h'.IsList a va.toArray := by obtain ⟨o, e, r⟩ := hla; exact ⟨o, hk' a _ (by simpa using haI) e, r⟩
  have hlb' : h'.IsList b vb.toArray := by obtain ⟨o, e, r⟩ := hlb; exact ⟨o, hk' b _ (by simpa using hbI) e, r⟩
  show wpAny _ A.in1 (tryCatch (holding [.ref b, .ref b] (richCompare .Lt (.ref b) (.ref a) >>= _)) _ >>= _) _ _ _
  refine wpAny_bind (wpAny_tryCatch (wpAny_holding (wpAny_bind (rc_min hy hx hlb' hla' hu ?_))))
  refine wpAny_bind (wpAny_holding (wpAny_truthy_bool ?_))
  refine wpAny_bind (wpAny_letGo (wpAny_pure ?_))
  obtain ⟨oI, gI, cI, dI⟩ := hst'.1
  obtain ⟨ol, gl, cl, dl⟩ := hst'.2
  cases hb : (ltStrs xb xa) with
  | true =>
    simp only [if_true]
    refine wpAny_bind ?_
    refine wpAny_updateSeq hS' rfl (wpAny_bind (wpAny_letGo ?_))
    rw [hname]
    refine wpAny_pure ⟨plainId_quiet F.plain_min_loop _, min_end (its := #[.ref a, .ref b]) hh hlI hSI _ (.ref b) _ ⟨oI, (Heap.get?_update_other _ _ hSI).trans gI, cI, dI⟩ ⟨ol, (Heap.get?_update_other _ _ (Ne.symm hlS)).trans gl, cl, dl⟩ (Heap.get?_update_self _ hS' rfl) fun h'' tk'' hk'' => ?_⟩
    rw [hb, if_pos rfl] at hR
    exact hR h'' tk'' fun x o hxI hxS e => hk'' x o hxI hxS ((Heap.get?_update_other _ _ (Ne.symm hxS)).trans (hk' x o (by simpa using hxI) e))
  | false =>
    simp only [Bool.false_eq_true, if_false]
    refine wpAny_bind (wpAny_letGo ?_)
    rw [hname]
    refine wpAny_pure ⟨plainId_quiet F.plain_min_loop _, min_end (its := #[.ref a, .ref b]) hh hlI hSI _ (.ref a) c hst'.1 hst'.2 hS' fun h'' tk'' hk'' => ?_⟩
    rw [hb, if_neg (by decide)] at hR
    exact hR h'' tk'' fun x o hxI hxS e => hk'' x o hxI hxS (hk' x o (by simpa using hxI) e)
theorem call_min2 {l a b : Addr} {va vb : List Value} {xa xb : List Str} {h₀ : Heap} {L : Addr} {m : Str → Option Value} {news : List (Addr × Obj)} {s : Shared} {Q E : Value → Shared → Prop} (hu : A.in1.units < cLine) (hh : A.handled = none) (FF : Fr h₀ L s.heap m) (N : News h₀ L s.heap news)
    (hx : StrsOf va xa) (hy : StrsOf vb xb) (hl : s.heap.IsList l #[.ref a, .ref b]) (hla : s.heap.IsList a va.toArray) (hlb : s.heap.IsList b vb.toArray)
    (hQ : ∀ h' tk, Fr h₀ L h' m → News h₀ L h' news → Q (.ref (if ltStrs xb xa then b else a)) { s with heap := h', toks := tk }) :
    wpAny (model prog w) A (call (.builtin "min") [.ref l]) Q E s := by
  have hname : (toString "min" ++ toString ".loop" : String) = "min.loop" := by decide
  have lt1 : ∀ {y : Addr} {its : Array Value}, s.heap.IsList y its → @LT.lt Nat _ y s.heap.objs.size := fun hy => by obtain ⟨_, e, _⟩ := hy; exact Heap.lt_size e
  have h1 := lt1 hl
  have h2 := lt1 hla
  have h3 := lt1 hlb
  refine call_function_tree F.kind_min F.plain_min F.entry_min (F.args_min1 _) ?_
  show wpAny _ A.in1 (Builtin.Builtins.bindParams "min" ["key", "default"] 0 ⟨[], []⟩ >>= _) _ _ s
  refine wpAny_bind (wpAny_of_eq (show Builtin.Builtins.bindParams "min" ["key", "default"] 0 ⟨[], []⟩ = pure [none, none] from rfl) ?_)
  refine wpAny_bind (wpAny_pure ?_)
  refine wpAny_bind (wpAny_pyIter_list hl ?_)
  refine wpAny_bind (wpAny_newObj_type ?_)
  rw [hname]
  refine wpAny_pure ⟨plainId_quiet F.plain_min_loop _, ?_⟩
  have hI : (s.heap.push { cls := .type "list_iterator", data := .fields #[.ref l, .int 0 0] }).objs.size = s.heap.objs.size + 1 := Heap.size_push ..
  generalize hSe : (s.heap.push { cls := .type "list_iterator", data := .fields #[.ref l, .int 0 0] }).objs.size = S at hI
  have gS : ((s.heap.push { cls := .type "list_iterator", data := .fields #[.ref l, .int 0 0] }).push { cls := .type "list", dict := none, data := .seq #[], slots := #[] }).get? S = some { cls := .type "list", dict := none, data := .seq #[], slots := #[] } := hSe ▸ Heap.get?_push_size _ rfl
  have up : ∀ b o, s.heap.get? b = some o → ((s.heap.push { cls := .type "list_iterator", data := .fields #[.ref l, .int 0 0] }).push { cls := .type "list", dict := none, data := .seq #[], slots := #[] }).get? b = some o := fun b o e => Heap.get?_push_of_some _ (Heap.get?_push_of_some _ e)
  have gI : ((s.heap.push { cls := .type "list_iterator", data := .fields #[.ref l, .int 0 0] }).push { cls := .type "list", dict := none, data := .seq #[], slots := #[] }).get? s.heap.objs.size = some { cls := .type "list_iterator", data := .fields #[.ref l, .int 0 0] } := Heap.get?_push_of_some _ (Heap.get?_push_size _ rfl)
  have n1 : ∀ {y : Addr}, @LT.lt Nat _ y s.heap.objs.size → y ≠ S := fun {y} hy => by rw [hI]; exact Nat.ne_of_lt (Nat.lt_succ_of_lt hy)
  have n2 : ∀ {y : Addr}, @LT.lt Nat _ y s.heap.objs.size → y ≠ s.heap.objs.size := fun {y} hy => Nat.ne_of_lt hy
  have hSI : S ≠ s.heap.objs.size := by rw [hI]; exact Nat.ne_of_gt (Nat.lt_succ_self _)
  have isl : ∀ {y : Addr} {its : Array Value}, s.heap.IsList y its → ((s.heap.push { cls := .type "list_iterator", data := .fields #[.ref l, .int 0 0] }).push { cls := .type "list", dict := none, data := .seq #[], slots := #[] }).IsList y its := fun hy => by obtain ⟨o, e, r⟩ := hy; exact ⟨o, up _ _ e, r⟩
  have W := Walks.list (prog := prog) (w := w) (A := A.in1) hh s.heap.objs.size l (n2 h1) #[.ref a, .ref b]
  have isl' := isl hl
  have isa' := isl hla
  have isb' := isl hlb
  clear isl
  generalize hH : ((s.heap.push { cls := .type "list_iterator", data := .fields #[.ref l, .int 0 0] }).push { cls := .type "list", dict := none, data := .seq #[], slots := #[] }) = H at gS gI up isl' isa' isb'
  refine codeAny_builtin F.entry_min_loop ?_
  rw [Around.under_plainId F.plain_min_loop _]
  show wpAny _ A.in1 (seqItems? (.ref S) >>= _) _ _ _
  refine wpAny_bind (wpAny_seqItems gS rfl ?_)
  show wpAny _ A.in1 (tryCatch (pyNext (.ref s.heap.objs.size)) _ >>= _) _ _ _
  refine wpAny_bind (wpAny_tryCatch (W.item 0 _ _ _ (by show 0 < 2; decide) ⟨⟨_, gI, rfl, rfl⟩, isl'⟩ fun v h' tk hP hst' hk' => ?_))
  obtain rfl : v = .ref a := (Option.some.inj hP).symm
  have hS' := hk' S _ (by simpa using hSI) gS
  show wpAny _ A.in1 (updateSeq S (fun _ => #[.ref a, .ref a]) >>= _) _ _ _
  refine wpAny_bind ?_
  refine wpAny_updateSeq hS' rfl ?_
  rw [hname]
  obtain ⟨oI, gI2, cI, dI⟩ := hst'.1
  have keep : ∀ x o, x ≠ s.heap.objs.size → x ≠ S → H.get? x = some o → (h'.update S (Obj.mapSeq fun _ => #[.ref a, .ref a])).get? x = some o := fun x o hxI hxS e => (Heap.get?_update_other _ _ (Ne.symm hxS)).trans (hk' x o (by simpa using hxI) e)
  have isl2 : ∀ {y : Addr} {its : Array Value}, y ≠ s.heap.objs.size → y ≠ S → H.IsList y its → (h'.update S (Obj.mapSeq fun _ => #[.ref a, .ref a])).IsList y its := fun k1 k2 hy => by obtain ⟨o, e, r⟩ := hy; exact ⟨o, keep _ _ k1 k2 e, r⟩
  refine wpAny_pure ⟨plainId_quiet F.plain_min_loop _, min_two hu hh (n2 h1) hSI (n1 h1) (n2 h2) (n1 h2) (n2 h3) (n1 h3) _ hx hy _ ⟨oI, (Heap.get?_update_other _ _ hSI).trans gI2, cI, dI⟩ (isl2 (n2 h1) (n1 h1) isl') (isl2 (n2 h2) (n1 h2) isa') (isl2 (n2 h3) (n1 h3) isb') (Heap.get?_update_self _ hS' rfl) fun h'' tk'' hk'' => ?_⟩
  have all : ∀ x o, s.heap.get? x = some o → h''.get? x = some o := fun x o e => hk'' x o (n2 (Heap.lt_size e)) (n1 (Heap.lt_size e)) (keep x o (n2 (Heap.lt_size e)) (n1 (Heap.lt_size e)) (up x o e))
  exact hQ h'' tk'' (FF.keeps all) (N.grown all)
theorem max_end {R : Result → Shared → Prop} {I S l : Addr} {its : Array Value} (hh : A.handled = none) (hlI : l ≠ I) (hSI : S ≠ I) (s : Shared) (vb : Value) (c : Nat) (st : s.heap.IsListIter I l its.size) (hl : s.heap.IsList l its)
    (hS : s.heap.get? S = some { cls := .type "list", dict := none, data := .seq #[vb, vb] c, slots := #[] })
    (hR : ∀ h' tk, (∀ b o, b ≠ I → b ≠ S → s.heap.get? b = some o → h'.get? b = some o) → R (.ok (.ret vb)) { s with heap := h', toks := tk }) :
    codeAny (model prog w) A (.builtin "max.loop" ⟨[.ref I, .none, .ref S], []⟩) R s := by
  have W := Walks.list (prog := prog) (w := w) (A := A.in1) hh I l hlI its
  refine codeAny_builtin F.entry_max_loop ?_
  rw [Around.under_plainId F.plain_max_loop _]
  show wpAny _ A.in1 (seqItems? (.ref S) >>= _) _ _ s
  refine wpAny_bind (wpAny_seqItems hS rfl ?_)
  show wpAny _ A.in1 (tryCatch (pyNext (.ref I)) _ >>= _) _ _ s
  refine wpAny_bind (wpAny_tryCatch (W.done s _ _ ⟨st, hl⟩ fun h' tk hk' => ?_))
  have hS' := hk' S _ (by simpa using hSI) hS
  show wpAny _ A.in1 (updateSeq S (fun _ => #[]) >>= _) _ _ _
  refine wpAny_bind ?_
  refine wpAny_updateSeq hS' rfl (wpAny_bind (wpAny_letGo (wpAny_pure ?_)))
  exact hR _ tk fun b o hbI hbS e => (Heap.get?_update_other _ _ (Ne.symm hbS)).trans (hk' b o (by simpa using hbI) e)
theorem max_two {R : Result → Shared → Prop} {I S l a b : Addr} {va vb : List Value} {xa xb : List Str} (hu : A.in1.units < cLine) (hh : A.handled = none) (hlI : l ≠ I) (hSI : S ≠ I) (hlS : l ≠ S) (haI : a ≠ I) (haS : a ≠ S) (hbI : b ≠ I) (hbS : b ≠ S) (s : Shared)
    (hx : StrsOf va xa) (hy : StrsOf vb xb) (c : Nat) (st : s.heap.IsListIter I l 1) (hl : s.heap.IsList l #[.ref a, .ref b]) (hla : s.heap.IsList a va.toArray) (hlb : s.heap.IsList b vb.toArray)
    (hS : s.heap.get? S = some { cls := .type "list", dict := none, data := .seq #[.ref a, .ref a] c, slots := #[] })
    (hR : ∀ h' tk, (∀ b o, b ≠ I → b ≠ S → s.heap.get? b = some o → h'.get? b = some o) → R (.ok (.ret (.ref (if ltStrs xa xb then b else a)))) { s with heap := h', toks := tk }) :
    codeAny (model prog w) A (.builtin "max.loop" ⟨[.ref I, .none, .ref S], []⟩) R s := by
  have hname : (toString "max" ++ toString ".loop" : String) = "max.loop" := by decide
  have W := Walks.list (prog := prog) (w := w) (A := A.in1) hh I l hlI #[.ref a, .ref b]
  refine codeAny_builtin F.entry_max_loop ?_
  rw [Around.under_plainId F.plain_max_loop _]
  show wpAny _ A.in1 (seqItems? (.ref S) >>= _) _ _ s
  refine wpAny_bind (wpAny_seqItems hS rfl ?_)
  show wpAny _ A.in1 (tryCatch (pyNext (.ref I)) _ >>= _) _ _ s
  refine wpAny_bind (wpAny_tryCatch (W.item 1 s _ _ (by show 1 < 2; decide) ⟨st, hl⟩ fun v h' tk hP hst' hk' => ?_))
  obtain rfl : v = .ref b := (Option.some.inj hP).symm
  have hS' := hk' S _ (by simpa using hSI) hS
  have hla' : h'.IsList a va.toArray := by obtain ⟨o, e, r⟩ := hla; exact ⟨o, hk' a _ (by simpa using haI) e, r⟩
  have hlb' : h'.IsList b vb.toArray := by obtain ⟨o, e, r⟩ := hlb; exact ⟨o, hk' b _ (by simpa using hbI) e, r⟩
  show wpAny _ A.in1 (tryCatch (holding [.ref b, .ref b] (richCompare .Gt (.ref b) (.ref a) >>= _)) _ >>= _) _ _ _
  refine wpAny_bind (wpAny_tryCatch (wpAny_holding (wpAny_bind (rc_max hy hx hlb' hla' hu ?_))))
  refine wpAny_bind (wpAny_holding (wpAny_truthy_bool ?_))
  refine wpAny_bind (wpAny_letGo (wpAny_pure ?_))
  obtain ⟨oI, gI, cI, dI⟩ := hst'.1
  obtain ⟨ol, gl, cl, dl⟩ := hst'.2
  cases hb : (ltStrs xa xb) with
  | true =>
    simp only [if_true]
    refine wpAny_bind ?_
    refine wpAny_updateSeq hS' rfl (wpAny_bind (wpAny_letGo ?_))
    rw [hname]
    refine wpAny_pure ⟨plainId_quiet F.plain_max_loop _, max_end (its := #[.ref a, .ref b]) hh hlI hSI _ (.ref b) _ ⟨oI, (Heap.get?_update_other _ _ hSI).trans gI, cI, dI⟩ ⟨ol, (Heap.get?_update_other _ _ (Ne.symm hlS)).trans gl, cl, dl⟩ (Heap.get?_update_self _ hS' rfl) fun h'' tk'' hk'' => ?_⟩
    rw [hb, if_pos rfl] at hR
    exact hR h'' tk'' fun x o hxI hxS e => hk'' x o hxI hxS ((Heap.get?_update_other _ _ (Ne.symm hxS)).trans (hk' x o (by simpa using hxI) e))
  | false =>
    simp only [Bool.false_eq_true, if_false]
    refine wpAny_bind (wpAny_letGo ?_)
    rw [hname]
    refine wpAny_pure ⟨plainId_quiet F.plain_max_loop _, max_end (its := #[.ref a, .ref b]) hh hlI hSI _ (.ref a) c hst'.1 hst'.2 hS' fun h'' tk'' hk'' => ?_⟩
    rw [hb, if_neg (by decide)] at hR
    exact hR h'' tk'' fun x o hxI hxS e => hk'' x o hxI hxS (hk' x o (by simpa using hxI) e)
theorem call_max2 {l a b : Addr} {va vb : List Value} {xa xb : List Str} {h₀ : Heap} {L : Addr} {m : Str → Option Value} {news : List (Addr × Obj)} {s : Shared} {Q E : Value → Shared → Prop} (hu : A.in1.units < cLine) (hh : A.handled = none) (FF : Fr h₀ L s.heap m) (N : News h₀ L s.heap news)
    (hx : StrsOf va xa) (hy : StrsOf vb xb) (hl : s.heap.IsList l #[.ref a, .ref b]) (hla : s.heap.IsList a va.toArray) (hlb : s.heap.IsList b vb.toArray)
    (hQ : ∀ h' tk, Fr h₀ L h' m → News h₀ L h' news → Q (.ref (if ltStrs xa xb then b else a)) { s with heap := h', toks := tk }) :
    wpAny (model prog w) A (call (.builtin "max") [.ref l]) Q E s := by
  have hname : (toString "max" ++ toString ".loop" : String) = "max.loop" := by decide
  have lt1 : ∀ {y : Addr} {its : Array Value}, s.heap.IsList y its → @LT.lt Nat _ y s.heap.objs.size := fun hy => by obtain ⟨_, e, _⟩ := hy; exact Heap.lt_size e
  have h1 := lt1 hl
  have h2 := lt1 hla
  have h3 := lt1 hlb
  refine call_function_tree F.kind_max F.plain_max F.entry_max (F.args_max1 _) ?_
  show wpAny _ A.in1 (Builtin.Builtins.bindParams "max" ["key", "default"] 0 ⟨[], []⟩ >>= _) _ _ s
  refine wpAny_bind (wpAny_of_eq (show Builtin.Builtins.bindParams "max" ["key", "default"] 0 ⟨[], []⟩ = pure [none, none] from rfl) ?_)
  refine wpAny_bind (wpAny_pure ?_)
  refine wpAny_bind (wpAny_pyIter_list hl ?_)
  refine wpAny_bind (wpAny_newObj_type ?_)
  rw [hname]
  refine wpAny_pure ⟨plainId_quiet F.plain_max_loop _, ?_⟩
  have hI : (s.heap.push { cls := .type "list_iterator", data := .fields #[.ref l, .int 0 0] }).objs.size = s.heap.objs.size + 1 := Heap.size_push ..
  generalize hSe : (s.heap.push { cls := .type "list_iterator", data := .fields #[.ref l, .int 0 0] }).objs.size = S at hI
  have gS : ((s.heap.push { cls := .type "list_iterator", data := .fields #[.ref l, .int 0 0] }).push { cls := .type "list", dict := none, data := .seq #[], slots := #[] }).get? S = some { cls := .type "list", dict := none, data := .seq #[], slots := #[] } := hSe ▸ Heap.get?_push_size _ rfl
  have up : ∀ b o, s.heap.get? b = some o → ((s.heap.push { cls := .type "list_iterator", data := .fields #[.ref l, .int 0 0] }).push { cls := .type "list", dict := none, data := .seq #[], slots := #[] }).get? b = some o := fun b o e => Heap.get?_push_of_some _ (Heap.get?_push_of_some _ e)
  have gI : ((s.heap.push { cls := .type "list_iterator", data := .fields #[.ref l, .int 0 0] }).push { cls := .type "list", dict := none, data := .seq #[], slots := #[] }).get? s.heap.objs.size = some { cls := .type "list_iterator", data := .fields #[.ref l, .int 0 0] } := Heap.get?_push_of_some _ (Heap.get?_push_size _ rfl)
  have n1 : ∀ {y : Addr}, @LT.lt Nat _ y s.heap.objs.size → y ≠ S := fun {y} hy => by rw [hI]; exact Nat.ne_of_lt (Nat.lt_succ_of_lt hy)
  have n2 : ∀ {y : Addr}, @LT.lt Nat _ y s.heap.objs.size → y ≠ s.heap.objs.size := fun {y} hy => Nat.ne_of_lt hy
  have hSI : S ≠ s.heap.objs.size := by rw [hI]; exact Nat.ne_of_gt (Nat.lt_succ_self _)
  have isl : ∀ {y : Addr} {its : Array Value}, s.heap.IsList y its → ((s.heap.push { cls := .type "list_iterator", data := .fields #[.ref l, .int 0 0] }).push { cls := .type "list", dict := none, data := .seq #[], slots := #[] }).IsList y its := fun hy => by obtain ⟨o, e, r⟩ := hy; exact ⟨o, up _ _ e, r⟩
  have W := Walks.list (prog := prog) (w := w) (A := A.in1) hh s.heap.objs.size l (n2 h1) #[.ref a, .ref b]
  have isl' := isl hl
  have isa' := isl hla
  have isb' := isl hlb
  clear isl
  generalize hH : ((s.heap.push { cls := .type "list_iterator", data := .fields #[.ref l, .int 0 0] }).push { cls := .type "list", dict := none, data := .seq #[], slots := #[] }) = H at gS gI up isl' isa' isb'
  refine codeAny_builtin F.entry_max_loop ?_
  rw [Around.under_plainId F.plain_max_loop _]
  show wpAny _ A.in1 (seqItems? (.ref S) >>= _) _ _ _
  refine wpAny_bind (wpAny_seqItems gS rfl ?_)
  show wpAny _ A.in1 (tryCatch (pyNext (.ref s.heap.objs.size)) _ >>= _) _ _ _
  refine wpAny_bind (wpAny_tryCatch (W.item 0 _ _ _ (by show 0 < 2; decide) ⟨⟨_, gI, rfl, rfl⟩, isl'⟩ fun v h' tk hP hst' hk' => ?_))
  obtain rfl : v = .ref a := (Option.some.inj hP).symm
  have hS' := hk' S _ (by simpa using hSI) gS
  show wpAny _ A.in1 (updateSeq S (fun _ => #[.ref a, .ref a]) >>= _) _ _ _
  refine wpAny_bind ?_
  refine wpAny_updateSeq hS' rfl ?_
  rw [hname]
  obtain ⟨oI, gI2, cI, dI⟩ := hst'.1
  have keep : ∀ x o, x ≠ s.heap.objs.size → x ≠ S → H.get? x = some o → (h'.update S (Obj.mapSeq fun _ => #[.ref a, .ref a])).get? x = some o := fun x o hxI hxS e => (Heap.get?_update_other _ _ (Ne.symm hxS)).trans (hk' x o (by simpa using hxI) e)
  have isl2 : ∀ {y : Addr} {its : Array Value}, y ≠ s.heap.objs.size → y ≠ S → H.IsList y its → (h'.update S (Obj.mapSeq fun _ => #[.ref a, .ref a])).IsList y its := fun k1 k2 hy => by obtain ⟨o, e, r⟩ := hy; exact ⟨o, keep _ _ k1 k2 e, r⟩
  refine wpAny_pure ⟨plainId_quiet F.plain_max_loop _, max_two hu hh (n2 h1) hSI (n1 h1) (n2 h2) (n1 h2) (n2 h3) (n1 h3) _ hx hy _ ⟨oI, (Heap.get?_update_other _ _ hSI).trans gI2, cI, dI⟩ (isl2 (n2 h1) (n1 h1) isl') (isl2 (n2 h2) (n1 h2) isa') (isl2 (n2 h3) (n1 h3) isb') (Heap.get?_update_self _ hS' rfl) fun h'' tk'' hk'' => ?_⟩
  have all : ∀ x o, s.heap.get? x = some o → h''.get? x = some o := fun x o e => hk'' x o (n2 (Heap.lt_size e)) (n1 (Heap.lt_size e)) (keep x o (n2 (Heap.lt_size e)) (n1 (Heap.lt_size e)) (up x o e))
  exact hQ h'' tk'' (FF.keeps all) (N.grown all)
end
end Mine
end
section
open PySem PySem.W PyProof.Rows PySem.Calls
set_option Elab.async false
set_option maxRecDepth 100000
set_option maxHeartbeats 8000000
set_option linter.unusedVariables false
namespace Mine
section
variable {prog : Program} {w : World} {A : Around} {E : Value → Shared → Prop} {s : Shared} {env : Env} {h₀ : Heap} {target : Expr} {body : List Stmt} {Q : Flow → Shared → Prop}
theorem enum_turns {I1 I2 : Addr} {c1 c2 : String} {keep : List (Addr × Obj)} (vs : List Value) (J : Nat → (Str → Option Value) → List (Addr × Obj) → Prop)
   (step : ∀ i v m news T t h tk o o2, vs[i]? = some v → J i m news → IsTup h T #[.int (i : Int) t, v] → Fr h₀ env.locals h m → o.cls = .type c1 → o2.cls = .type c2 → News h₀ env.locals h ((I1, o) :: (I2, o2) :: news) →
     wpAny (model prog w) A (assign target env (.ref T)) (fun _ s₂ => wpAny (model prog w) A (execs body env) (UnrPostW h₀ env.locals { s with heap := h, toks := tk } [(I1, o), (I2, o2)] (fun m' n' => SubL keep n' ∧ J (i + 1) m' n') Q) E s₂) E { s with heap := h, toks := tk })
   (done : ∀ m news h tk, J vs.length m news → Fr h₀ env.locals h m → News h₀ env.locals h news → Q .next { s with heap := h, toks := tk }) :
   ∀ (r : List Value) (i : Nat) (m : Str → Option Value) (news : List (Addr × Obj)), vs.drop i = r → i ≤ vs.length → J i m news → ItemsRest prog w A E h₀ env target body Q s [(I1, c1), (I2, c2)] keep (enumItems i r) m news := by
  intro r
  induction r with
  | nil =>
    intro i m news hr hi hJ
    have e : i = vs.length := by
      have := congrArg List.length hr
      rw [List.length_drop, List.length_nil] at this
      omega
    subst e
    exact ItemsRest.zero fun h tk F N => done m news h tk hJ F N
  | cons v r ih =>
    intro i m news hr hi hJ
    have hlt : i < vs.length := by
      have := congrArg List.length hr
      rw [List.length_drop, List.length_cons] at this
      omega
    have hv : vs[i]? = some v := by
      have := congrArg List.head? hr
      rw [List.head?_drop] at this
      simpa using this
    have hr2 : vs.drop (i + 1) = r := by
      have := congrArg List.tail hr
      rw [List.tail_drop] at this
      simpa using this
    refine ItemsRest.pair fun T t h tk hT F => ?_
    show ∀ o : Obj, o.cls = .type c1 → ∀ o2 : Obj, o2.cls = .type c2 → _
    intro o ho o2 ho2 N
    refine wpAny_mono (step i v m news T t h tk o o2 hv hJ hT F ho ho2 N) (fun _ s₂ h₂ => wpAny_mono h₂ (fun f s₃ p => ?_) fun _ _ e => e) fun _ _ e => e
    have fin : UnrEndW h₀ env.locals { s with heap := h, toks := tk } [(I1, o), (I2, o2)] (fun m' n' => SubL keep n' ∧ J (i + 1) m' n') s₃ → UnrEndW h₀ env.locals { s with heap := h, toks := tk } [(I1, o), (I2, o2)] (fun m' n' => SubL keep n' ∧ ItemsRest prog w A E h₀ env target body Q s [(I1, c1), (I2, c2)] keep (enumItems (i + 1) r) m' n') s₃ := by
      rintro ⟨h', tk', m', news', e, F', N', off, k, j⟩
      exact ⟨h', tk', m', news', e, F', N', off, k, ih (i + 1) m' news' hr2 hlt j⟩
    cases f with
    | ret v => exact p
    | brk => exact p
    | next => exact fin p
    | cont => exact fin p
theorem enum_turnsK {I1 I2 : Addr} {c1 c2 : String} {keep : List (Addr × Obj)} {vs : List Value} {m0 : Str → Option Value} {news : List (Addr × Obj)} (K : Nat → (Str → Option Value) → Prop) (h0 : K 0 m0) (hk : SubL keep news)
   (step : ∀ i v m T t h tk o o2, vs[i]? = some v → K i m → IsTup h T #[.int (i : Int) t, v] → Fr h₀ env.locals h m → o.cls = .type c1 → o2.cls = .type c2 → News h₀ env.locals h ((I1, o) :: (I2, o2) :: news) →
     wpAny (model prog w) A (assign target env (.ref T)) (fun _ s₂ => wpAny (model prog w) A (execs body env) (UnrPostW h₀ env.locals { s with heap := h, toks := tk } [(I1, o), (I2, o2)] (fun m' n' => n' = news ∧ K (i + 1) m') Q) E s₂) E { s with heap := h, toks := tk })
   (done : ∀ m h tk, K vs.length m → Fr h₀ env.locals h m → News h₀ env.locals h news → Q .next { s with heap := h, toks := tk }) :
   ItemsRest prog w A E h₀ env target body Q s [(I1, c1), (I2, c2)] keep (enumItems 0 vs) m0 news := by
  refine enum_turns vs (fun i m' n' => n' = news ∧ K i m') ?_ ?_ vs 0 m0 news rfl (Nat.zero_le _) ⟨rfl, h0⟩
  · rintro i v m nw T t h tk o o2 hv ⟨rfl, hK⟩ hT F c1 c2 N
    refine wpAny_mono (step i v m T t h tk o o2 hv hK hT F c1 c2 N) (fun _ s₂ h₂ => wpAny_mono h₂ (fun f s₃ p => ?_) fun _ _ e => e) fun _ _ e => e
    have fin : UnrEndW h₀ env.locals { s with heap := h, toks := tk } [(I1, o), (I2, o2)] (fun m' n' => n' = nw ∧ K (i + 1) m') s₃ → UnrEndW h₀ env.locals { s with heap := h, toks := tk } [(I1, o), (I2, o2)] (fun m' n' => SubL keep n' ∧ n' = nw ∧ K (i + 1) m') s₃ := by
      rintro ⟨h', tk', m', news', e, F', N', off, k, j⟩
      exact ⟨h', tk', m', news', e, F', N', off, k ▸ hk, k, j⟩
    cases f with
    | ret v => exact p
    | brk => exact p
    | next => exact fin p
    | cont => exact fin p
  · rintro m nw h tk ⟨rfl, hK⟩ F N
    exact done m h tk hK F N
end
end Mine
end
section
open PySem PySem.W PyProof.Rows PySem.Calls
set_option Elab.async false
set_option maxRecDepth 100000
set_option maxHeartbeats 8000000
set_option linter.unusedVariables false
namespace Mine
theorem ltStrs_irrefl : ∀ l : List Str, ltStrs l l = false
  | [] => rfl
  | x :: xs => by simp only [ltStrs, beq_self_eq_true, if_true]; exact ltStrs_irrefl xs
theorem pref_ok : ∀ (s1 s2 : List Str), ltStrs s2 s1 = false → ∀ i, i < s1.length → s1.take i = s2.take i → i < s2.length
  | [], _, _, i, h, _ => absurd h (Nat.not_lt_zero _)
  | x :: xs, [], h, i, _, _ => by simp [ltStrs] at h
  | x :: xs, y :: ys, h, 0, _, _ => Nat.succ_pos _
  | x :: xs, y :: ys, h, i + 1, hl, ht => by
    simp only [List.take_succ_cons, List.cons.injEq] at ht
    obtain ⟨rfl, ht⟩ := ht
    simp only [ltStrs, beq_self_eq_true, if_true] at h
    exact Nat.succ_lt_succ (pref_ok xs ys h i (Nat.lt_of_succ_lt_succ hl) ht)
noncomputable def loS (a b : List Str) : List Str := if ltStrs b a = true then b else a
noncomputable def hiS (a b : List Str) : List Str := if ltStrs a b = true then b else a
theorem lo_hi (a b : List Str) : ltStrs (hiS a b) (loS a b) = false := by
  unfold hiS loS
  cases h1 : ltStrs b a <;> cases h2 : ltStrs a b <;> simp_all [ltStrs_irrefl]
theorem loS_len {a b : List Str} {n : Nat} (ha : a.length ≤ n) (hb : b.length ≤ n) : (loS a b).length ≤ n := by
  unfold loS; split <;> assumption
noncomputable def lcpS : List Str → List Str → List Str
  | x :: xs, y :: ys => if x == y then x :: lcpS xs ys else []
  | _, _ => []
theorem lcp_all : ∀ (a b : List Str), a.take a.length = b.take a.length → lcpS a b = a
  | [], _, _ => by cases ‹List Str› <;> rfl
  | x :: xs, [], h => by simp at h
  | x :: xs, y :: ys, h => by
    simp only [List.length_cons, List.take_succ_cons, List.cons.injEq] at h
    obtain ⟨rfl, h⟩ := h
    simp only [lcpS, beq_self_eq_true, if_true, lcp_all xs ys h]
theorem lcp_at : ∀ (a b : List Str) (i : Nat) (x y : Str), a.take i = b.take i → a[i]? = some x → b[i]? = some y → x ≠ y → lcpS a b = a.take i
  | a :: as, b :: bs, 0, x, y, _, h1, h2, hn => by
    simp only [List.getElem?_cons_zero, Option.some.injEq] at h1 h2
    subst h1 h2
    simp only [lcpS, beq_eq_false_iff_ne.mpr hn, Bool.false_eq_true, if_false, List.take_zero]
  | a :: as, b :: bs, i + 1, x, y, h, h1, h2, hn => by
    simp only [List.take_succ_cons, List.cons.injEq] at h
    obtain ⟨rfl, h⟩ := h
    simp only [List.getElem?_cons_succ] at h1 h2
    simp only [lcpS, beq_self_eq_true, if_true, List.take_succ_cons, lcp_at as bs i x y h h1 h2 hn]
  | [], _, _, _, _, _, h1, _, _ => by simp at h1
  | _ :: _, [], _, _, _, _, _, h2, _ => by simp at h2
theorem take_step {a b : List Str} {i : Nat} {x : Str} (h : a.take i = b.take i) (h1 : a[i]? = some x) (h2 : b[i]? = some x) : a.take (i + 1) = b.take (i + 1) := by
  rw [List.take_add_one, List.take_add_one, h, h1, h2]
end Mine
end
section
open PySem PySem.W PyProof.Rows PySem.Calls
set_option Elab.async false
set_option maxRecDepth 100000
set_option maxHeartbeats 8000000
set_option linter.unusedVariables false
namespace Mine
theorem StrsOf.are {a : List Value} {x : List Str} (h : StrsOf a x) : StrsAre a x := by
  induction h with
  | nil => exact .nil
  | cons x t h ih => exact .cons x t ih
theorem StrsOf.take {a : List Value} {x : List Str} (h : StrsOf a x) : ∀ i : Nat, StrsOf (a.take i) (x.take i) := by
  induction h with
  | nil => intro i; simp only [List.take_nil]; exact .nil
  | cons x t h ih =>
    intro i
    cases i with
    | zero => exact .nil
    | succ i => exact .cons x t (ih i)
theorem sum_len_le {l : List Str} (h : ∀ z ∈ l, z.length ≤ 100) : (l.map (·.length)).sum ≤ 100 * l.length := by
  induction l with
  | nil => exact Nat.le_refl _
  | cons a l ih =>
    have h1 := h a (.head _)
    have h2 := ih (fun z hz => h z (.tail _ hz))
    simp only [List.map_cons, List.sum_cons, List.length_cons]
    omega
theorem join_call {prog : Program} {w : World} {A : Around} {E : Value → Shared → Prop} {s : Shared} {Q : Value → Shared → Prop} {x : Str} {t : Tok} {D : Addr} {vs : List Value} {ys : List Str} (hl : s.heap.IsList D vs.toArray) (hi : StrsOf vs ys) (hsep : x.length ≤ 16) (hz : ∀ z ∈ ys, z.length ≤ 100) (hn : ys.length ≤ 200)
    (h : ∀ t' k, Q (.str (Txt.join x ys) t') { s with toks := k }) : wpAny (model prog w) A (call (.builtin "str.join") [.str x t, .ref D]) Q E s :=
  PyProof.Rows.join_listW hl (by simpa using hi.are) hsep (by have := sum_len_le hz; omega) h
theorem join_len {sep : Str} : ∀ l : List Str, (∀ z ∈ l, z.length ≤ 100) → (Str.join sep l).length ≤ (100 + sep.length) * l.length
  | [], _ => Nat.zero_le _
  | [x], h => by
    have h1 := h x (.head _)
    show x.length ≤ (100 + sep.length) * 1
    omega
  | x :: y :: r, h => by
    have h1 := h x (.head _)
    have h2 := join_len (sep := sep) (y :: r) (fun z hz => h z (.tail _ hz))
    rw [PyProof.Rows.join_cons_cons, Str.length_append, Str.length_append, List.length_cons, Nat.mul_add]
    omega
noncomputable def commonS (x y : Str) : Str := Str.ofString "/" ++ Txt.join (Str.ofString "/") (lcpS (loS ((Txt.split x (Str.ofString "/")).filter keepC) ((Txt.split y (Str.ofString "/")).filter keepC)) (hiS ((Txt.split x (Str.ofString "/")).filter keepC) ((Txt.split y (Str.ofString "/")).filter keepC)))
end Mine
end
section
open PySem PySem.W PyProof.Rows PySem.Calls
set_option Elab.async false
set_option maxRecDepth 100000
set_option maxHeartbeats 8000000
set_option linter.unusedVariables false
namespace Mine
section
theorem fresh_C5 : True ∧ True := by
  w_top off
  exact ⟨trivial, trivial⟩
end
theorem all_ne_cons {a b : Addr} {o : Obj} {r : List (Addr × Obj)} (h : b ≠ a) (hr : ∀ p ∈ r, p.1 ≠ a) : ∀ p ∈ (b, o) :: r, p.1 ≠ a := fun p hp => by
  rcases List.mem_cons.mp hp with rfl | hp
  · exact h
  · exact hr p hp
theorem strsOf_vals (l : List (Str × Tok)) : StrsOf (strValues l) (l.map (fun x => x.1)) := by
  induction l with
  | nil => exact .nil
  | cons a l ih => exact .cons a.1 a.2 ih
section
variable {w : World} {p : Program} {loose : List Str} {mean : ExcName → Option Value} {mg mb : Str → Option Value} {dp un : Nat} {gd : Option (List Code)} {cn : Str} {cs : Scope} {a : Addr} {ccd : Value} {cl : List (Str × Addr)} {outer : List Env} {A₀ : Around} {base h₀ : Heap} {L : Addr} {m : Str → Option Value} {news : List (Addr × Obj)} {s : Shared} {Q E : Value → Shared → Prop}
local macro_rules | `(tactic| k_updF) => `(tactic| (refine UpdF.head (by (repeat (first | assumption | refine all_ne_cons (by (show @Ne Nat _ _); omega) ?_)))))
local macro_rules | `(tactic| walk_at "exec Try") => `(tactic| (k_here; refine wpAny_Try_except ?_; refine Hold.out ?_))
local macro_rules | `(tactic| walk_at "exec Assign cons ListComp") => `(tactic| (k_here; (with_reducible show wpAny _ _ (exec (Stmt.Assign _ (Expr.ListComp (Expr.Call _ _ _ _) _ _ _) _) _) _ _ _); k_dflt (refine AssignLC_T (F₀ := by k_asm) (by rfl) (by with_unfolding_all rfl) (by rfl) (by decide) (by rfl) (by decide) (by rfl) (by rfl) (by rfl) ?_)))
local macro_rules | `(tactic| walk_at "eval ListComp") => `(tactic| (k_here; (with_reducible show wpAny _ _ (eval (Expr.ListComp _ _ _ _) (compEnvC _ _ _ _)) _ _ _); refine Hold.out ?_))
local macro_rules | `(tactic| walk_at "eval Name") => `(tactic| (k_here; k_dflt (refine nameX_L (by k_asm) (by first | assumption | rfl) ?_ (by rfl) (by rfl); k_whole)))
local macro_rules | `(tactic| walk_at "subscriptTail") => `(tactic| (k_here; (with_reducible show wpAny _ _ (subscriptTail (Expr.Name _ _) (Expr.Name _ _) (Value.ref _) (Value.int _ _)) _ _ _); refine Hold.out ?_))
local macro_rules | `(tactic| walk_at "exec For Tuple Call cons nil") => `(tactic| (k_here; k_dflt (refine For_turns (by assumption) ?_ (by intro _; rfl) (by assumption))))
local macro_rules | `(tactic| walk_at "call type:enumerate") => `(tactic| (k_here; refine Hold.out ?_))
local macro_rules | `(tactic| walk_at "call builtin:min") => `(tactic| (k_here; refine Hold.out ?_))
local macro_rules | `(tactic| walk_at "call builtin:max") => `(tactic| (k_here; refine Hold.out ?_))
local macro_rules | `(tactic| walk_at "subscriptTail") => `(tactic| (k_here; (with_reducible show wpAny _ _ (subscriptTail _ (Expr.Slice _ _ _ _) _ _) _ _ _); refine Hold.out ?_))
local macro_rules | `(tactic| walk_at "eval Name") => `(tactic| (k_here; (with_reducible show wpAny _ _ (eval (Expr.Name _ _) (compEnvC _ _ _ _)) _ _ _); k_dflt (first | refine LCgL.ld_own (by assumption) (.head _) (by assumption) (by assumption) ?_ | (refine lcf_cell (by assumption) (by rfl) (by assumption) (by assumption) ?_ (by rfl) (by rfl); k_whole))))
theorem compEndG {s₁ : Shared} {h' : Heap} {tk : Nat} {I C D D2 : Addr} {oI oC oD on : Obj} {nw : List (Addr × Obj)} {S : List (Addr × Obj) → Prop} {rest : Value → List (Addr × Obj) → Prop} (F : Fr h₀ L h' m) (N : News h₀ L h' ((D2, on) :: (I, oI) :: (C, oC) :: (D, oD) :: nw)) (o2 : LCg.Off1 D2 ((I, oI) :: (C, oC) :: (D, oD) :: nw)) (off : LCg.Off3 I C D nw)
   (hS : S ((D2, on) :: nw)) (r : rest (.ref D2) ((D2, on) :: nw)) : LCg.CompEnd h₀ L m s₁ I oI C oC D oD S rest (.ref D2) { s₁ with heap := h', toks := tk } := by
  obtain ⟨q1, q2, q3, -⟩ := o2
  refine LCg.CompEnd.intro F N ((D2, on) :: nw) (fun p hp => ?_) ⟨⟨Ne.symm q1, Ne.symm q2, Ne.symm q3⟩, off⟩ hS r
  rcases List.mem_cons.mp hp with rfl | hp
  · exact .tail _ (.head _)
  · rcases List.mem_cons.mp hp with rfl | hp
    · exact .tail _ (.tail _ (.head _))
    · rcases List.mem_cons.mp hp with rfl | hp
      · exact .tail _ (.tail _ (.tail _ (.head _)))
      · rcases List.mem_cons.mp hp with rfl | hp
        · exact .head _
        · exact .tail _ (.tail _ (.tail _ (.tail _ hp)))
theorem fcall_fspath {vs : List Value} {xs : List Str} (hvs : StrsOf vs xs) (B : Below A₀ base outer h₀) (X : (hd.heap_39 w.params).In h₀) (T : Top p loose mean mg mb h₀) (hk : cs.kind = .function) (hd : dp + 2 < recursionLimit) (hu : un + 16 < cLine) :
   FCall PySem.Challenge.rw_il0172_01.row.prog w (ktrTop dp un gd cn cs L a ccd cl outer).in1.in1.in1.in1 184 h₀ L m news s vs := by
  intro j v hv h tk nw Q F N hsub hq
  obtain ⟨tk1, y, -, rfl⟩ := hvs.at hv
  exact c_fspath (s := { s with heap := h, toks := tk }) (dp := dp) (un := un + 1 + 1 + 1 + 1) B F X N T hk (by omega) (by omega) (fun h' tk' F' N' => hq h' tk' F' N')
theorem c_common {x y : Str} {t u : Tok} {P : Addr} {ep : Nat} (B : Below A₀ base outer h₀) (F : Fr h₀ L s.heap m) (X : (hd.heap_39 w.params).In h₀) (N : News h₀ L s.heap news) (T : Top p loose mean mg mb h₀) (hk : cs.kind = .function) (hd : dp + 5 < recursionLimit) (hu : un + 40 < cLine) (hx : x.length ≤ 100) (hy : y.length ≤ 100) (sx : Txt.startswith x (Str.ofString "/") = true) (sy : Txt.startswith y (Str.ofString "/") = true) (zx : (Txt.split x (Str.ofString "/")).length ≤ 200) (zy : (Txt.split y (Str.ofString "/")).length ≤ 200) (hP : (P, listOf (List.toArray [.str x t, .str y u]) ep) ∈ news)
   (hret : ∀ h' tk' t', Fr h₀ L h' m → News h₀ L h' news → Q (.str (commonS x y) t') { s with heap := h', toks := tk' }) :
   wpAny (model PySem.Challenge.rw_il0172_01.row.prog w) (ktrTop dp un gd cn cs L a ccd cl outer) (call (.ref 224) [.ref P]) Q E s := by
  revert X; k_fill; intro X
  refine wpAny_call ?_
  k_dflt (refine' code_defC ?k1 ?k2 ?k3 ?k4 ?k5 ?kA ?kF ?kK ?k6 ?k7 ?k8 ?k9 ?kB ?kD ?_ ?c2 ?c3 ?c4; (case kA => exact rfl); (case kF => exact rfl); (case kK => first | exact rfl | assumption); (case k1 => k_asm); (case k2 => k_asm); (case k3 => k_asm); (case k4 => k_asm); (case k5 => k_asm); (case k6 => k_is); (case k7 => k_is); (case k8 => ktr_room); (case k9 => first | exact BindsTo.of_eq rfl | exact binds_K (by k_in) rfl (by k_is) rfl rfl rfl); (case kB => exact rfl); (case kD => decide +kernel); (case c2 => exact rfl); (case c3 => exact rfl); (case c4 => exact rfl); k_whole; intro g' L' h' tk' cells' FG' F' N' Y' B' X' T' l1; (try k_lt l1); k_cells Y'; (try simp only [List.cons_append, List.nil_append] at N'); (try dsimp only); (try k_lift B'); (try k_fold))
  refine hideQ ?_
  intro WQ hWQ
  refine genM1 (x := Str.ofString "paths") F' (v := some (.ref P)) rfl ?_
  clear F'
  intro mF hmP F'
  k_steps
  have hc1 : ∀ p ∈ news, p.1 ≠ L' + 1 := fun p hp => Nat.ne_of_lt (Nat.lt_succ_of_lt (l1 p hp))
  have hc2 : ∀ p ∈ news, p.1 ≠ L' + 1 + 1 := fun p hp => Nat.ne_of_lt (Nat.lt_succ_of_lt (Nat.lt_succ_of_lt (l1 p hp)))
  rename News g' L' _ _ => N1
  refine map_call (vs := List.toArray [.str x t, .str y u]) (ep := ep) (by assumption) N1 (.tail _ (.tail _ hP)) (fun i tu mp h2 F2 N2 i1 i2 i3 => ?_)
  (try dsimp only)
  k_steps
  rename News g' L' _ ((mp, _) :: _) => N3
  refine map_tuple (i := i) (tu := tu) (mp := mp) (f := 184) (P := P) (vs := [.str x t, .str y u]) (ep := ep) rfl (by assumption) N3 ⟨rfl, rfl⟩ (.tail _ (.tail _ hP)) i1 i2 i3 (by show 2 ≤ 1000; decide) (fcall_fspath (xs := [x, y]) (.cons _ _ (.cons _ _ .nil)) B' X' T' rfl ?_ ?_) (fun D h4 tk4 F4 N4 l4 => ?_)
  · ktr_room
  · ktr_units
  k_lt l4
  (try dsimp only)
  k_steps
  refine Hold.in ?_
  refine hideQP (env := (envOfC (Str.ofString "commonpath") _ L' 224 (.ref 223))) (by passes_own) ?_
  intro W1 V1 hW1 hV1
  k_steps
  refine SrcT.mk' (its := List.toArray [.str x t, .str y u]) rfl (by k_asm) (by k_asm) (by k_mem) (by show 2 ≤ sizeLine; rw [sizeLine_eq]; decide) ?_
  intro g9
  lcg_lit
  k_steps
  refine compEnd1 (by assumption) (by assumption) (by assumption) (by simp only [LCg.Off3]; assumption) (fun _ => .tail _ (.head _)) (fun A => ?_)
  k_steps
  refine compEnd1 (by assumption) (by assumption) (by assumption) (by simp only [LCg.Off3]; assumption) (fun _ => .tail _ (.tail _ (.head _))) (fun B => ?_)
  k_steps
  refine Hold.in ?_
  refine hideQP (env := (envOfC (Str.ofString "commonpath") _ L' 224 (.ref 223))) (by passes_own) ?_
  intro W2 V2 hW2 hV2
  k_steps
  rename News g' L' _ ((_, LCg.lst _) :: _) => N5
  obtain ⟨SP, rfl⟩ := head_addr N5
  refine SetComp_T (F₀ := by k_asm) (by rfl) (by decide) (by rfl) (by decide) (by rfl) ?_
  k_steps
  refine SrcS.mk' (List.toArray [Value.str x t, Value.str y u]) rfl (by k_asm) (by k_asm) (.tail _ (.tail _ (.tail _ (.head _)))) (by show 0 < 2; decide) (by show 2 ≤ 100; decide) ?el ?fin
  case el =>
    intro k v hv C oC m₂ h tk nw E' Q' hC hx' F7 N7 hsub hq
    have hce := hsub (L' + 1, _) (.tail _ (.tail _ (.tail _ (.tail _ (.tail _ (.head _))))))
    have hce2 := List.Mem.tail (C, oC) hce
    have hsv : ∃ z tz, v = Value.str z tz ∧ z.length ≤ 100 ∧ Txt.startswith z (Str.ofString "/") = true := by
      rcases k with _ | _ | k
      · exact ⟨x, t, (Option.some.inj hv).symm, hx, sx⟩
      · exact ⟨y, u, (Option.some.inj hv).symm, hy, sy⟩
      · simp at hv
    obtain ⟨z, tz, rfl, hzl, hzs⟩ := hsv
    k_steps
    rw [hzs]
    exact hq _ _ (by assumption) (by assumption)
  case fin =>
    intro h' tk DD ep b F7 N7 l7 hb
    refine assign_set1 rfl F7 N7 hb (fun h8 F8 N8 => ?_)
    k_steps
    refine hW2 _ _ ?_
    (try dsimp only)
    k_steps
    refine Hold.in ?_
    rename List.map _ _ = Txt.split x _ => fA
    rename List.map _ _ = Txt.split y _ => fB
    rename News g' L' _ _ => N9
    refine filt_comp (h₀ := g') (L := L') (xs := Txt.split x (Str.ofString "/")) (tc := ?tc) (ce := ?ce) (oce := ?oce) rfl (by assumption) N9 (by assumption) (by assumption) (.tail _ (.head _)) (by k_mem) ?hcm ?hcd (by rw [← fA]; exact strsOf_vals _) (fun z hz => ?_) ?_ (fun D2 h2 tk2 vs2 F2 N2 o2 hv2 => ?_) ?hce (by rfl) (fun _ => by rfl) (by rfl) (fun _ _ => by rfl) (fun _ _ => by rfl) (by with_unfolding_all rfl) (by decide) (by decide) (by rfl) (fun _ => by rfl)
    case hce => rfl
    case hcm => k_mem
    case hcd => assumption
    · rename ∀ a : Str, a ∈ _ → a.length ≤ x.length => hA
      exact Nat.le_trans (hA z (by rw [fA]; exact hz)) hx
    · exact zx
    refine compEndG F2 N2 o2 (by simp only [LCg.Off3]; assumption) (.inr ⟨_, .tail _ (.head _), rfl, _, rfl⟩) ?_
    k_steps
    refine Hold.in ?_
    rename News g' L' _ _ => N9
    refine filt_comp (h₀ := g') (L := L') (xs := Txt.split y (Str.ofString "/")) (tc := ?tc) (ce := ?ce) (oce := ?oce) rfl (by assumption) N9 (by assumption) (by assumption) (.tail _ (.head _)) (by k_mem) ?hcm ?hcd (by rw [← fB]; exact strsOf_vals _) (fun z hz => ?_) ?_ (fun D3 h3 tk3 vs3 F3 N3 o3 hv3 => ?_) ?hce (by rfl) (fun _ => by rfl) (by rfl) (fun _ _ => by rfl) (fun _ _ => by rfl) (by with_unfolding_all rfl) (by decide) (by decide) (by rfl) (fun _ => by rfl)
    case hce => rfl
    case hcm => k_mem
    case hcd => assumption
    · rename ∀ a : Str, a ∈ _ → a.length ≤ y.length => hA
      exact Nat.le_trans (hA z (by rw [fB]; exact hz)) hy
    · exact zy
    refine compEndG F3 N3 o3 (by simp only [LCg.Off3]; assumption) (.inr ⟨_, .tail _ (.tail _ (.head _)), rfl, _, rfl⟩) ?_
    k_steps
    refine Hold.in ?_
    rename News g' L' _ _ => N9
    refine call_min2 (h₀ := g') (L := L') (l := _) (a := D2) (b := D3) (by ktr_units) rfl (by assumption) N9 hv2 hv3 ⟨_, (N9 _ (.head _)).1, rfl, _, rfl⟩ ⟨_, (N9 (D2, _) (by k_mem)).1, rfl, _, rfl⟩ ⟨_, (N9 (D3, _) (by k_mem)).1, rfl, _, rfl⟩ (fun h11 tk11 F11 N11 => ?_)
    generalize hs1 : (if ltStrs (List.filter keepC (Txt.split y (Str.ofString "/"))) (List.filter keepC (Txt.split x (Str.ofString "/"))) = true then D3 else D2) = S1
    k_steps
    refine Hold.in ?_
    rename News g' L' _ _ => N11
    refine call_max2 (h₀ := g') (L := L') (l := _) (a := D2) (b := D3) (by ktr_units) rfl (by assumption) N11 hv2 hv3 ⟨_, (N11 _ (.head _)).1, rfl, _, rfl⟩ ⟨_, (N11 (D2, _) (by k_mem)).1, rfl, _, rfl⟩ ⟨_, (N11 (D3, _) (by k_mem)).1, rfl, _, rfl⟩ (fun h12 tk12 F12 N12 => ?_)
    generalize hs2 : (if ltStrs (List.filter keepC (Txt.split x (Str.ofString "/"))) (List.filter keepC (Txt.split y (Str.ofString "/"))) = true then D3 else D2) = S2
    k_steps
    rename News g' L' _ _ => N13
    rename Fr g' L' _ _ => F13
    have hlo := lo_hi (List.filter keepC (Txt.split x (Str.ofString "/"))) (List.filter keepC (Txt.split y (Str.ofString "/")))
    have hll := loS_len (n := 200) (Nat.le_trans (List.length_filter_le keepC (Txt.split x (Str.ofString "/"))) zx) (Nat.le_trans (List.length_filter_le keepC (Txt.split y (Str.ofString "/"))) zy)
    have hzz : ∀ z ∈ loS (List.filter keepC (Txt.split x (Str.ofString "/"))) (List.filter keepC (Txt.split y (Str.ofString "/"))), z.length ≤ 100 := by
      rename ∀ a : Str, a ∈ _ → a.length ≤ x.length => hA
      rename ∀ a : Str, a ∈ _ → a.length ≤ y.length => hB
      intro z hz
      unfold loS at hz
      split at hz
      · exact Nat.le_trans (hB z (by rw [fB]; exact (List.mem_filter.mp hz).1)) hy
      · exact Nat.le_trans (hA z (by rw [fA]; exact (List.mem_filter.mp hz).1)) hx
    unfold loS at hlo hll hzz
    unfold hiS at hlo
    have in1 : ∃ vs1, (S1, LCg.lst vs1) ∈ [(D3, LCg.lst vs3), (D2, LCg.lst vs2)] ∧ StrsOf vs1 (if ltStrs (List.filter keepC (Txt.split y (Str.ofString "/"))) (List.filter keepC (Txt.split x (Str.ofString "/"))) = true then (List.filter keepC (Txt.split y (Str.ofString "/"))) else (List.filter keepC (Txt.split x (Str.ofString "/")))) := by
      rw [← hs1]; split
      · exact ⟨vs3, .head _, hv3⟩
      · exact ⟨vs2, .tail _ (.head _), hv2⟩
    have in2 : ∃ vs1, (S2, LCg.lst vs1) ∈ [(D3, LCg.lst vs3), (D2, LCg.lst vs2)] ∧ StrsOf vs1 (if ltStrs (List.filter keepC (Txt.split x (Str.ofString "/"))) (List.filter keepC (Txt.split y (Str.ofString "/"))) = true then (List.filter keepC (Txt.split y (Str.ofString "/"))) else (List.filter keepC (Txt.split x (Str.ofString "/")))) := by
      rw [← hs2]; split
      · exact ⟨vs3, .head _, hv3⟩
      · exact ⟨vs2, .tail _ (.head _), hv2⟩
    obtain ⟨ws1, im1, iv1⟩ := in1
    obtain ⟨ws2, im2, iv2⟩ := in2
    have jm1 : List.Mem (S1, LCg.lst ws1) [(D3, LCg.lst vs3), (D2, LCg.lst vs2)] := im1
    have jm2 : List.Mem (S2, LCg.lst ws2) [(D3, LCg.lst vs3), (D2, LCg.lst vs2)] := im2
    refine Hold.in ?_
    refine ktu_enum (vs := ws1) (lo := LCg.lst ws1) rfl F13 N13 ?hm rfl rfl rfl (fun I hI => ?_)
    case hm =>
      rcases List.mem_cons.mp im1 with e | e
      · rw [e]; k_mem
      · rw [List.mem_singleton.mp e]; k_mem
    generalize hq1 : (if ltStrs (List.filter keepC (Txt.split y (Str.ofString "/"))) (List.filter keepC (Txt.split x (Str.ofString "/"))) = true then (List.filter keepC (Txt.split y (Str.ofString "/"))) else (List.filter keepC (Txt.split x (Str.ofString "/")))) = l1s at iv1 hlo hll hzz
    generalize hq2 : (if ltStrs (List.filter keepC (Txt.split x (Str.ofString "/"))) (List.filter keepC (Txt.split y (Str.ofString "/"))) = true then (List.filter keepC (Txt.split y (Str.ofString "/"))) else (List.filter keepC (Txt.split x (Str.ofString "/")))) = l2s at iv2 hlo
    refine enum_turnsK (fun i m' => m' (Str.ofString "s1") = some (.ref S1) ∧ m' (Str.ofString "s2") = some (.ref S2) ∧ m' (Str.ofString "common") = some (.ref S1) ∧ m' (Str.ofString "isabs") = some (.bool true) ∧ l1s.take i = l2s.take i) ⟨rfl, rfl, rfl, rfl, rfl⟩ ⟨?hm2, trivial⟩ (fun i v m5 T5 t5 h5 tk5 o5 o6 hv5 hK hT5 F5 c5 c6 N5 => ?step) (fun m5 h5 tk5 hK F5 N5 => ?done)
    case hm2 =>
      rcases List.mem_cons.mp im1 with e | e
      · rw [e]; k_mem
      · rw [List.mem_singleton.mp e]; k_mem
    case step =>
      obtain ⟨k1, k2, k3, k4, k5⟩ := hK
      obtain ⟨t6, c6, hc6, rfl⟩ := iv1.at hv5
      have hi1 : i < l1s.length := (List.getElem?_eq_some_iff.mp hc6).1
      have hi2 : i < l2s.length := pref_ok _ _ hlo i hi1 k5
      obtain ⟨c7, hc7⟩ : ∃ c7, l2s[i]? = some c7 := ⟨_, List.getElem?_eq_getElem hi2⟩
      obtain ⟨t7, hv7⟩ := iv2.at' hc7
      k_steps
      refine Hold.in ?_
      rename News g' L' _ _ => N6
      refine PyProof.Rows.item_listL (l := ws2) ⟨_, (N6 (S2, LCg.lst ws2) ?hm2).1, rfl, _, rfl⟩ (Int.natCast_nonneg i) (by omega) hv7 ?_
      case hm2 =>
        rcases List.mem_cons.mp im2 with e | e
        · rw [e]; k_mem
        · rw [List.mem_singleton.mp e]; k_mem
      k_steps
      · refine Hold.in ?_
        rename News g' L' _ _ => N6
        refine PyProof.Rows.slice_list (s := ⟨_, _, _, _, _⟩) (by assumption) N6 ⟨_, (N6 (S1, LCg.lst ws1) ?hm4).1, rfl, _, rfl⟩ .none (.int _ _) (fun h9 F9 N9 => ?_) (by with_unfolding_all rfl) (by intro _; with_unfolding_all rfl) (by rw [List.size_toArray, iv1.length, sizeLine_eq]; exact Nat.le_trans hll (by decide))
        case hm4 =>
          rcases List.mem_cons.mp im1 with e | e
          · rw [e]; k_mem
          · rw [List.mem_singleton.mp e]; k_mem
        rw [slicePick_upto', List.toList_toArray] at N9
        rename (c6 != c7) = true => hne
        have hlc := lcp_at l1s l2s i c6 c7 k5 hc6 hc7 (by simpa using hne)
        have hfin : commonS x y = Str.ofString "/" ++ Txt.join (Str.ofString "/") (l1s.take i) := by unfold commonS loS hiS; rw [hq1, hq2, hlc]
        k_steps
        rename News g' L' _ ((_, _) :: _) => N7
        refine join_call (vs := ws1.take i) (ys := l1s.take i) ⟨_, (N7 _ (.head _)).1, rfl, _, rfl⟩ (iv1.take i) (by decide) (fun z hz => hzz z (List.mem_of_mem_take hz)) (Nat.le_trans (List.length_take_le' i l1s) hll) (fun t8 tk8 => ?_)
        refine PyProof.Rows.add_str (fun t9 tk9 => ?_) (by
          have hj := join_len (sep := Str.ofString "/") (l1s.take i) (fun z hz => hzz z (List.mem_of_mem_take hz))
          have hj2 : (Str.ofString "/").length = 1 := by decide
          rw [show Txt.join (Str.ofString "/") (l1s.take i) = Str.join (Str.ofString "/") (l1s.take i) from eq_of_beq (PyProof.Rows.join_plain_closes _ _)]
          rw [sizeLine_eq]; rw [hj2] at hj ⊢
          have hl9 : ((l1s.take i)).length ≤ 200 := Nat.le_trans (List.length_take_le' i l1s) hll
          omega)
        rw [← hfin]
        k_steps
        refine hW1 _ _ ?_
        (try dsimp only)
        k_steps
        refine hWQ _ _ ?_
        k_steps
        exact hret _ _ _ (by assumption) (cb_drop (by assumption) (fun p hp => by repeat (first | exact hp | refine .tail _ ?_)))
      · rename (c6 != c7) = false => hne
        rename News g' L' _ _ => N7
        have hee : c6 = c7 := by simpa using hne
        subst hee
        rename Fr g' L' _ _ => F7
        refine ⟨_, _, _, _, rfl, F7, N7, ?_, rfl, k1, k2, k3, k4, take_step k5 hc6 hc7⟩
        intro p hp q hq
        have hlt := hI p hp
        rcases List.mem_cons.mp hq with rfl | hq
        · exact Nat.ne_of_lt (Nat.lt_succ_of_lt hlt)
        · rw [List.mem_singleton.mp hq]; exact Nat.ne_of_lt hlt
    case done =>
      obtain ⟨k1, k2, k3, k4, k5⟩ := hK
      have hlc := lcp_all l1s l2s (by rw [← iv1.length]; exact k5)
      have hfin : commonS x y = Str.ofString "/" ++ Txt.join (Str.ofString "/") l1s := by unfold commonS loS hiS; rw [hq1, hq2, hlc]
      k_steps
      rename News g' L' _ _ => N6
      refine join_call (vs := ws1) ⟨_, (N6 (S1, LCg.lst ws1) ?hm5).1, rfl, _, rfl⟩ iv1 (by decide) hzz hll (fun t8 tk8 => ?_)
      case hm5 =>
        rcases List.mem_cons.mp im1 with e | e
        · rw [e]; k_mem
        · rw [List.mem_singleton.mp e]; k_mem
      refine PyProof.Rows.add_str (fun t9 tk9 => ?_) (by
        have hj := join_len (sep := Str.ofString "/") l1s (hzz)
        have hj2 : (Str.ofString "/").length = 1 := by decide
        rw [show Txt.join (Str.ofString "/") l1s = Str.join (Str.ofString "/") l1s from eq_of_beq (PyProof.Rows.join_plain_closes _ _)]
        rw [sizeLine_eq]; rw [hj2] at hj ⊢
        have hl9 : (l1s).length ≤ 200 := hll
        omega)
      rw [← hfin]
      k_steps
      refine hW1 _ _ ?_
      (try dsimp only)
      k_steps
      refine hWQ _ _ ?_
      k_steps
      exact hret _ _ _ (by assumption) (cb_drop (by assumption) (fun p hp => by repeat (first | exact hp | refine .tail _ ?_)))
end
end Mine
end
section
open PySem PySem.W PyProof.Rows PySem.Calls
set_option Elab.async false
set_option maxRecDepth 100000
set_option maxHeartbeats 8000000
set_option linter.unusedVariables false
namespace Mine
theorem strs_ne {prog : Program} {w : World} {A : Around} {E : Value → Shared → Prop} {s : Shared} {Q : Value → Shared → Prop} {l b : Addr} {vs us : List Value} {xs : List Str} (hl : s.heap.IsList l vs.toArray) (hb : s.heap.IsList b us.toArray) (h1 : StrsOf vs xs) (h2 : StrsOf us xs) (hu : A.units < cLine) (h : Q (.bool false) s) :
   wpAny (model prog w) A (compareOp .NotEq (.ref l) (.ref b)) Q E s := by
  have hn := PySem.SeqAt.RcNeAt.lists (e := fun _ => true) hl hb (by rw [List.size_toArray, List.size_toArray, h1.length, h2.length]) hu (fun j j1 j2 => by
    obtain ⟨t, x, hx, e1⟩ := h1.at (i := j) (v := vs.toArray[j]) (by simp at j1 ⊢)
    obtain ⟨u, y, hy, e2⟩ := h2.at (i := j) (v := us.toArray[j]) (by simp at j2 ⊢)
    rw [hx] at hy
    cases hy
    rw [e1, e2]
    have := PySem.SeqAt.EqAt.str_str (A := A.in1) (s := s) x t x u
    simpa using this)
  refine cmp_ofNotEq (hn prog w E Q ?_)
  have e : (!(List.range vs.toArray.size).all fun _ => true) = false := by simp
  rw [e]
  exact h
end Mine
end
section
open PySem PySem.W PyProof.Rows PySem.Calls
set_option Elab.async false
set_option maxRecDepth 100000
set_option maxHeartbeats 8000000
set_option linter.unusedVariables false
namespace Mine
open LCg LCp
theorem compP_all {prog : Program} {w : World} {A : Around} {s : Shared} {h₀ : Heap} {L : Addr} {m : Str → Option Value} {env : Env} {elt : Expr} {x x₂ : Str} {scope : Scope} {cl : List (Str × Addr)} {S : List (Addr × Obj) → Prop} {P : Nat → Value → Prop}
    {Fin : List Value → List (Addr × Obj) → Prop} {news : List (Addr × Obj)} {n : Nat} (P0 : Nat → List Value → Prop) (h0 : P0 0 []) (hS : S news)
    (step : ∀ i ys v, i < n → P i v → P0 i ys → ∃ (t : Addr) (ot : Obj) (v₁ v₂ : Value) (nt : Nat), v = .ref t ∧ (t, ot) ∈ news ∧ ot.cls = .type "tuple" ∧ ot.data = .seq #[v₁, v₂] nt ∧
      ∀ I oI C oC D m₂ h tk (E' : Value → Shared → Prop), NsObj oC m₂ → m₂ x = some v₁ → m₂ x₂ = some v₂ → Fr h₀ L h m → News h₀ L h ((I, oI) :: (C, oC) :: (D, lst ys) :: news) → Off3 I C D news → ((@Ne Nat I C) ∧ (@Ne Nat I D) ∧ (@Ne Nat C D)) →
      wpAny (model prog w) A (eval elt (compEnvC scope cl C env)) (fun y s' => ∃ h' tk', s' = { s with heap := h', toks := tk' } ∧ Fr h₀ L h' m ∧ News h₀ L h' ((I, oI) :: (C, oC) :: (D, lst ys) :: news) ∧ P0 (i + 1) (ys ++ [y])) E' { s with heap := h, toks := tk })
    (fin : ∀ ys, P0 n ys → Fin ys news) : CompRestP prog w A h₀ L m env elt x x₂ scope cl s S P Fin n 0 [] news := by
  have key : ∀ (j i : Nat) (ys : List Value), i + j = n → P0 i ys → CompRestP prog w A h₀ L m env elt x x₂ scope cl s S P Fin j i ys news := by
    intro j
    induction j with
    | zero =>
      intro i ys hi hp
      have e : i = n := by omega
      subst e
      exact CompRestP.zero (fin ys hp)
    | succ j ih =>
      intro i ys hi hp
      refine CompRestP.succ (fun v hv => ?_)
      obtain ⟨t, ot, v₁, v₂, nt, e1, e2, e3, e4, hw⟩ := step i ys v (by omega) hv hp
      refine ⟨t, ot, v₁, v₂, nt, e1, e2, e3, e4, ?_⟩
      intro I oI C oC D m₂ h tk E' hC h1 h2 F N off ne
      refine wpAny_mono (hw I oI C oC D m₂ h tk E' hC h1 h2 F N off ne) (fun y s' h' => ?_) fun _ _ e => e
      obtain ⟨h', tk', rfl, F', N', hp'⟩ := h'
      exact ⟨h', tk', news, rfl, F', N', off, hS, ih (i + 1) _ (by omega) hp'⟩
  exact key n 0 [] (Nat.zero_add n) h0
end Mine
end
section
open PySem PySem.W PyProof.Rows PySem.Calls
set_option Elab.async false
set_option maxRecDepth 100000
set_option maxHeartbeats 8000000
set_option linter.unusedVariables false
namespace Mine
section
theorem fresh_PK1 : True ∧ True := by
  w_top off
  exact ⟨trivial, trivial⟩
end
inductive StkI (nm pa : Nat → Str) (tl : List (Addr × Obj)) : List Value → List Nat → Prop
  | nil : StkI nm pa tl [] []
  | cons {vs : List Value} {st : List Nat} (q : Addr) (i : Nat) (t u : Tok) (hq : (q, tupO #[.str (pa i) t, .str (baseS (nm i)) u]) ∈ tl) (h : StkI nm pa tl vs st) : StkI nm pa tl (.ref q :: vs) (i :: st)
theorem StkI.length {nm pa : Nat → Str} {tl : List (Addr × Obj)} {vs : List Value} {st : List Nat} (h : StkI nm pa tl vs st) : vs.length = st.length := by
  induction h with
  | nil => rfl
  | cons q i t u hq h ih => rw [List.length_cons, List.length_cons, ih]
theorem StkI.take {nm pa : Nat → Str} {tl : List (Addr × Obj)} {vs : List Value} {st : List Nat} (h : StkI nm pa tl vs st) : ∀ n : Nat, StkI nm pa tl (vs.take n) (st.take n) := by
  induction h with
  | nil => intro n; simp only [List.take_nil]; exact .nil
  | cons q i t u hq h ih =>
    intro n
    cases n with
    | zero => exact .nil
    | succ n => exact .cons q i t u hq (ih n)
theorem StkI.mono {nm pa : Nat → Str} {tl tl' : List (Addr × Obj)} {vs : List Value} {st : List Nat} (h : StkI nm pa tl vs st) (hs : ∀ p ∈ tl, p ∈ tl') : StkI nm pa tl' vs st := by
  induction h with
  | nil => exact .nil
  | cons q i t u hq h ih => exact .cons q i t u (hs _ hq) ih
theorem StkI.snoc {nm pa : Nat → Str} {tl : List (Addr × Obj)} {vs : List Value} {st : List Nat} (h : StkI nm pa tl vs st) (q : Addr) (i : Nat) (t u : Tok) (hq : (q, tupO #[.str (pa i) t, .str (baseS (nm i)) u]) ∈ tl) : StkI nm pa tl (vs ++ [.ref q]) (st ++ [i]) := by
  induction h with
  | nil => exact .cons q i t u hq .nil
  | cons q' i' t' u' hq' h ih => exact .cons q' i' t' u' hq' ih
theorem StkI.at {nm pa : Nat → Str} {tl : List (Addr × Obj)} {vs : List Value} {st : List Nat} (h : StkI nm pa tl vs st) : ∀ {n : Nat} {v : Value}, vs[n]? = some v → ∃ q i t u, st[n]? = some i ∧ v = .ref q ∧ (q, tupO #[.str (pa i) t, .str (baseS (nm i)) u]) ∈ tl := by
  induction h with
  | nil => intro n v hv; simp at hv
  | cons q i t u hq h ih =>
    intro n v hv
    cases n with
    | zero => exact ⟨q, i, t, u, rfl, (Option.some.inj hv).symm, hq⟩
    | succ n => exact ih hv
noncomputable def pkStepI (ch : Nat → List Nat) (st : List Nat) (z : Nat) : List Nat := st.take (st.length - (ch z).length) ++ [z]
noncomputable def pkStI (ch : Nat → List Nat) (is : List Nat) : List Nat := is.foldl (pkStepI ch) []
noncomputable def pkTop (ch : Nat → List Nat) (is : List Nat) : Nat → Nat
  | 0 => 0
  | k + 1 => max (pkTop ch is k) (pkStI ch (is.take (k + 1))).length
noncomputable def dueI (nm pa : Nat → Str) (i j : Nat) : Bool := (pa j != nm i) && (commonS (pa j) (nm i) == pa j)
theorem pkTop_max {ch : Nat → List Nat} {is : List Nat} {i n : Nat} (h : (pkStI ch (is.take (i + 1))).length = n) : ((pkTop ch is (i + 1) : Nat) : Int) = if (n : Int) > (pkTop ch is i : Int) then (n : Int) else (pkTop ch is i : Int) := by
  show ((max (pkTop ch is i) (pkStI ch (is.take (i + 1))).length : Nat) : Int) = _
  rw [h]
  split <;> omega
theorem pkStI_mem {ch : Nat → List Nat} {y : Nat} (l : List Nat) (h : y ∈ pkStI ch l) : y ∈ l := by
  have key : ∀ (l st : List Nat), y ∈ l.foldl (pkStepI ch) st → y ∈ st ∨ y ∈ l := by
    intro l
    induction l with
    | nil => intro st h; exact .inl h
    | cons a l ih =>
      intro st h
      rcases ih _ h with h | h
      · unfold pkStepI at h
        rcases List.mem_append.mp h with h | h
        · exact .inl (List.mem_of_mem_take h)
        · rw [List.mem_singleton.mp h]; exact .inr (.head _)
      · exact .inr (.tail _ h)
  rcases key l [] h with h | h
  · cases h
  · exact h
theorem pkStI_succ {ch : Nat → List Nat} {is : List Nat} {k i : Nat} (h : is[k]? = some i) : pkStI ch (is.take (k + 1)) = pkStepI ch (pkStI ch (is.take k)) i := by
  unfold pkStI
  rw [List.take_add_one, h, List.foldl_append]
  rfl
theorem filt_take {α : Type} {p : α → Bool} {l : List α} {j : Nat} {y : α} (h : l[j]? = some y) : (l.take (j + 1)).filter p = (l.take j).filter p ++ if p y = true then [y] else [] := by
  rw [List.take_add_one, h]
  simp only [Option.toList_some, List.filter_append]
  cases hk : p y <;> simp [hk]
theorem perm4 {α : Type} {a b c d : α} {l : List α} : ∀ p ∈ b :: c :: d :: a :: l, p ∈ a :: b :: c :: d :: l := by
  intro p hp
  rcases List.mem_cons.mp hp with rfl | hp
  · exact .tail _ (.head _)
  rcases List.mem_cons.mp hp with rfl | hp
  · exact .tail _ (.tail _ (.head _))
  rcases List.mem_cons.mp hp with rfl | hp
  · exact .tail _ (.tail _ (.tail _ (.head _)))
  rcases List.mem_cons.mp hp with rfl | hp
  · exact .head _
  · exact .tail _ (.tail _ (.tail _ (.tail _ hp)))
theorem perm2 {α : Type} {a b : α} {l : List α} : ∀ p ∈ b :: a :: l, p ∈ a :: b :: l := by
  intro p hp
  rcases List.mem_cons.mp hp with rfl | hp
  · exact .tail _ (.head _)
  rcases List.mem_cons.mp hp with rfl | hp
  · exact .head _
  · exact .tail _ (.tail _ hp)
theorem perm3 {α : Type} {a b c : α} {l : List α} : ∀ p ∈ b :: c :: a :: l, p ∈ a :: b :: c :: l := by
  intro p hp
  rcases List.mem_cons.mp hp with rfl | hp
  · exact .tail _ (.head _)
  rcases List.mem_cons.mp hp with rfl | hp
  · exact .tail _ (.tail _ (.head _))
  rcases List.mem_cons.mp hp with rfl | hp
  · exact .head _
  · exact .tail _ (.tail _ (.tail _ hp))
theorem W_appendL {prog : Program} {w : World} {A : Around} {E : Value → Shared → Prop} {s : Shared} {h₀ : Heap} {L D : Addr} {m : Str → Option Value} {news : List (Addr × Obj)} {vs : List Value} {ep : Nat} {x : Value} {Q : Value → Shared → Prop}
   (F : Fr h₀ L s.heap m) (N : News h₀ L s.heap ((D, listOf vs.toArray ep) :: news)) (hn : ∀ q ∈ news, q.1 ≠ D) (hv : vs.length ≤ 1000)
   (h : ∀ h' e2, Fr h₀ L h' m → News h₀ L h' ((D, listOf (vs ++ [x]).toArray e2) :: news) → Q .none { s with heap := h' }) : wpAny (model prog w) A (call (.builtin "list.append") [.ref D, x]) Q E s := by
  have nD := N _ (.head _)
  refine append_at (hsz := by rw [List.size_toArray, sizeLine_eq]; omega) nD.1 (fun h' hs hD => ?_)
  refine h h' (ep + 1) (F.change hs nD.2.1 nD.2.2) (fun p hp => ?_)
  rcases List.mem_cons.mp hp with rfl | hp
  · refine ⟨?_, nD.2⟩
    rw [hD, List.push_toArray]
  · exact ⟨hs.extBut _ _ (hn p hp) (N p (.tail _ hp)).1, (N p (.tail _ hp)).2⟩
inductive PkJ (nm : Nat → Str) (ch : Nat → List Nat) (pa : Nat → Str) (is : List Nat) (p0 dx wa bx ax : Addr) (news : List (Addr × Obj)) (k : Nat) (m₁ : Str → Option Value) (n₁ : List (Addr × Obj)) : Prop
  | mk (vs : List Value) (ep : Nat) (hh : Int) (tt : Tok) (vv : Value) (nn : Nat) (tl : List (Addr × Obj)) (tp : Tok) (e : n₁ = (p0, pileO vs ep dx) :: (dx, sizeD hh tt vv nn) :: (tl ++ news)) (h1 : StkI nm pa tl vs (pkStI ch (is.take k))) (h2 : (pkStI ch (is.take k)).length ≤ 100) (h3 : ∀ p ∈ tl ++ news, p.1 ≠ p0 ∧ p.1 ≠ dx)
    (k1 : m₁ (Str.ofString "pile") = some (.ref p0)) (k2 : m₁ (Str.ofString "peak") = some (.int (pkTop ch is k) tp)) (k3 : m₁ (Str.ofString "walk") = some (.ref wa)) (k4 : m₁ (Str.ofString "below") = some (.ref bx)) (k5 : m₁ (Str.ofString "above") = some (.ref ax)) : PkJ nm ch pa is p0 dx wa bx ax news k m₁ n₁
inductive PkD (nm : Nat → Str) (ch : Nat → List Nat) (pa : Nat → Str) (is : List Nat) (D p0 wa bx ax : Addr) (nw : List (Addr × Obj)) (i z : Nat) (tz : Tok) (j : Nat) (m₂ : Str → Option Value) (n₂ : List (Addr × Obj)) : Prop
  | mk (vsD : List Value) (ed : Nat) (e : n₂ = (D, listOf (List.toArray vsD) ed) :: nw) (h1 : StrsOf vsD ((((is.take (i + 1)).take j).filter (dueI nm pa z)).map nm)) (j1 : m₂ (Str.ofString "due") = some (.ref D)) (j2 : m₂ (Str.ofString "place") = some (.str (nm z) tz)) (j3 : m₂ (Str.ofString "pile") = some (.ref p0)) (j4 : ∃ tp2, m₂ (Str.ofString "peak") = some (.int (pkTop ch is (i + 1)) tp2)) (j5 : m₂ (Str.ofString "walk") = some (.ref wa)) (j6 : m₂ (Str.ofString "below") = some (.ref bx)) (j7 : m₂ (Str.ofString "above") = some (.ref ax)) : PkD nm ch pa is D p0 wa bx ax nw i z tz j m₂ n₂
section
variable {w : World} {p : Program} {loose : List Str} {mean : ExcName → Option Value} {mg mb : Str → Option Value} {dp un : Nat} {gd : Option (List Code)} {cn : Str} {cs : Scope} {a : Addr} {ccd : Value} {cl : List (Str × Addr)} {outer : List Env} {A₀ : Around} {base h₀ : Heap} {L : Addr} {m : Str → Option Value} {news : List (Addr × Obj)} {s : Shared} {Q E : Value → Shared → Prop}
local macro_rules | `(tactic| walk_at "call ref") => `(tactic| (k_here; (with_reducible show wpAny _ _ (call (Value.ref _) _) _ _ _); refine Hold.out ?_))
local macro_rules | `(tactic| walk_at "eval Name") => `(tactic| (k_here; (with_reducible show wpAny _ _ (eval (Expr.Name _ _) (compEnvC _ _ _ _)) _ _ _); k_dflt (first | refine LCgL.ld_own (by assumption) (.tail _ (.head _)) (by assumption) (by assumption) ?_ | (refine LCgL.ld_global (by k_asm) (by k_asm) (by k_asm) (by k_is) ?_))))
local macro_rules | `(tactic| walk_at "compareOp NotEq ref ref") => `(tactic| (k_here; refine Hold.out ?_))
local macro_rules | `(tactic| walk_at "eval ListComp") => `(tactic| (k_here; refine Hold.out ?_))
local macro_rules | `(tactic| walk_at "call builtin:len") => `(tactic| (k_here; refine Hold.out ?_))
local macro_rules | `(tactic| walk_at "pyIter ref") => `(tactic| (k_here; refine Hold.out ?_))
local macro_rules | `(tactic| walk_at "getMethod ref") => `(tactic| (k_here; (first | (with_reducible show wpAny _ _ (getMethod _ "push" _) _ _ _) | (with_reducible show wpAny _ _ (getMethod _ "pop_from" _) _ _ _) | (with_reducible show wpAny _ _ (getMethod _ "part_count" _) _ _ _) | (with_reducible show wpAny _ _ (getMethod _ "reset" _) _ _ _)); refine Hold.out ?_))
local macro_rules | `(tactic| walk_at "call builtin:list.append") => `(tactic| (k_here; refine Hold.out ?_))
local macro_rules | `(tactic| walk_at "exec For Name Subscript cons nil") => `(tactic| (k_here; k_dflt (refine For_turns (by k_asm) ?_)))
local macro_rules | `(tactic| walk_at "exec For Name Call cons nil") => `(tactic| (k_here; k_dflt (refine For_turns (by k_asm) ?_)))
local macro_rules | `(tactic| walk_at "eval Name") => `(tactic| (k_here; k_dflt (refine ld (by k_asm) (by assumption) ?_; k_whole)))
local macro_rules | `(tactic| walk_at "subscriptTail") => `(tactic| (k_here; (with_reducible show wpAny _ _ (subscriptTail _ _ (Value.ref _) _) _ _ _); refine Hold.out ?_))
local macro_rules | `(tactic| walk_at "subscriptTail") => `(tactic| (k_here; (with_reducible show wpAny _ _ (subscriptTail _ _ (Value.ref _) (Value.str _ _)) _ _ _); k_dflt (refine kda_item (knd := PySem.strKind _ _) (by k_asm) (by with_reducible (repeat (first | exact List.mem_append_right _ (by assumption) | refine List.mem_cons_of_mem _ ?_))) (by assumption) (strKind_is _ _ _ _) (by assumption) ?_)))
theorem c_peak (t : Tr) (pa : Nat → Str) {wa bx ax : Addr} {wv : List Value} {is : List Nat} {ow : Nat} {oa : Obj} {kva : List (Str × Value)} (B : Below A₀ base outer h₀) (F : Fr h₀ L s.heap m) (X : (hd.heap_39 w.params).In h₀) (N : News h₀ L s.heap news) (T : Top p loose mean mg mb h₀) (hk : cs.kind = .function) (hd : dp + 8 < recursionLimit) (hu : un + 64 < cLine)
   (hw : StrsOf wv (is.map t.nm)) (hwl : is.length ≤ 100) (hin : ∀ i ∈ is, i < t.n) (hwm : (wa, listOf (List.toArray wv) ow) ∈ news) (hB : t.Below w bx news)
   (hcl : ∀ i, i < t.n → (t.ch i).length ≤ 100)
   (ham : (ax, oa) ∈ news) (had : oa.IsDictOf (PySem.strKind PySem.Challenge.rw_il0172_01.row.prog w) kva) (hav : ∀ i, i < t.n → ∃ tk, valueAt kva (t.nm i) = some (.str (pa i) tk))
   (hnm : ∀ i, i < t.n → (t.nm i).length ≤ 100 ∧ Txt.startswith (t.nm i) (Str.ofString "/") = true ∧ (Txt.split (t.nm i) (Str.ofString "/")).length ≤ 200)
   (hpa : ∀ i, i < t.n → (pa i).length ≤ 100 ∧ (pa i).length ≠ 0 ∧ Txt.startswith (pa i) (Str.ofString "/") = true ∧ (Txt.split (pa i) (Str.ofString "/")).length ≤ 200)
   (hba : ∀ i, i < t.n → (baseS (t.nm i)).length ≤ 1000 ∧ Txt.startswith (baseS (t.nm i)) (Str.ofString "/") = false)
   (hok : ∀ k i, is[k]? = some i → (t.ch i).length ≤ (pkStI t.ch (is.take k)).length ∧ (pkStI t.ch (is.take (k + 1))).length ≤ 100 ∧ (pkStI t.ch (is.take (k + 1))).map (fun j => joinS (pa j) (baseS (t.nm j))) = ((is.take (k + 1)).filter (dueI t.nm pa i)).map t.nm)
   (hret : ∀ h' tk' t', Fr h₀ L h' m → News h₀ L h' news → Q (.int (pkTop t.ch is is.length) t') { s with heap := h', toks := tk' }) :
   wpAny (model PySem.Challenge.rw_il0172_01.row.prog w) (ktrTop dp un gd cn cs L a ccd cl outer) (call (.ref 236) [.ref wa, .ref bx, .ref ax]) Q E s := by
  have hwlen : wv.length = is.length := by rw [hw.length, List.length_map]
  revert X; k_fill; intro X
  refine wpAny_call ?_
  k_dflt (refine' code_def ?k1 ?k2 ?k3 ?k4 ?k5 ?kA ?kF ?kK ?k6 ?k7 ?k8 ?k9 ?kB ?_ ?c2 ?c3 ?c4 ?c5; (case kA => exact rfl); (case kF => exact rfl); (case kK => first | exact rfl | assumption); (case k1 => k_asm); (case k2 => k_asm); (case k3 => k_asm); (case k4 => k_asm); (case k5 => k_asm); (case k6 => k_is); (case k7 => k_is); (case k8 => ktr_room); (case k9 => first | exact BindsTo.of_eq rfl | exact binds_K (by k_in) rfl (by k_is) rfl rfl rfl); (case c5 => decide); (case kB => exact locs rfl); (case c2 => exact rfl); (case c3 => exact rfl); (case c4 => exact rfl); k_whole; intro g' L' h' FG' F' N' B' X' T'; (try dsimp only); (try k_lift B'); (try k_fold))
  refine hideQ ?_
  intro WQ hWQ
  k_steps
  refine Hold.in ?_
  refine stN (g := s.gens) (d := s.drawn) (os := s.os) ?_
  k_dflt (refine' c_pile ?B ?F ?X ?N ?T ?K ?d ?u ?_; (case B => k_asm); (case F => k_asm); (case X => k_asm); (case N => k_asm); (case T => k_asm); (case K => first | exact rfl | assumption); (case d => ktr_room); (case u => ktr_units))
  intro h9 tk9 p0 dx e2 hh tt tq nn F9 N9 l9a l9b
  (try dsimp only); (try k_fold)
  k_steps
  rename News g' L' _ _ => N1
  refine PyProof.Rows.len_list ⟨_, (N1 _ (.tail _ (.tail _ hwm))).1, rfl, _, rfl⟩ (by rw [List.size_toArray, hwlen]; omega) ?_
  rw [List.size_toArray, hwlen]
  k_steps
  rename IsRange _ _ _ _ _ _ _ _ => hrg
  rename News g' L' _ _ => N2
  refine iter_rangeI (k := is.length) (fun m₀ nw I k m₁ n₁ => PkJ t.nm t.ch pa is p0 dx wa bx ax news k m₁ n₁) rfl hrg rfl (by omega) (by assumption) N2 ?h0 ?turn ?done
  case turn =>
    rintro I i v m₁ news₁ h₁ tk₁ it hlt hi ⟨ti, rfl⟩ hic ⟨vs, ep, hh, tt, vv, nn, tl, tp, rfl, hst, hsl, hoff2, k1, k2, k3, k4, k5⟩ hoff F₁ N₁
    refine hideT ?_
    intro W hW
    k_steps
    obtain ⟨z, hz⟩ : ∃ z, is[i]? = some z := ⟨_, List.getElem?_eq_getElem hi⟩
    have hzn : z < t.n := hin z (List.mem_of_getElem? hz)
    obtain ⟨tz, hvz⟩ := hw.at' (y := t.nm z) (i := i) (by rw [List.getElem?_map, hz]; rfl)
    obtain ⟨ok1, ok2, ok3⟩ := hok i z hz
    obtain ⟨nm1, nm2, nm3⟩ := hnm z hzn
    obtain ⟨tkz, hpz⟩ := hav z hzn
    obtain ⟨ob, kvs, hb1, hb2, hb3⟩ := id hB
    obtain ⟨l, cv, epl, hl1, hl2, hl3⟩ := hb3 z hzn
    have hdx : ∀ q ∈ ((dx, sizeD hh tt vv nn) : Addr × Obj) :: (I, it) :: (tl ++ news), q.1 ≠ p0 := by
      intro q hq
      rcases List.mem_cons.mp hq with rfl | hq
      · exact Nat.ne_of_lt l9b
      rcases List.mem_cons.mp hq with rfl | hq
      · exact fun e => hoff _ (.head _) e.symm
      · exact (hoff2 q hq).1
    have hdx2 : ∀ q ∈ (I, it) :: (tl ++ news), q.1 ≠ dx := by
      intro q hq
      rcases List.mem_cons.mp hq with rfl | hq
      · exact fun e => hoff _ (.tail _ (.head _)) e.symm
      · exact (hoff2 q hq).2
    refine Hold.in ?_
    refine stN (g := s.gens) (d := s.drawn) (os := s.os) ?_
    rename News g' L' _ _ => N3
    refine PyProof.Rows.item_listL (l := wv) ⟨_, (N3 (wa, _) (.tail _ (.tail _ (.tail _ (List.mem_append_right _ hwm))))).1, rfl, _, rfl⟩ (Int.natCast_nonneg i) (by omega) hvz ?_
    k_steps
    refine Hold.in ?_
    refine stN (g := s.gens) (d := s.drawn) (os := s.os) ?_
    rename News g' L' _ _ => N3
    have N4 := cb_drop N3 perm3
    refine W_method (C := 100) (p := p0) (dx := dx) (vs := vs) (ep := ep) (by assumption) (by assumption) N4 (.head _) (.tail _ (.head _)) (by k_is) (by k_is) (by k_is) (by k_is) (by first | rfl | decide) (by rfl) ?_
    k_steps
    refine Hold.in ?_
    refine stN (g := s.gens) (d := s.drawn) (os := s.os) ?_
    refine W_method (C := 100) (p := p0) (dx := dx) (vs := vs) (ep := ep) (by assumption) (by assumption) N4 (.head _) (.tail _ (.head _)) (by k_is) (by k_is) (by k_is) (by k_is) (by first | rfl | decide) (by rfl) ?_
    k_steps
    refine Hold.in ?_
    refine stN (g := s.gens) (d := s.drawn) (os := s.os) ?_
    k_dflt (refine' c_partcount ?B ?F ?X N4 ?T ?K ?d ?u ?_; (case B => k_asm); (case F => k_asm); (case X => k_asm); (case T => k_asm); (case K => first | exact rfl | assumption); (case d => ktr_room); (case u => ktr_units))
    intro h9 tk9 t9 F9 N9
    (try dsimp only); (try k_fold)
    have hcvl : cv.length = (t.ch z).length := by rw [hl3.length, List.length_map]
    have hclz := hcl z hzn
    have hvsl := hst.length
    k_steps
    refine Hold.in ?_
    refine stN (g := s.gens) (d := s.drawn) (os := s.os) ?_
    refine PyProof.Rows.len_list ⟨_, (N9 (l, _) (.tail _ (.tail _ (.tail _ (List.mem_append_right _ hl2))))).1, rfl, _, rfl⟩ (by rw [List.size_toArray, hcvl]; omega) ?_
    rw [List.size_toArray]
    k_steps
    refine Hold.in ?_
    refine stN (g := s.gens) (d := s.drawn) (os := s.os) ?_
    rename News g' L' _ _ => N5
    rw [show ((vs.length : Int) - (cv.length : Int)) = ((vs.length - cv.length : Nat) : Int) by omega]
    k_dflt (refine' c_popfrom ?B ?F ?X N5 ?T ?K ?d ?u ?_ ?_ hdx ?_; (case B => k_asm); (case F => k_asm); (case X => k_asm); (case T => k_asm); (case K => first | exact rfl | assumption); (case d => ktr_room); (case u => ktr_units); (case _ => omega); (case _ => omega))
    intro h9 tk9 q1 e9 e10 F9 N9 l9
    (try dsimp only); (try k_fold)
    k_steps
    refine Hold.in ?_
    refine stN (g := s.gens) (d := s.drawn) (os := s.os) ?_
    refine W_method (C := 100) (p := p0) (dx := dx) (vs := List.take (vs.length - cv.length) vs) (ep := e10) (by assumption) (by assumption) N9 (.tail _ (.head _)) (.tail _ (.tail _ (.head _))) (by k_is) (by k_is) (by k_is) (by k_is) (by first | rfl | decide) (by rfl) ?_
    k_steps
    refine Hold.in ?_
    refine stN (g := s.gens) (d := s.drawn) (os := s.os) ?_
    k_dflt (refine' c_basename ?B ?F ?X N9 ?T ?K ?d ?u ?_ ?_; (case B => k_asm); (case F => k_asm); (case X => k_asm); (case T => k_asm); (case K => first | exact rfl | assumption); (case d => ktr_room); (case u => ktr_units); (case _ => omega))
    intro h9 tk9 tb F9 N9
    (try dsimp only); (try k_fold)
    k_steps
    refine Hold.in ?_
    refine stN (g := s.gens) (d := s.drawn) (os := s.os) ?_
    rename News g' L' _ _ => N5
    have N6 := cb_drop N5 (fun p hp => List.Mem.tail _ hp)
    k_dflt (refine' c_push ?B ?F ?X N6 ?T ?K ?d ?u ?_ hdx ?_; (case B => k_asm); (case F => k_asm); (case X => k_asm); (case T => k_asm); (case K => first | exact rfl | assumption); (case d => ktr_room); (case u => ktr_units); (case _ => (rw [List.length_take]; omega)))
    intro h9 tk9 q2 e11 F9 N9 l9
    (try dsimp only); (try k_fold)
    k_steps
    have hst2 : StkI t.nm pa ((q2, tupO #[.str (pa z) tkz, .str (baseS (t.nm z)) tb]) :: tl) (vs.take (vs.length - cv.length) ++ [.ref q2]) (pkStI t.ch (is.take (i + 1))) := by
      rw [pkStI_succ hz]
      unfold pkStepI
      rw [← hvsl, ← hcvl]
      exact ((hst.take _).mono (fun p hp => .tail _ hp)).snoc q2 z tkz tb (.head _)
    have N7 := cb_drop N9 perm4
    have hq2p : @LT.lt Nat _ p0 q2 := l9 _ (.head _)
    have hq2d : @LT.lt Nat _ dx q2 := l9 _ (.tail _ (.head _))
    have hq2I : @LT.lt Nat _ I q2 := l9 _ (.tail _ (.tail _ (.head _)))
    generalize htl2 : (q2, tupO #[.str (pa z) tkz, .str (baseS (t.nm z)) tb]) :: tl = tl2 at hst2
    replace N7 : News g' L' h9 ((p0, pileO (vs.take (vs.length - cv.length) ++ [.ref q2]) e11 dx) :: (dx, sizeD hh tt vv nn) :: (I, it) :: (tl2 ++ news)) := by rw [← htl2]; exact N7
    have hsub2 : ∀ p ∈ tl, p ∈ tl2 := fun p hp => by rw [← htl2]; exact .tail _ hp
    have hoff3 : ∀ p ∈ tl2 ++ news, p.1 ≠ p0 ∧ p.1 ≠ dx ∧ p.1 ≠ I := by
      rw [← htl2]
      intro p hp
      rcases List.mem_cons.mp hp with rfl | hp
      · exact ⟨Nat.ne_of_gt hq2p, Nat.ne_of_gt hq2d, Nat.ne_of_gt hq2I⟩
      · exact ⟨(hoff2 p hp).1, (hoff2 p hp).2, hoff p (.tail _ (.tail _ hp))⟩
    clear htl2 N9 N6 N5
    generalize vs.take (vs.length - cv.length) ++ [.ref q2] = vs2 at hst2 N7
    have hvsl2 := hst2.length
    have hdx3 : ∀ q ∈ ((dx, sizeD hh tt vv nn) : Addr × Obj) :: (I, it) :: (tl2 ++ news), q.1 ≠ p0 := by
      intro q hq
      rcases List.mem_cons.mp hq with rfl | hq
      · exact Nat.ne_of_lt l9b
      rcases List.mem_cons.mp hq with rfl | hq
      · exact fun e => hoff _ (.head _) e.symm
      · exact (hoff3 q hq).1
    have hdx4 : ∀ q ∈ (I, it) :: (tl2 ++ news), q.1 ≠ dx := by
      intro q hq
      rcases List.mem_cons.mp hq with rfl | hq
      · exact fun e => hoff _ (.tail _ (.head _)) e.symm
      · exact (hoff3 q hq).2.1
    refine Hold.in ?_
    refine stN (g := s.gens) (d := s.drawn) (os := s.os) ?_
    refine W_method (C := 100) (p := p0) (dx := dx) (vs := vs2) (ep := e11) (by assumption) (by assumption) N7 (.head _) (.tail _ (.head _)) (by k_is) (by k_is) (by k_is) (by k_is) (by first | rfl | decide) (by rfl) ?_
    k_steps
    refine Hold.in ?_
    refine stN (g := s.gens) (d := s.drawn) (os := s.os) ?_
    k_dflt (refine' c_partcount ?B ?F ?X N7 ?T ?K ?d ?u ?_; (case B => k_asm); (case F => k_asm); (case X => k_asm); (case T => k_asm); (case K => first | exact rfl | assumption); (case d => ktr_room); (case u => ktr_units))
    intro h9 tk9 tpc F9 N9
    (try dsimp only); (try k_fold)
    k_steps
    refine Hold.in ?_
    refine stN (g := s.gens) (d := s.drawn) (os := s.os) ?_
    rename News g' L' _ _ => N5
    obtain ⟨D, rfl⟩ := head_addr N5
    rename @LT.lt Nat _ p0 _ ∧ _ => lD
    obtain ⟨lDp, lDd, lDI, lDn⟩ := lD
    rw [show ((i : Int) + 1) = ((i + 1 : Nat) : Int) from rfl]
    refine PyProof.Rows.slice_list (s := ⟨_, _, _, _, _⟩) (by assumption) N5 ⟨_, (N5 (wa, _) (.tail _ (.tail _ (.tail _ (.tail _ (List.mem_append_right _ hwm)))))).1, rfl, _, rfl⟩ .none (.int _ _) (fun h9 F9 N9 => ?_) (by with_unfolding_all rfl) (by intro _; with_unfolding_all rfl) (by rw [List.size_toArray, hwlen, sizeLine_eq]; omega)
    rw [slicePick_upto', List.toList_toArray] at N9
    k_steps
    obtain ⟨S, hSe⟩ := head_addr N9
    rw [← hSe] at N9 ⊢
    have hDS : @LT.lt Nat _ D S := by
      rw [hSe]
      exact Nat.lt_succ_of_lt (Heap.lt_size (N5 _ (.head _)).1)
    have hDn : ∀ q ∈ ((S, { cls := .type "list", data := .seq (List.toArray (wv.take (i + 1))) }) : Addr × Obj) :: (p0, pileO vs2 e11 dx) :: (dx, sizeD hh tt vv nn) :: (I, it) :: (tl2 ++ news), q.1 ≠ D := by
      intro q hq
      rcases List.mem_cons.mp hq with rfl | hq
      · exact Nat.ne_of_gt hDS
      rcases List.mem_cons.mp hq with rfl | hq
      · exact Nat.ne_of_lt lDp
      rcases List.mem_cons.mp hq with rfl | hq
      · exact Nat.ne_of_lt lDd
      rcases List.mem_cons.mp hq with rfl | hq
      · exact Nat.ne_of_lt lDI
      · exact Nat.ne_of_lt (allLt_to lDn q hq)
    have htk : StrsOf (wv.take (i + 1)) ((is.take (i + 1)).map t.nm) := by rw [List.map_take]; exact hw.take _
    have N10 := cb_drop N9 (perm2 (a := (S, _)) (b := (D, _)))
    refine iter_listI (vs := wv.take (i + 1)) (ax := S) (lo := { cls := .type "list", data := .seq (List.toArray (wv.take (i + 1))) }) (fun m₀ nw I2 j m₂ n₂ => PkD t.nm t.ch pa is D p0 wa bx ax ((S, { cls := .type "list", data := .seq (List.toArray (wv.take (i + 1))) }) :: (p0, pileO vs2 e11 dx) :: (dx, sizeD hh tt vv nn) :: (I, it) :: (tl2 ++ news)) i z tz j m₂ n₂) rfl F9 N10 (.tail _ (.head _)) rfl rfl ?i0 ?iturn ?idone
    case i0 =>
      intro I2 hI2
      refine ⟨[], 0, rfl, .nil, rfl, rfl, ?_, ⟨if (vs2.length : Int) > (pkTop t.ch is i : Int) then tpc else tp, ?_⟩, ?_, ?_, ?_⟩
      · exact k1
      · rw [pkTop_max hvsl2.symm]; rfl
      · exact k3
      · exact k4
      · exact k5
    case iturn =>
      intro I2 j v m₂ n₂ h₂ tk₂ it2 lI2 hv hit2 hJ hs2 hI2 F₂ N₂
      obtain ⟨vsD, ed, rfl, hvD, j1, j2, j3, ⟨tp2, j4⟩, j5, j6, j7⟩ := hJ
      refine hideT ?_
      intro W2 hW2
      obtain ⟨ty, nmy, hy, rfl⟩ := htk.at hv
      rw [List.getElem?_map] at hy
      obtain ⟨y, hyi, rfl⟩ := Option.map_eq_some_iff.mp hy
      have hyn : y < t.n := hin y (List.mem_of_mem_take (List.mem_of_getElem? hyi))
      obtain ⟨ny1, ny2, ny3⟩ := hnm y hyn
      obtain ⟨py1, py2, py3, py4⟩ := hpa y hyn
      obtain ⟨tky, hpy⟩ := hav y hyn
      k_steps
      · refine Hold.in ?_
        refine stN (g := s.gens) (d := s.drawn) (os := s.os) ?_
        rename News g' L' _ _ => N6
        k_dflt (refine' c_common (x := pa y) (y := t.nm z) ?yB ?yF ?yX N6 ?yT ?yK ?yd ?yu py1 nm1 py3 nm2 py4 nm3 (.head _) ?_; (case yB => k_asm); (case yF => k_asm); (case yX => k_asm); (case yT => k_asm); (case yK => first | exact rfl | assumption); (case yd => ktr_room); (case yu => ktr_units))
        intro h9 tk9 tcm F9 N9
        (try dsimp only); (try k_fold)
        k_steps
        · refine Hold.in ?_
          refine stN (g := s.gens) (d := s.drawn) (os := s.os) ?_
          rename (commonS (pa y) (t.nm z) == pa y) = true => hc1
          have hdue : dueI t.nm pa z y = true := by unfold dueI; rw [hc1, Bool.and_true]; assumption
          rename News g' L' _ _ => N7
          have N8 := cb_drop N7 (fun p hp => List.Mem.tail _ (perm2 (a := (I2, it2)) (b := (D, _)) p hp))
          refine W_appendL (by assumption) N8 (fun q hq => ?_) ?_ (fun h10 e12 F10 N10 => ?_)
          · rcases List.mem_cons.mp hq with rfl | hq
            · exact fun e => hI2 _ (.head _) e.symm
            · exact hDn q hq
          · rw [hvD.length, List.length_map]
            exact Nat.le_trans (List.length_filter_le _ _) (Nat.le_trans (List.length_take_le' _ _) (Nat.le_trans (List.length_take_le' _ _) (Nat.le_trans hwl (by decide))))
          k_steps
          refine hW2 _ _ ?_
          refine TEnd.intro ((D, listOf (List.toArray (vsD ++ [.str (t.nm y) ty])) e12) :: (S, { cls := .type "list", data := .seq (List.toArray (wv.take (i + 1))) }) :: (p0, pileO vs2 e11 dx) :: (dx, sizeD hh tt vv nn) :: (I, it) :: (tl2 ++ news)) F10 (cb_drop N10 perm2) (fun p hp => by rw [List.mem_singleton.mp hp]; exact .tail _ (.head _)) ?_ ⟨_, _, rfl, ?_, ?_, ?_, ?_, ⟨tp2, ?_⟩, ?_, ?_, ?_⟩
          · intro p hp
            rcases List.mem_cons.mp hp with rfl | hp
            · exact hI2 (D, listOf (List.toArray vsD) ed) (.head _)
            · exact hI2 p (.tail _ hp)
          · rw [filt_take hyi, hdue, if_pos rfl, List.map_append]
            exact hvD.append (.cons _ _ .nil)
          all_goals (refine (if_neg (by decide +kernel)).trans ?_; with_reducible assumption)
        · rename (commonS (pa y) (t.nm z) == pa y) = false => hc1
          have hdue : dueI t.nm pa z y = false := by unfold dueI; rw [hc1, Bool.and_false]
          rename News g' L' _ _ => N7
          refine hW2 _ _ ?_
          refine TEnd.intro ((D, listOf (List.toArray vsD) ed) :: (S, { cls := .type "list", data := .seq (List.toArray (wv.take (i + 1))) }) :: (p0, pileO vs2 e11 dx) :: (dx, sizeD hh tt vv nn) :: (I, it) :: (tl2 ++ news)) (by assumption) (cb_drop N7 (fun p hp => List.Mem.tail _ hp)) (fun p hp => by rw [List.mem_singleton.mp hp]; exact .tail _ (.head _)) hI2 ⟨_, _, rfl, ?_, ?_, ?_, ?_, ⟨tp2, ?_⟩, ?_, ?_, ?_⟩
          · rw [filt_take hyi, hdue, if_neg (by decide), List.append_nil]
            exact hvD
          all_goals (refine (if_neg (by decide +kernel)).trans ?_; with_reducible assumption)
      · rename (pa y != t.nm z) = false => hc1
        have hdue : dueI t.nm pa z y = false := by unfold dueI; rw [hc1, Bool.false_and]
        rename News g' L' _ _ => N7
        refine hW2 _ _ ?_
        refine TEnd.intro ((D, listOf (List.toArray vsD) ed) :: (S, { cls := .type "list", data := .seq (List.toArray (wv.take (i + 1))) }) :: (p0, pileO vs2 e11 dx) :: (dx, sizeD hh tt vv nn) :: (I, it) :: (tl2 ++ news)) (by assumption) N7 (fun p hp => by rw [List.mem_singleton.mp hp]; exact .tail _ (.head _)) hI2 ⟨_, _, rfl, ?_, ?_, ?_, ?_, ⟨tp2, ?_⟩, ?_, ?_, ?_⟩
        · rw [filt_take hyi, hdue, if_neg (by decide), List.append_nil]
          exact hvD
        all_goals (refine (if_neg (by decide +kernel)).trans ?_; with_reducible assumption)
    case idone =>
      rintro I2 m₂ n₂ h₂ tk₂ ⟨vsD, ed, rfl, hvD, j1, j2, j3, ⟨tp2, j4⟩, j5, j6, j7⟩ hI2 F₂ N₂
      replace F₂ : Fr g' L' h₂ m₂ := F₂
      have N3 : News g' L' h₂ ((p0, pileO vs2 e11 dx) :: (dx, sizeD hh tt vv nn) :: (I, it) :: (D, listOf (List.toArray vsD) ed) :: (tl2 ++ news)) := cb_drop N₂ (fun p hp => by
        rcases List.mem_cons.mp hp with rfl | hp
        · exact .tail _ (.tail _ (.head _))
        rcases List.mem_cons.mp hp with rfl | hp
        · exact .tail _ (.tail _ (.tail _ (.head _)))
        rcases List.mem_cons.mp hp with rfl | hp
        · exact .tail _ (.tail _ (.tail _ (.tail _ (.head _))))
        rcases List.mem_cons.mp hp with rfl | hp
        · exact .head _
        · exact .tail _ (.tail _ (.tail _ (.tail _ (.tail _ hp)))))
      have hdx5 : ∀ q ∈ ((dx, sizeD hh tt vv nn) : Addr × Obj) :: (I, it) :: (D, listOf (List.toArray vsD) ed) :: (tl2 ++ news), q.1 ≠ p0 := by
        intro q hq
        rcases List.mem_cons.mp hq with rfl | hq
        · exact Nat.ne_of_lt l9b
        rcases List.mem_cons.mp hq with rfl | hq
        · exact fun e => hoff _ (.head _) e.symm
        rcases List.mem_cons.mp hq with rfl | hq
        · exact Nat.ne_of_gt lDp
        · exact (hoff3 q hq).1
      have hdx6 : ∀ q ∈ (I, it) :: (D, listOf (List.toArray vsD) ed) :: (tl2 ++ news), q.1 ≠ dx := by
        intro q hq
        rcases List.mem_cons.mp hq with rfl | hq
        · exact fun e => hoff _ (.tail _ (.head _)) e.symm
        rcases List.mem_cons.mp hq with rfl | hq
        · exact Nat.ne_of_gt lDd
        · exact (hoff3 q hq).2.1
      clear N₂
      k_steps
      refine Hold.in ?_
      refine stN (g := s.gens) (d := s.drawn) (os := s.os) ?_
      refine W_method (C := 100) (p := p0) (dx := dx) (vs := vs2) (ep := e11) (by assumption) (by assumption) N3 (.head _) (.tail _ (.head _)) (by k_is) (by k_is) (by k_is) (by k_is) (by first | rfl | decide) (by rfl) ?_
      k_steps
      refine Hold.in ?_
      refine stN (g := s.gens) (d := s.drawn) (os := s.os) ?_
      k_dflt (refine' c_popfrom (i := 0) ?yB ?yF ?yX N3 ?yT ?yK ?yd ?yu (Nat.zero_le _) ?_ hdx5 ?_; (case yB => k_asm); (case yF => k_asm); (case yX => k_asm); (case yT => k_asm); (case yK => first | exact rfl | assumption); (case yd => ktr_room); (case yu => ktr_units); (case _ => omega))
      intro h9 tk9 q3 e13 e14 F9 N9 l9
      (try dsimp only); (try k_fold)
      rw [List.drop_zero, List.take_zero] at N9
      k_steps
      refine Hold.in ?_
      refine stN (g := s.gens) (d := s.drawn) (os := s.os) ?_
      rename News g' L' _ _ => N5
      refine W_method (C := 100) (p := p0) (dx := dx) (vs := []) (ep := e14) (by assumption) (by assumption) N5 (.tail _ (.head _)) (.tail _ (.tail _ (.head _))) (by k_is) (by k_is) (by k_is) (by k_is) (by first | rfl | decide) (by rfl) ?_
      k_steps
      refine Hold.in ?_
      refine stN (g := s.gens) (d := s.drawn) (os := s.os) ?_
      rename News g' L' _ _ => N6
      k_dflt (refine' c_reset (vs := []) (ns := vs2) ?yB ?yF ?yX N6 ?yT ?yK ?yd ?yu (Nat.zero_le _) ?_ hdx5 hdx6 ?_ ?_ ?_; (case yB => k_asm); (case yF => k_asm); (case yX => k_asm); (case yT => k_asm); (case yK => first | exact rfl | assumption); (case yd => ktr_room); (case yu => ktr_units); (case _ => omega); (case _ => exact Nat.ne_of_gt (l9 _ (.head _))); (case _ => exact Nat.ne_of_gt (l9 _ (.tail _ (.head _)))))
      intro h9 tk9 e15 t15 F9 N9
      (try dsimp only); (try k_fold)
      k_steps
      refine Hold.in ?_
      refine stN (g := s.gens) (d := s.drawn) (os := s.os) ?_
      refine LCp.ListComp_P (F₀ := by assumption) (by with_unfolding_all rfl) (by decide) (by rfl) (by decide) (by rfl) (by rfl) (by decide) ?_
      k_steps
      refine LCp.SrcLP.ledger (its := List.toArray vs2) (k := e13) rfl (by assumption) N9 (.head _) (by rw [List.size_toArray, sizeLine_eq]; omega) (fun g => ?_)
      refine compP_all (fun k ys => StrsOf ys (((pkStI t.ch (is.take (i + 1))).take k).map (fun j => joinS (pa j) (baseS (t.nm j))))) (by rw [List.take_zero]; exact .nil) (.inr ⟨_, .head _, rfl, _, rfl⟩) (fun k ys v hk hv hys => ?step) (fun ys hys D2 h2 tk2 F2 N2 off2 => ?fin)
      case step =>
        obtain ⟨q, y, ty, uy, hyi, rfl, hq⟩ := hst2.at (n := k) (v := v) (by simpa using hv)
        refine ⟨q, tupO #[.str (pa y) ty, .str (baseS (t.nm y)) uy], _, _, _, rfl, .tail _ (.tail _ (.tail _ (.tail _ (.tail _ (List.mem_append_left _ hq))))), rfl, rfl, ?_⟩
        intro I3 oI3 C3 oC3 D3 m₃ h3 tk3 E3 hC3 h31 h32 F3 N3 off3 ne3
        have hyn : y < t.n := hin y (List.mem_of_mem_take (pkStI_mem _ (List.mem_of_getElem? hyi)))
        obtain ⟨py1, py2, py3, py4⟩ := hpa y hyn
        obtain ⟨by1, by2⟩ := hba y hyn
        k_steps
        refine Hold.in ?_
        refine stN (g := s.gens) (d := s.drawn) (os := s.os) ?_
        k_dflt (refine' c_join ?yB ?yF ?yX N3 ?yT ?yK ?yd ?yu (Nat.le_trans py1 (by decide)) by1 py2 by2 ?_; (case yB => k_asm); (case yF => k_asm); (case yX => k_asm); (case yT => k_asm); (case yK => first | exact rfl | assumption); (case yd => ktr_room); (case yu => ktr_units))
        intro h9 tk9 tj F9 N9
        (try dsimp only); (try k_fold)
        refine ⟨_, _, rfl, F9, N9, ?_⟩
        rw [List.take_add_one, hyi, List.map_append]
        exact hys.append (.cons _ _ .nil)
      case fin =>
        have hys2 : StrsOf ys (((is.take (i + 1)).filter (dueI t.nm pa z)).map t.nm) := by
          rw [← ok3]
          rw [List.size_toArray, hvsl2, List.take_length] at hys
          exact hys
        have hvD2 : StrsOf vsD (((is.take (i + 1)).filter (dueI t.nm pa z)).map t.nm) := by
          rw [show (wv.take (i + 1)).length = (is.take (i + 1)).length by rw [List.length_take, List.length_take, hwlen], List.take_length] at hvD
          exact hvD
        dsimp only
        k_steps
        refine Hold.in ?_
        refine stN (g := s.gens) (d := s.drawn) (os := s.os) ?_
        refine strs_ne (vs := ys) (us := vsD) ⟨_, (N2 _ (.head _)).1, rfl, _, rfl⟩ ⟨_, (N2 (D, _) (.tail _ (.tail _ (.tail _ (.tail _ (.tail _ (.head _))))))).1, rfl, _, rfl⟩ hys2 hvD2 ?_ ?_
        · ktr_units
        k_steps
        refine hW _ _ ?_
        refine TEnd.intro ((p0, pileO vs2 e15 dx) :: (dx, sizeD hh tt (.int 0 t15) nn) :: (tl2 ++ news)) F2 (cb_drop N2 (fun p hp => ?_)) (fun p hp => nomatch hp) (fun p hp => ?_) ⟨vs2, e15, hh, tt, .int 0 t15, nn, tl2, tp2, rfl, hst2, ok2, fun p hp => ⟨(hoff3 p hp).1, (hoff3 p hp).2.1⟩, ?_, ?_, ?_, ?_, ?_⟩
        · rcases List.mem_cons.mp hp with rfl | hp
          · exact .tail _ (.tail _ (.tail _ (.tail _ (.head _))))
          rcases List.mem_cons.mp hp with rfl | hp
          · exact .tail _ (.tail _ (.head _))
          rcases List.mem_cons.mp hp with rfl | hp
          · exact .tail _ (.tail _ (.tail _ (.head _)))
          · exact .tail _ (.tail _ (.tail _ (.tail _ (.tail _ (.tail _ hp)))))
        · rcases List.mem_cons.mp hp with rfl | hp
          · exact hoff (p0, pileO vs ep dx) (.head _)
          rcases List.mem_cons.mp hp with rfl | hp
          · exact hoff (dx, sizeD hh tt vv nn) (.tail _ (.head _))
          · exact (hoff3 p hp).2.2
        all_goals (refine (if_neg (by decide +kernel)).trans ?_; with_reducible assumption)
  case h0 =>
    intro I lI
    exact ⟨[], e2, hh, tt, _, nn, [], _, rfl, .nil, Nat.zero_le _, fun p hp => ⟨Nat.ne_of_lt (Nat.lt_trans (l9a p hp) l9b), Nat.ne_of_lt (l9a p hp)⟩, rfl, rfl, rfl, rfl, rfl⟩
  case done =>
    rintro I m₁ news₁ h₁ tk₁ ⟨vs, ep, hh, tt, vv, nn, tl, tp, rfl, hst, hsl, hoff2, k1, k2, k3, k4, k5⟩ hoff F₁ N₁
    k_steps
    refine hWQ _ _ ?_
    k_steps
    exact hret _ _ _ (by assumption) (cb_drop (by assumption) (fun p hp => .tail _ (.tail _ (List.mem_append_right _ hp))))
end
end Mine
end
section
open PySem PySem.W PyProof.Rows PySem.Calls
set_option Elab.async false
set_option maxRecDepth 100000
set_option maxHeartbeats 8000000
set_option linter.unusedVariables false
namespace Mine
open LCg
theorem comp_C {prog : Program} {w : World} {A : Around} {E : Value → Shared → Prop} {s : Shared} {h₀ : Heap} {L : Addr} {m : Str → Option Value} {news : List (Addr × Obj)} {env : Env} {elt iter : Expr} {x : Str} {px : Pos} {scope : Scope} {cl : List (Str × Addr)} {pos : Pos} {Q : Value → Shared → Prop} {ax : Addr} {its : Array Value} {k : Nat}
  (hh : A.handled = none) (F : Fr h₀ L s.heap m) (N : News h₀ L s.heap news) (hm : (ax, ({ cls := .type "list", data := .seq its k } : Obj)) ∈ news) (hsz : its.size ≤ 1000)
  (P0 : Nat → List Value → Prop) (h0 : P0 0 [])
  (step : ∀ i ys v, its[i]? = some v → P0 i ys → ∀ I oI C oC D c oc h tk (E' : Value → Shared → Prop), oc.data = .cell (some v) → Fr h₀ L h m → News h₀ L h ((I, oI) :: (C, oC) :: (c, oc) :: (D, lst ys) :: news) → (∀ p ∈ news, @LT.lt Nat _ p.1 I) → @LT.lt Nat _ I D → @LT.lt Nat _ D C → @LT.lt Nat _ C c →
     wpAny (model prog w) A (eval elt (compEnvC scope ((x, c) :: cl) C env)) (fun y s' => ∃ h' tk', s' = { s with heap := h', toks := tk' } ∧ Fr h₀ L h' m ∧ News h₀ L h' ((I, oI) :: (C, oC) :: (c, oc) :: (D, lst ys) :: news) ∧ P0 (i + 1) (ys ++ [y])) E' { s with heap := h, toks := tk })
  (fin : ∀ D h tk ys, Fr h₀ L h m → News h₀ L h ((D, lst ys) :: news) → (∀ p ∈ news, p.1 < D) → P0 its.size ys → Q (.ref D) { s with heap := h, toks := tk })
  (hiter : ∀ Q' : Value → Shared → Prop, Q' (.ref ax) s → wpAny (model prog w) A (eval iter env) Q' E s)
  (hclos : closureFor scope env = pure cl) (hcf : ∀ n, cellsFrom n scope.names cl = (x, n) :: cl) (hpc : ∀ h, pushCells h scope.names = h.push { cls := .type "cell", data := .cell none })
  (hkind : scope.kind = .function) (hnames : ∀ y ∈ scope.names, y.2 = .local → scope.names.lookup y.1 = some .local) (hx : (relabel scope env).names.lookup x = some .cell)
  (hs : ∀ x, foldedSetIterable iter env x = pure x := by intro _; rfl) :
  wpAny (model prog w) A (eval (.ListComp elt [⟨.Name x px, iter, [], 0⟩] scope pos) env) Q E s := by
  rw [eval_ListComp]
  refine wpAny_comprehension_free (use := none) rfl hs hclos hkind hnames (hiter _ ?_)
  have hlist : s.heap.IsList ax its := ⟨_, (N _ hm).1, rfl, _, rfl⟩
  have hlt : ax < s.heap.objs.size := Heap.lt_size (N _ hm).1
  have hlts : ∀ p ∈ news, p.1 < s.heap.objs.size := fun p hp => Heap.lt_size (N p hp).1
  have hLlt : L < s.heap.objs.size := F.ns.lt
  refine wpAny_pyIter_list hlist ?_
  refine wpAny_newObj_type ?_
  simp only [newFunctionEnv, Option.isSome_some, if_true]
  refine wpAny_bind (wpAny_alloc ?_)
  refine wpAny_bind (wpAny_layCells _ (fun name kind cells => by cases hkc : kind == NameKind.cell <;> simp [hkc]) _ _ _ _ ?_)
  rw [hcf, hpc]
  refine wpAny_bind (wpAny_pure (wpAny_pure ?_))
  dsimp only
  generalize hg : (((s.heap.push { cls := Value.type "list_iterator", data := Data.fields #[Value.ref ax, Value.int 0 0] }).push { cls := Value.type "list", data := Data.seq #[] }).push { cls := Value.type "dict", data := Data.dict #[] }).push { cls := Value.type "cell", data := Data.cell none } = g4
  rw [show ((s.heap.push { cls := Value.type "list_iterator", data := Data.fields #[Value.ref ax, Value.int 0 0] }).push { cls := Value.type "list", data := Data.seq #[] }).objs.size = s.heap.objs.size + 1 + 1 by rw [Heap.size_push, Heap.size_push]]
  rw [show (((s.heap.push { cls := Value.type "list_iterator", data := Data.fields #[Value.ref ax, Value.int 0 0] }).push { cls := Value.type "list", data := Data.seq #[] }).push { cls := Value.type "dict", data := Data.dict #[] }).objs.size = s.heap.objs.size + 1 + 1 + 1 by rw [Heap.size_push, Heap.size_push, Heap.size_push]]
  rw [show (s.heap.push { cls := Value.type "list_iterator", data := Data.fields #[Value.ref ax, Value.int 0 0] }).objs.size = s.heap.objs.size + 1 by rw [Heap.size_push]]
  have gI : g4.get? s.heap.objs.size = some { cls := Value.type "list_iterator", data := Data.fields #[Value.ref ax, Value.int 0 0] } := by
    rw [← hg]; exact Heap.get?_push_of_some _ (Heap.get?_push_of_some _ (Heap.get?_push_of_some _ (Heap.get?_push_size _ rfl)))
  have gD : g4.get? (s.heap.objs.size + 1) = some (lst []) := by
    rw [← hg]; exact Heap.get?_push_of_some _ (Heap.get?_push_of_some _ (by have := Heap.get?_push_size (s.heap.push { cls := Value.type "list_iterator", data := Data.fields #[Value.ref ax, Value.int 0 0] }) (o := { cls := Value.type "list", data := Data.seq #[] }) rfl; rw [Heap.size_push] at this; exact this))
  have gC : g4.Ns (s.heap.objs.size + 1 + 1) (fun _ => none) := by
    have := Heap.Ns.new ((s.heap.push { cls := Value.type "list_iterator", data := Data.fields #[Value.ref ax, Value.int 0 0] }).push { cls := Value.type "list", data := Data.seq #[] }) (.type "dict")
    rw [Heap.size_push, Heap.size_push] at this
    rw [← hg]
    exact this.keeps (fun b o e => Heap.get?_push_of_some _ e)
  have gc : g4.get? (s.heap.objs.size + 1 + 1 + 1) = some { cls := Value.type "cell", data := Data.cell none } := by
    have := Heap.get?_push_size (((s.heap.push { cls := Value.type "list_iterator", data := Data.fields #[Value.ref ax, Value.int 0 0] }).push { cls := Value.type "list", data := Data.seq #[] }).push { cls := Value.type "dict", data := Data.dict #[] }) (o := { cls := Value.type "cell", data := Data.cell none }) rfl
    rw [Heap.size_push, Heap.size_push, Heap.size_push, hg] at this; exact this
  have up : ∀ b o, s.heap.get? b = some o → g4.get? b = some o := fun b o e => by
    rw [← hg]; exact Heap.get?_push_of_some _ (Heap.get?_push_of_some _ (Heap.get?_push_of_some _ (Heap.get?_push_of_some _ e)))
  clear hg
  generalize hI : s.heap.objs.size = I at *
  have fresh : ∀ a, I ≤ a → s.heap.get? a = none := fun a ha => by
    cases e : s.heap.get? a with
    | none => rfl
    | some o' => exact absurd (Heap.lt_size e) (Nat.not_lt.mpr (hI ▸ ha))
  have fresh₀ : ∀ a, I ≤ a → h₀.get? a = none := fun a ha => by
    cases e : h₀.get? a with
    | none => rfl
    | some o' => have := F.keep a o' e; rw [fresh a ha] at this; cases this
  have hne : ax ≠ I := Nat.ne_of_lt hlt
  have W := Walks.list (prog := prog) (w := w) hh I ax hne its
  have lD : I < I + 1 := Nat.lt_succ_self _
  have lC : I + 1 < I + 1 + 1 := Nat.lt_succ_self _
  have lc : I + 1 + 1 < I + 1 + 1 + 1 := Nat.lt_succ_self _
  generalize hDe : I + 1 = D at *
  generalize hCe : D + 1 = C at *
  generalize hce : C + 1 = c at *
  have lIC : I < C := Nat.lt_trans lD lC
  have lIc : I < c := Nat.lt_trans lIC lc
  have lDc : D < c := Nat.lt_trans lC lc
  have nLI : L ≠ I := Nat.ne_of_lt hLlt
  have nLD : L ≠ D := Nat.ne_of_lt (Nat.lt_trans hLlt lD)
  have nLC : L ≠ C := Nat.ne_of_lt (Nat.lt_trans hLlt lIC)
  have nLc : L ≠ c := Nat.ne_of_lt (Nat.lt_trans hLlt lIc)
  have F4 : Fr h₀ L g4 m := F.keeps up
  have N4 : News h₀ L g4 news := N.grown up
  have e0I := fresh₀ I (Nat.le_refl _)
  have e0D := fresh₀ D (Nat.le_of_lt lD)
  have e0C := fresh₀ C (Nat.le_of_lt lIC)
  have e0c := fresh₀ c (Nat.le_of_lt lIc)
  show codeAny _ _ (.compStart _ 0 (.ref I) (.ref D) (compEnvC scope ((x, c) :: cl) C env)) _ _
  have loop : codeAny (model prog w) A (.compLoop (.ListComp elt [⟨.Name x px, iter, [], 0⟩] scope pos) 0 (.ref I) (.ref D) (compEnvC scope ((x, c) :: cl) C env)) (compPost (model prog w) A E none Q (Value.ref D) C) { s with heap := g4 } := by
    refine codeAny_compLoop_tests
      (fun k s' => ∃ h' tk i ys m' oc v0, s' = { s with heap := h', toks := tk } ∧ i ≤ its.size ∧ k = its.size + 1 - i ∧ ys.length = i ∧ (h'.IsListIter I ax i ∧ h'.IsList ax its) ∧ Fr h₀ L h' m ∧ h'.Ns C m' ∧ News h₀ L h' ((c, oc) :: (D, lst ys) :: news) ∧ oc.data = .cell v0 ∧ P0 i ys) ?_ (its.size + 1)
      ⟨g4, _, 0, [], _, { cls := Value.type "cell", data := Data.cell none }, none, rfl, Nat.zero_le _, rfl, rfl, ⟨⟨_, gI, rfl, rfl⟩, hlist.at fun o e => up _ _ e⟩, F4, gC, fun p hp => ?_, rfl, h0⟩
    · rintro k s' ⟨h', tk, i, ys, m', oc, v0, rfl, hi, rfl, hyl, hst', F', hn', N', hoc, hp⟩
      by_cases hlt' : i < its.size
      · refine W.item i _ _ _ hlt' hst' fun v h₂ tk₂ hPv hst₂ hk₂ => ?_
        have hcc := hk₂ c oc (by simpa using Nat.ne_of_gt lIc) (N' _ (.head _)).1
        refine wpAny_assign_Name (wpAny_storeName_cell (c := c) hkind hx (by show List.lookup x ((x, c) :: cl) = some c; simp) ⟨oc, hcc, hoc⟩ (fun h₃ hv₃ hs₃ => ?_))
        refine wpAny_tests_nil ?_
        simp only [if_true]
        obtain ⟨oc₃, ec₃, hoc₃⟩ := hv₃
        have k3 : ∀ b o, b ≠ I → b ≠ c → h'.get? b = some o → h₃.get? b = some o := fun b o h1 h2 e => hs₃.extBut b o h2 (hk₂ b o (by simpa using h1) e)
        have hI₃ : h₃.IsListIter I ax (i + 1) := hst₂.1.at fun o e => hs₃.extBut I o (Nat.ne_of_lt lIc) e
        obtain ⟨oI, eI, hoI⟩ := id hI₃
        have hC₃ : h₃.Ns C m' := hn'.at' fun o e => k3 C o (Nat.ne_of_gt lIC) (Nat.ne_of_lt lc) e
        obtain ⟨oC, eC, hoC⟩ := ns_obj hC₃
        have F₃ : Fr h₀ L h₃ m := (fr_but F' hk₂ nLI e0I).change hs₃ (Ne.symm nLc) e0c
        have N₃ : News h₀ L h₃ ((I, oI) :: (C, oC) :: (c, oc₃) :: (D, lst ys) :: news) := fun p hp => by
          rcases List.mem_cons.mp hp with rfl | hp
          · exact ⟨eI, Ne.symm nLI, e0I⟩
          rcases List.mem_cons.mp hp with rfl | hp
          · exact ⟨eC, Ne.symm nLC, e0C⟩
          rcases List.mem_cons.mp hp with rfl | hp
          · exact ⟨ec₃, Ne.symm nLc, e0c⟩
          rcases List.mem_cons.mp hp with rfl | hp
          · exact ⟨k3 _ _ (Nat.ne_of_gt lD) (Nat.ne_of_lt lDc) (N' _ (.tail _ (.head _))).1, Ne.symm nLD, e0D⟩
          · have z := N' p (.tail _ (.tail _ hp))
            exact ⟨k3 _ _ (Nat.ne_of_lt (hlts p hp)) (Nat.ne_of_lt (Nat.lt_trans (hlts p hp) lIc)) z.1, z.2⟩
        refine wpAny_mono (step i ys v hPv hp I oI C oC D c oc₃ h₃ _ _ hoc₃ F₃ N₃ hlts lD lC lc) (fun y s₄ h₄ => ?_) fun _ _ e => e
        obtain ⟨h₄, tk₄, rfl, F₄, N₄, hp₄⟩ := h₄
        refine append_at (hsz := by show ys.toArray.size ≤ sizeLine; rw [List.size_toArray, hyl, sizeLine_eq]; omega) (N₄ (D, lst ys) (.tail _ (.tail _ (.tail _ (.head _))))).1 fun h₅ hs₅ hD₅ => ?_
        have k5 : ∀ b o, b ≠ D → h₄.get? b = some o → h₅.get? b = some o := fun b o hb e => hs₅.extBut b o hb e
        refine ⟨its.size + 1 - (i + 1), by omega, h₅, _, i + 1, ys ++ [y], m', oc₃, _, rfl, hlt', rfl, by rw [List.length_append, List.length_singleton, hyl], ⟨?_, ?_⟩, F₄.change hs₅ (Ne.symm nLD) e0D, ?_, fun p hp => ?_, hoc₃, hp₄⟩
        · obtain ⟨o', q, r⟩ := hI₃
          rw [eI] at q; cases q
          exact ⟨oI, k5 _ _ (Nat.ne_of_lt lD) (N₄ (I, oI) (.head _)).1, r⟩
        · exact ⟨_, k5 _ _ (Nat.ne_of_lt (Nat.lt_trans hlt lD)) (N₄ _ (.tail _ (.tail _ (.tail _ (.tail _ hm))))).1, rfl, _, rfl⟩
        · exact (hoC.ns (N₄ (C, oC) (.tail _ (.head _))).1).sameBut hs₅ (Nat.ne_of_gt lC)
        · rcases List.mem_cons.mp hp with rfl | hp
          · exact ⟨k5 _ _ (Nat.ne_of_gt lDc) (N₄ _ (.tail _ (.tail _ (.head _)))).1, Ne.symm nLc, e0c⟩
          rcases List.mem_cons.mp hp with rfl | hp
          · exact ⟨hD₅.trans (congrArg some (lst_snoc ys y)), Ne.symm nLD, e0D⟩
          · have z := N₄ p (.tail _ (.tail _ (.tail _ (.tail _ hp))))
            exact ⟨k5 _ _ (Nat.ne_of_lt (Nat.lt_trans (hlts p hp) lD)) z.1, z.2⟩
      · obtain rfl : i = its.size := Nat.le_antisymm hi (Nat.not_lt.mp hlt')
        refine W.done _ _ _ hst' fun h₂ tk₂ hk₂ => ?_
        refine ⟨m', hn'.at' fun o e => hk₂ _ o (by simpa using Nat.ne_of_gt lIC) e, fun h'' hs'' => fin D h'' tk₂ ys ((fr_but F' hk₂ nLI e0I).change hs'' (Ne.symm nLC) e0C) (fun p hp' => ?_) (fun p hp' => Nat.lt_trans (hlts p hp') lD) hp⟩
        have z := N' p (.tail _ hp')
        have hpI : p.1 ≠ I ∧ p.1 ≠ C := by
          rcases List.mem_cons.mp hp' with rfl | hp'
          · exact ⟨Nat.ne_of_gt lD, Nat.ne_of_lt lC⟩
          · exact ⟨Nat.ne_of_lt (hlts p hp'), Nat.ne_of_lt (Nat.lt_trans (hlts p hp') lIC)⟩
        exact ⟨hs''.extBut _ _ hpI.2 (hk₂ _ _ (by simpa using hpI.1) z.1), z.2⟩
    · rcases List.mem_cons.mp hp with rfl | hp
      · exact ⟨gc, Ne.symm nLc, e0c⟩
      · rcases List.mem_cons.mp hp with rfl | hp
        · exact ⟨gD, Ne.symm nLD, e0D⟩
        · exact N4 p hp
  exact codeAny_compStart_list loop (W.self 0 _ _ _ ⟨⟨_, gI, rfl, rfl⟩, hlist.at fun o e => up _ _ e⟩ loop)
end Mine
end
section
open PySem PySem.W PyProof.Rows PySem.Calls
set_option Elab.async false
set_option maxRecDepth 100000
set_option maxHeartbeats 8000000
set_option linter.unusedVariables false
namespace Mine
noncomputable abbrev getL {α : Type} {b : α} {o : Option α} (_ : o = some b) : α := b
noncomputable def lastS? : Option Stmt := PySem.Challenge.rw_il0172_01.row.prog.main.body.getLast?
noncomputable def fdBody? (s : Stmt) : Option (List Stmt) := (fdOf? s).map (·.2.1)
noncomputable def fdScope? (s : Stmt) : Option Scope := (fdOf? s).map (·.2.2)
noncomputable def forB? : Stmt → Option (List Stmt)
  | .For _ _ b _ _ => some b
  | _ => none
noncomputable def forT? : Stmt → Option Expr
  | .For t _ _ _ _ => some t
  | _ => none
noncomputable abbrev lawB : List Stmt := getL (show lastS?.bind fdBody? = some _ from rfl)
noncomputable abbrev lawSC : Scope := getL (show lastS?.bind fdScope? = some _ from rfl)
noncomputable abbrev loop1B : List Stmt := getL (show (lawB[3]?).bind forB? = some _ from rfl)
noncomputable abbrev loop1T : Expr := getL (show (lawB[3]?).bind forT? = some _ from rfl)
noncomputable abbrev loop2B : List Stmt := getL (show (lawB[6]?).bind forB? = some _ from rfl)
noncomputable abbrev loop2T : Expr := getL (show (lawB[6]?).bind forT? = some _ from rfl)
noncomputable abbrev lawTail : List Stmt := getL (show some (lawB.drop 7) = some _ from rfl)
end Mine
end
section
open PySem PySem.W PyProof.Rows PySem.Calls
set_option Elab.async false
set_option maxRecDepth 100000
set_option maxHeartbeats 8000000
set_option linter.unusedVariables false
namespace Mine
theorem valueAt_cons {K : Type} [DecidableEq K] (p : K × Value) (r : List (K × Value)) (k : K) : valueAt (p :: r) k = if p.1 = k then some p.2 else valueAt r k := by
  unfold valueAt
  rw [List.find?_cons]
  by_cases h : p.1 = k
  · simp [h]
  · simp [h]
theorem valueAt_none {K : Type} [DecidableEq K] : ∀ (kvs : List (K × Value)) (k : K), kvs.any (fun kv => kv.1 = k) = false → valueAt kvs k = none
  | [], k, _ => rfl
  | p :: r, k, h => by
    rw [List.any_cons, Bool.or_eq_false_iff] at h
    rw [valueAt_cons, if_neg (by simpa using h.1)]
    exact valueAt_none r k h.2
theorem valueAt_app {K : Type} [DecidableEq K] : ∀ (kvs : List (K × Value)) (k k' : K) (v : Value), kvs.any (fun kv => kv.1 = k) = false → valueAt (kvs ++ [(k, v)]) k' = if k = k' then some v else valueAt kvs k'
  | [], k, k', v, _ => by rw [List.nil_append, valueAt_cons]
  | p :: r, k, k', v, h => by
    rw [List.any_cons, Bool.or_eq_false_iff] at h
    rw [List.cons_append, valueAt_cons, valueAt_cons, valueAt_app r k k' v h.2]
    by_cases e : k = k'
    · subst e
      rw [if_pos rfl, if_pos rfl, if_neg (by simpa using h.1)]
    · rw [if_neg e, if_neg e]
theorem valueAt_map {K : Type} [DecidableEq K] : ∀ (kvs : List (K × Value)) (k k' : K) (v : Value), kvs.any (fun kv => kv.1 = k) = true → valueAt (kvs.map (fun kv => if kv.1 = k then (kv.1, v) else kv)) k' = if k = k' then some v else valueAt kvs k'
  | [], k, k', v, h => by cases h
  | p :: r, k, k', v, h => by
    rw [List.map_cons, valueAt_cons, valueAt_cons]
    by_cases hp : p.1 = k
    · rw [if_pos hp]
      by_cases e : k = k'
      · subst e
        rw [if_pos hp, if_pos rfl]
      · rw [if_neg e, if_neg (fun q : p.1 = k' => e (hp.symm.trans q)), if_neg (fun q : p.1 = k' => e (hp.symm.trans q))]
        by_cases hr : r.any (fun kv => kv.1 = k) = true
        · rw [valueAt_map r k k' v hr, if_neg e]
        · have : r.map (fun kv => if kv.1 = k then (kv.1, v) else kv) = r := by
            apply map_store_of_not_mem
            intro hm
            obtain ⟨q, hq, e2⟩ := List.mem_map.mp hm
            exact hr (List.any_eq_true.mpr ⟨q, hq, by simpa using e2⟩)
          rw [this]
    · rw [if_neg hp]
      have hr : r.any (fun kv => kv.1 = k) = true := by
        rw [List.any_cons] at h
        simpa [hp] using h
      rw [valueAt_map r k k' v hr]
      by_cases e : k = k'
      · subst e; simp [hp]
      · simp [e]
theorem valueAt_stored {K : Type} [DecidableEq K] (kvs : List (K × Value)) (k k' : K) (v : Value) : valueAt (stored kvs k v) k' = if k = k' then some v else valueAt kvs k' := by
  unfold stored
  by_cases h : kvs.any (fun kv => kv.1 = k) = true
  · rw [if_pos h]; exact valueAt_map kvs k k' v h
  · rw [if_neg h]; exact valueAt_app kvs k k' v ((Bool.not_eq_true _).mp h)
section
variable {prog : Program} {w : World} {A : Around} {E : Value → Shared → Prop} {s : Shared} {h₀ : Heap} {L D : Addr} {m : Str → Option Value} {nws : List (Addr × Obj)}
theorem N_upd {h h' : Heap} {o o' : Obj} (N : News h₀ L h nws) (hd : (D, o) ∈ nws) (hs : Heap.SameBut D h h') (ho : h'.get? D = some o') : News h₀ L h' ((D, o') :: nws.filter (fun p => p.1 != D)) := by
  intro p hp
  rcases List.mem_cons.mp hp with rfl | hp
  · exact ⟨ho, (N _ hd).2⟩
  · obtain ⟨h1, h2⟩ := List.mem_filter.mp hp
    exact ⟨hs.extBut _ _ (by simpa using h2) (N _ h1).1, (N _ h1).2⟩
noncomputable def Upd1 (D : Addr) (o' : Obj) (a b : List (Addr × Obj)) : Prop := (D, o') ∈ b ∧ (∀ p ∈ a, p.1 ≠ D → p ∈ b) ∧ ∀ p ∈ b, p.1 = D ∨ p ∈ a
theorem Upd1.mk' {o' : Obj} (a : List (Addr × Obj)) : Upd1 D o' a ((D, o') :: a.filter (fun p => p.1 != D)) :=
  ⟨.head _, fun p hp h => .tail _ (List.mem_filter.mpr ⟨hp, by simpa using h⟩), fun p hp => by
    rcases List.mem_cons.mp hp with rfl | hp
    · exact .inl rfl
    · exact .inr (List.mem_filter.mp hp).1⟩
theorem W_appF {vs : List Value} {ep : Nat} {x : Value} {Q : Value → Shared → Prop}
   (F : Fr h₀ L s.heap m) (N : News h₀ L s.heap nws) (hD : (D, listOf vs.toArray ep) ∈ nws) (hv : vs.length ≤ 1000)
   (h : ∀ h' e2 b, Fr h₀ L h' m → News h₀ L h' b → Upd1 D (listOf (vs ++ [x]).toArray e2) nws b → Q .none { s with heap := h' }) : wpAny (model prog w) A (call (.builtin "list.append") [.ref D, x]) Q E s := by
  have nD := N _ hD
  refine append_at (hsz := by rw [List.size_toArray, sizeLine_eq]; omega) nD.1 (fun h' hs hD' => ?_)
  refine h h' (ep + 1) _ (F.change hs nD.2.1 nD.2.2) (N_upd N hD hs ?_) (Upd1.mk' nws)
  rw [hD', List.push_toArray]
theorem W_setF {K : Type} [DecidableEq K] {knd : KeyKind prog w K} {o : Obj} {kvs : List (K × Value)} {k : K} {key v : Value} {Q : Unit → Shared → Prop}
   (F : Fr h₀ L s.heap m) (N : News h₀ L s.heap nws) (hp : (D, o) ∈ nws) (hd : o.IsDictOf knd kvs) (hkey : knd.is k key = true) (hsz : kvs.length ≤ 1000)
   (h : ∀ h' o' b, Fr h₀ L h' m → News h₀ L h' b → Upd1 D o' nws b → o'.IsDictOf knd (stored kvs k v) → Q () { s with heap := h', toks := s.toks + 1 }) : wpAny (model prog w) A (setItem (.ref D) key v) Q E s := by
  have hm := N _ hp
  refine wpAny_setItem_pairs (hsz := by rw [sizeLine_eq]; omega) hkey (Heap.dictOf_iff.mpr ⟨o, hm.1, hd⟩) fun h' hmm hs => ?_
  obtain ⟨o', ho', hd'⟩ := Heap.dictOf_iff.mp hmm
  exact h h' o' _ (F.change hs hm.2.1 hm.2.2) (N_upd N hp hs ho') (Upd1.mk' nws) hd'
end
end Mine
end
section
open PySem PySem.W PyProof.Rows PySem.Calls
set_option Elab.async false
set_option maxRecDepth 100000
set_option maxHeartbeats 8000000
set_option linter.unusedVariables false
namespace Mine
section
theorem fresh_L1 : True ∧ True := by
  w_top off
  exact ⟨trivial, trivial⟩
end
noncomputable def chrS (k : Nat) : Str := ⟨#[96 + k]⟩
theorem chrS_len (k : Nat) : (chrS k).length ≤ 1000 := by show 1 ≤ 1000; decide
theorem chrS_slash : ∀ k, 1 ≤ k → k ≤ 9 → Txt.startswith (chrS k) (Str.ofString "/") = false := by
  have h : ∀ k : Fin 10, Txt.startswith (chrS k) (Str.ofString "/") = false := by decide +kernel
  exact fun k _ hk => h ⟨k, by omega⟩
noncomputable def chK (pr : Nat → Nat) (k i : Nat) : List Nat := (List.range k).filter (fun j => decide (1 ≤ j) && pr j == i)
theorem chK_self {pr : Nat → Nat} {k : Nat} (h : ∀ j, 1 ≤ j → j ≤ k → pr j < j) : chK pr (k + 1) k = [] := by
  unfold chK
  rw [List.filter_eq_nil_iff]
  intro j hj
  rw [List.mem_range] at hj
  by_cases h1 : 1 ≤ j
  · have := h j h1 (by omega)
    simp; omega
  · simp; omega
theorem chK_succ {pr : Nat → Nat} {k i : Nat} : chK pr (k + 1) i = chK pr k i ++ if 1 ≤ k ∧ pr k = i then [k] else [] := by
  unfold chK
  rw [List.range_succ, List.filter_append]
  congr 1
  by_cases h : 1 ≤ k ∧ pr k = i
  · rw [if_pos h]
    simp [h.1, h.2]
  · rw [if_neg h]
    simpa using h
inductive Inv1 (w : World) (nm : Nat → Str) (pr : Nat → Nat) (P Bx Ax : Addr) (keep : List (Addr × Obj)) (k : Nat) (news : List (Addr × Obj)) : Prop
  | mk (pv : List Value) (ep : Nat) (ob : Obj) (kvb : List (Str × Value)) (oa : Obj) (kva : List (Str × Value)) (la : Nat → Addr) (p1 : (P, listOf (List.toArray pv) ep) ∈ news) (p2 : StrsOf pv ((List.range k).map nm))
    (b1 : (Bx, ob) ∈ news) (b2 : ob.IsDictOf (PySem.strKind PySem.Challenge.rw_il0172_01.row.prog w) kvb) (b3 : kvb.length ≤ k)
    (b4 : ∀ i, i < k → valueAt kvb (nm i) = some (.ref (la i)) ∧ ∃ cv e, (la i, listOf (List.toArray cv) e) ∈ news ∧ StrsOf cv ((chK pr k i).map nm))
    (a1 : (Ax, oa) ∈ news) (a2 : oa.IsDictOf (PySem.strKind PySem.Challenge.rw_il0172_01.row.prog w) kva) (a3 : kva.length ≤ k) (a4 : ∀ i, i < k → ∃ tk, valueAt kva (nm i) = some (.str (dirS (nm i)) tk))
    (d1 : ∀ i, i < k → la i ≠ P ∧ la i ≠ Bx ∧ la i ≠ Ax) (d2 : ∀ i j, i < k → j < k → la i = la j → i = j)
    (d3 : ∀ p ∈ keep, p ∈ news ∧ p.1 ≠ P ∧ p.1 ≠ Bx ∧ p.1 ≠ Ax ∧ ∀ i, i < k → p.1 ≠ la i) : Inv1 w nm pr P Bx Ax keep k news
section
variable {w : World} {p : Program} {loose : List Str} {mean : ExcName → Option Value} {mg mb : Str → Option Value} {dp un : Nat} {gd : Option (List Code)} {cn : Str} {cs : Scope} {a : Addr} {ccd : Value} {cl : List (Str × Addr)} {outer : List Env} {A₀ : Around} {base h₀ : Heap} {L : Addr} {m : Str → Option Value} {news : List (Addr × Obj)} {s : Shared} {Q E : Value → Shared → Prop}
local macro_rules | `(tactic| walk_at "call ref") => `(tactic| (k_here; (with_reducible show wpAny _ _ (call (Value.ref _) _) _ _ _); refine Hold.out ?_))
local macro_rules | `(tactic| walk_at "call builtin:len") => `(tactic| (k_here; refine Hold.out ?_))
local macro_rules | `(tactic| walk_at "call builtin:chr") => `(tactic| (k_here; refine Hold.out ?_))
local macro_rules | `(tactic| walk_at "subscriptTail") => `(tactic| (k_here; refine Hold.out ?_))
local macro_rules | `(tactic| walk_at "call builtin:list.append") => `(tactic| (k_here; refine Hold.out ?_))
local macro_rules | `(tactic| walk_at "eval Name") => `(tactic| (k_here; k_dflt (refine nameX_L (by k_asm) (by first | assumption | rfl) ?_ (by rfl) (by rfl); k_whole)))
local macro_rules | `(tactic| walk_at "setItem ref") => `(tactic| (k_here; refine Hold.out ?_))
local macro_rules | `(tactic| walk_at "getMethod ref") => `(tactic| (k_here; refine Hold.out ?_))
theorem law_turn1 {P Bx Ax : Addr} {pr : Nat → Nat} {k : Nat} {nm : Nat → Str} {keep : List (Addr × Obj)} {x : Int} {tx : Tok} {R : Flow → Shared → Prop} (B : Below A₀ base outer h₀) (F : Fr h₀ L s.heap m) (X : (hd.heap_39 w.params).In h₀) (N : News h₀ L s.heap news) (T : Top p loose mean mg mb h₀) (hd : dp + 8 < recursionLimit) (hu : un + 64 < cLine) (mP : m (Str.ofString "places") = some (.ref P)) (mB : m (Str.ofString "below") = some (.ref Bx)) (mA : m (Str.ofString "above") = some (.ref Ax))
   (hPB : P ≠ Bx) (hPA : P ≠ Ax) (hBA : Bx ≠ Ax) (hJ : Inv1 w nm pr P Bx Ax keep k news) (hk1 : 1 ≤ k) (hk : k ≤ 9) (hx : x.fmod (k : Int) = (pr k : Int)) (hpr : pr k < k) (hprj : ∀ j, 1 ≤ j → j ≤ k → pr j < j)
   (hjn : joinS (nm (pr k)) (chrS k) = nm k) (hdn : dirS (nm k) = nm (pr k)) (hinj : ∀ i j, i ≤ 9 → j ≤ 9 → nm i = nm j → i = j) (hnl : ∀ i, i ≤ 9 → (nm i).length ≤ 100 ∧ (nm i).length ≠ 0)
   (hret : ∀ h' tk' m' b, Fr h₀ L h' m' → News h₀ L h' b → Inv1 w nm pr P Bx Ax keep (k + 1) b → m' (Str.ofString "places") = some (.ref P) → m' (Str.ofString "below") = some (.ref Bx) → m' (Str.ofString "above") = some (.ref Ax) → R .next { s with heap := h', toks := tk' }) :
   wpAny (model PySem.Challenge.rw_il0172_01.row.prog w) (ktrTop dp un gd (Str.ofString "law") lawSC L a ccd (cellsFrom (L + 1) lawSC.names []) outer) (assign loop1T (envOfC (Str.ofString "law") lawSC L a ccd) (.int x tx)) (fun _ s₂ => wpAny (model PySem.Challenge.rw_il0172_01.row.prog w) (ktrTop dp un gd (Str.ofString "law") lawSC L a ccd (cellsFrom (L + 1) lawSC.names []) outer) (execs loop1B (envOfC (Str.ofString "law") lawSC L a ccd)) R E s₂) E s := by
  revert X; k_fill; intro X
  obtain ⟨pv, ep, ob, kvb, oa, kva, la, p1, p2, b1, b2, b3, b4, a1, a2, a3, a4, d1, d2, d3⟩ := hJ
  have hpl : pv.length = k := by rw [p2.length, List.length_map, List.length_range]
  obtain ⟨tn, hpv⟩ := p2.at' (i := pr k) (y := nm (pr k)) (by rw [List.getElem?_map, List.getElem?_range hpr]; rfl)
  obtain ⟨n1, n2⟩ := hnl (pr k) (by omega)
  obtain ⟨n3, n4⟩ := hnl k hk
  dsimp only [loop1T, loop1B, getL]
  k_steps
  refine Hold.in ?_
  refine stN (g := s.gens) (d := s.drawn) (os := s.os) ?_
  rename News h₀ L _ _ => N1
  refine PyProof.Rows.len_list ⟨_, (N1 _ p1).1, rfl, _, rfl⟩ (by rw [List.size_toArray, hpl]; omega) ?_
  rw [List.size_toArray, hpl]
  k_steps
  refine Hold.in ?_
  refine stN (g := s.gens) (d := s.drawn) (os := s.os) ?_
  rw [hx]
  refine PyProof.Rows.item_listL (l := pv) ⟨_, (N1 _ p1).1, rfl, _, rfl⟩ (Int.natCast_nonneg _) (by omega) hpv ?_
  k_steps
  refine Hold.in ?_
  refine stN (g := s.gens) (d := s.drawn) (os := s.os) ?_
  refine PyProof.Rows.len_list ⟨_, (N1 _ p1).1, rfl, _, rfl⟩ (by rw [List.size_toArray, hpl]; omega) ?_
  rw [List.size_toArray, hpl]
  k_steps
  refine Hold.in ?_
  refine stN (g := s.gens) (d := s.drawn) (os := s.os) ?_
  refine chr_of_range (by omega) (by omega) ?_
  rw [show ((96 : Int) + (k : Int)).toNat = 96 + k by omega]
  k_steps
  refine Hold.in ?_
  refine stN (g := s.gens) (d := s.drawn) (os := s.os) ?_
  k_dflt (refine' c_join (y := chrS k) ?yB ?yF ?yX N1 ?yT ?yK ?yd ?yu (Nat.le_trans n1 (by decide)) (chrS_len k) n2 (chrS_slash k hk1 hk) ?_; (case yB => k_asm); (case yF => k_asm); (case yX => k_asm); (case yT => k_asm); (case yK => first | exact rfl | assumption); (case yd => ktr_room); (case yu => ktr_units))
  intro h9 tk9 tj F9 N9
  rw [hjn]
  (try dsimp only); (try k_fold)
  k_steps
  refine Hold.in ?_
  refine stN (g := s.gens) (d := s.drawn) (os := s.os) ?_
  rename News h₀ L _ _ => N2
  k_dflt (refine' c_dirname ?yB ?yF ?yX N2 ?yT ?yK ?yd ?yu (Nat.le_trans n3 (by decide)) ?_; (case yB => k_asm); (case yF => k_asm); (case yX => k_asm); (case yT => k_asm); (case yK => first | exact rfl | assumption); (case yd => ktr_room); (case yu => ktr_units))
  intro h9 tk9 td F9 N9
  (try dsimp only); (try k_fold)
  k_steps
  refine Hold.in ?_
  refine stN (g := s.gens) (d := s.drawn) (os := s.os) ?_
  rename News h₀ L _ _ => N3
  refine W_setF (nws := news) (kvs := kva) (by assumption) N3 a1 a2 (strKind_is _ _ _ _) (by omega) (fun h10 oa2 nA F10 N10 uA da => ?_)
  obtain ⟨uA1, uA2, uA3⟩ := uA
  k_steps
  refine Hold.in ?_
  refine stN (g := s.gens) (d := s.drawn) (os := s.os) ?_
  refine kda_item (knd := PySem.strKind _ _) N10 uA1 da (strKind_is _ _ _ _) (by rw [valueAt_stored, if_pos rfl]) ?_
  rw [hdn]
  k_steps
  refine Hold.in ?_
  refine stN (g := s.gens) (d := s.drawn) (os := s.os) ?_
  refine kda_item (knd := PySem.strKind _ _) N10 (uA2 _ b1 hBA) b2 (strKind_is _ _ _ _) (b4 _ hpr).1 ?_
  k_steps
  refine Hold.in ?_
  refine stN (g := s.gens) (d := s.drawn) (os := s.os) ?_
  obtain ⟨hv1, cv, e, hcv1, hcv2⟩ := b4 _ hpr
  refine listMethod_K N10 (uA2 _ hcv1 (d1 _ hpr).2.2) PySem.F.slot_list_append PySem.F.type_list_append ?_
  k_steps
  refine Hold.in ?_
  refine stN (g := s.gens) (d := s.drawn) (os := s.os) ?_
  have hcvl : cv.length ≤ 9 := by
    rw [hcv2.length, List.length_map]
    exact Nat.le_trans (List.length_filter_le _ _) (by rw [List.length_range]; exact hk)
  refine W_appF (vs := cv) (ep := e) (nws := nA) (by assumption) N10 (uA2 _ hcv1 (d1 _ hpr).2.2) (by omega) (fun h11 e11 nB F11 N11 uB => ?_)
  obtain ⟨uB1, uB2, uB3⟩ := uB
  k_steps
  refine Hold.in ?_
  refine stN (g := s.gens) (d := s.drawn) (os := s.os) ?_
  rename News h₀ L _ ((_, listOf #[] 0) :: nB) => N12
  obtain ⟨l, rfl⟩ := head_addr N12
  rename ∀ p ∈ nB, _ => l12
  refine W_setF (nws := (l, listOf #[] 0) :: nB) (kvs := kvb) (by assumption) N12 (.tail _ (uB2 _ (uA2 _ b1 hBA) (Ne.symm (d1 _ hpr).2.1))) b2 (strKind_is _ _ _ _) (by omega) (fun h13 ob2 nC F13 N13 uC db => ?_)
  obtain ⟨uC1, uC2, uC3⟩ := uC
  have toC : ∀ p ∈ news, p.1 ≠ Ax → p.1 ≠ la (pr k) → p.1 ≠ Bx → p ∈ nC := fun p hp h1 h2 h3 => uC2 _ (.tail _ (uB2 _ (uA2 _ hp h1) h2)) h3
  have ltl : ∀ p ∈ news, p.1 ≠ Ax → p.1 ≠ la (pr k) → p.1 < l := fun p hp h1 h2 => l12 _ (uB2 _ (uA2 _ hp h1) h2)
  have p1C := toC _ p1 hPA (Ne.symm (d1 _ hpr).1) hPB
  k_steps
  refine Hold.in ?_
  refine stN (g := s.gens) (d := s.drawn) (os := s.os) ?_
  rename News h₀ L _ nC => N14
  refine listMethod_K N14 p1C PySem.F.slot_list_append PySem.F.type_list_append ?_
  k_steps
  refine Hold.in ?_
  refine stN (g := s.gens) (d := s.drawn) (os := s.os) ?_
  rename News h₀ L _ nC => N15
  refine W_appF (vs := pv) (ep := ep) (nws := nC) (by assumption) N15 p1C (by omega) (fun h16 e16 nD F16 N16 uD => ?_)
  obtain ⟨uD1, uD2, uD3⟩ := uD
  k_steps
  refine hret _ _ _ nD (by assumption) (by assumption) ?_ ?_ ?_ ?_
  rotate_left
  · exact (if_neg (by decide)).trans ((if_neg (by decide)).trans mP)
  · exact (if_neg (by decide)).trans ((if_neg (by decide)).trans mB)
  · exact (if_neg (by decide)).trans ((if_neg (by decide)).trans mA)
  have hlP : P ≠ l := Nat.ne_of_lt (ltl _ p1 hPA (Ne.symm (d1 _ hpr).1))
  have hlB : Bx ≠ l := Nat.ne_of_lt (ltl _ b1 hBA (Ne.symm (d1 _ hpr).2.1))
  have hlA : Ax ≠ l := Nat.ne_of_lt (l12 (Ax, oa2) (uB2 _ uA1 (Ne.symm (d1 _ hpr).2.2)))
  have hll : ∀ i, i < k → la i ≠ l := fun i hi => by
    by_cases e : la i = la (pr k)
    · rw [e]; exact Nat.ne_of_lt (l12 (la (pr k), _) uB1)
    · obtain ⟨-, cv', e', m1, -⟩ := b4 i hi
      exact Nat.ne_of_lt (ltl _ m1 (d1 i hi).2.2 e)
  refine ⟨_, _, ob2, _, oa2, _, fun i => if i = k then l else la i, uD1, ?_, uD2 _ uC1 (Ne.symm hPB), db, ?_, ?_, uD2 _ (uC2 _ (.tail _ (uB2 _ uA1 (Ne.symm (d1 _ hpr).2.2))) (Ne.symm hBA)) (Ne.symm hPA), da, ?_, ?_, ?_, ?_, ?_⟩
  · rw [List.range_succ, List.map_append]
    exact p2.append (.cons _ _ .nil)
  · exact Nat.le_trans (stored_length_le _ _ _) (Nat.succ_le_succ b3)
  · intro i hi
    rw [valueAt_stored]
    by_cases e : i = k
    · subst e
      refine ⟨by rw [if_pos rfl]; simp, [], 0, ?_, ?_⟩
      · (try dsimp only)
        rw [if_pos rfl]
        exact uD2 _ (uC2 _ (.head _) (Ne.symm hlB)) (Ne.symm hlP)
      · rw [chK_self hprj]
        exact .nil
    · have hik : i < k := by omega
      have hne : nm k ≠ nm i := fun q => e (hinj _ _ hk (by omega) q).symm
      rw [if_neg hne]
      (try dsimp only)
      rw [if_neg e]
      obtain ⟨c1, cv', e', m1, m2⟩ := b4 i hik
      refine ⟨c1, ?_⟩
      by_cases ei : i = pr k
      · subst ei
        refine ⟨cv ++ [.str (nm k) tj], e11, uD2 _ (uC2 _ (.tail _ uB1) (d1 _ hpr).2.1) (d1 _ hpr).1, ?_⟩
        rw [chK_succ, if_pos ⟨hk1, rfl⟩, List.map_append]
        exact hcv2.append (.cons _ _ .nil)
      · refine ⟨cv', e', uD2 _ (toC _ m1 (d1 i hik).2.2 (fun q => ei (d2 _ _ hik hpr q)) (d1 i hik).2.1) (d1 i hik).1, ?_⟩
        rw [chK_succ, if_neg (fun q => ei q.2.symm), List.append_nil]
        exact m2
  · exact Nat.le_trans (stored_length_le _ _ _) (Nat.succ_le_succ a3)
  · intro i hi
    rw [valueAt_stored]
    by_cases e : i = k
    · subst e
      exact ⟨td, if_pos rfl⟩
    · have hne : nm k ≠ nm i := fun q => e (hinj _ _ hk (by omega) q).symm
      rw [if_neg hne]
      exact a4 i (by omega)
  · intro i hi
    (try dsimp only)
    by_cases e : i = k
    · rw [if_pos e]; exact ⟨Ne.symm hlP, Ne.symm hlB, Ne.symm hlA⟩
    · rw [if_neg e]; exact d1 i (by omega)
  · intro i j hi hj
    (try dsimp only)
    by_cases e : i = k
    · by_cases e2 : j = k
      · intro _; omega
      · rw [if_pos e, if_neg e2]; exact fun q => absurd q.symm (hll j (by omega))
    · by_cases e2 : j = k
      · rw [if_neg e, if_pos e2]; exact fun q => absurd q (hll i (by omega))
      · rw [if_neg e, if_neg e2]; exact d2 i j (by omega) (by omega)
  · intro q hq
    obtain ⟨k1, k2, k3, k4, k5⟩ := d3 q hq
    refine ⟨uD2 _ (toC _ k1 k4 (k5 _ hpr) k3) k2, k2, k3, k4, fun i hi => ?_⟩
    (try dsimp only)
    by_cases e : i = k
    · rw [if_pos e]; exact Nat.ne_of_lt (ltl _ k1 k4 (k5 _ hpr))
    · rw [if_neg e]; exact k5 i (by omega)
end
end Mine
end
section
open PySem PySem.W PyProof.Rows PySem.Calls
set_option Elab.async false
set_option maxRecDepth 100000
set_option maxHeartbeats 8000000
set_option linter.unusedVariables false
namespace Mine
open LCg LCt
section
variable {prog : Program} {w : World} {A : Around} {s : Shared} {h₀ : Heap} {L : Addr} {m : Str → Option Value} {env : Env} {ct elt : Expr} {x : Str} {scope : Scope} {cl : List (Str × Addr)} {S : List (Addr × Obj) → Prop} {P : Nat → Value → Prop}
    {Fin : List Value → List (Addr × Obj) → Prop} {news : List (Addr × Obj)} {n : Nat}
theorem compU_all (P0 : Nat → List Value → Prop) (h0 : P0 0 []) (hS : S news)
    (step : ∀ i ys v, i < n → P i v → P0 i ys → ∀ I oI C oC D m₂ h tk (E' : Value → Shared → Prop), NsObj oC m₂ → m₂ x = some v → Fr h₀ L h m → News h₀ L h ((I, oI) :: (C, oC) :: (D, lst ys) :: news) → Off3 I C D news → ((@Ne Nat I C) ∧ (@Ne Nat I D) ∧ (@Ne Nat C D)) →
      wpAny (model prog w) A (eval elt (compEnvC scope cl C env)) (fun y s' => ∃ h' tk', s' = { s with heap := h', toks := tk' } ∧ Fr h₀ L h' m ∧ News h₀ L h' ((I, oI) :: (C, oC) :: (D, lst ys) :: news) ∧ P0 (i + 1) (ys ++ [y])) E' { s with heap := h, toks := tk })
    (fin : ∀ ys, P0 n ys → Fin ys news) : CompRest prog w A h₀ L m env elt x scope cl s S P Fin n 0 [] news := by
  have key : ∀ (j i : Nat) (ys : List Value), i + j = n → P0 i ys → CompRest prog w A h₀ L m env elt x scope cl s S P Fin j i ys news := by
    intro j
    induction j with
    | zero =>
      intro i ys hi hp
      have e : i = n := by omega
      subst e
      exact CompRest.zero (fin ys hp)
    | succ j ih =>
      intro i ys hi hp
      refine CompRest.succ ?_
      intro v I oI C oC D m₂ h tk E' hv hC h1 F N off ne
      refine wpAny_mono (step i ys v (by omega) hv hp I oI C oC D m₂ h tk E' hC h1 F N off ne) (fun y s' h' => ?_) fun _ _ e => e
      obtain ⟨h', tk', rfl, F', N', hp'⟩ := h'
      exact ⟨h', tk', news, rfl, F', N', off, hS, ih (i + 1) _ (by omega) hp'⟩
  exact key n 0 [] (Nat.zero_add n) h0
theorem compT_all (P0 : Nat → List Value → Prop) (h0 : P0 0 []) (hS : S news)
    (step : ∀ i ys v, i < n → P i v → P0 i ys → ∀ I oI C oC D m₂ h tk (E' : Value → Shared → Prop), NsObj oC m₂ → m₂ x = some v → Fr h₀ L h m → News h₀ L h ((I, oI) :: (C, oC) :: (D, lst ys) :: news) → Off3 I C D news → ((@Ne Nat I C) ∧ (@Ne Nat I D) ∧ (@Ne Nat C D)) →
      wpAny (model prog w) A (isTrue ct (compEnvC scope cl C env) (eval ct (compEnvC scope cl C env))) (fun ok s' => if ok = true then
        wpAny (model prog w) A (eval elt (compEnvC scope cl C env)) (fun y s' => ∃ h' tk', s' = { s with heap := h', toks := tk' } ∧ Fr h₀ L h' m ∧ News h₀ L h' ((I, oI) :: (C, oC) :: (D, lst ys) :: news) ∧ P0 (i + 1) (ys ++ [y])) E' s'
        else ∃ h' tk', s' = { s with heap := h', toks := tk' } ∧ Fr h₀ L h' m ∧ News h₀ L h' ((I, oI) :: (C, oC) :: (D, lst ys) :: news) ∧ P0 (i + 1) ys) E' { s with heap := h, toks := tk })
    (fin : ∀ ys, P0 n ys → Fin ys news) : CompRestT prog w A h₀ L m env ct elt x scope cl s S P Fin n 0 [] news := by
  have key : ∀ (j i : Nat) (ys : List Value), i + j = n → P0 i ys → CompRestT prog w A h₀ L m env ct elt x scope cl s S P Fin j i ys news := by
    intro j
    induction j with
    | zero =>
      intro i ys hi hp
      have e : i = n := by omega
      subst e
      exact CompRestT.zero (fin ys hp)
    | succ j ih =>
      intro i ys hi hp
      refine CompRestT.succ ?_
      intro v I oI C oC D m₂ h tk E' hv hC h1 F N off ne
      refine wpAny_mono (step i ys v (by omega) hv hp I oI C oC D m₂ h tk E' hC h1 F N off ne) (fun ok s' h' => ?_) fun _ _ e => e
      by_cases hok : ok = true
      · rw [if_pos hok] at h' ⊢
        refine wpAny_mono h' (fun y s' h' => ?_) fun _ _ e => e
        obtain ⟨h', tk', rfl, F', N', hp'⟩ := h'
        exact ⟨h', tk', news, rfl, F', N', off, hS, ih (i + 1) _ (by omega) hp'⟩
      · rw [if_neg hok] at h' ⊢
        obtain ⟨h', tk', rfl, F', N', hp'⟩ := h'
        exact ⟨h', tk', news, rfl, F', N', off, hS, ih (i + 1) _ (by omega) hp'⟩
  exact key n 0 [] (Nat.zero_add n) h0
end
section
variable {prog : Program} {w : World} {A : Around} {E : Value → Shared → Prop} {s : Shared} {h₀ : Heap} {L c : Addr} {m : Str → Option Value} {nws : List (Addr × Obj)}
theorem W_cellF {env : Env} {name : Str} {o : Obj} {v₀ : Option Value} {v : Value} {Q : Unit → Shared → Prop} (F : Fr h₀ L s.heap m) (N : News h₀ L s.heap nws) (hm : (c, o) ∈ nws) (hd : o.data = .cell v₀)
   (h : ∀ h' o' b, Fr h₀ L h' m → News h₀ L h' b → Upd1 c o' nws b → o'.data = .cell (some v) → Q () { s with heap := h' })
   (hk : env.scope.kind = .function) (hl : env.kindOf name = some .cell) (hc : env.cells.lookup name = some c) : wpAny (model prog w) A (storeName env name v) Q E s := by
  have nc := N _ hm
  refine wpAny_storeName_cell hk hl hc ⟨o, nc.1, hd⟩ (fun h' hv hs => ?_)
  obtain ⟨o', ho', hd'⟩ := hv
  exact h h' o' _ (F.change hs nc.2.1 nc.2.2) (N_upd N hm hs ho') (Upd1.mk' nws) hd'
end
end Mine
end
section
open PySem PySem.W PyProof.Rows PySem.Calls
set_option Elab.async false
set_option maxRecDepth 100000
set_option maxHeartbeats 8000000
set_option linter.unusedVariables false
namespace Mine
section
theorem fresh_L2 : True ∧ True := by
  w_top off
  exact ⟨trivial, trivial⟩
end
open LCg LCt
theorem ints_app {a b : List Value} {x y : List Int} (h : IntsAre a x) (h2 : IntsAre b y) : IntsAre (a ++ b) (x ++ y) := by
  induction h with
  | nil => exact h2
  | cons n t _ ih => exact .cons n t ih
theorem ints_len {a : List Value} {x : List Int} (h : IntsAre a x) : a.length = x.length := by
  induction h with
  | nil => rfl
  | cons n t _ ih => rw [List.length_cons, List.length_cons, ih]
theorem ints_at {a : List Value} {x : List Int} (h : IntsAre a x) : ∀ {i : Nat} {v : Value}, a[i]? = some v → ∃ t y, x[i]? = some y ∧ v = .int y t := by
  induction h with
  | nil => intro i v hv; simp at hv
  | cons n t _ ih =>
    intro i v hv
    cases i with
    | zero => exact ⟨t, n, rfl, (Option.some.inj hv).symm⟩
    | succ i => exact ih hv
theorem off1_mem {D : Addr} : ∀ {l : List (Addr × Obj)}, Off1 D l → ∀ p ∈ l, p.1 ≠ D
  | [], _, _, h => nomatch h
  | q :: r, x, p, h => by
    rcases List.mem_cons.mp h with rfl | h
    · exact x.1
    · exact off1_mem x.2 p h
section
variable {w : World} {p : Program} {loose : List Str} {mean : ExcName → Option Value} {mg mb : Str → Option Value} {dp un : Nat} {gd : Option (List Code)} {cn : Str} {cs : Scope} {a : Addr} {ccd : Value} {cl : List (Str × Addr)} {outer : List Env} {A₀ : Around} {base h₀ : Heap} {L : Addr} {m : Str → Option Value} {news : List (Addr × Obj)} {s : Shared} {Q E : Value → Shared → Prop}
local macro_rules | `(tactic| walk_at "call ref") => `(tactic| (k_here; (with_reducible show wpAny _ _ (call (Value.ref _) _) _ _ _); refine Hold.out ?_))
local macro_rules | `(tactic| walk_at "call builtin:len") => `(tactic| (k_here; refine Hold.out ?_))
local macro_rules | `(tactic| walk_at "call builtin:max") => `(tactic| (k_here; refine Hold.out ?_))
local macro_rules | `(tactic| walk_at "subscriptTail") => `(tactic| (k_here; refine Hold.out ?_))
local macro_rules | `(tactic| walk_at "binaryOp Add ref ref") => `(tactic| (k_here; refine Hold.out ?_))
local macro_rules | `(tactic| walk_at "setItem ref") => `(tactic| (k_here; refine Hold.out ?_))
local macro_rules | `(tactic| walk_at "eval ListComp") => `(tactic| (k_here; refine Hold.out ?_))
local macro_rules | `(tactic| walk_at "exec Assign cons ListComp") => `(tactic| (k_here; k_dflt (refine W_assignN (by first | rfl | with_unfolding_all rfl) ?_)))
local macro_rules | `(tactic| walk_at "storeName") => `(tactic| (k_here; (first | (with_reducible show wpAny _ _ (storeName _ "low" _) _ _ _) | (with_reducible show wpAny _ _ (storeName _ "high" _) _ _ _)); refine Hold.out ?_))
local macro_rules | `(tactic| walk_at "eval Name") => `(tactic| (k_here; k_dflt (first | (refine nameX_L (by k_asm) (by first | assumption | rfl) ?_ (by rfl) (by rfl); k_whole) | (refine ldCN (by k_asm) (by rfl) (by with_reducible (repeat (first | assumption | refine List.mem_cons_of_mem _ ?_))) (by assumption) ?_))))
local macro_rules | `(tactic| walk_at "eval Name") => `(tactic| (k_here; (with_reducible show wpAny _ _ (eval (Expr.Name _ _) (compEnvC _ _ _ _)) _ _ _); k_dflt (first | refine LCgL.ld_own (by assumption) (.tail _ (.head _)) (by assumption) (by assumption) ?_ | (refine lcf_cell (by k_asm) (by rfl) (by with_reducible (repeat (first | assumption | exact List.mem_cons_self | refine List.mem_cons_of_mem _ ?_))) (by assumption) ?_ (by rfl) (by rfl); k_whole) | refine LCgL.ld_built (by k_asm) (by k_asm) (by k_asm) (by k_is) (by boot_by_name) (by decide) ?_)))
theorem law_turn2 {Bx Le Mo l : Addr} {n i : Nat} {nm : Nat → Str} {ch : Nat → List Nat} {lo hi : Nat → Int} {tn : Tok} {R : Flow → Shared → Prop} {ob ole omo oLow oHigh oLe oMo : Obj} {kvb kvl kvm : List (Str × Value)} {cv : List Value} {ec : Nat} {vLow vHigh : Option Value} {keep : List (Addr × Obj)} (B : Below A₀ base outer h₀) (F : Fr h₀ L s.heap m) (X : (hd.heap_39 w.params).In h₀) (N : News h₀ L s.heap news) (T : Top p loose mean mg mb h₀) (hd : dp + 8 < recursionLimit) (hu : un + 64 < cLine) (mB : m (Str.ofString "below") = some (.ref Bx))
   (hkeep : ∀ p ∈ keep, p ∈ news ∧ p.1 ≠ L + 1 ∧ p.1 ≠ L + 1 + 1 ∧ p.1 ≠ Le ∧ p.1 ≠ Mo) (hLM : Le ≠ Mo) (hL1 : Le ≠ L + 1) (hL2 : Le ≠ L + 1 + 1) (hM1 : Mo ≠ L + 1) (hM2 : Mo ≠ L + 1 + 1)
   (kb1 : (Bx, ob) ∈ keep) (hb2 : ob.IsDictOf (PySem.strKind PySem.Challenge.rw_il0172_01.row.prog w) kvb) (hb3 : valueAt kvb (nm i) = some (.ref l)) (kl1 : (l, listOf (List.toArray cv) ec) ∈ keep) (hl2 : StrsOf cv ((ch i).map nm))
   (hi1 : i < n) (hn : n ≤ 10) (hch : ∀ j ∈ ch i, i < j ∧ j < n) (hchl : (ch i).length ≤ 9)
   (cLow : (L + 1, oLow) ∈ news) (dLow : oLow.data = .cell vLow) (cHigh : (L + 1 + 1, oHigh) ∈ news) (dHigh : oHigh.data = .cell vHigh)
   (kLe : (L + 1 + 1 + 1, oLe) ∈ keep) (dLe : oLe.data = .cell (some (.ref Le))) (kMo : (L + 1 + 1 + 1 + 1, oMo) ∈ keep) (dMo : oMo.data = .cell (some (.ref Mo)))
   (le1 : (Le, ole) ∈ news) (le2 : ole.IsDictOf (PySem.strKind PySem.Challenge.rw_il0172_01.row.prog w) kvl) (le3 : kvl.length ≤ n) (le4 : ∀ j, i < j → j < n → ∃ tk, valueAt kvl (nm j) = some (.int (lo j) tk))
   (mo1 : (Mo, omo) ∈ news) (mo2 : omo.IsDictOf (PySem.strKind PySem.Challenge.rw_il0172_01.row.prog w) kvm) (mo3 : kvm.length ≤ n) (mo4 : ∀ j, i < j → j < n → ∃ tk, valueAt kvm (nm j) = some (.int (hi j) tk))
   (hlo : ∀ M, M ∈ 1 :: (ch i).map (fun c => lo c - 1 + (((ch i).filter (fun d => decide (lo d ≥ lo c))).length : Int)) → (∀ a ∈ 1 :: (ch i).map (fun c => lo c - 1 + (((ch i).filter (fun d => decide (lo d ≥ lo c))).length : Int)), a ≤ M) → M = lo i)
   (hhi : ∀ M, M ∈ 1 :: (ch i).map (fun c => hi c - 1 + ((ch i).length : Int)) → (∀ a ∈ 1 :: (ch i).map (fun c => hi c - 1 + ((ch i).length : Int)), a ≤ M) → M = hi i)
   (hret : ∀ h' tk' m' b oLow' oHigh' ole' omo' v1 v2 t1 t2, Fr h₀ L h' m' → News h₀ L h' b → (∀ p ∈ keep, p ∈ b) → (L + 1, oLow') ∈ b → oLow'.data = .cell v1 → (L + 1 + 1, oHigh') ∈ b → oHigh'.data = .cell v2 →
      (Le, ole') ∈ b → ole'.IsDictOf (PySem.strKind PySem.Challenge.rw_il0172_01.row.prog w) (stored kvl (nm i) (.int (lo i) t1)) → (Mo, omo') ∈ b → omo'.IsDictOf (PySem.strKind PySem.Challenge.rw_il0172_01.row.prog w) (stored kvm (nm i) (.int (hi i) t2)) →
      (∀ z, z ≠ Str.ofString "place" → m' z = m z) → R .next { s with heap := h', toks := tk' }) :
   wpAny (model PySem.Challenge.rw_il0172_01.row.prog w) (ktrTop dp un gd (Str.ofString "law") lawSC L a ccd (cellsFrom (L + 1) lawSC.names []) outer) (assign loop2T (envOfC (Str.ofString "law") lawSC L a ccd) (.str (nm i) tn)) (fun _ s₂ => wpAny (model PySem.Challenge.rw_il0172_01.row.prog w) (ktrTop dp un gd (Str.ofString "law") lawSC L a ccd (cellsFrom (L + 1) lawSC.names []) outer) (execs loop2B (envOfC (Str.ofString "law") lawSC L a ccd)) R E s₂) E s := by
  have hb1 := (hkeep _ kb1).1
  have hl1 := (hkeep _ kl1).1
  have cLe := (hkeep _ kLe).1
  have cMo := (hkeep _ kMo).1
  revert X; k_fill; intro X
  dsimp only [loop2T, loop2B, getL]
  k_steps
  refine Hold.in ?_
  refine stN (g := s.gens) (d := s.drawn) (os := s.os) ?_
  rename News h₀ L _ news => N1
  refine LCg.ListComp_U (F₀ := by assumption) (by with_unfolding_all rfl) (by decide) (by rfl) (by decide) (by rfl) ?_
  k_steps
  refine Hold.in ?_
  refine stN (g := s.gens) (d := s.drawn) (os := s.os) ?_
  refine kda_item (knd := PySem.strKind _ _) N1 hb1 hb2 (strKind_is _ _ _ _) hb3 ?_
  have hcvl : cv.length = (ch i).length := by rw [hl2.length, List.length_map]
  refine LCg.CompSrc.ledger (its := List.toArray cv) (k := ec) rfl (by assumption) N1 hl1 (by rw [List.size_toArray, sizeLine_eq]; omega) (fun g => ?_)
  refine compU_all (fun k ys => IntsAre ys (((ch i).take k).map lo)) (by rw [List.take_zero]; exact .nil) (.inr ⟨_, hl1, rfl, _, rfl⟩) (fun k ys v hk hv hys => ?step1) (fun ys hys D1 h2 tk2 F2 N2 off2 => ?fin1)
  case step1 =>
    obtain ⟨tc, nc, hc, rfl⟩ := hl2.at (i := k) (v := v) (by simpa using hv)
    rw [List.getElem?_map] at hc
    obtain ⟨c, hci, rfl⟩ := Option.map_eq_some_iff.mp hc
    obtain ⟨hc1, hc2⟩ := hch c (List.mem_of_getElem? hci)
    obtain ⟨tkc, hlc⟩ := le4 c hc1 hc2
    intro I3 oI3 C3 oC3 D3 m₃ h3 tk3 E3 hC3 h31 F3 N3 off3 ne3
    k_steps
    refine Hold.in ?_
    refine stN (g := s.gens) (d := s.drawn) (os := s.os) ?_
    refine kda_item (knd := PySem.strKind _ _) N3 (.tail _ (.tail _ (.tail _ le1))) le2 (strKind_is _ _ _ _) hlc ?_
    refine ⟨_, _, rfl, F3, N3, ?_⟩
    rw [List.take_add_one, hci, List.map_append]
    exact ints_app hys (.cons _ _ .nil)
  case fin1 =>
    have hys1 : IntsAre ys ((ch i).map lo) := by
      rw [List.size_toArray, hcvl, List.take_length] at hys
      exact hys
    have hD1 := off1_mem off2
    (try dsimp only)
    k_steps
    refine Hold.in ?_
    refine stN (g := s.gens) (d := s.drawn) (os := s.os) ?_
    refine W_cellF (c := L + 1) F2 N2 (.tail _ cLow) dLow (fun h4 oLow2 nA F4 N4 uA dLow2 => ?_) rfl rfl rfl
    obtain ⟨uA1, uA2, uA3⟩ := uA
    have toA : ∀ p ∈ news, p.1 ≠ L + 1 → p ∈ nA := fun p hp h => uA2 p (.tail _ hp) h
    have hD1A : (D1, lst ys) ∈ nA := uA2 _ (.head _) (fun e => hD1 _ cLow e.symm)
    have b1A := toA _ hb1 (hkeep _ kb1).2.1
    have l1A := toA _ hl1 (hkeep _ kl1).2.1
    have leA := toA _ cLe (hkeep _ kLe).2.1
    have moA := toA _ cMo (hkeep _ kMo).2.1
    have le1A := toA _ le1 hL1
    have mo1A := toA _ mo1 hM1
    have cHighA := toA _ cHigh (by show L + 1 + 1 ≠ L + 1; exact Nat.succ_ne_self _)
    k_steps
    refine Hold.in ?_
    refine stN (g := s.gens) (d := s.drawn) (os := s.os) ?_
    rename News h₀ L _ nA => N5
    refine LCg.ListComp_U (F₀ := by assumption) (by with_unfolding_all rfl) (by decide) (by rfl) (by decide) (by rfl) ?_
    k_steps
    refine Hold.in ?_
    refine stN (g := s.gens) (d := s.drawn) (os := s.os) ?_
    refine kda_item (knd := PySem.strKind _ _) N5 b1A hb2 (strKind_is _ _ _ _) hb3 ?_
    refine LCg.CompSrc.ledger (its := List.toArray cv) (k := ec) rfl (by assumption) N5 l1A (by rw [List.size_toArray, sizeLine_eq]; omega) (fun g => ?_)
    refine compU_all (fun k ys => IntsAre ys (((ch i).take k).map hi)) (by rw [List.take_zero]; exact .nil) (.inr ⟨_, l1A, rfl, _, rfl⟩) (fun k ys v hk hv hys => ?step2) (fun ysH hysH D2 h5 tk5 F5 N5 off5 => ?fin2)
    case step2 =>
      obtain ⟨tc, nc, hc, rfl⟩ := hl2.at (i := k) (v := v) (by simpa using hv)
      rw [List.getElem?_map] at hc
      obtain ⟨c, hci, rfl⟩ := Option.map_eq_some_iff.mp hc
      obtain ⟨hc1, hc2⟩ := hch c (List.mem_of_getElem? hci)
      obtain ⟨tkc, hlc⟩ := mo4 c hc1 hc2
      intro I3 oI3 C3 oC3 D3 m₃ h3 tk3 E3 hC3 h31 F3 N3 off3 ne3
      k_steps
      refine Hold.in ?_
      refine stN (g := s.gens) (d := s.drawn) (os := s.os) ?_
      refine kda_item (knd := PySem.strKind _ _) N3 (.tail _ (.tail _ (.tail _ mo1A))) mo2 (strKind_is _ _ _ _) hlc ?_
      refine ⟨_, _, rfl, F3, N3, ?_⟩
      rw [List.take_add_one, hci, List.map_append]
      exact ints_app hys (.cons _ _ .nil)
    case fin2 =>
      have hys2 : IntsAre ysH ((ch i).map hi) := by
        rw [List.size_toArray, hcvl, List.take_length] at hysH
        exact hysH
      have hD2 := off1_mem off5
      (try dsimp only)
      k_steps
      refine Hold.in ?_
      refine stN (g := s.gens) (d := s.drawn) (os := s.os) ?_
      refine W_cellF (c := L + 1 + 1) F5 N5 (.tail _ cHighA) dHigh (fun h6 oHigh2 nB F6 N6 uB dHigh2 => ?_) rfl rfl rfl
      obtain ⟨uB1, uB2, uB3⟩ := uB
      have toB : ∀ p ∈ nA, p.1 ≠ L + 1 + 1 → p ∈ nB := fun p hp h => uB2 p (.tail _ hp) h
      have hD2B : (D2, lst ysH) ∈ nB := uB2 _ (.head _) (fun e => hD2 _ cHighA e.symm)
      k_steps
      refine Hold.in ?_
      refine stN (g := s.gens) (d := s.drawn) (os := s.os) ?_
      rename News h₀ L _ ((_, _) :: nB) => N7
      obtain ⟨la, rfl⟩ := head_addr N7
      have hD1B : (D1, lst ys) ∈ nB := toB _ hD1A (fun e => hD1 _ cHigh e.symm)
      have lowB : (L + 1, oLow2) ∈ nB := toB _ uA1 (by show L + 1 ≠ L + 1 + 1; exact (Nat.succ_ne_self _).symm)
      have le1B := toB _ le1A hL2
      have mo1B := toB _ mo1A hM2
      have leB := toB _ leA (hkeep _ kLe).2.2.1
      have moB := toB _ moA (hkeep _ kMo).2.2.1
      have hyl := ints_len hys1
      rw [List.length_map] at hyl
      refine comp_C (ax := D1) (its := List.toArray ys) (k := ys.length) rfl (by assumption) N7 (.tail _ hD1B) (by rw [List.size_toArray]; omega)
        (fun k zs => IntsAre zs (((ch i).take k).map (fun c => lo c - 1 + (((ch i).filter (fun d => decide (lo d ≥ lo c))).length : Int)))) (by rw [List.take_zero]; exact .nil)
        (fun k zs v hv hzs => ?step3) (fun D3 h7 tk7 zs F7 N7 l7 hzs => ?fin3) (fun Q' hq => ldCN N7 rfl (.tail _ lowB) dLow2 hq) (by with_unfolding_all rfl) (fun n => rfl) (fun h => rfl) rfl (by decide) (by with_unfolding_all rfl)
      case step3 =>
        obtain ⟨tc, nc, hc, rfl⟩ := ints_at hys1 (i := k) (v := v) (by simpa using hv)
        rw [List.getElem?_map] at hc
        obtain ⟨c, hci, rfl⟩ := Option.map_eq_some_iff.mp hc
        intro I3 oI3 C3 oC3 D3 cN ocN h3 tk3 E3 hocN F3 N3 lI3 lD3 lC3 lc3
        k_steps
        refine Hold.in ?_
        refine stN (g := s.gens) (d := s.drawn) (os := s.os) ?_
        refine LCt.ListComp_T (F₀ := by assumption) (by with_unfolding_all rfl) (by decide) (by rfl) (by decide) (by rfl) ?_
        k_steps
        refine LCt.CompSrcT.ledger (its := List.toArray ys) (k := ys.length) rfl (by assumption) N3 (.tail _ (.tail _ (.tail _ (.tail _ (.tail _ hD1B))))) (by rw [List.size_toArray, sizeLine_eq]; omega) (fun g => ?_)
        refine compT_all (fun k us => IntsAre us ((((ch i).take k).filter (fun d => decide (lo d ≥ lo c))).map lo)) (by rw [List.take_zero]; exact .nil) (.inr ⟨_, .tail _ (.tail _ (.tail _ (.tail _ (.tail _ hD1B)))), rfl, _, rfl⟩) (fun k us v hk hv hus => ?step4) (fun us hus D4 h8 tk8 F8 N8 off8 => ?fin4)
        case step4 =>
          obtain ⟨td, nd, hd4, rfl⟩ := ints_at hys1 (i := k) (v := v) (by simpa using hv)
          rw [List.getElem?_map] at hd4
          obtain ⟨d, hdi, rfl⟩ := Option.map_eq_some_iff.mp hd4
          intro I5 oI5 C5 oC5 D5 m5 h5 tk5 E5 hC5 h51 F5 N5 off5 ne5
          k_steps
          all_goals first | assumption | (rename lo c ≤ lo d => hcd; rw [filt_take hdi, if_pos (by simpa using hcd), List.map_append]; exact ints_app hus (.cons _ _ .nil)) | (rename ¬ lo c ≤ lo d => hcd; rw [filt_take hdi, if_neg (by simpa using hcd), List.append_nil]; exact hus)
        case fin4 =>
          have hul := ints_len hus
          rw [List.size_toArray, hyl, List.take_length, List.length_map] at hul
          have hul2 : us.length ≤ 9 := by rw [hul]; exact Nat.le_trans (List.length_filter_le _ _) hchl
          (try dsimp only)
          k_steps
          refine Hold.in ?_
          refine stN (g := s.gens) (d := s.drawn) (os := s.os) ?_
          refine PyProof.Rows.len_list ⟨_, (N8 _ (.head _)).1, rfl, _, rfl⟩ (by rw [List.size_toArray]; omega) ?_
          rw [List.size_toArray, hul]
          k_steps
          all_goals first | assumption | exact cb_drop N8 (fun p hp => .tail _ hp) | (rw [List.take_add_one, hci, List.map_append]; exact ints_app hzs (.cons _ _ .nil))
      case fin3 =>
        rw [List.size_toArray, hyl, List.take_length] at hzs
        have hzl := ints_len hzs
        rw [List.length_map] at hzl
        k_steps
        refine Hold.in ?_
        refine stN (g := s.gens) (d := s.drawn) (os := s.os) ?_
        refine W_addL F7 N7 (.tail _ (.head _)) (.head _) (by rw [List.length_singleton]; omega) (fun D4 h8 F8 N8 l8 => ?_)
        k_steps
        refine Hold.in ?_
        refine stN (g := s.gens) (d := s.drawn) (os := s.os) ?_
        refine max_list_N (ns := 1 :: (ch i).map (fun c => lo c - 1 + (((ch i).filter (fun d => decide (lo d ≥ lo c))).length : Int))) rfl F8 N8 ⟨_, (N8 _ (.head _)).1, rfl, _, rfl⟩ (.cons _ _ hzs) (Nat.succ_pos _) (fun h9 M tM tk9 F9 N9 hX1 hX2 => ?_)
        have hMe := hlo M hX1 hX2
        subst hMe
        k_steps
        refine Hold.in ?_
        refine stN (g := s.gens) (d := s.drawn) (os := s.os) ?_
        rename News h₀ L _ ((D4, _) :: _) => N10
        refine W_setF (nws := (D4, _) :: (D3, lst zs) :: (la, _) :: nB) (kvs := kvl) (by assumption) N10 (.tail _ (.tail _ (.tail _ le1B))) le2 (strKind_is _ _ _ _) (by omega) (fun h11 ole2 nC F11 N11 uC dle => ?_)
        obtain ⟨uC1, uC2, uC3⟩ := uC
        have toC : ∀ p ∈ nB, p.1 ≠ Le → p ∈ nC := fun p hp h => uC2 p (.tail _ (.tail _ (.tail _ hp))) h
        k_steps
        refine Hold.in ?_
        refine stN (g := s.gens) (d := s.drawn) (os := s.os) ?_
        rename News h₀ L _ ((_, _) :: nC) => N12
        obtain ⟨lb, rfl⟩ := head_addr N12
        have hD2C : (D2, lst ysH) ∈ nC := toC _ hD2B (fun e => hD2 _ le1A e.symm)
        have highC : (L + 1 + 1, oHigh2) ∈ nC := toC _ uB1 (Ne.symm hL2)
        have lowC : (L + 1, oLow2) ∈ nC := toC _ lowB (Ne.symm hL1)
        have mo1C := toC _ mo1B (Ne.symm hLM)
        have moC := toC _ moB (hkeep _ kMo).2.2.2.1
        have hyhl := ints_len hys2
        rw [List.length_map] at hyhl
        refine LCg.ListComp_U (F₀ := by assumption) (by with_unfolding_all rfl) (by decide) (by rfl) (by decide) (by rfl) ?_
        k_steps
        refine LCg.CompSrc.ledger (its := List.toArray ysH) (k := ysH.length) rfl (by assumption) N12 (.tail _ hD2C) (by rw [List.size_toArray, sizeLine_eq]; omega) (fun g => ?_)
        refine compU_all (fun k zs => IntsAre zs (((ch i).take k).map (fun c => hi c - 1 + ((ch i).length : Int)))) (by rw [List.take_zero]; exact .nil) (.inr ⟨_, .tail _ hD2C, rfl, _, rfl⟩) (fun k zs v hk hv hzs => ?step5) (fun zsH hzsH D5 h13 tk13 F13 N13 off13 => ?fin5)
        case step5 =>
          obtain ⟨td, nd, hd4, rfl⟩ := ints_at hys2 (i := k) (v := v) (by simpa using hv)
          rw [List.getElem?_map] at hd4
          obtain ⟨d, hdi, rfl⟩ := Option.map_eq_some_iff.mp hd4
          intro I5 oI5 C5 oC5 D5 m5 h5 tk5 E5 hC5 h51 F5 N5 off5 ne5
          k_steps
          refine Hold.in ?_
          refine stN (g := s.gens) (d := s.drawn) (os := s.os) ?_
          refine PyProof.Rows.len_list ⟨_, (N5 (D2, lst ysH) (.tail _ (.tail _ (.tail _ (.tail _ hD2C))))).1, rfl, _, rfl⟩ (by rw [List.size_toArray]; omega) ?_
          rw [List.size_toArray, hyhl]
          k_steps
          all_goals first | assumption | (rw [List.take_add_one, hdi, List.map_append]; exact ints_app hzs (.cons _ _ .nil))
        case fin5 =>
          rw [List.size_toArray, hyhl, List.take_length] at hzsH
          have hzhl := ints_len hzsH
          rw [List.length_map] at hzhl
          (try dsimp only)
          k_steps
          refine Hold.in ?_
          refine stN (g := s.gens) (d := s.drawn) (os := s.os) ?_
          refine W_addL F13 N13 (.tail _ (.head _)) (.head _) (by rw [List.length_singleton]; omega) (fun D6 h14 F14 N14 l14 => ?_)
          k_steps
          refine Hold.in ?_
          refine stN (g := s.gens) (d := s.drawn) (os := s.os) ?_
          refine max_list_N (ns := 1 :: (ch i).map (fun c => hi c - 1 + ((ch i).length : Int))) rfl F14 N14 ⟨_, (N14 _ (.head _)).1, rfl, _, rfl⟩ (.cons _ _ hzsH) (Nat.succ_pos _) (fun h15 M tM2 tk15 F15 N15 hM3 hM4 => ?_)
          have hMe := hhi M hM3 hM4
          subst hMe
          k_steps
          refine Hold.in ?_
          refine stN (g := s.gens) (d := s.drawn) (os := s.os) ?_
          rename News h₀ L _ ((D6, _) :: _) => N16
          refine W_setF (nws := (D6, _) :: (D5, lst zsH) :: (lb, _) :: nC) (kvs := kvm) (by assumption) N16 (.tail _ (.tail _ (.tail _ mo1C))) mo2 (strKind_is _ _ _ _) (by omega) (fun h17 omo2 nD F17 N17 uD dmo => ?_)
          obtain ⟨uD1, uD2, uD3⟩ := uD
          have toD : ∀ p ∈ nC, p.1 ≠ Mo → p ∈ nD := fun p hp h => uD2 p (.tail _ (.tail _ (.tail _ hp))) h
          k_steps
          refine hret _ _ _ nD oLow2 oHigh2 ole2 omo2 _ _ tM tM2 (by assumption) (by assumption) (fun q hq => ?_) (toD _ lowC (Ne.symm hM1)) dLow2 (toD _ highC (Ne.symm hM2)) dHigh2 (toD _ uC1 hLM) dle uD1 dmo (fun z hz => if_neg hz)
          obtain ⟨k1, k2, k3, k4, k5⟩ := hkeep q hq
          exact toD _ (toC _ (toB _ (toA _ k1 k2) k3) k4) k5
end
end Mine
end
section
open PySem PySem.W PyProof.Rows PySem.Calls
set_option Elab.async false
set_option maxRecDepth 100000
set_option maxHeartbeats 8000000
set_option linter.unusedVariables false
namespace Mine
section
theorem fresh_LM1 : True ∧ True := by
  w_top off
  exact ⟨trivial, trivial⟩
end
noncomputable def lam? : Stmt → Option Expr
  | .Assign _ (.Call _ ((.Call _ (_ :: _ :: l :: _) _ _) :: _) _ _) _ => some l
  | _ => none
noncomputable def lam4? : Expr → Option (Arguments × Expr × Scope × Pos)
  | .Lambda p b s q => some (p, b, s, q)
  | _ => none
noncomputable def lamP? (e : Expr) : Option Arguments := (lam4? e).map (·.1)
noncomputable def lamB? (e : Expr) : Option Expr := (lam4? e).map (·.2.1)
noncomputable def lamS? (e : Expr) : Option Scope := (lam4? e).map (·.2.2.1)
noncomputable abbrev lam1P : Arguments := getL (show ((lawB[7]?).bind lam?).bind lamP? = some _ from rfl)
noncomputable abbrev lam1B : Expr := getL (show ((lawB[7]?).bind lam?).bind lamB? = some _ from rfl)
noncomputable abbrev lam1S : Scope := getL (show ((lawB[7]?).bind lam?).bind lamS? = some _ from rfl)
noncomputable abbrev lam2P : Arguments := getL (show ((lawB[8]?).bind lam?).bind lamP? = some _ from rfl)
noncomputable abbrev lam2B : Expr := getL (show ((lawB[8]?).bind lam?).bind lamB? = some _ from rfl)
noncomputable abbrev lam2S : Scope := getL (show ((lawB[8]?).bind lam?).bind lamS? = some _ from rfl)
noncomputable abbrev lam3P : Arguments := getL (show ((lawB[9]?).bind lam?).bind lamP? = some _ from rfl)
noncomputable abbrev lam3B : Expr := getL (show ((lawB[9]?).bind lam?).bind lamB? = some _ from rfl)
noncomputable abbrev lam3S : Scope := getL (show ((lawB[9]?).bind lam?).bind lamS? = some _ from rfl)
section
variable {w : World} {p : Program} {loose : List Str} {mean : ExcName → Option Value} {mg mb : Str → Option Value} {dp un : Nat} {gd : Option (List Code)} {cn : Str} {cs : Scope} {a : Addr} {ccd : Value} {cl : List (Str × Addr)} {outer : List Env} {A₀ : Around} {base h₀ : Heap} {L : Addr} {m : Str → Option Value} {news : List (Addr × Obj)} {s : Shared} {Q E : Value → Shared → Prop}
local macro_rules | `(tactic| walk_at "subscriptTail") => `(tactic| (k_here; refine Hold.out ?_))
local macro_rules | `(tactic| walk_at "eval Name") => `(tactic| (k_here; k_dflt (first | (refine nameX_L (by k_asm) (by first | assumption | rfl) ?_ (by rfl) (by rfl); k_whole) | (refine nameX_F (by k_asm) (by rfl) (by assumption) (by assumption) ?_ (by rfl) (by rfl); k_whole))))
theorem lam1_calls {f c' cLe Le : Addr} {qual : Str} {pm ctv : Value} {oc oLe ole : Obj} {vs : Array Value} {tq : Tok} {kvl : List (Str × Value)} {x y : Str} {tx ty t1 t2 : Tok} {n1 n2 : Int}
   (hd1 : oc.data = .fields vs) (hd2 : vs[1]? = some (.str qual tq)) (dLe : oLe.data = .cell (some (.ref Le))) (le2 : ole.IsDictOf (PySem.strKind PySem.Challenge.rw_il0172_01.row.prog w) kvl)
   (hx : valueAt kvl x = some (.int n1 t1)) (hy : valueAt kvl y = some (.int n2 t2)) :
   CallsInt w p loose mean mg mb (.ref f) [(f, kla_obj "<lambda>" qual lam1P lam1B lam1S [(Str.ofString "least", cLe)] pm c' ctv), (c', oc), (cLe, oLe), (Le, ole)] (.str x tx) (.str y ty) (n2 - n1) := by
  intro dp un gd cn cs a ccd cl outer A₀ base h₀ L m news s Q E B F X N T hk hneed hd hu hret
  have m1 := hneed _ (.head _)
  have m2 := hneed _ (.tail _ (.head _))
  have m3 := hneed _ (.tail _ (.tail _ (.head _)))
  have m4 := hneed _ (.tail _ (.tail _ (.tail _ (.head _))))
  revert X; k_fill; intro X
  refine wpAny_call ?_
  k_dflt (refine' kla_code ?k1 ?k2 ?k3 ?k4 ?k5 ?kA ?kF ?kK ?k6 ?k7 ?k8 ?k9 ?kB ?_ ?c2 ?c3 ?c4 ?c5; (case kA => exact rfl); (case kF => exact rfl); (case kK => first | exact rfl | assumption); (case k1 => k_asm); (case k2 => k_asm); (case k3 => k_asm); (case k4 => k_asm); (case k5 => k_asm); (case k6 => exact m1); (case k7 => exact ⟨_, oc, vs, tq, rfl, (N _ m2).1, hd1, hd2⟩); (case k8 => ktr_room); (case k9 => exact rfl); (case c5 => decide); (case kB => exact locs rfl); (case c2 => exact rfl); (case c3 => exact rfl); (case c4 => exact rfl); k_whole; intro g' L' h' FG' F' N' B' X' T'; (try dsimp only); (try k_lift B'); (try k_fold))
  dsimp only [lam1P, lam1B, lam1S, getL]
  k_steps
  refine Hold.in ?_
  refine kda_item (knd := PySem.strKind _ _) N' m4 le2 (strKind_is _ _ _ _) hy ?_
  k_steps
  refine Hold.in ?_
  rename News g' L' _ _ => N9
  refine kda_item (knd := PySem.strKind _ _) N9 m4 le2 (strKind_is _ _ _ _) hx ?_
  k_steps
  exact hret _ _ _ (by assumption) (by assumption)
theorem lam2_calls {f c' cLe Le : Addr} {qual : Str} {pm ctv : Value} {oc oLe ole : Obj} {vs : Array Value} {tq : Tok} {kvl : List (Str × Value)} {x y : Str} {tx ty t1 t2 : Tok} {n1 n2 : Int}
   (hd1 : oc.data = .fields vs) (hd2 : vs[1]? = some (.str qual tq)) (dLe : oLe.data = .cell (some (.ref Le))) (le2 : ole.IsDictOf (PySem.strKind PySem.Challenge.rw_il0172_01.row.prog w) kvl)
   (hx : valueAt kvl x = some (.int n1 t1)) (hy : valueAt kvl y = some (.int n2 t2)) :
   CallsInt w p loose mean mg mb (.ref f) [(f, kla_obj "<lambda>" qual lam2P lam2B lam2S [(Str.ofString "most", cLe)] pm c' ctv), (c', oc), (cLe, oLe), (Le, ole)] (.str x tx) (.str y ty) (n1 - n2) := by
  intro dp un gd cn cs a ccd cl outer A₀ base h₀ L m news s Q E B F X N T hk hneed hd hu hret
  have m1 := hneed _ (.head _)
  have m2 := hneed _ (.tail _ (.head _))
  have m3 := hneed _ (.tail _ (.tail _ (.head _)))
  have m4 := hneed _ (.tail _ (.tail _ (.tail _ (.head _))))
  revert X; k_fill; intro X
  refine wpAny_call ?_
  k_dflt (refine' kla_code ?k1 ?k2 ?k3 ?k4 ?k5 ?kA ?kF ?kK ?k6 ?k7 ?k8 ?k9 ?kB ?_ ?c2 ?c3 ?c4 ?c5; (case kA => exact rfl); (case kF => exact rfl); (case kK => first | exact rfl | assumption); (case k1 => k_asm); (case k2 => k_asm); (case k3 => k_asm); (case k4 => k_asm); (case k5 => k_asm); (case k6 => exact m1); (case k7 => exact ⟨_, oc, vs, tq, rfl, (N _ m2).1, hd1, hd2⟩); (case k8 => ktr_room); (case k9 => exact rfl); (case c5 => decide); (case kB => exact locs rfl); (case c2 => exact rfl); (case c3 => exact rfl); (case c4 => exact rfl); k_whole; intro g' L' h' FG' F' N' B' X' T'; (try dsimp only); (try k_lift B'); (try k_fold))
  dsimp only [lam2P, lam2B, lam2S, getL]
  k_steps
  refine Hold.in ?_
  refine kda_item (knd := PySem.strKind _ _) N' m4 le2 (strKind_is _ _ _ _) hx ?_
  k_steps
  refine Hold.in ?_
  rename News g' L' _ _ => N9
  refine kda_item (knd := PySem.strKind _ _) N9 m4 le2 (strKind_is _ _ _ _) hy ?_
  k_steps
  exact hret _ _ _ (by assumption) (by assumption)
theorem lam3_calls {f c' : Addr} {qual : Str} {pm ctv : Value} {oc : Obj} {vs : Array Value} {tq : Tok} {x y : Str} {tx ty : Tok}
   (hd1 : oc.data = .fields vs) (hd2 : vs[1]? = some (.str qual tq)) :
   CallsInt w p loose mean mg mb (.ref f) [(f, kla_obj "<lambda>" qual lam3P lam3B lam3S [] pm c' ctv), (c', oc)] (.str x tx) (.str y ty) 0 := by
  intro dp un gd cn cs a ccd cl outer A₀ base h₀ L m news s Q E B F X N T hk hneed hd hu hret
  have m1 := hneed _ (.head _)
  have m2 := hneed _ (.tail _ (.head _))
  revert X; k_fill; intro X
  refine wpAny_call ?_
  k_dflt (refine' kla_code ?k1 ?k2 ?k3 ?k4 ?k5 ?kA ?kF ?kK ?k6 ?k7 ?k8 ?k9 ?kB ?_ ?c2 ?c3 ?c4 ?c5; (case kA => exact rfl); (case kF => exact rfl); (case kK => first | exact rfl | assumption); (case k1 => k_asm); (case k2 => k_asm); (case k3 => k_asm); (case k4 => k_asm); (case k5 => k_asm); (case k6 => exact m1); (case k7 => exact ⟨_, oc, vs, tq, rfl, (N _ m2).1, hd1, hd2⟩); (case k8 => ktr_room); (case k9 => exact rfl); (case c5 => decide); (case kB => exact locs rfl); (case c2 => exact rfl); (case c3 => exact rfl); (case c4 => exact rfl); k_whole; intro g' L' h' FG' F' N' B' X' T'; (try dsimp only); (try k_lift B'); (try k_fold))
  dsimp only [lam3P, lam3B, lam3S, getL]
  k_steps
  exact hret _ _ _ (by assumption) (by assumption)
end
end Mine
end
section
open PySem PySem.W PyProof.Rows PySem.Calls
set_option Elab.async false
set_option maxRecDepth 100000
set_option maxHeartbeats 8000000
set_option linter.unusedVariables false
namespace Mine
section
theorem fresh_R1 : True ∧ True := by
  w_top off
  exact ⟨trivial, trivial⟩
end
theorem mem_swap3 {x y z : Addr × Obj} {T r : List (Addr × Obj)} : ∀ p ∈ T ++ (x :: y :: z :: r), p ∈ x :: y :: z :: (T ++ r) := by
  intro p hp
  rcases List.mem_append.mp hp with hp | hp
  · exact .tail _ (.tail _ (.tail _ (List.mem_append_left _ hp)))
  · rcases List.mem_cons.mp hp with rfl | hp
    · exact .head _
    · rcases List.mem_cons.mp hp with rfl | hp
      · exact .tail _ (.head _)
      · rcases List.mem_cons.mp hp with rfl | hp
        · exact .tail _ (.tail _ (.head _))
        · exact .tail _ (.tail _ (.tail _ (List.mem_append_right _ hp)))
noncomputable def lamPos? (e : Expr) : Option Pos := (lam4? e).map (·.2.2.2)
noncomputable abbrev st7 : Stmt := getL (show lawB[7]? = some _ from rfl)
noncomputable abbrev lam1Pos : Pos := getL (show ((lawB[7]?).bind lam?).bind lamPos? = some _ from rfl)
section
variable {w : World} {p : Program} {loose : List Str} {mean : ExcName → Option Value} {mg mb : Str → Option Value} {dp un : Nat} {gd : Option (List Code)} {cn : Str} {cs : Scope} {a : Addr} {ccd : Value} {cl : List (Str × Addr)} {outer : List Env} {A₀ : Around} {base h₀ : Heap} {L : Addr} {m : Str → Option Value} {news : List (Addr × Obj)} {s : Shared} {Q E : Value → Shared → Prop}
local macro_rules | `(tactic| walk_at "call ref") => `(tactic| (k_here; (with_reducible show wpAny _ _ (call (Value.ref _) _) _ _ _); refine Hold.out ?_))
local macro_rules | `(tactic| walk_at "eval Lambda") => `(tactic| (k_here; refine Hold.out ?_))
local macro_rules | `(tactic| walk_at "eval Name") => `(tactic| (k_here; k_dflt (refine nameX_L (by k_asm) (by first | assumption | rfl) ?_ (by rfl) (by rfl); k_whole)))
theorem law_round1 (t : Tr) (pa : Nat → Str) (pm : Nat → Array Nat) (lo : Nat → Int) {Bx Ax Le : Addr} {ps : Array Value} {Tb : List (Addr × Obj)} {oa oLe ole : Obj} {kva kvl : List (Str × Value)} {R : Flow → Shared → Prop} (B : Below A₀ base outer h₀) (F : Fr h₀ L s.heap m) (X : (hd.heap_39 w.params).In h₀) (N : News h₀ L s.heap ((238, tabObj ps) :: (Tb ++ news))) (T : Top p loose mean mg mb h₀) (hd : dp + 30 < recursionLimit) (hu : un + 240 < cLine) (hccd : ccd = .ref 240)
   (mB : m (Str.ofString "below") = some (.ref Bx)) (mA : m (Str.ofString "above") = some (.ref Ax))
   (hCT : CT Tb) (HC : CodeHd h₀ 110 106) (HL : CodeHd h₀ 240 238) (h106 : ∀ p ∈ news, p.1 ≠ 106) (h238 : ∀ p ∈ Tb ++ news, p.1 ≠ 238) (hps : TriplesOk ps.toList) (hnone : codeAmong lam1Pos ps.toList = none)
   (hroot : t.nm 0 = Str.ofString "/t") (hB : t.Below w Bx news) (kLe : (L + 1 + 1 + 1, oLe) ∈ news) (dLe : oLe.data = .cell (some (.ref Le)))
   (le1 : (Le, ole) ∈ news) (le2 : ole.IsDictOf (PySem.strKind PySem.Challenge.rw_il0172_01.row.prog w) kvl) (le4 : ∀ j, j < t.n → ∃ tk, valueAt kvl (t.nm j) = some (.int (lo j) tk))
   (ham : (Ax, oa) ∈ news) (had : oa.IsDictOf (PySem.strKind PySem.Challenge.rw_il0172_01.row.prog w) kva) (hav : ∀ i, i < t.n → ∃ tk, valueAt kva (t.nm i) = some (.str (pa i) tk))
   (hch : ∀ i, i < t.n → ∀ j ∈ t.ch i, i < j ∧ j < t.n) (hpm : ∀ i, i < t.n → SortOk (t.ch i).length (fun a b => decide (lo ((t.ch i).getD b 0) - lo ((t.ch i).getD a 0) < 0)) (pm i))
   (hcl : ∀ i, i < t.n → (t.ch i).length ≤ 9) (hpr : ∀ i, i < t.n → ∀ q ∈ (pm i).toList, q < (t.ch i).length) (hwl : ∀ f, f ≤ 20 → ∀ i, i < t.n → (walkI t.ch pm f i).length ≤ 100) (hn : t.n ≤ 10) (hn0 : 0 < t.n)
   (hin : ∀ i ∈ walkI t.ch pm 10 0, i < t.n)
   (hnm : ∀ i, i < t.n → (t.nm i).length ≤ 100 ∧ Txt.startswith (t.nm i) (Str.ofString "/") = true ∧ (Txt.split (t.nm i) (Str.ofString "/")).length ≤ 200)
   (hpa : ∀ i, i < t.n → (pa i).length ≤ 100 ∧ (pa i).length ≠ 0 ∧ Txt.startswith (pa i) (Str.ofString "/") = true ∧ (Txt.split (pa i) (Str.ofString "/")).length ≤ 200)
   (hba : ∀ i, i < t.n → (baseS (t.nm i)).length ≤ 1000 ∧ Txt.startswith (baseS (t.nm i)) (Str.ofString "/") = false)
   (hok : ∀ k i, (walkI t.ch pm 10 0)[k]? = some i → (t.ch i).length ≤ (pkStI t.ch ((walkI t.ch pm 10 0).take k)).length ∧ (pkStI t.ch ((walkI t.ch pm 10 0).take (k + 1))).length ≤ 100 ∧ (pkStI t.ch ((walkI t.ch pm 10 0).take (k + 1))).map (fun j => joinS (pa j) (baseS (t.nm j))) = (((walkI t.ch pm 10 0).take (k + 1)).filter (dueI t.nm pa i)).map t.nm)
   (hret : ∀ h' tk' c' Tb' nw t', Fr h₀ L h' (fun y => if y = Str.ofString "first" then some (.int (pkTop t.ch (walkI t.ch pm 10 0) (walkI t.ch pm 10 0).length) t') else m y) → News h₀ L h' ((238, tabObj (ps ++ #[rawInt lam1Pos.line, rawInt lam1Pos.col, .ref c'])) :: (Tb' ++ nw)) →
      CT Tb' → (∀ p ∈ nw, p.1 ≠ 106) → (∀ p ∈ Tb' ++ nw, p.1 ≠ 238) → (∀ p ∈ news, p ∈ nw) → R .next { s with heap := h', toks := tk' }) :
   wpAny (model PySem.Challenge.rw_il0172_01.row.prog w) (ktrTop dp un gd (Str.ofString "law") lawSC L a ccd (cellsFrom (L + 1) lawSC.names []) outer) (exec st7 (envOfC (Str.ofString "law") lawSC L a ccd)) R E s := by
  subst hccd
  revert X; k_fill; intro X
  dsimp only [st7, getL]
  k_steps
  refine Hold.in ?_
  have U : UpdF 238 (tabObj ps) ((238, tabObj ps) :: (Tb ++ news)) (fun o' => (238, o') :: (Tb ++ news)) := UpdF.head h238
  k_dflt (refine' kla_eval rfl ?_; refine' kla_nest F N T HL rfl U hps hnone rfl ?_)
  intro f c' oc vs tq ctv h1 tk1 F1 N1 hd1 hd2 l1 l2
  dsimp only at N1
  k_steps
  refine Hold.in ?_
  rw [← hroot]
  have l12 : c' < f := l2
  obtain ⟨o106, h106m⟩ := hCT.mem
  have hc106 : (106 : Nat) < c' := l1 (106, o106) (.tail _ (List.mem_append_left _ h106m))
  have hc238 : (238 : Nat) < c' := l1 (238, _) (.head _)
  have hf106 : (106 : Nat) < f := Nat.lt_trans hc106 l12
  have hf238 : (238 : Nat) < f := Nat.lt_trans hc238 l12
  have hn106 : ∀ p ∈ ((f, kla_obj (Str.ofString "<lambda>") (Str.ofString "law" ++ ".<locals>." ++ "<lambda>") lam1P lam1B lam1S [(Str.ofString "least", L + 1 + 1 + 1)] ((mg "__name__").getD .none) c' ctv) : Addr × Obj) :: (c', oc) :: (238, tabObj (ps ++ #[rawInt lam1Pos.line, rawInt lam1Pos.col, .ref c'])) :: news, p.1 ≠ 106 := by
    intro p hp
    rcases List.mem_cons.mp hp with rfl | hp
    · exact Nat.ne_of_gt hf106
    rcases List.mem_cons.mp hp with rfl | hp
    · exact Nat.ne_of_gt hc106
    rcases List.mem_cons.mp hp with rfl | hp
    · show (238 : Nat) ≠ 106; decide
    · exact h106 p hp
  have N2 : News h₀ L h1 (Tb ++ ((f, kla_obj (Str.ofString "<lambda>") (Str.ofString "law" ++ ".<locals>." ++ "<lambda>") lam1P lam1B lam1S [(Str.ofString "least", L + 1 + 1 + 1)] ((mg "__name__").getD .none) c' ctv) :: (c', oc) :: (238, tabObj (ps ++ #[rawInt lam1Pos.line, rawInt lam1Pos.col, .ref c'])) :: news)) := cb_drop N1 mem_swap3
  refine c_walk t hch pm (fun i j => lo j - lo i) (lam := f) (bx := Bx) (need := [(f, kla_obj (Str.ofString "<lambda>") (Str.ofString "law" ++ ".<locals>." ++ "<lambda>") lam1P lam1B lam1S [(Str.ofString "least", L + 1 + 1 + 1)] ((mg "__name__").getD .none) c' ctv), (c', oc), (L + 1 + 1 + 1, oLe), (Le, ole)]) hpm (fun i j hi hj tk u => ?hcmp) (fun i hi => Nat.lt_of_le_of_lt (hcl i hi) (by decide)) hpr hwl (by omega) 10 0 (by decide) (by omega) hn0 hCT HC hn106 B F1 X N2 T rfl (hB.mono (fun p hp => .tail _ (.tail _ (.tail _ hp)))) (fun q hq => ?hneed) (.head _) ?hd ?hu (fun h2 tk2 Tb2 D wv e hCT2 hFr2 F2 N3 hS2 lD => ?cont)
  case hcmp =>
    obtain ⟨t1, e1⟩ := le4 i hi
    obtain ⟨t2, e2⟩ := le4 j hj
    exact lam1_calls hd1 hd2 dLe le2 e1 e2
  case hneed =>
    rcases List.mem_cons.mp hq with rfl | hq
    · exact .head _
    rcases List.mem_cons.mp hq with rfl | hq
    · exact .tail _ (.head _)
    rcases List.mem_cons.mp hq with rfl | hq
    · exact .tail _ (.tail _ (.tail _ kLe))
    · rw [List.mem_singleton.mp hq]; exact .tail _ (.tail _ (.tail _ le1))
  case hd => omega
  case hu => omega
  case cont =>
    dsimp only
    k_steps
    refine Hold.in ?_
    have toN : ∀ p ∈ news, p ∈ (D, listOf (List.toArray wv) e) :: (Tb2 ++ ((f, kla_obj (Str.ofString "<lambda>") (Str.ofString "law" ++ ".<locals>." ++ "<lambda>") lam1P lam1B lam1S [(Str.ofString "least", L + 1 + 1 + 1)] ((mg "__name__").getD .none) c' ctv) :: (c', oc) :: (238, tabObj (ps ++ #[rawInt lam1Pos.line, rawInt lam1Pos.col, .ref c'])) :: news)) := fun p hp => .tail _ (List.mem_append_right _ (.tail _ (.tail _ (.tail _ hp))))
    refine c_peak t pa B F2 X N3 T rfl ?yd ?yu hS2 (hwl 10 (by decide) 0 hn0) hin (.head _) (hB.mono toN) (fun i hi => Nat.le_trans (hcl i hi) (by decide)) (toN _ ham) had hav hnm hpa hba hok (fun h3 tk3 t3 F3 N4 => ?cont2)
    · omega
    · omega
    case cont2 =>
      have hD238 : (238 : Nat) < D := lD (238, tabObj (ps ++ #[rawInt lam1Pos.line, rawInt lam1Pos.col, .ref c'])) (.tail _ (.tail _ (.head _)))
      k_steps
      refine hret _ _ c' Tb2 ((D, listOf (List.toArray wv) e) :: (f, kla_obj (Str.ofString "<lambda>") (Str.ofString "law" ++ ".<locals>." ++ "<lambda>") lam1P lam1B lam1S [(Str.ofString "least", L + 1 + 1 + 1)] ((mg "__name__").getD .none) c' ctv) :: (c', oc) :: news) t3 (by assumption) (cb_drop (by assumption) (fun p hp => ?_)) hCT2 (fun p hp => ?_) (fun p hp => ?_) (fun p hp => .tail _ (.tail _ (.tail _ hp)))
      · rcases List.mem_cons.mp hp with rfl | hp
        · exact .tail _ (List.mem_append_right _ (.tail _ (.tail _ (.head _))))
        rcases List.mem_append.mp hp with hp | hp
        · exact .tail _ (List.mem_append_left _ hp)
        rcases List.mem_cons.mp hp with rfl | hp
        · exact .head _
        rcases List.mem_cons.mp hp with rfl | hp
        · exact .tail _ (List.mem_append_right _ (.head _))
        rcases List.mem_cons.mp hp with rfl | hp
        · exact .tail _ (List.mem_append_right _ (.tail _ (.head _)))
        · exact toN p hp
      · rcases List.mem_cons.mp hp with rfl | hp
        · exact Nat.ne_of_gt (Nat.lt_trans (by decide) hD238)
        rcases List.mem_cons.mp hp with rfl | hp
        · exact Nat.ne_of_gt hf106
        rcases List.mem_cons.mp hp with rfl | hp
        · exact Nat.ne_of_gt hc106
        · exact h106 p hp
      · rcases List.mem_append.mp hp with hp | hp
        · rcases hFr2 p hp with ⟨q, hq, e⟩ | h
          · rw [← e]; exact h238 q (List.mem_append_left _ hq)
          · exact Nat.ne_of_gt (h (238, tabObj (ps ++ #[rawInt lam1Pos.line, rawInt lam1Pos.col, .ref c'])) (.tail _ (.tail _ (.head _))))
        rcases List.mem_cons.mp hp with rfl | hp
        · exact Nat.ne_of_gt hD238
        rcases List.mem_cons.mp hp with rfl | hp
        · exact Nat.ne_of_gt hf238
        rcases List.mem_cons.mp hp with rfl | hp
        · exact Nat.ne_of_gt hc238
        · exact h238 p (List.mem_append_right _ hp)
end
end Mine
end
section
open PySem PySem.W PyProof.Rows PySem.Calls
set_option Elab.async false
set_option maxRecDepth 100000
set_option maxHeartbeats 8000000
set_option linter.unusedVariables false
namespace Mine
section
local macro_rules | `(tactic| walk_at "z") => `(tactic| skip)
theorem fresh_R2 : True ∧ True := by
  w_top off
  walk1
  all_goals trivial
end
noncomputable abbrev st8 : Stmt := getL (show lawB[8]? = some _ from rfl)
noncomputable abbrev st9 : Stmt := getL (show lawB[9]? = some _ from rfl)
noncomputable abbrev lam2Pos : Pos := getL (show ((lawB[8]?).bind lam?).bind lamPos? = some _ from rfl)
noncomputable abbrev lam3Pos : Pos := getL (show ((lawB[9]?).bind lam?).bind lamPos? = some _ from rfl)
section
variable {w : World} {p : Program} {loose : List Str} {mean : ExcName → Option Value} {mg mb : Str → Option Value} {dp un : Nat} {gd : Option (List Code)} {cn : Str} {cs : Scope} {a : Addr} {ccd : Value} {cl : List (Str × Addr)} {outer : List Env} {A₀ : Around} {base h₀ : Heap} {L : Addr} {m : Str → Option Value} {news : List (Addr × Obj)} {s : Shared} {Q E : Value → Shared → Prop}
local macro_rules | `(tactic| walk_at "call ref") => `(tactic| (k_here; (with_reducible show wpAny _ _ (call (Value.ref _) _) _ _ _); refine Hold.out ?_))
local macro_rules | `(tactic| walk_at "eval Lambda") => `(tactic| (k_here; refine Hold.out ?_))
local macro_rules | `(tactic| walk_at "eval Name") => `(tactic| (k_here; k_dflt (refine nameX_L (by k_asm) (by first | assumption | rfl) ?_ (by rfl) (by rfl); k_whole)))
theorem law_round2 (t : Tr) (pa : Nat → Str) (pm : Nat → Array Nat) (lo : Nat → Int) {Bx Ax Le : Addr} {ps : Array Value} {Tb : List (Addr × Obj)} {oa oLe ole : Obj} {kva kvl : List (Str × Value)} {R : Flow → Shared → Prop} (B : Below A₀ base outer h₀) (F : Fr h₀ L s.heap m) (X : (hd.heap_39 w.params).In h₀) (N : News h₀ L s.heap ((238, tabObj ps) :: (Tb ++ news))) (T : Top p loose mean mg mb h₀) (hd : dp + 30 < recursionLimit) (hu : un + 240 < cLine) (hccd : ccd = .ref 240)
   (mB : m (Str.ofString "below") = some (.ref Bx)) (mA : m (Str.ofString "above") = some (.ref Ax))
   (hCT : CT Tb) (HC : CodeHd h₀ 110 106) (HL : CodeHd h₀ 240 238) (h106 : ∀ p ∈ news, p.1 ≠ 106) (h238 : ∀ p ∈ Tb ++ news, p.1 ≠ 238) (hps : TriplesOk ps.toList) (hnone : codeAmong lam2Pos ps.toList = none)
   (hroot : t.nm 0 = Str.ofString "/t") (hB : t.Below w Bx news) (kLe : (L + 1 + 1 + 1 + 1, oLe) ∈ news) (dLe : oLe.data = .cell (some (.ref Le)))
   (le1 : (Le, ole) ∈ news) (le2 : ole.IsDictOf (PySem.strKind PySem.Challenge.rw_il0172_01.row.prog w) kvl) (le4 : ∀ j, j < t.n → ∃ tk, valueAt kvl (t.nm j) = some (.int (lo j) tk))
   (ham : (Ax, oa) ∈ news) (had : oa.IsDictOf (PySem.strKind PySem.Challenge.rw_il0172_01.row.prog w) kva) (hav : ∀ i, i < t.n → ∃ tk, valueAt kva (t.nm i) = some (.str (pa i) tk))
   (hch : ∀ i, i < t.n → ∀ j ∈ t.ch i, i < j ∧ j < t.n) (hpm : ∀ i, i < t.n → SortOk (t.ch i).length (fun a b => decide (lo ((t.ch i).getD a 0) - lo ((t.ch i).getD b 0) < 0)) (pm i))
   (hcl : ∀ i, i < t.n → (t.ch i).length ≤ 9) (hpr : ∀ i, i < t.n → ∀ q ∈ (pm i).toList, q < (t.ch i).length) (hwl : ∀ f, f ≤ 20 → ∀ i, i < t.n → (walkI t.ch pm f i).length ≤ 100) (hn : t.n ≤ 10) (hn0 : 0 < t.n)
   (hin : ∀ i ∈ walkI t.ch pm 10 0, i < t.n)
   (hnm : ∀ i, i < t.n → (t.nm i).length ≤ 100 ∧ Txt.startswith (t.nm i) (Str.ofString "/") = true ∧ (Txt.split (t.nm i) (Str.ofString "/")).length ≤ 200)
   (hpa : ∀ i, i < t.n → (pa i).length ≤ 100 ∧ (pa i).length ≠ 0 ∧ Txt.startswith (pa i) (Str.ofString "/") = true ∧ (Txt.split (pa i) (Str.ofString "/")).length ≤ 200)
   (hba : ∀ i, i < t.n → (baseS (t.nm i)).length ≤ 1000 ∧ Txt.startswith (baseS (t.nm i)) (Str.ofString "/") = false)
   (hok : ∀ k i, (walkI t.ch pm 10 0)[k]? = some i → (t.ch i).length ≤ (pkStI t.ch ((walkI t.ch pm 10 0).take k)).length ∧ (pkStI t.ch ((walkI t.ch pm 10 0).take (k + 1))).length ≤ 100 ∧ (pkStI t.ch ((walkI t.ch pm 10 0).take (k + 1))).map (fun j => joinS (pa j) (baseS (t.nm j))) = (((walkI t.ch pm 10 0).take (k + 1)).filter (dueI t.nm pa i)).map t.nm)
   (hret : ∀ h' tk' c' Tb' nw t', Fr h₀ L h' (fun y => if y = Str.ofString "second" then some (.int (pkTop t.ch (walkI t.ch pm 10 0) (walkI t.ch pm 10 0).length) t') else m y) → News h₀ L h' ((238, tabObj (ps ++ #[rawInt lam2Pos.line, rawInt lam2Pos.col, .ref c'])) :: (Tb' ++ nw)) →
      CT Tb' → (∀ p ∈ nw, p.1 ≠ 106) → (∀ p ∈ Tb' ++ nw, p.1 ≠ 238) → (∀ p ∈ news, p ∈ nw) → R .next { s with heap := h', toks := tk' }) :
   wpAny (model PySem.Challenge.rw_il0172_01.row.prog w) (ktrTop dp un gd (Str.ofString "law") lawSC L a ccd (cellsFrom (L + 1) lawSC.names []) outer) (exec st8 (envOfC (Str.ofString "law") lawSC L a ccd)) R E s := by
  subst hccd
  revert X; k_fill; intro X
  dsimp only [st8, getL]
  k_steps
  refine Hold.in ?_
  have U : UpdF 238 (tabObj ps) ((238, tabObj ps) :: (Tb ++ news)) (fun o' => (238, o') :: (Tb ++ news)) := UpdF.head h238
  k_dflt (refine' kla_eval rfl ?_; refine' kla_nest F N T HL rfl U hps hnone rfl ?_)
  intro f c' oc vs tq ctv h1 tk1 F1 N1 hd1 hd2 l1 l2
  dsimp only at N1
  k_steps
  refine Hold.in ?_
  rw [← hroot]
  have l12 : c' < f := l2
  obtain ⟨o106, h106m⟩ := hCT.mem
  have hc106 : (106 : Nat) < c' := l1 (106, o106) (.tail _ (List.mem_append_left _ h106m))
  have hc238 : (238 : Nat) < c' := l1 (238, _) (.head _)
  have hf106 : (106 : Nat) < f := Nat.lt_trans hc106 l12
  have hf238 : (238 : Nat) < f := Nat.lt_trans hc238 l12
  have hn106 : ∀ p ∈ ((f, kla_obj (Str.ofString "<lambda>") (Str.ofString "law" ++ ".<locals>." ++ "<lambda>") lam2P lam2B lam2S [(Str.ofString "most", L + 1 + 1 + 1 + 1)] ((mg "__name__").getD .none) c' ctv) : Addr × Obj) :: (c', oc) :: (238, tabObj (ps ++ #[rawInt lam2Pos.line, rawInt lam2Pos.col, .ref c'])) :: news, p.1 ≠ 106 := by
    intro p hp
    rcases List.mem_cons.mp hp with rfl | hp
    · exact Nat.ne_of_gt hf106
    rcases List.mem_cons.mp hp with rfl | hp
    · exact Nat.ne_of_gt hc106
    rcases List.mem_cons.mp hp with rfl | hp
    · show (238 : Nat) ≠ 106; decide
    · exact h106 p hp
  have N2 : News h₀ L h1 (Tb ++ ((f, kla_obj (Str.ofString "<lambda>") (Str.ofString "law" ++ ".<locals>." ++ "<lambda>") lam2P lam2B lam2S [(Str.ofString "most", L + 1 + 1 + 1 + 1)] ((mg "__name__").getD .none) c' ctv) :: (c', oc) :: (238, tabObj (ps ++ #[rawInt lam2Pos.line, rawInt lam2Pos.col, .ref c'])) :: news)) := cb_drop N1 mem_swap3
  refine c_walk t hch pm (fun i j => lo i - lo j) (lam := f) (bx := Bx) (need := [(f, kla_obj (Str.ofString "<lambda>") (Str.ofString "law" ++ ".<locals>." ++ "<lambda>") lam2P lam2B lam2S [(Str.ofString "most", L + 1 + 1 + 1 + 1)] ((mg "__name__").getD .none) c' ctv), (c', oc), (L + 1 + 1 + 1 + 1, oLe), (Le, ole)]) hpm (fun i j hi hj tk u => ?hcmp) (fun i hi => Nat.lt_of_le_of_lt (hcl i hi) (by decide)) hpr hwl (by omega) 10 0 (by decide) (by omega) hn0 hCT HC hn106 B F1 X N2 T rfl (hB.mono (fun p hp => .tail _ (.tail _ (.tail _ hp)))) (fun q hq => ?hneed) (.head _) ?hd ?hu (fun h2 tk2 Tb2 D wv e hCT2 hFr2 F2 N3 hS2 lD => ?cont)
  case hcmp =>
    obtain ⟨t1, e1⟩ := le4 i hi
    obtain ⟨t2, e2⟩ := le4 j hj
    exact lam2_calls hd1 hd2 dLe le2 e1 e2
  case hneed =>
    rcases List.mem_cons.mp hq with rfl | hq
    · exact .head _
    rcases List.mem_cons.mp hq with rfl | hq
    · exact .tail _ (.head _)
    rcases List.mem_cons.mp hq with rfl | hq
    · exact .tail _ (.tail _ (.tail _ kLe))
    · rw [List.mem_singleton.mp hq]; exact .tail _ (.tail _ (.tail _ le1))
  case hd => omega
  case hu => omega
  case cont =>
    dsimp only
    k_steps
    refine Hold.in ?_
    have toN : ∀ p ∈ news, p ∈ (D, listOf (List.toArray wv) e) :: (Tb2 ++ ((f, kla_obj (Str.ofString "<lambda>") (Str.ofString "law" ++ ".<locals>." ++ "<lambda>") lam2P lam2B lam2S [(Str.ofString "most", L + 1 + 1 + 1 + 1)] ((mg "__name__").getD .none) c' ctv) :: (c', oc) :: (238, tabObj (ps ++ #[rawInt lam2Pos.line, rawInt lam2Pos.col, .ref c'])) :: news)) := fun p hp => .tail _ (List.mem_append_right _ (.tail _ (.tail _ (.tail _ hp))))
    refine c_peak t pa B F2 X N3 T rfl ?yd ?yu hS2 (hwl 10 (by decide) 0 hn0) hin (.head _) (hB.mono toN) (fun i hi => Nat.le_trans (hcl i hi) (by decide)) (toN _ ham) had hav hnm hpa hba hok (fun h3 tk3 t3 F3 N4 => ?cont2)
    · omega
    · omega
    case cont2 =>
      have hD238 : (238 : Nat) < D := lD (238, tabObj (ps ++ #[rawInt lam2Pos.line, rawInt lam2Pos.col, .ref c'])) (.tail _ (.tail _ (.head _)))
      k_steps
      refine hret _ _ c' Tb2 ((D, listOf (List.toArray wv) e) :: (f, kla_obj (Str.ofString "<lambda>") (Str.ofString "law" ++ ".<locals>." ++ "<lambda>") lam2P lam2B lam2S [(Str.ofString "most", L + 1 + 1 + 1 + 1)] ((mg "__name__").getD .none) c' ctv) :: (c', oc) :: news) t3 (by assumption) (cb_drop (by assumption) (fun p hp => ?_)) hCT2 (fun p hp => ?_) (fun p hp => ?_) (fun p hp => .tail _ (.tail _ (.tail _ hp)))
      · rcases List.mem_cons.mp hp with rfl | hp
        · exact .tail _ (List.mem_append_right _ (.tail _ (.tail _ (.head _))))
        rcases List.mem_append.mp hp with hp | hp
        · exact .tail _ (List.mem_append_left _ hp)
        rcases List.mem_cons.mp hp with rfl | hp
        · exact .head _
        rcases List.mem_cons.mp hp with rfl | hp
        · exact .tail _ (List.mem_append_right _ (.head _))
        rcases List.mem_cons.mp hp with rfl | hp
        · exact .tail _ (List.mem_append_right _ (.tail _ (.head _)))
        · exact toN p hp
      · rcases List.mem_cons.mp hp with rfl | hp
        · exact Nat.ne_of_gt (Nat.lt_trans (by decide) hD238)
        rcases List.mem_cons.mp hp with rfl | hp
        · exact Nat.ne_of_gt hf106
        rcases List.mem_cons.mp hp with rfl | hp
        · exact Nat.ne_of_gt hc106
        · exact h106 p hp
      · rcases List.mem_append.mp hp with hp | hp
        · rcases hFr2 p hp with ⟨q, hq, e⟩ | h
          · rw [← e]; exact h238 q (List.mem_append_left _ hq)
          · exact Nat.ne_of_gt (h (238, tabObj (ps ++ #[rawInt lam2Pos.line, rawInt lam2Pos.col, .ref c'])) (.tail _ (.tail _ (.head _))))
        rcases List.mem_cons.mp hp with rfl | hp
        · exact Nat.ne_of_gt hD238
        rcases List.mem_cons.mp hp with rfl | hp
        · exact Nat.ne_of_gt hf238
        rcases List.mem_cons.mp hp with rfl | hp
        · exact Nat.ne_of_gt hc238
        · exact h238 p (List.mem_append_right _ hp)
theorem law_round3 (t : Tr) (pa : Nat → Str) (pm : Nat → Array Nat) {Bx Ax : Addr} {ps : Array Value} {Tb : List (Addr × Obj)} {oa : Obj} {kva : List (Str × Value)} {R : Flow → Shared → Prop} (B : Below A₀ base outer h₀) (F : Fr h₀ L s.heap m) (X : (hd.heap_39 w.params).In h₀) (N : News h₀ L s.heap ((238, tabObj ps) :: (Tb ++ news))) (T : Top p loose mean mg mb h₀) (hd : dp + 30 < recursionLimit) (hu : un + 240 < cLine) (hccd : ccd = .ref 240)
   (mB : m (Str.ofString "below") = some (.ref Bx)) (mA : m (Str.ofString "above") = some (.ref Ax))
   (hCT : CT Tb) (HC : CodeHd h₀ 110 106) (HL : CodeHd h₀ 240 238) (h106 : ∀ p ∈ news, p.1 ≠ 106) (h238 : ∀ p ∈ Tb ++ news, p.1 ≠ 238) (hps : TriplesOk ps.toList) (hnone : codeAmong lam3Pos ps.toList = none)
   (hroot : t.nm 0 = Str.ofString "/t") (hB : t.Below w Bx news)
   (ham : (Ax, oa) ∈ news) (had : oa.IsDictOf (PySem.strKind PySem.Challenge.rw_il0172_01.row.prog w) kva) (hav : ∀ i, i < t.n → ∃ tk, valueAt kva (t.nm i) = some (.str (pa i) tk))
   (hch : ∀ i, i < t.n → ∀ j ∈ t.ch i, i < j ∧ j < t.n) (hpm : ∀ i, i < t.n → SortOk (t.ch i).length (fun a b => decide ((0 : Int) < 0)) (pm i))
   (hcl : ∀ i, i < t.n → (t.ch i).length ≤ 9) (hpr : ∀ i, i < t.n → ∀ q ∈ (pm i).toList, q < (t.ch i).length) (hwl : ∀ f, f ≤ 20 → ∀ i, i < t.n → (walkI t.ch pm f i).length ≤ 100) (hn : t.n ≤ 10) (hn0 : 0 < t.n)
   (hin : ∀ i ∈ walkI t.ch pm 10 0, i < t.n)
   (hnm : ∀ i, i < t.n → (t.nm i).length ≤ 100 ∧ Txt.startswith (t.nm i) (Str.ofString "/") = true ∧ (Txt.split (t.nm i) (Str.ofString "/")).length ≤ 200)
   (hpa : ∀ i, i < t.n → (pa i).length ≤ 100 ∧ (pa i).length ≠ 0 ∧ Txt.startswith (pa i) (Str.ofString "/") = true ∧ (Txt.split (pa i) (Str.ofString "/")).length ≤ 200)
   (hba : ∀ i, i < t.n → (baseS (t.nm i)).length ≤ 1000 ∧ Txt.startswith (baseS (t.nm i)) (Str.ofString "/") = false)
   (hok : ∀ k i, (walkI t.ch pm 10 0)[k]? = some i → (t.ch i).length ≤ (pkStI t.ch ((walkI t.ch pm 10 0).take k)).length ∧ (pkStI t.ch ((walkI t.ch pm 10 0).take (k + 1))).length ≤ 100 ∧ (pkStI t.ch ((walkI t.ch pm 10 0).take (k + 1))).map (fun j => joinS (pa j) (baseS (t.nm j))) = (((walkI t.ch pm 10 0).take (k + 1)).filter (dueI t.nm pa i)).map t.nm)
   (hret : ∀ h' tk' c' Tb' nw t', Fr h₀ L h' (fun y => if y = Str.ofString "third" then some (.int (pkTop t.ch (walkI t.ch pm 10 0) (walkI t.ch pm 10 0).length) t') else m y) → News h₀ L h' ((238, tabObj (ps ++ #[rawInt lam3Pos.line, rawInt lam3Pos.col, .ref c'])) :: (Tb' ++ nw)) →
      CT Tb' → (∀ p ∈ nw, p.1 ≠ 106) → (∀ p ∈ Tb' ++ nw, p.1 ≠ 238) → (∀ p ∈ news, p ∈ nw) → R .next { s with heap := h', toks := tk' }) :
   wpAny (model PySem.Challenge.rw_il0172_01.row.prog w) (ktrTop dp un gd (Str.ofString "law") lawSC L a ccd (cellsFrom (L + 1) lawSC.names []) outer) (exec st9 (envOfC (Str.ofString "law") lawSC L a ccd)) R E s := by
  subst hccd
  revert X; k_fill; intro X
  dsimp only [st9, getL]
  k_steps
  refine Hold.in ?_
  have U : UpdF 238 (tabObj ps) ((238, tabObj ps) :: (Tb ++ news)) (fun o' => (238, o') :: (Tb ++ news)) := UpdF.head h238
  k_dflt (refine' kla_eval rfl ?_; refine' kla_nest F N T HL rfl U hps hnone rfl ?_)
  intro f c' oc vs tq ctv h1 tk1 F1 N1 hd1 hd2 l1 l2
  dsimp only at N1
  k_steps
  refine Hold.in ?_
  rw [← hroot]
  have l12 : c' < f := l2
  obtain ⟨o106, h106m⟩ := hCT.mem
  have hc106 : (106 : Nat) < c' := l1 (106, o106) (.tail _ (List.mem_append_left _ h106m))
  have hc238 : (238 : Nat) < c' := l1 (238, _) (.head _)
  have hf106 : (106 : Nat) < f := Nat.lt_trans hc106 l12
  have hf238 : (238 : Nat) < f := Nat.lt_trans hc238 l12
  have hn106 : ∀ p ∈ ((f, kla_obj (Str.ofString "<lambda>") (Str.ofString "law" ++ ".<locals>." ++ "<lambda>") lam3P lam3B lam3S [] ((mg "__name__").getD .none) c' ctv) : Addr × Obj) :: (c', oc) :: (238, tabObj (ps ++ #[rawInt lam3Pos.line, rawInt lam3Pos.col, .ref c'])) :: news, p.1 ≠ 106 := by
    intro p hp
    rcases List.mem_cons.mp hp with rfl | hp
    · exact Nat.ne_of_gt hf106
    rcases List.mem_cons.mp hp with rfl | hp
    · exact Nat.ne_of_gt hc106
    rcases List.mem_cons.mp hp with rfl | hp
    · show (238 : Nat) ≠ 106; decide
    · exact h106 p hp
  have N2 : News h₀ L h1 (Tb ++ ((f, kla_obj (Str.ofString "<lambda>") (Str.ofString "law" ++ ".<locals>." ++ "<lambda>") lam3P lam3B lam3S [] ((mg "__name__").getD .none) c' ctv) :: (c', oc) :: (238, tabObj (ps ++ #[rawInt lam3Pos.line, rawInt lam3Pos.col, .ref c'])) :: news)) := cb_drop N1 mem_swap3
  refine c_walk t hch pm (fun i j => 0) (lam := f) (bx := Bx) (need := [(f, kla_obj (Str.ofString "<lambda>") (Str.ofString "law" ++ ".<locals>." ++ "<lambda>") lam3P lam3B lam3S [] ((mg "__name__").getD .none) c' ctv), (c', oc)]) hpm (fun i j hi hj tk u => ?hcmp) (fun i hi => Nat.lt_of_le_of_lt (hcl i hi) (by decide)) hpr hwl (by omega) 10 0 (by decide) (by omega) hn0 hCT HC hn106 B F1 X N2 T rfl (hB.mono (fun p hp => .tail _ (.tail _ (.tail _ hp)))) (fun q hq => ?hneed) (.head _) ?hd ?hu (fun h2 tk2 Tb2 D wv e hCT2 hFr2 F2 N3 hS2 lD => ?cont)
  case hcmp =>
    exact lam3_calls hd1 hd2
  case hneed =>
    rcases List.mem_cons.mp hq with rfl | hq
    · exact .head _
    · rw [List.mem_singleton.mp hq]; exact .tail _ (.head _)
  case hd => omega
  case hu => omega
  case cont =>
    dsimp only
    k_steps
    refine Hold.in ?_
    have toN : ∀ p ∈ news, p ∈ (D, listOf (List.toArray wv) e) :: (Tb2 ++ ((f, kla_obj (Str.ofString "<lambda>") (Str.ofString "law" ++ ".<locals>." ++ "<lambda>") lam3P lam3B lam3S [] ((mg "__name__").getD .none) c' ctv) :: (c', oc) :: (238, tabObj (ps ++ #[rawInt lam3Pos.line, rawInt lam3Pos.col, .ref c'])) :: news)) := fun p hp => .tail _ (List.mem_append_right _ (.tail _ (.tail _ (.tail _ hp))))
    refine c_peak t pa B F2 X N3 T rfl ?yd ?yu hS2 (hwl 10 (by decide) 0 hn0) hin (.head _) (hB.mono toN) (fun i hi => Nat.le_trans (hcl i hi) (by decide)) (toN _ ham) had hav hnm hpa hba hok (fun h3 tk3 t3 F3 N4 => ?cont2)
    · omega
    · omega
    case cont2 =>
      have hD238 : (238 : Nat) < D := lD (238, tabObj (ps ++ #[rawInt lam3Pos.line, rawInt lam3Pos.col, .ref c'])) (.tail _ (.tail _ (.head _)))
      k_steps
      refine hret _ _ c' Tb2 ((D, listOf (List.toArray wv) e) :: (f, kla_obj (Str.ofString "<lambda>") (Str.ofString "law" ++ ".<locals>." ++ "<lambda>") lam3P lam3B lam3S [] ((mg "__name__").getD .none) c' ctv) :: (c', oc) :: news) t3 (by assumption) (cb_drop (by assumption) (fun p hp => ?_)) hCT2 (fun p hp => ?_) (fun p hp => ?_) (fun p hp => .tail _ (.tail _ (.tail _ hp)))
      · rcases List.mem_cons.mp hp with rfl | hp
        · exact .tail _ (List.mem_append_right _ (.tail _ (.tail _ (.head _))))
        rcases List.mem_append.mp hp with hp | hp
        · exact .tail _ (List.mem_append_left _ hp)
        rcases List.mem_cons.mp hp with rfl | hp
        · exact .head _
        rcases List.mem_cons.mp hp with rfl | hp
        · exact .tail _ (List.mem_append_right _ (.head _))
        rcases List.mem_cons.mp hp with rfl | hp
        · exact .tail _ (List.mem_append_right _ (.tail _ (.head _)))
        · exact toN p hp
      · rcases List.mem_cons.mp hp with rfl | hp
        · exact Nat.ne_of_gt (Nat.lt_trans (by decide) hD238)
        rcases List.mem_cons.mp hp with rfl | hp
        · exact Nat.ne_of_gt hf106
        rcases List.mem_cons.mp hp with rfl | hp
        · exact Nat.ne_of_gt hc106
        · exact h106 p hp
      · rcases List.mem_append.mp hp with hp | hp
        · rcases hFr2 p hp with ⟨q, hq, e⟩ | h
          · rw [← e]; exact h238 q (List.mem_append_left _ hq)
          · exact Nat.ne_of_gt (h (238, tabObj (ps ++ #[rawInt lam3Pos.line, rawInt lam3Pos.col, .ref c'])) (.tail _ (.tail _ (.head _))))
        rcases List.mem_cons.mp hp with rfl | hp
        · exact Nat.ne_of_gt hD238
        rcases List.mem_cons.mp hp with rfl | hp
        · exact Nat.ne_of_gt hf238
        rcases List.mem_cons.mp hp with rfl | hp
        · exact Nat.ne_of_gt hc238
        · exact h238 p (List.mem_append_right _ hp)
end
end Mine
end
section
open PySem PySem.W PyProof.Rows PySem.Calls
set_option Elab.async false
set_option maxRecDepth 100000
set_option maxHeartbeats 8000000
set_option linter.unusedVariables false
namespace Mine
noncomputable def xsOf (ns : List Int) : List Int := 0 :: (ns.take 5 ++ [1, 3, 5])
noncomputable def psOf (ns : List Int) : List Nat := (List.range (xsOf ns).length).map fun i => (((xsOf ns).getD i 0).fmod ((i + 1 : Nat) : Int)).toNat
noncomputable def prL (ps : List Nat) (k : Nat) : Nat := ps.getD (k - 1) 0
noncomputable def pathF (pr : Nat → Nat) : Nat → Nat → List Nat
  | 0, _ => []
  | f + 1, k => if k = 0 then [] else pathF pr f (pr k) ++ [k]
noncomputable def nameOf (p : List Nat) : Str := p.foldl (fun s c => joinS s (chrS c)) (Str.ofString "/t")
noncomputable def nmL (ps : List Nat) (k : Nat) : Str := nameOf (pathF (prL ps) 10 k)
noncomputable def trL (ps : List Nat) : Tr := { n := ps.length + 1, nm := nmL ps, ch := chK (prL ps) (ps.length + 1) }
noncomputable def paL (ps : List Nat) (i : Nat) : Str := dirS (nmL ps i)
noncomputable def OkW (ps : List Nat) (is : List Nat) : Prop := ∀ k i, is[k]? = some i → ((trL ps).ch i).length ≤ (pkStI (trL ps).ch (is.take k)).length ∧ (pkStI (trL ps).ch (is.take (k + 1))).length ≤ 100 ∧ (pkStI (trL ps).ch (is.take (k + 1))).map (fun j => joinS (paL ps j) (baseS ((trL ps).nm j))) = ((is.take (k + 1)).filter (dueI (trL ps).nm (paL ps) i)).map (trL ps).nm
structure WalkOk (ps : List Nat) (pm : Nat → Array Nat) (ci : Nat → Nat → Int) : Prop where
  sort : ∀ i, i < (trL ps).n → SortOk ((trL ps).ch i).length (fun a b => decide (ci (((trL ps).ch i).getD a 0) (((trL ps).ch i).getD b 0) < 0)) (pm i)
  pr : ∀ i, i < (trL ps).n → ∀ q ∈ (pm i).toList, q < ((trL ps).ch i).length
  wl : ∀ f, f ≤ 20 → ∀ i, i < (trL ps).n → (walkI (trL ps).ch pm f i).length ≤ 100
  win : ∀ i ∈ walkI (trL ps).ch pm 10 0, i < (trL ps).n
  ok : OkW ps (walkI (trL ps).ch pm 10 0)
noncomputable def peakOf (ps : List Nat) (pm : Nat → Array Nat) : Nat := pkTop (trL ps).ch (walkI (trL ps).ch pm 10 0) (walkI (trL ps).ch pm 10 0).length
structure Good (ps : List Nat) (lo hi : Nat → Int) (pm1 pm2 pm3 : Nat → Array Nat) : Prop where
  len4 : 4 ≤ ps.length
  len9 : ps.length ≤ 9
  prlt : ∀ k, 1 ≤ k → k ≤ 9 → prL ps k < k
  inj : ∀ i j, i ≤ 9 → j ≤ 9 → nmL ps i = nmL ps j → i = j
  jn : ∀ k, 1 ≤ k → k ≤ 9 → joinS (nmL ps (prL ps k)) (chrS k) = nmL ps k
  dn : ∀ k, 1 ≤ k → k ≤ 9 → dirS (nmL ps k) = nmL ps (prL ps k)
  root : nmL ps 0 = Str.ofString "/t"
  hlo : ∀ i, i < (trL ps).n → ∀ M, M ∈ 1 :: ((trL ps).ch i).map (fun c => lo c - 1 + ((((trL ps).ch i).filter (fun d => decide (lo d ≥ lo c))).length : Int)) → (∀ a ∈ 1 :: ((trL ps).ch i).map (fun c => lo c - 1 + ((((trL ps).ch i).filter (fun d => decide (lo d ≥ lo c))).length : Int)), a ≤ M) → M = lo i
  hhi : ∀ i, i < (trL ps).n → ∀ M, M ∈ 1 :: ((trL ps).ch i).map (fun c => hi c - 1 + (((trL ps).ch i).length : Int)) → (∀ a ∈ 1 :: ((trL ps).ch i).map (fun c => hi c - 1 + (((trL ps).ch i).length : Int)), a ≤ M) → M = hi i
  ch : ∀ i, i < (trL ps).n → ∀ j ∈ (trL ps).ch i, i < j ∧ j < (trL ps).n
  cl : ∀ i, i < (trL ps).n → ((trL ps).ch i).length ≤ 9
  nm : ∀ i, i ≤ 9 → (nmL ps i).length ≤ 100 ∧ (nmL ps i).length ≠ 0 ∧ Txt.startswith (nmL ps i) (Str.ofString "/") = true ∧ (Txt.split (nmL ps i) (Str.ofString "/")).length ≤ 200
  pa : ∀ i, i ≤ 9 → (paL ps i).length ≤ 100 ∧ (paL ps i).length ≠ 0 ∧ Txt.startswith (paL ps i) (Str.ofString "/") = true ∧ (Txt.split (paL ps i) (Str.ofString "/")).length ≤ 200
  ba : ∀ i, i ≤ 9 → (baseS (nmL ps i)).length ≤ 1000 ∧ Txt.startswith (baseS (nmL ps i)) (Str.ofString "/") = false
  w1 : WalkOk ps pm1 (fun i j => lo j - lo i)
  w2 : WalkOk ps pm2 (fun i j => hi i - hi j)
  w3 : WalkOk ps pm3 (fun _ _ => 0)
  r1 : (peakOf ps pm1 : Int) = lo 0
  r2 : (peakOf ps pm2 : Int) = hi 0
  r3 : (peakOf ps pm1 : Int) ≤ peakOf ps pm3
  r4 : (peakOf ps pm3 : Int) ≤ peakOf ps pm2
end Mine
end
section
open PySem PySem.W PyProof.Rows PySem.Calls
set_option Elab.async false
set_option maxRecDepth 100000
set_option maxHeartbeats 8000000
set_option linter.unusedVariables false
namespace Mine
theorem Inv1.push {w : World} {nm : Nat → Str} {pr : Nat → Nat} {P Bx Ax I : Addr} {it : Obj} {keep : List (Addr × Obj)} {k : Nat} {news : List (Addr × Obj)} (J : Inv1 w nm pr P Bx Ax keep k news) (hI : ∀ p ∈ news, p.1 ≠ I) : Inv1 w nm pr P Bx Ax ((I, it) :: keep) k ((I, it) :: news) := by
  obtain ⟨pv, ep, ob, kvb, oa, kva, la, p1, p2, b1, b2, b3, b4, a1, a2, a3, a4, d1, d2, d3⟩ := J
  refine ⟨pv, ep, ob, kvb, oa, kva, la, .tail _ p1, p2, .tail _ b1, b2, b3, ?_, .tail _ a1, a2, a3, a4, d1, d2, ?_⟩
  · intro i hi
    obtain ⟨c1, cv, e, m1, m2⟩ := b4 i hi
    exact ⟨c1, cv, e, .tail _ m1, m2⟩
  · intro p hp
    rcases List.mem_cons.mp hp with rfl | hp
    · refine ⟨.head _, fun e => hI _ p1 e.symm, fun e => hI _ b1 e.symm, fun e => hI _ a1 e.symm, fun i hi => ?_⟩
      obtain ⟨c1, cv, e, m1, m2⟩ := b4 i hi
      exact fun e => hI _ m1 e.symm
    · obtain ⟨k1, k2⟩ := d3 p hp
      exact ⟨.tail _ k1, k2⟩
theorem Inv1.pop {w : World} {nm : Nat → Str} {pr : Nat → Nat} {P Bx Ax I : Addr} {it : Obj} {keep : List (Addr × Obj)} {k : Nat} {b : List (Addr × Obj)} (J : Inv1 w nm pr P Bx Ax ((I, it) :: keep) k b) (hk : ∀ p ∈ keep, p.1 ≠ I) : Inv1 w nm pr P Bx Ax keep k (b.filter (fun p => p.1 != I)) := by
  obtain ⟨pv, ep, ob, kvb, oa, kva, la, p1, p2, b1, b2, b3, b4, a1, a2, a3, a4, d1, d2, d3⟩ := J
  obtain ⟨i1, i2, i3, i4, i5⟩ := d3 (I, it) (.head _)
  have mk : ∀ p ∈ b, p.1 ≠ I → p ∈ b.filter (fun p => p.1 != I) := fun p hp h => List.mem_filter.mpr ⟨hp, by simpa using h⟩
  refine ⟨pv, ep, ob, kvb, oa, kva, la, mk _ p1 (Ne.symm i2), p2, mk _ b1 (Ne.symm i3), b2, b3, ?_, mk _ a1 (Ne.symm i4), a2, a3, a4, d1, d2, ?_⟩
  · intro i hi
    obtain ⟨c1, cv, e, m1, m2⟩ := b4 i hi
    exact ⟨c1, cv, e, mk _ m1 (Ne.symm (i5 i hi)), m2⟩
  · intro p hp
    obtain ⟨k1, k2⟩ := d3 p (.tail _ hp)
    exact ⟨mk _ k1 (hk p hp), k2⟩
theorem Inv1.kept {w : World} {nm : Nat → Str} {pr : Nat → Nat} {P Bx Ax : Addr} {keep : List (Addr × Obj)} {k : Nat} {news : List (Addr × Obj)} (J : Inv1 w nm pr P Bx Ax keep k news) : ∀ p ∈ keep, p ∈ news := by
  obtain ⟨pv, ep, ob, kvb, oa, kva, la, p1, p2, b1, b2, b3, b4, a1, a2, a3, a4, d1, d2, d3⟩ := J
  exact fun p hp => (d3 p hp).1
theorem filt_sub {I : Addr} {it : Obj} {b : List (Addr × Obj)} (h : (I, it) ∈ b) : ∀ p ∈ (I, it) :: b.filter (fun p => p.1 != I), p ∈ b := by
  intro p hp
  rcases List.mem_cons.mp hp with rfl | hp
  · exact h
  · exact (List.mem_filter.mp hp).1
theorem filt_ne {I : Addr} {b : List (Addr × Obj)} : ∀ p ∈ b.filter (fun p => p.1 != I), p.1 ≠ I := fun p hp => by simpa using (List.mem_filter.mp hp).2
theorem names6 {h₀ h : Heap} {L a b c d e f : Addr} {o1 o2 o3 o4 o5 o6 : Obj} {r : List (Addr × Obj)} (N : News h₀ L h ((a, o1) :: (b, o2) :: (c, o3) :: (d, o4) :: (e, o5) :: (f, o6) :: r)) : ∃ y1 y2 y3 y4 y5 y6 x1 x2 x3 x4 x5 x6, y1 = a ∧ y2 = b ∧ y3 = c ∧ y4 = d ∧ y5 = e ∧ y6 = f ∧ x1 = o1 ∧ x2 = o2 ∧ x3 = o3 ∧ x4 = o4 ∧ x5 = o5 ∧ x6 = o6 := ⟨_, _, _, _, _, _, _, _, _, _, _, _, rfl, rfl, rfl, rfl, rfl, rfl, rfl, rfl, rfl, rfl, rfl, rfl⟩
theorem head_list {h₀ h : Heap} {L a : Addr} {xs : List Value} {e : Nat} {r : List (Addr × Obj)} (N : News h₀ L h ((a, listOf xs.toArray e) :: r)) : ∃ y, y = xs := ⟨_, rfl⟩
noncomputable def keepF (L Le Mo : Addr) (nws : List (Addr × Obj)) : List (Addr × Obj) := nws.filter (fun p => decide (p.1 ≠ L + 1 ∧ p.1 ≠ L + 1 + 1 ∧ p.1 ≠ Le ∧ p.1 ≠ Mo))
theorem keepF_mem {L Le Mo : Addr} {nws : List (Addr × Obj)} {p : Addr × Obj} (h : p ∈ nws) (h1 : p.1 ≠ L + 1) (h2 : p.1 ≠ L + 1 + 1) (h3 : p.1 ≠ Le) (h4 : p.1 ≠ Mo) : p ∈ keepF L Le Mo nws := List.mem_filter.mpr ⟨h, by simpa using ⟨h1, h2, h3, h4⟩⟩
theorem keepF_of {L Le Mo : Addr} {nws : List (Addr × Obj)} {p : Addr × Obj} (h : p ∈ keepF L Le Mo nws) : p ∈ nws ∧ p.1 ≠ L + 1 ∧ p.1 ≠ L + 1 + 1 ∧ p.1 ≠ Le ∧ p.1 ≠ Mo := by
  obtain ⟨h1, h2⟩ := List.mem_filter.mp h
  exact ⟨h1, by simpa using h2⟩
inductive Inv2 (w : World) (nm : Nat → Str) (lo hi : Nat → Int) (N : Nat) (L Le Mo : Addr) (keep : List (Addr × Obj)) (k : Nat) (news : List (Addr × Obj)) : Prop
  | mk (oLow oHigh ole omo : Obj) (vL vH : Option Value) (kvl kvm : List (Str × Value)) (g1 : ∀ p ∈ keep, p ∈ news) (g2 : (L + 1, oLow) ∈ news) (g3 : oLow.data = .cell vL) (g4 : (L + 1 + 1, oHigh) ∈ news) (g5 : oHigh.data = .cell vH)
    (g6 : (Le, ole) ∈ news) (g7 : ole.IsDictOf (PySem.strKind PySem.Challenge.rw_il0172_01.row.prog w) kvl) (g8 : kvl.length ≤ k) (g9 : ∀ j, N ≤ j + k → j < N → ∃ tk, valueAt kvl (nm j) = some (.int (lo j) tk))
    (g10 : (Mo, omo) ∈ news) (g11 : omo.IsDictOf (PySem.strKind PySem.Challenge.rw_il0172_01.row.prog w) kvm) (g12 : kvm.length ≤ k) (g13 : ∀ j, N ≤ j + k → j < N → ∃ tk, valueAt kvm (nm j) = some (.int (hi j) tk)) : Inv2 w nm lo hi N L Le Mo keep k news
theorem stored_vals {nm : Nat → Str} {lo : Nat → Int} {N k i : Nat} {kvl : List (Str × Value)} {t1 : Tok} (hN : N ≤ 10) (hi : i + k + 1 = N) (hinj : ∀ i j, i ≤ 9 → j ≤ 9 → nm i = nm j → i = j)
    (h : ∀ j, N ≤ j + k → j < N → ∃ tk, valueAt kvl (nm j) = some (.int (lo j) tk)) : ∀ j, N ≤ j + (k + 1) → j < N → ∃ tk, valueAt (stored kvl (nm i) (.int (lo i) t1)) (nm j) = some (.int (lo j) tk) := by
  intro j h1 h2
  rw [valueAt_stored]
  by_cases e : i = j
  · subst e; exact ⟨t1, if_pos rfl⟩
  · rw [if_neg (fun q => e (hinj i j (by omega) (by omega) q))]
    exact h j (by omega) h2
noncomputable def restF (nws : List (Addr × Obj)) : List (Addr × Obj) := nws.filter (fun p => decide (p.1 ≠ 106 ∧ p.1 ≠ 238))
theorem restF_mem {nws : List (Addr × Obj)} {p : Addr × Obj} (h : p ∈ nws) (h1 : p.1 ≠ 106) (h2 : p.1 ≠ 238) : p ∈ restF nws := List.mem_filter.mpr ⟨h, by simpa using ⟨h1, h2⟩⟩
theorem restF_of {nws : List (Addr × Obj)} {p : Addr × Obj} (h : p ∈ restF nws) : p ∈ nws ∧ p.1 ≠ 106 ∧ p.1 ≠ 238 := by
  obtain ⟨h1, h2⟩ := List.mem_filter.mp h
  exact ⟨h1, by simpa using h2⟩
theorem CT.tab {Tb : List (Addr × Obj)} (h : CT Tb) : ∃ ps, ((106 : Addr), tabObj ps) ∈ Tb := by
  cases h with
  | first => exact ⟨_, .head _⟩
  | later t ok => exact ⟨_, .head _⟩
theorem natne {L : Nat} (a b : Nat) (h : a ≠ b) : L + a ≠ L + b := fun e => h (Nat.add_left_cancel e)
theorem nats (L : Nat) : L + 1 ≠ L + 1 + 1 + 1 ∧ L + 1 ≠ L + 1 + 1 + 1 + 1 ∧ L + 1 + 1 ≠ L + 1 + 1 + 1 ∧ L + 1 + 1 ≠ L + 1 + 1 + 1 + 1 ∧ L + 1 ≠ L + 1 + 1 ∧ L + 1 + 1 + 1 ≠ L + 1 ∧ L + 1 + 1 + 1 ≠ L + 1 + 1 ∧ L + 1 + 1 + 1 + 1 ≠ L + 1 ∧ L + 1 + 1 + 1 + 1 ≠ L + 1 + 1 := ⟨natne (1) (3) (by decide), natne (1) (4) (by decide), natne (2) (3) (by decide), natne (2) (4) (by decide), natne (1) (2) (by decide), natne (3) (1) (by decide), natne (3) (2) (by decide), natne (4) (1) (by decide), natne (4) (2) (by decide)⟩
theorem xsOf_len (ns : List Int) : 4 ≤ (xsOf ns).length ∧ (xsOf ns).length ≤ 9 := by
  unfold xsOf
  rw [List.length_cons, List.length_append, List.length_take]
  simp only [List.length_cons, List.length_nil]
  omega
theorem psOf_len (ns : List Int) : (psOf ns).length = (xsOf ns).length := by unfold psOf; rw [List.length_map, List.length_range]
theorem psOf_at {ns : List Int} {i : Nat} {x : Int} (h : (xsOf ns)[i]? = some x) : x.fmod ((i + 1 : Nat) : Int) = (prL (psOf ns) (i + 1) : Int) := by
  have hi : i < (xsOf ns).length := (List.getElem?_eq_some_iff.mp h).1
  have e : prL (psOf ns) (i + 1) = (x.fmod ((i + 1 : Nat) : Int)).toNat := by
    unfold prL psOf
    rw [Nat.add_sub_cancel, List.getD_eq_getElem?_getD, List.getElem?_map, List.getElem?_range hi]
    simp only [Option.map_some, Option.getD_some, List.getD_eq_getElem?_getD, h]
  rw [e, Int.toNat_of_nonneg (Int.fmod_nonneg_of_pos x (by omega))]
end Mine
end
section
open PySem PySem.W PyProof.Rows PySem.Calls
set_option Elab.async false
set_option maxRecDepth 100000
set_option maxHeartbeats 8000000
set_option linter.unusedVariables false
namespace Mine
section
theorem fresh_LA : True ∧ True := by
  w_top off
  exact ⟨trivial, trivial⟩
end
section
variable {w : World} {p : Program} {loose : List Str} {mean : ExcName → Option Value} {mg mb : Str → Option Value} {dp un : Nat} {gd : Option (List Code)} {cn : Str} {cs : Scope} {a : Addr} {ccd : Value} {cl : List (Str × Addr)} {outer : List Env} {A₀ : Around} {base h₀ : Heap} {L : Addr} {m : Str → Option Value} {news : List (Addr × Obj)} {s : Shared} {Q E : Value → Shared → Prop}
local macro_rules | `(tactic| walk_at "call ref") => `(tactic| (k_here; (with_reducible show wpAny _ _ (call (Value.ref _) _) _ _ _); refine Hold.out ?_))
local macro_rules | `(tactic| walk_at "subscriptTail") => `(tactic| (k_here; refine Hold.out ?_))
local macro_rules | `(tactic| walk_at "binaryOp Add ref ref") => `(tactic| (k_here; refine Hold.out ?_))
local macro_rules | `(tactic| walk_at "eval Name") => `(tactic| (k_here; k_dflt (first | (refine nameX_L (by k_asm) (by first | assumption | rfl) ?_ (by rfl) (by rfl); k_whole) | (refine ldCN (by k_asm) (by rfl) (by with_reducible (repeat (first | assumption | refine List.mem_cons_of_mem _ ?_))) (by assumption) ?_))))
local macro_rules | `(tactic| walk_at "exec For Name BinOp cons nil") => `(tactic| (k_here; k_dflt (refine For_turns (by assumption) ?_ (by intro _; rfl) (by assumption))))
local macro_rules | `(tactic| walk_at "exec For Name Subscript cons nil") => `(tactic| (k_here; k_dflt (refine For_turns (by assumption) ?_ (by intro _; rfl) (by assumption))))
local macro_rules | `(tactic| walk_at "pyIter ref") => `(tactic| (k_here; refine Hold.out ?_))
local macro_rules | `(tactic| walk_at "storeName") => `(tactic| (k_here; (first | (with_reducible show wpAny _ _ (storeName _ "least" _) _ _ _) | (with_reducible show wpAny _ _ (storeName _ "most" _) _ _ _)); refine Hold.out ?_))
local macro_rules | `(tactic| walk_at "exec Assign") => `(tactic| (k_here; (with_reducible show wpAny _ _ (exec (Stmt.Assign _ (Expr.Call (Expr.Name "_law_peak" _) _ _ _) _) _) _ _ _); refine Hold.out ?_))
theorem law_main {sc : Addr} {sv : List Value} {ns : List Int} {oW1 oW2 oW3 oW4 : Obj} {v1 v2 v3 v4 : Option Value} {R : Flow → Shared → Prop} (B : Below A₀ base outer h₀) (F : Fr h₀ L s.heap m) (X : (hd.heap_39 w.params).In h₀) (N : News h₀ L s.heap news) (T : Top p loose mean mg mb h₀) (hd : dp + 40 < recursionLimit) (hu : un + 320 < cLine) (hccd : ccd = .ref 240) (hE : PassesOwn (model PySem.Challenge.rw_il0172_01.row.prog w) (ktrTop dp un gd (Str.ofString "law") lawSC L a ccd (cellsFrom (L + 1) lawSC.names []) outer) (envOfC (Str.ofString "law") lawSC L a ccd) E)
   (mS : m (Str.ofString "script") = some (.ref sc)) (hS : h₀.IsList sc (List.toArray sv)) (hI : IntsAre sv ns) (hsl : ns.length ≤ 63)
   (hL : (238 : Nat) < L)
   (HC : CodeHd h₀ 110 106) (HL : CodeHd h₀ 240 238) (hnews : news = [(L + 1 + 1 + 1 + 1, oW4), (L + 1 + 1 + 1, oW3), (L + 1 + 1, oW2), (L + 1, oW1), (106, tabObj #[]), (238, tabObj #[])])
   (d1 : oW1.data = .cell v1) (d2 : oW2.data = .cell v2) (d3 : oW3.data = .cell v3) (d4 : oW4.data = .cell v4)
   (G : ∃ lo hi pm1 pm2 pm3, Good (psOf ns) lo hi pm1 pm2 pm3)
   (hret : ∀ h' tk' m', Fr h₀ L h' m' → GrownAt 106 h' → GrownAt 238 h' → R (.ret (.bool true)) { s with heap := h', toks := tk' }) :
   wpAny (model PySem.Challenge.rw_il0172_01.row.prog w) (ktrTop dp un gd (Str.ofString "law") lawSC L a ccd (cellsFrom (L + 1) lawSC.names []) outer) (execs lawB (envOfC (Str.ofString "law") lawSC L a ccd)) R E s := by
  subst hccd
  revert X; k_fill; intro X
  dsimp only [lawB, getL]
  k_steps
  refine Hold.in ?_
  refine stN (g := s.gens) (d := s.drawn) (os := s.os) ?_
  rename News h₀ L _ ((_, _) :: (_, _) :: (_, _) :: (_, _) :: news) => N1
  k_dflt (refine' c_dirname ?yB ?yF ?yX N1 ?yT ?yK ?yd ?yu (by decide) ?_; (case yB => k_asm); (case yF => k_asm); (case yX => k_asm); (case yT => k_asm); (case yK => first | exact rfl | assumption); (case yd => ktr_room); (case yu => ktr_units))
  intro h9 tk9 td F9 N9
  (try dsimp only); (try k_fold)
  k_steps
  refine Hold.in ?_
  refine stN (g := s.gens) (d := s.drawn) (os := s.os) ?_
  rename News h₀ L _ ((_, _) :: (_, _) :: (_, _) :: (_, _) :: (_, _) :: (_, _) :: news) => N2
  rename Obj.IsDictOf _ _ (strPairs [(_, Value.str _ _)]) => da0
  rename Obj.IsDictOf _ _ (strPairs [(_, Value.ref _)]) => db0
  rename IntsAre _ (ns.take 5) => hI5
  obtain ⟨D0, l0, Ax, la0, Bx, P, oD0, ol0, oa, ola, ob, oP, rfl, rfl, rfl, rfl, rfl, rfl, rfl, rfl, rfl, rfl, rfl, rfl⟩ := names6 N2
  rename @LT.lt Nat _ la0 Ax ∧ _ => lAx
  rename @LT.lt Nat _ Bx la0 ∧ _ => lla
  rename @LT.lt Nat _ P Bx ∧ _ => lBx
  rename ∀ p ∈ news, _ => lP
  obtain ⟨lo, hi, pm1, pm2, pm3, G⟩ := G
  have hwl5 := ints_len hI5
  rw [List.length_take] at hwl5
  refine W_addL (by assumption) N2 (.tail _ (.head _)) (.head _) (by rw [List.length_singleton]; omega) (fun D2 h2 F2 N3 l3 => ?_)
  k_steps
  refine Hold.in ?_
  refine stN (g := s.gens) (d := s.drawn) (os := s.os) ?_
  rename News h₀ L _ ((_, _) :: (D2, _) :: _) => N4
  refine W_addL (by assumption) N4 (.tail _ (.head _)) (.head _) (by rw [List.length_append, List.length_singleton]; show 1 + _ + 3 ≤ 1000; omega) (fun D3 h3 F3 N5 l5 => ?_)
  k_steps
  refine Hold.in ?_
  refine stN (g := s.gens) (d := s.drawn) (os := s.os) ?_
  obtain ⟨xv, hxe⟩ := head_list N5
  have hxv : IntsAre xv (xsOf ns) := by
    rw [hxe]
    show IntsAre _ (([0] ++ ns.take 5) ++ [1, 3, 5])
    exact ints_app (ints_app (.cons 0 _ .nil) hI5) (.cons 1 _ (.cons 3 _ (.cons 5 _ .nil)))
  rw [← hxe] at N5
  clear hxe
  have hxl := ints_len hxv
  have hxl4 := xsOf_len ns
  have hPB : P ≠ Bx := Nat.ne_of_lt lBx.1
  have hPA : P ≠ Ax := Nat.ne_of_lt lAx.2.2.1
  have hBA : Bx ≠ Ax := Nat.ne_of_lt lAx.2.1
  have hPl : la0 ≠ P := Nat.ne_of_gt lla.2.1
  have hBl : la0 ≠ Bx := Nat.ne_of_gt lla.1
  have hAl : la0 ≠ Ax := Nat.ne_of_lt lAx.1
  have lPD : @LT.lt Nat _ P D3 := l5 (P, _) (.tail _ (.tail _ (.tail _ (.tail _ (.tail _ (.tail _ (.tail _ (.head _))))))))
  have lBD : @LT.lt Nat _ Bx D3 := l5 (Bx, ob) (.tail _ (.tail _ (.tail _ (.tail _ (.tail _ (.tail _ (.head _)))))))
  have llD : @LT.lt Nat _ la0 D3 := l5 (la0, _) (.tail _ (.tail _ (.tail _ (.tail _ (.tail _ (.head _))))))
  have lAD : @LT.lt Nat _ Ax D3 := l5 (Ax, oa) (.tail _ (.tail _ (.tail _ (.tail _ (.head _)))))
  refine iter_listI (vs := xv) (ax := D3) (lo := listOf (List.toArray xv) 0) (fun m₀ nw I k m₁ n₁ => Inv1 w (nmL (psOf ns)) (prL (psOf ns)) P Bx Ax ((D3, listOf (List.toArray xv) 0) :: news) (k + 1) n₁ ∧ m₁ (Str.ofString "places") = some (.ref P) ∧ m₁ (Str.ofString "below") = some (.ref Bx) ∧ m₁ (Str.ofString "above") = some (.ref Ax)) rfl (by assumption) N5 (.head _) rfl rfl ?a0 ?aturn ?adone
  case a0 =>
    intro I lI
    refine ⟨⟨[.str (Str.ofString "/t") _], 0, ob, _, oa, _, fun _ => la0, .tail _ (.tail _ (.tail _ (.tail _ (.tail _ (.tail _ (.tail _ (.tail _ (.head _)))))))), ?_, .tail _ (.tail _ (.tail _ (.tail _ (.tail _ (.tail _ (.tail _ (.head _))))))), db0, ?_, ?_, .tail _ (.tail _ (.tail _ (.tail _ (.tail _ (.head _))))), da0, ?_, ?_, ?_, ?_, ?_⟩, rfl, rfl, rfl⟩
    · rw [show (List.range (0 + 1)).map (nmL (psOf ns)) = [Str.ofString "/t"] by rw [← G.root]; rfl]
      exact .cons _ _ .nil
    · exact Nat.le_refl 1
    · intro i hi
      obtain rfl : i = 0 := by omega
      rw [G.root]
      refine ⟨rfl, [], 0, .tail _ (.tail _ (.tail _ (.tail _ (.tail _ (.tail _ (.head _)))))), ?_⟩
      rw [show chK (prL (psOf ns)) (0 + 1) 0 = [] from rfl]
      exact .nil
    · exact Nat.le_refl 1
    · intro i hi
      obtain rfl : i = 0 := by omega
      rw [G.root]
      exact ⟨td, rfl⟩
    · exact fun _ _ => ⟨hPl, hBl, hAl⟩
    · intro i j hi hj _; omega
    · intro q hq
      rcases List.mem_cons.mp hq with rfl | hq
      · exact ⟨.head _, Nat.ne_of_gt lPD, Nat.ne_of_gt lBD, Nat.ne_of_gt lAD, fun _ _ => Nat.ne_of_gt llD⟩
      · have hqP : @LT.lt Nat _ q.1 P := lP q hq
        exact ⟨.tail _ (.tail _ (.tail _ (.tail _ (.tail _ (.tail _ (.tail _ (.tail _ (.tail _ hq)))))))), Nat.ne_of_lt hqP, Nat.ne_of_lt (Nat.lt_trans hqP lBx.1), Nat.ne_of_lt (Nat.lt_trans hqP lAx.2.2.1), fun _ _ => Nat.ne_of_lt (Nat.lt_trans hqP lla.2.1)⟩
  case aturn =>
    rintro I i v m₁ n₁ h₁ tk₁ it lI hv hit ⟨hJ, j1, j2, j3⟩ hs hI₁ F₁ N₁
    obtain ⟨tx, x, hx, rfl⟩ := ints_at hxv hv
    have hi9 : i < (xsOf ns).length := (List.getElem?_eq_some_iff.mp hx).1
    refine law_turn1 (keep := (I, it) :: (D3, listOf (List.toArray xv) 0) :: news) (nm := nmL (psOf ns)) (pr := prL (psOf ns)) (k := i + 1) B F₁ X N₁ T (by omega) (by omega) j1 j2 j3 hPB hPA hBA (hJ.push hI₁) (by omega) (by omega) (psOf_at hx) (G.prlt _ (by omega) (by omega)) (fun j h1 h2 => G.prlt j h1 (by omega)) (G.jn _ (by omega) (by omega)) (G.dn _ (by omega) (by omega)) G.inj (fun j hj => ⟨(G.nm j hj).1, (G.nm j hj).2.1⟩) (fun h' tk' m' b F' N' J' k1 k2 k3 => ?_)
    have dd3 := J'.kept
    have hkI : ∀ p ∈ ((D3, listOf (List.toArray xv) 0) : Addr × Obj) :: news, p.1 ≠ I := fun p hp => hI₁ p (hJ.kept p hp)
    exact TEnd.intro _ F' (cb_drop N' (filt_sub (dd3 (I, it) (.head _)))) (fun p hp => by
      rw [List.mem_singleton.mp hp]
      exact List.mem_filter.mpr ⟨dd3 _ (.tail _ (.head _)), by simpa using hkI _ (.head _)⟩) filt_ne ⟨J'.pop hkI, k1, k2, k3⟩
  case adone =>
    rintro I m₁ n₁ h₁ tk₁ ⟨hJ, j1, j2, j3⟩ hI₁ F₁ N₁
    replace F₁ : Fr h₀ L h₁ m₁ := F₁
    replace N₁ : News h₀ L h₁ n₁ := N₁
    have hN : xv.length + 1 = (psOf ns).length + 1 := by rw [hxl, psOf_len]
    rw [hN] at hJ
    have kJ := hJ.kept
    have w1 : (L + 1, oW1) ∈ n₁ := kJ _ (.tail _ (by rw [hnews]; exact .tail _ (.tail _ (.tail _ (.head _)))))
    have w2 : (L + 1 + 1, oW2) ∈ n₁ := kJ _ (.tail _ (by rw [hnews]; exact .tail _ (.tail _ (.head _))))
    have w3 : (L + 1 + 1 + 1, oW3) ∈ n₁ := kJ _ (.tail _ (by rw [hnews]; exact .tail _ (.head _)))
    have w4 : (L + 1 + 1 + 1 + 1, oW4) ∈ n₁ := kJ _ (.tail _ (by rw [hnews]; exact .head _))
    have w106 : ((106 : Addr), tabObj #[]) ∈ n₁ := kJ _ (.tail _ (by rw [hnews]; exact .tail _ (.tail _ (.tail _ (.tail _ (.head _))))))
    have w238 : ((238 : Addr), tabObj #[]) ∈ n₁ := kJ _ (.tail _ (by rw [hnews]; exact .tail _ (.tail _ (.tail _ (.tail _ (.tail _ (.head _)))))))
    obtain ⟨pv, ep, ob2, kvb, oa2, kva, la, p1, p2, b1, b2, b3, b4, a1, a2, a3, a4, q1, q2, q3⟩ := hJ
    k_steps
    rename News h₀ L _ ((_, _) :: n₁) => N6
    rename Obj.IsDictOf (PySem.strKind _ _) _ [] => dLe0
    rename ∀ p ∈ n₁, _ => lLe
    obtain ⟨Le, rfl⟩ := head_addr N6
    refine Hold.in ?_
    refine stN (g := s.gens) (d := s.drawn) (os := s.os) ?_
    refine W_cellF (c := L + 1 + 1 + 1) (by assumption) N6 (.tail _ w3) d3 (fun h6 oLe nA F6 N7 uA dLe => ?_) rfl rfl rfl
    obtain ⟨uA1, uA2, uA3⟩ := uA
    have toA : ∀ p ∈ n₁, p.1 ≠ L + 1 + 1 + 1 → p ∈ nA := fun p hp h => uA2 p (.tail _ hp) h
    k_steps
    rename News h₀ L _ ((_, _) :: nA) => N8
    rename Obj.IsDictOf (PySem.strKind _ _) _ [] => dMo0
    rename ∀ p ∈ nA, _ => lMo
    obtain ⟨Mo, rfl⟩ := head_addr N8
    have neq34 : (L + 1 + 1 + 1 + 1 : Nat) ≠ L + 1 + 1 + 1 := Nat.succ_ne_self _
    have w4A := toA _ w4 neq34
    refine Hold.in ?_
    refine stN (g := s.gens) (d := s.drawn) (os := s.os) ?_
    refine W_cellF (c := L + 1 + 1 + 1 + 1) (by assumption) N8 (.tail _ w4A) d4 (fun h8 oMo nB F8 N9 uB dMo => ?_) rfl rfl rfl
    obtain ⟨uB1, uB2, uB3⟩ := uB
    have toB : ∀ p ∈ nA, p.1 ≠ L + 1 + 1 + 1 + 1 → p ∈ nB := fun p hp h => uB2 p (.tail _ hp) h
    have toAB : ∀ p ∈ n₁, p.1 ≠ L + 1 + 1 + 1 → p.1 ≠ L + 1 + 1 + 1 + 1 → p ∈ nB := fun p hp h1 h2 => toB p (toA p hp h1) h2
    have k1 := (q3 (L + 1, oW1) (.tail _ (by rw [hnews]; exact .tail _ (.tail _ (.tail _ (.head _)))))).2
    have k2 := (q3 (L + 1 + 1, oW2) (.tail _ (by rw [hnews]; exact .tail _ (.tail _ (.head _))))).2
    have k3 := (q3 (L + 1 + 1 + 1, oW3) (.tail _ (by rw [hnews]; exact .tail _ (.head _)))).2
    have k4 := (q3 (L + 1 + 1 + 1 + 1, oW4) (.tail _ (by rw [hnews]; exact .head _))).2
    have k106 := (q3 ((106 : Addr), tabObj #[]) (.tail _ (by rw [hnews]; exact .tail _ (.tail _ (.tail _ (.tail _ (.head _))))))).2
    have k238 := (q3 ((238 : Addr), tabObj #[]) (.tail _ (by rw [hnews]; exact .tail _ (.tail _ (.tail _ (.tail _ (.tail _ (.head _)))))))).2
    have p1B := toAB _ p1 (Ne.symm k3.1) (Ne.symm k4.1)
    have b1B := toAB _ b1 (Ne.symm k3.2.1) (Ne.symm k4.2.1)
    have a1B := toAB _ a1 (Ne.symm k3.2.2.1) (Ne.symm k4.2.2.1)
    obtain ⟨neq13, neq14, neq23, neq24, neq12, neq31, neq32, neq41, neq42⟩ := nats L
    have w1B := toAB _ w1 neq13 neq14
    have w2B := toAB _ w2 neq23 neq24
    have hle4 : Le ≠ L + 1 + 1 + 1 + 1 := Nat.ne_of_gt (lLe _ w4)
    have hle3 : Le ≠ L + 1 + 1 + 1 := Nat.ne_of_gt (lLe _ w3)
    have hle2 : Le ≠ L + 1 + 1 := Nat.ne_of_gt (lLe _ w2)
    have hle1 : Le ≠ L + 1 := Nat.ne_of_gt (lLe _ w1)
    have leA0 := uA2 (Le, _) (.head _) hle3
    have hML : @LT.lt Nat _ Le Mo := lMo _ leA0
    have hLM : Le ≠ Mo := Nat.ne_of_lt hML
    have hmo1 : Mo ≠ L + 1 := Nat.ne_of_gt (lMo _ (toA _ w1 neq13))
    have hmo2 : Mo ≠ L + 1 + 1 := Nat.ne_of_gt (lMo _ (toA _ w2 neq23))
    have hmo3 : Mo ≠ L + 1 + 1 + 1 := Nat.ne_of_gt (lMo _ uA1)
    have hmo4 : Mo ≠ L + 1 + 1 + 1 + 1 := Nat.ne_of_gt (lMo _ w4A)
    have leB0 := toB _ leA0 hle4
    have moB0 := uB2 (Mo, _) (.head _) hmo4
    have cLeB := toB _ uA1 (Ne.symm neq34)
    have hpvl : pv.length = (psOf ns).length + 1 := by rw [p2.length, List.length_map, List.length_range]
    have hps9 : (psOf ns).length ≤ 9 := G.len9
    k_steps
    refine Hold.in ?_
    refine stN (g := s.gens) (d := s.drawn) (os := s.os) ?_
    refine krv_lit (s := ⟨_, _, _, _, _⟩) (its := List.toArray pv) (zs := pv.reverse) (by assumption) N9 ⟨_, (N9 _ p1B).1, rfl, _, rfl⟩ (.int _ _) (by rw [List.toList_toArray]) (fun D4 h10 F10 N10 l10 => ?_) (by with_unfolding_all rfl) (by intro _; with_unfolding_all rfl) (by rw [List.size_toArray, sizeLine_eq]; omega)
    k_steps
    refine Hold.in ?_
    refine stN (g := s.gens) (d := s.drawn) (os := s.os) ?_
    have kpB : (Bx, ob2) ∈ keepF L Le Mo nB := keepF_mem b1B (Ne.symm k1.2.1) (Ne.symm k2.2.1) (Nat.ne_of_lt (lLe _ b1)) (Nat.ne_of_lt (lMo _ (toA _ b1 (Ne.symm k3.2.1))))
    have kpA : (Ax, oa2) ∈ keepF L Le Mo nB := keepF_mem a1B (Ne.symm k1.2.2.1) (Ne.symm k2.2.2.1) (Nat.ne_of_lt (lLe _ a1)) (Nat.ne_of_lt (lMo _ (toA _ a1 (Ne.symm k3.2.2.1))))
    have kpL : ∀ i, i < (psOf ns).length + 1 → valueAt kvb (nmL (psOf ns) i) = some (.ref (la i)) ∧ ∃ cv e, (la i, listOf (List.toArray cv) e) ∈ keepF L Le Mo nB ∧ StrsOf cv ((chK (prL (psOf ns)) ((psOf ns).length + 1) i).map (nmL (psOf ns))) := by
      intro i hi
      obtain ⟨c1, cv, e, m1, m2⟩ := b4 i hi
      exact ⟨c1, cv, e, keepF_mem (toAB _ m1 (Ne.symm (k3.2.2.2 i hi)) (Ne.symm (k4.2.2.2 i hi))) (Ne.symm (k1.2.2.2 i hi)) (Ne.symm (k2.2.2.2 i hi)) (Nat.ne_of_lt (lLe _ m1)) (Nat.ne_of_lt (lMo _ (toA _ m1 (Ne.symm (k3.2.2.2 i hi))))), m2⟩
    have kpLe : (L + 1 + 1 + 1, oLe) ∈ keepF L Le Mo nB := keepF_mem cLeB neq31 neq32 (Ne.symm hle3) (Ne.symm hmo3)
    have kpMo : (L + 1 + 1 + 1 + 1, oMo) ∈ keepF L Le Mo nB := keepF_mem uB1 neq41 neq42 (Ne.symm hle4) (Ne.symm hmo4)
    have n106 : ∀ j : Nat, (106 : Nat) ≠ L + j := fun j e => by have h1 : (238 : Nat) < L := hL; have h2 : L ≤ L + j := Nat.le_add_right _ _; rw [← e] at h2; exact absurd (Nat.lt_of_lt_of_le h1 h2) (by decide)
    have n238 : ∀ j : Nat, (238 : Nat) ≠ L + j := fun j e => by have h1 : (238 : Nat) < L := hL; have h2 : L ≤ L + j := Nat.le_add_right _ _; rw [← e] at h2; exact absurd (Nat.lt_of_lt_of_le h1 h2) (by decide)
    have kp106 : ((106 : Addr), tabObj #[]) ∈ keepF L Le Mo nB := keepF_mem (toAB _ w106 (n106 3) (n106 4)) (n106 1) (n106 2) (Nat.ne_of_lt (lLe _ w106)) (Nat.ne_of_lt (lMo _ (toA _ w106 (n106 3))))
    have kp238 : ((238 : Addr), tabObj #[]) ∈ keepF L Le Mo nB := keepF_mem (toAB _ w238 (n238 3) (n238 4)) (n238 1) (n238 2) (Nat.ne_of_lt (lLe _ w238)) (Nat.ne_of_lt (lMo _ (toA _ w238 (n238 3))))
    have hD4 : ∀ p ∈ nB, p.1 ≠ D4 := fun p hp => Nat.ne_of_lt (l10 p hp)
    refine iter_listI (vs := pv.reverse) (ax := D4) (lo := listOf (List.toArray pv.reverse) 0) (fun m₀ nw I k m₁ n₂ => Inv2 w (nmL (psOf ns)) lo hi ((psOf ns).length + 1) L Le Mo ((D4, listOf (List.toArray pv.reverse) 0) :: keepF L Le Mo nB) k n₂ ∧ m₁ (Str.ofString "below") = some (.ref Bx) ∧ m₁ (Str.ofString "above") = some (.ref Ax)) rfl (by assumption) N10 (.head _) rfl rfl ?c0 ?cturn ?cdone
    case c0 =>
      intro I lI
      refine ⟨⟨oW1, oW2, _, _, _, _, _, _, fun p hp => ?_, .tail _ w1B, d1, .tail _ w2B, d2, .tail _ leB0, dLe0, Nat.le_refl 0, fun j h1 h2 => by omega, .tail _ moB0, dMo0, Nat.le_refl 0, fun j h1 h2 => by omega⟩, j2, j3⟩
      rcases List.mem_cons.mp hp with rfl | hp
      · exact .head _
      · exact .tail _ (keepF_of hp).1
    case cturn =>
      rintro I k v m₁ n₂ h₁ tk₁ it lI hv hit ⟨⟨oLow, oHigh, ole, omo, vL, vH, kvl, kvm, g1, g2, g3, g4, g5, g6, g7, g8, g9, g10, g11, g12, g13⟩, j2, j3⟩ hs hI₁ F₁ N₁
      have hkl : k < pv.length := by have := (List.getElem?_eq_some_iff.mp hv).1; rwa [List.length_reverse] at this
      rw [List.getElem?_reverse hkl] at hv
      obtain ⟨tn, y, hy, rfl⟩ := p2.at hv
      have hik : pv.length - 1 - k = (psOf ns).length - k := by omega
      have hiN : (psOf ns).length - k < (psOf ns).length + 1 := by omega
      rw [hik, List.getElem?_map, List.getElem?_range hiN] at hy
      have hy' : nmL (psOf ns) ((psOf ns).length - k) = y := Option.some.inj hy
      subst hy'
      obtain ⟨c1, cv, e, m1, m2⟩ := kpL _ hiN
      have ne1 := hI₁ _ g2
      have ne2 := hI₁ _ g4
      have ne3 := hI₁ _ g6
      have ne4 := hI₁ _ g10
      have hkI : ∀ p ∈ ((D4, listOf (List.toArray pv.reverse) 0) : Addr × Obj) :: keepF L Le Mo nB, p.1 ≠ I := fun p hp => hI₁ p (g1 p hp)
      refine law_turn2 (keep := (I, it) :: (D4, listOf (List.toArray pv.reverse) 0) :: keepF L Le Mo nB) (n := (psOf ns).length + 1) (i := (psOf ns).length - k) (nm := nmL (psOf ns)) (ch := (trL (psOf ns)).ch) (lo := lo) (hi := hi) B F₁ X N₁ T (by omega) (by omega) j2 (fun p hp => ?_) hLM hle1 hle2 hmo1 hmo2 (.tail _ (.tail _ kpB)) b2 c1 (.tail _ (.tail _ m1)) m2 hiN (by omega) (G.ch _ hiN) (G.cl _ hiN) (.tail _ g2) g3 (.tail _ g4) g5 (.tail _ (.tail _ kpLe)) dLe (.tail _ (.tail _ kpMo)) dMo (.tail _ g6) g7 (by omega) (fun j h1 h2 => g9 j (by omega) h2) (.tail _ g10) g11 (by omega) (fun j h1 h2 => g13 j (by omega) h2) (G.hlo _ hiN) (G.hhi _ hiN) (fun h' tk' m' b oLow' oHigh' ole' omo' v1 v2 t1 t2 F' N' hk' e1 e2 e3 e4 e5 e6 e7 e8 hm' => ?_)
      · rcases List.mem_cons.mp hp with rfl | hp
        · exact ⟨.head _, Ne.symm ne1, Ne.symm ne2, Ne.symm ne3, Ne.symm ne4⟩
        · refine ⟨.tail _ (g1 p hp), ?_⟩
          rcases List.mem_cons.mp hp with rfl | hp
          · exact ⟨Ne.symm (hD4 _ w1B), Ne.symm (hD4 _ w2B), Ne.symm (hD4 _ leB0), Ne.symm (hD4 _ moB0)⟩
          · exact (keepF_of hp).2
      · have mk : ∀ p ∈ b, p.1 ≠ I → p ∈ b.filter (fun p => p.1 != I) := fun p hp h => List.mem_filter.mpr ⟨hp, by simpa using h⟩
        have hmB : m' (Str.ofString "below") = some (.ref Bx) := (hm' _ (by decide)).trans j2
        have hmA : m' (Str.ofString "above") = some (.ref Ax) := (hm' _ (by decide)).trans j3
        exact TEnd.intro _ F' (cb_drop N' (filt_sub (hk' (I, it) (.head _)))) (fun p hp => by
          rw [List.mem_singleton.mp hp]
          exact mk _ (hk' _ (.tail _ (.head _))) (hkI _ (.head _))) filt_ne ⟨⟨oLow', oHigh', ole', omo', v1, v2, _, _, fun p hp => mk _ (hk' p (.tail _ hp)) (hkI p hp), mk _ e1 ne1, e2, mk _ e3 ne2, e4, mk _ e5 ne3, e6, Nat.le_trans (stored_length_le _ _ _) (Nat.succ_le_succ g8), stored_vals (by omega) (by omega) G.inj g9, mk _ e7 ne4, e8, Nat.le_trans (stored_length_le _ _ _) (Nat.succ_le_succ g12), stored_vals (by omega) (by omega) G.inj g13⟩, hmB, hmA⟩
    case cdone =>
      rintro I m₁ n₂ h₁ tk₁ ⟨⟨oLow, oHigh, ole, omo, vL, vH, kvl, kvm, g1, g2, g3, g4, g5, g6, g7, g8, g9, g10, g11, g12, g13⟩, j2, j3⟩ hI₁ F₁ N₁
      replace F₁ : Fr h₀ L h₁ m₁ := F₁
      rw [List.length_reverse, hpvl] at g9 g13
      have g1' : ∀ p ∈ keepF L Le Mo nB, p ∈ n₂ := fun p hp => g1 p (.tail _ hp)
      have N11 : News h₀ L h₁ ((238, tabObj #[]) :: ([((106 : Addr), tabObj #[])] ++ restF n₂)) := cb_drop N₁ (fun p hp => by
        rcases List.mem_cons.mp hp with rfl | hp
        · exact g1' _ kp238
        rcases List.mem_cons.mp hp with rfl | hp
        · exact g1' _ kp106
        · exact (restF_of hp).1)
      have r1B : (Bx, ob2) ∈ restF n₂ := restF_mem (g1' _ kpB) (Ne.symm k106.2.1) (Ne.symm k238.2.1)
      have r1A : (Ax, oa2) ∈ restF n₂ := restF_mem (g1' _ kpA) (Ne.symm k106.2.2.1) (Ne.symm k238.2.2.1)
      have r1Le : (L + 1 + 1 + 1, oLe) ∈ restF n₂ := restF_mem (g1' _ kpLe) (Ne.symm (n106 3)) (Ne.symm (n238 3))
      have r1Mo : (L + 1 + 1 + 1 + 1, oMo) ∈ restF n₂ := restF_mem (g1' _ kpMo) (Ne.symm (n106 4)) (Ne.symm (n238 4))
      have rLe : (Le, ole) ∈ restF n₂ := restF_mem g6 (Nat.ne_of_gt (lLe _ w106)) (Nat.ne_of_gt (lLe _ w238))
      have rMo : (Mo, omo) ∈ restF n₂ := restF_mem g10 (Nat.ne_of_gt (lMo _ (toA _ w106 (n106 3)))) (Nat.ne_of_gt (lMo _ (toA _ w238 (n238 3))))
      have rBel : (trL (psOf ns)).Below w Bx (restF n₂) := ⟨ob2, kvb, r1B, b2, fun i hi => by
        obtain ⟨c1, cv, e, m1, m2⟩ := kpL i hi
        exact ⟨la i, cv, e, c1, restF_mem (g1' _ m1) (Ne.symm (k106.2.2.2 i hi)) (Ne.symm (k238.2.2.2 i hi)), m2⟩⟩
      have h0N : 0 < (trL (psOf ns)).n := Nat.succ_pos _
      have hN10 : (trL (psOf ns)).n ≤ 10 := Nat.succ_le_succ G.len9
      have le9 : ∀ i, i < (trL (psOf ns)).n → i ≤ 9 := fun i hi => Nat.le_of_lt_succ (Nat.lt_of_lt_of_le hi hN10)
      have hlv : ∀ j, j < (trL (psOf ns)).n → ∃ tk, valueAt kvl ((trL (psOf ns)).nm j) = some (.int (lo j) tk) := fun j hj => g9 j (Nat.le_add_left _ _) hj
      have hmv : ∀ j, j < (trL (psOf ns)).n → ∃ tk, valueAt kvm ((trL (psOf ns)).nm j) = some (.int (hi j) tk) := fun j hj => g13 j (Nat.le_add_left _ _) hj
      have hnm : ∀ i, i < (trL (psOf ns)).n → ((trL (psOf ns)).nm i).length ≤ 100 ∧ Txt.startswith ((trL (psOf ns)).nm i) (Str.ofString "/") = true ∧ (Txt.split ((trL (psOf ns)).nm i) (Str.ofString "/")).length ≤ 200 := fun i hi => ⟨(G.nm i (le9 i hi)).1, (G.nm i (le9 i hi)).2.2⟩
      have hpa := fun i (hi : i < (trL (psOf ns)).n) => G.pa i (le9 i hi)
      have hba := fun i (hi : i < (trL (psOf ns)).n) => G.ba i (le9 i hi)
      k_steps
      refine Hold.in ?_
      refine stN (g := s.gens) (d := s.drawn) (os := s.os) ?_
      refine law_round1 (trL (psOf ns)) (paL (psOf ns)) pm1 lo B F₁ X N11 T (by omega) (by omega) rfl j2 j3 .first HC HL (fun p hp => (restF_of hp).2.1) (fun p hp => ?_) (by kn_triples) rfl G.root rBel r1Le dLe rLe g7 hlv r1A a2 a4 G.ch G.w1.sort G.cl G.w1.pr G.w1.wl hN10 h0N G.w1.win hnm hpa hba G.w1.ok (fun h13 tk13 c1 Tb1 nw1 t1 F13 N13 hT1 u1 u2 u3 => ?_)
      · rcases List.mem_cons.mp hp with rfl | hp
        · show (106 : Nat) ≠ 238; decide
        · exact (restF_of hp).2.2
      k_steps
      refine Hold.in ?_
      refine stN (g := s.gens) (d := s.drawn) (os := s.os) ?_
      refine law_round2 (trL (psOf ns)) (paL (psOf ns)) pm2 hi B F13 X N13 T (by omega) (by omega) rfl ((if_neg (by decide)).trans j2) ((if_neg (by decide)).trans j3) hT1 HC HL u1 u2 (by kn_triples) (by kn_among) G.root (rBel.mono u3) (u3 _ r1Mo) dMo (u3 _ rMo) g11 hmv (u3 _ r1A) a2 a4 G.ch G.w2.sort G.cl G.w2.pr G.w2.wl hN10 h0N G.w2.win hnm hpa hba G.w2.ok (fun h14 tk14 c2 Tb2 nw2 t2 F14 N14 hT2 v1 v2 v3 => ?_)
      have uv3 : ∀ p ∈ restF n₂, p ∈ nw2 := fun p hp => v3 p (u3 p hp)
      k_steps
      refine Hold.in ?_
      refine stN (g := s.gens) (d := s.drawn) (os := s.os) ?_
      refine law_round3 (trL (psOf ns)) (paL (psOf ns)) pm3 B F14 X N14 T (by omega) (by omega) rfl ((if_neg (by decide)).trans ((if_neg (by decide)).trans j2)) ((if_neg (by decide)).trans ((if_neg (by decide)).trans j3)) hT2 HC HL v1 v2 (by kn_triples) (by kn_among) G.root (rBel.mono uv3) (uv3 _ r1A) a2 a4 G.ch G.w3.sort G.cl G.w3.pr G.w3.wl hN10 h0N G.w3.win hnm hpa hba G.w3.ok (fun h15 tk15 c3 Tb3 nw3 t3 F15 N15 hT3 x1 x2 x3 => ?_)
      have ux3 : ∀ p ∈ restF n₂, p ∈ nw3 := fun p hp => x3 p (uv3 p hp)
      have cLe3 : (L + 1 + 1 + 1, oLe) ∈ Tb3 ++ nw3 := List.mem_append_right _ (ux3 _ r1Le)
      have cMo3 : (L + 1 + 1 + 1 + 1, oMo) ∈ Tb3 ++ nw3 := List.mem_append_right _ (ux3 _ r1Mo)
      obtain ⟨tl0, hl0⟩ := hlv 0 h0N
      obtain ⟨tm0, hm0⟩ := hmv 0 h0N
      rw [show (trL (psOf ns)).nm 0 = Str.ofString "/t" from G.root] at hl0 hm0
      have e1 : ((pkTop (trL (psOf ns)).ch (walkI (trL (psOf ns)).ch pm1 10 0) (walkI (trL (psOf ns)).ch pm1 10 0).length : Nat) : Int) = lo 0 := G.r1
      have e2 : ((pkTop (trL (psOf ns)).ch (walkI (trL (psOf ns)).ch pm2 10 0) (walkI (trL (psOf ns)).ch pm2 10 0).length : Nat) : Int) = hi 0 := G.r2
      have e3 : lo 0 ≤ ((pkTop (trL (psOf ns)).ch (walkI (trL (psOf ns)).ch pm3 10 0) (walkI (trL (psOf ns)).ch pm3 10 0).length : Nat) : Int) := by rw [← e1]; exact G.r3
      have e4 : ((pkTop (trL (psOf ns)).ch (walkI (trL (psOf ns)).ch pm3 10 0) (walkI (trL (psOf ns)).ch pm3 10 0).length : Nat) : Int) ≤ hi 0 := by rw [← e2]; exact G.r4
      rw [e1, e2] at F15
      generalize ((pkTop (trL (psOf ns)).ch (walkI (trL (psOf ns)).ch pm3 10 0) (walkI (trL (psOf ns)).ch pm3 10 0).length : Nat) : Int) = z3 at F15 e3 e4
      k_steps
      refine Hold.in ?_
      refine stN (g := s.gens) (d := s.drawn) (os := s.os) ?_
      refine kda_item (knd := PySem.strKind _ _) N15 (.tail _ (List.mem_append_right _ (ux3 _ rLe))) g7 (strKind_is _ _ _ _) hl0 ?_
      k_steps
      · refine Hold.in ?_
        refine stN (g := s.gens) (d := s.drawn) (os := s.os) ?_
        refine kda_item (knd := PySem.strKind _ _) N15 (.tail _ (List.mem_append_right _ (ux3 _ rMo))) g11 (strKind_is _ _ _ _) hm0 ?_
        k_steps
        · rw [decide_eq_true e4]
          obtain ⟨ps, hps⟩ := hT3.tab
          exact hret _ _ _ F15 (GrownAt.of N15 (.tail _ (List.mem_append_left _ hps))) (GrownAt.of N15 (.head _))
        all_goals (rename hi 0 ≠ hi 0 => hx; exact absurd rfl hx)
      · rename lo 0 ≠ lo 0 => hx
        exact absurd rfl hx
end
end Mine
end
section
open PySem PySem.W PyProof.Rows PySem.Calls
set_option Elab.async false
set_option maxRecDepth 100000
set_option maxHeartbeats 8000000
set_option linter.unusedVariables false
namespace Mine
noncomputable def pathK (pr : Nat → Nat) (k : Nat) : List Nat := pathF pr 10 k
noncomputable def dueP (pr : Nat → Nat) (i j : Nat) : Bool := j == 0 || (pr j != i && (pathK pr (pr j)).isPrefixOf (pathK pr i))
noncomputable def ordI (ch : Nat → List Nat) (pm : Nat → Array Nat) (i : Nat) : List Nat := (pm i).toList.map fun q => (ch i).getD q 0
theorem walkI_succ {ch : Nat → List Nat} {pm : Nat → Array Nat} {f i : Nat} : walkI ch pm (f + 1) i = (ordI ch pm i).flatMap (walkI ch pm f) ++ [i] := by
  unfold ordI
  rw [List.flatMap_map]
  rfl
section
variable {pr : Nat → Nat} {N : Nat} {pm : Nat → Array Nat}
theorem pathF_fuel (hpr : ∀ k, 1 ≤ k → k ≤ 9 → pr k < k) : ∀ f k, k ≤ f → k ≤ 9 → pathF pr (f + 1) k = pathF pr f k := by
  intro f
  induction f with
  | zero =>
    intro k h1 h2
    have hk : k = 0 := by omega
    subst hk
    rfl
  | succ f ih =>
    intro k h1 h2
    by_cases hk : k = 0
    · subst hk; rfl
    · have := hpr k (by omega) h2
      show (if k = 0 then [] else pathF pr (f + 1) (pr k) ++ [k]) = (if k = 0 then [] else pathF pr f (pr k) ++ [k])
      rw [if_neg hk, if_neg hk, ih (pr k) (by omega) (by omega)]
theorem path_zero : pathK pr 0 = [] := rfl
theorem path_succ (hpr : ∀ k, 1 ≤ k → k ≤ 9 → pr k < k) {k : Nat} (h1 : 1 ≤ k) (h2 : k ≤ 9) : pathK pr k = pathK pr (pr k) ++ [k] := by
  have := hpr k h1 h2
  show (if k = 0 then [] else pathF pr 9 (pr k) ++ [k]) = pathF pr 10 (pr k) ++ [k]
  rw [if_neg (by omega), pathF_fuel hpr 9 (pr k) (by omega) (by omega)]
theorem path_inj (hpr : ∀ k, 1 ≤ k → k ≤ 9 → pr k < k) {i j : Nat} (hi : i ≤ 9) (hj : j ≤ 9) (h : pathK pr i = pathK pr j) : i = j := by
  by_cases h1 : i = 0
  · by_cases h2 : j = 0
    · omega
    · rw [h1, path_zero, path_succ hpr (by omega) hj] at h
      simp at h
  · by_cases h2 : j = 0
    · rw [h2, path_zero, path_succ hpr (by omega) hi] at h
      simp at h
    · rw [path_succ hpr (by omega) hi, path_succ hpr (by omega) hj] at h
      have := List.append_inj_right' h rfl
      simpa using this
theorem mem_ch {k i : Nat} (h : k ∈ chK pr N i) : 1 ≤ k ∧ k < N ∧ pr k = i := by
  unfold chK at h
  obtain ⟨h1, h2⟩ := List.mem_filter.mp h
  have := List.mem_range.mp h1
  simp at h2
  exact ⟨h2.1, this, h2.2⟩
theorem ch_nodup (i : Nat) : (chK pr N i).Nodup := (List.nodup_range).filter _
theorem due_child (hpr : ∀ k, 1 ≤ k → k ≤ 9 → pr k < k) {c i j : Nat} (h1 : 1 ≤ c) (h2 : c ≤ 9) (hc : pr c = i) (hj : j ≤ 9) : dueP pr c j = (dueP pr i j || (j != 0 && pr j == i)) := by
  by_cases hj0 : j = 0
  · subst hj0; rfl
  have hpj := hpr j (by omega) hj
  have hpc := hpr c h1 h2
  have e : pathK pr c = pathK pr i ++ [c] := by rw [path_succ hpr h1 h2, hc]
  rw [Bool.eq_iff_iff]
  unfold dueP
  simp only [Bool.or_eq_true, Bool.and_eq_true, bne_iff_ne, ne_eq, beq_iff_eq, List.isPrefixOf_iff_prefix, hj0, false_or, not_false_eq_true, true_and]
  rw [e, List.prefix_concat_iff, ← e]
  constructor
  · rintro ⟨g1, g2 | g2⟩
    · exact absurd (path_inj hpr (by omega) h2 g2) g1
    · by_cases g3 : pr j = i
      · exact .inr g3
      · exact .inl ⟨g3, g2⟩
  · rintro (⟨g1, g2⟩ | g1)
    · refine ⟨fun g3 => ?_, .inr g2⟩
      rw [g3, e] at g2
      have := g2.length_le
      simp at this
      omega
    · exact ⟨by omega, .inr (by rw [g1]; exact List.prefix_rfl)⟩
theorem due_self (hpr : ∀ k, 1 ≤ k → k ≤ 9 → pr k < k) {i j : Nat} (hi : i ≤ 9) (hj : j ≤ 9) (h : pathK pr i <+: pathK pr j) : dueP pr i j = decide (j = i) := by
  by_cases hji : j = i
  · subst hji
    rw [decide_eq_true rfl]
    by_cases h0 : j = 0
    · subst h0; rfl
    · have := hpr j (by omega) hj
      unfold dueP
      simp only [Bool.or_eq_true, Bool.and_eq_true, bne_iff_ne, ne_eq, beq_iff_eq, List.isPrefixOf_iff_prefix]
      refine .inr ⟨by omega, ?_⟩
      rw [path_succ hpr (k := j) (by omega) hj]
      exact List.prefix_append _ _
  · rw [decide_eq_false hji]
    have hj0 : j ≠ 0 := by
      rintro rfl
      rw [path_zero, List.prefix_nil] at h
      exact hji (path_inj hpr (by omega) hi h.symm)
    have hpj := hpr j (by omega) hj
    rw [Bool.eq_false_iff]
    unfold dueP
    simp only [Bool.or_eq_true, Bool.and_eq_true, bne_iff_ne, ne_eq, beq_iff_eq, List.isPrefixOf_iff_prefix, hj0, false_or]
    rintro ⟨g1, g2⟩
    rw [path_succ hpr (k := j) (by omega) hj, List.prefix_concat_iff, ← path_succ hpr (by omega) hj] at h
    rcases h with h | h
    · exact hji (path_inj hpr hi hj h).symm
    · have e : pathK pr (pr j) = pathK pr i := List.IsPrefix.eq_of_length_le g2 h.length_le
      exact g1 (path_inj hpr (by omega) hi e)
end
end Mine
end
section
open PySem PySem.W PyProof.Rows PySem.Calls
set_option Elab.async false
set_option maxRecDepth 100000
set_option maxHeartbeats 8000000
set_option linter.unusedVariables false
namespace Mine
noncomputable def CondI (pr : Nat → Nat) (N : Nat) (d : List Nat) (i : Nat) : Prop := (chK pr N i).length ≤ (pkStI (chK pr N) d).length ∧ pkStI (chK pr N) (d ++ [i]) = (d ++ [i]).filter (dueP pr i)
noncomputable def Okay (pr : Nat → Nat) (N : Nat) (dn w : List Nat) : Prop := ∀ k i, w[k]? = some i → CondI pr N (dn ++ w.take k) i
noncomputable def pkM (ch : Nat → List Nat) : List Nat → List Nat → Nat
  | _, [] => 0
  | dn, i :: r => max (pkStI ch (dn ++ [i])).length (pkM ch (dn ++ [i]) r)
noncomputable def pkL (g : Nat → Nat) : Nat → List Nat → Nat
  | _, [] => 1
  | t, c :: r => max (t + g c) (pkL g (t + 1) r)
noncomputable def peakI (ch : Nat → List Nat) (pm : Nat → Array Nat) : Nat → Nat → Nat
  | 0, _ => 1
  | f + 1, i => pkL (peakI ch pm f) 0 (ordI ch pm i)
theorem pkSt_snoc {ch : Nat → List Nat} {d : List Nat} {i : Nat} : pkStI ch (d ++ [i]) = pkStepI ch (pkStI ch d) i := by
  unfold pkStI; rw [List.foldl_append]; rfl
theorem pkM_append {ch : Nat → List Nat} : ∀ (a dn b : List Nat), pkM ch dn (a ++ b) = max (pkM ch dn a) (pkM ch (dn ++ a) b)
  | [], dn, b => by simp [pkM]
  | i :: r, dn, b => by
    show max _ (pkM ch (dn ++ [i]) (r ++ b)) = max (max _ (pkM ch (dn ++ [i]) r)) _
    rw [pkM_append r, List.append_assoc, List.singleton_append, Nat.max_assoc]
section
variable {pr : Nat → Nat} {N : Nat} {pm : Nat → Array Nat}
theorem Okay.nil {dn : List Nat} : Okay pr N dn [] := fun k i h => by simp at h
theorem Okay.single {dn : List Nat} {i : Nat} (h : CondI pr N dn i) : Okay pr N dn [i] := fun k j hk => by
  cases k with
  | zero =>
    have : i = j := by simpa using hk
    subst this
    simpa using h
  | succ k => simp at hk
theorem Okay.append {dn a b : List Nat} (h1 : Okay pr N dn a) (h2 : Okay pr N (dn ++ a) b) : Okay pr N dn (a ++ b) := fun k i hk => by
  rw [List.getElem?_append] at hk
  split at hk
  · rename_i hl
    rw [List.take_append_of_le_length (Nat.le_of_lt hl)]
    exact h1 k i hk
  · rename_i hl
    have := h2 _ i hk
    rw [List.take_append, List.take_of_length_le (by omega)]
    rw [List.append_assoc] at this
    exact this
structure PmOk (pr : Nat → Nat) (N : Nat) (pm : Nat → Array Nat) : Prop where
  sz : ∀ i, i < N → (pm i).size = (chK pr N i).length
  lt : ∀ i, i < N → ∀ q ∈ (pm i).toList, q < (chK pr N i).length
  nd : ∀ i, i < N → (pm i).toList.Nodup
theorem ord_len (hp : PmOk pr N pm) {i : Nat} (hi : i < N) : (ordI (chK pr N) pm i).length = (chK pr N i).length := by
  unfold ordI; rw [List.length_map, Array.length_toList, hp.sz i hi]
theorem ord_mem (hp : PmOk pr N pm) {i c : Nat} (hi : i < N) (h : c ∈ ordI (chK pr N) pm i) : 1 ≤ c ∧ c < N ∧ pr c = i := by
  unfold ordI at h
  obtain ⟨q, hq, rfl⟩ := List.mem_map.mp h
  have hl := hp.lt i hi q hq
  refine mem_ch ?_
  rw [List.getD_eq_getElem?_getD, List.getElem?_eq_getElem hl, Option.getD_some]
  exact List.getElem_mem hl
theorem ord_nodup (hp : PmOk pr N pm) {i : Nat} (hi : i < N) : (ordI (chK pr N) pm i).Nodup := by
  unfold ordI List.Nodup
  rw [List.pairwise_map]
  refine List.Pairwise.imp_of_mem (fun {a b} ha hb hab => ?_) (hp.nd i hi)
  have la := hp.lt i hi a ha
  have lb := hp.lt i hi b hb
  rw [List.getD_eq_getElem?_getD, List.getElem?_eq_getElem la, Option.getD_some, List.getD_eq_getElem?_getD, List.getElem?_eq_getElem lb, Option.getD_some]
  intro e
  exact hab ((List.getElem_inj (ch_nodup i)).mp e)
theorem walk_mem (hN : N ≤ 10) (hpr : ∀ k, 1 ≤ k → k ≤ 9 → pr k < k) (hp : PmOk pr N pm) : ∀ f i, i < N → ∀ j ∈ walkI (chK pr N) pm f i, j < N ∧ i ≤ j ∧ pathK pr i <+: pathK pr j := by
  intro f
  induction f with
  | zero =>
    intro i hi j hj
    have e : j = i := by simpa [walkI] using hj
    subst e
    exact ⟨hi, Nat.le_refl _, List.prefix_rfl⟩
  | succ f ih =>
    intro i hi j hj
    rw [walkI_succ] at hj
    rcases List.mem_append.mp hj with hj | hj
    · obtain ⟨c, hc, hj⟩ := List.mem_flatMap.mp hj
      obtain ⟨c1, c2, c3⟩ := ord_mem hp hi hc
      obtain ⟨j1, j2, j3⟩ := ih c c2 j hj
      have hlt := hpr c c1 (by omega)
      refine ⟨j1, by omega, List.IsPrefix.trans ?_ j3⟩
      rw [path_succ hpr c1 (by omega), c3]
      exact List.prefix_append _ _
    · have e : j = i := by simpa using hj
      subst e
      exact ⟨hi, Nat.le_refl _, List.prefix_rfl⟩
theorem flat_gt (hN : N ≤ 10) (hpr : ∀ k, 1 ≤ k → k ≤ 9 → pr k < k) (hp : PmOk pr N pm) {f i : Nat} (hi : i < N) {os : List Nat} (hos : ∀ c ∈ os, c ∈ ordI (chK pr N) pm i) : ∀ j ∈ os.flatMap (walkI (chK pr N) pm f), j < N ∧ i < j ∧ pathK pr i <+: pathK pr j := by
  intro j hj
  obtain ⟨c, hc, hj⟩ := List.mem_flatMap.mp hj
  obtain ⟨c1, c2, c3⟩ := ord_mem hp hi (hos c hc)
  obtain ⟨j1, j2, j3⟩ := walk_mem hN hpr hp f c c2 j hj
  have hlt := hpr c c1 (by omega)
  refine ⟨j1, by omega, List.IsPrefix.trans ?_ j3⟩
  rw [path_succ hpr c1 (by omega), c3]
  exact List.prefix_append _ _
theorem walk_self (hN : N ≤ 10) (hpr : ∀ k, 1 ≤ k → k ≤ 9 → pr k < k) (hp : PmOk pr N pm) {f i : Nat} (hi : i < N) : (walkI (chK pr N) pm f i).filter (fun j => decide (j = i)) = [i] := by
  cases f with
  | zero => simp [walkI]
  | succ f =>
    rw [walkI_succ, List.filter_append]
    have : ((ordI (chK pr N) pm i).flatMap (walkI (chK pr N) pm f)).filter (fun j => decide (j = i)) = [] := by
      rw [List.filter_eq_nil_iff]
      intro j hj
      have := flat_gt hN hpr hp (f := f) hi (fun c hc => hc) j hj
      simp; omega
    rw [this]
    simp
end
end Mine
end
section
open PySem PySem.W PyProof.Rows PySem.Calls
set_option Elab.async false
set_option maxRecDepth 100000
set_option maxHeartbeats 8000000
set_option linter.unusedVariables false
namespace Mine
section
variable {pr : Nat → Nat} {N : Nat} {pm : Nat → Array Nat}
theorem flat_due (hN : N ≤ 10) (hpr : ∀ k, 1 ≤ k → k ≤ 9 → pr k < k) (hp : PmOk pr N pm) {f i c : Nat} (hi : i < N) (hc : c ∈ ordI (chK pr N) pm i) : ∀ os : List Nat, (∀ c ∈ os, c ∈ ordI (chK pr N) pm i) → (os.flatMap (walkI (chK pr N) pm f)).filter (dueP pr c) = os
  | [], _ => rfl
  | a :: os, h => by
    obtain ⟨c1, c2, c3⟩ := ord_mem hp hi hc
    obtain ⟨a1, a2, a3⟩ := ord_mem hp hi (h a (.head _))
    rw [List.flatMap_cons, List.filter_append, flat_due hN hpr hp hi hc os (fun x hx => h x (.tail _ hx))]
    have : (walkI (chK pr N) pm f a).filter (dueP pr c) = (walkI (chK pr N) pm f a).filter (fun j => decide (j = a)) := by
      refine List.filter_congr (fun j hj => ?_)
      obtain ⟨j1, j2, j3⟩ := walk_mem hN hpr hp f a a2 j hj
      rw [due_child hpr c1 (by omega) c3 (by omega), ← due_child hpr a1 (by omega) a3 (by omega)]
      exact due_self hpr (by omega) (by omega) j3
    rw [this, walk_self hN hpr hp a2]
    rfl
theorem run (hN : N ≤ 10) (hpr : ∀ k, 1 ≤ k → k ≤ 9 → pr k < k) (hp : PmOk pr N pm) : ∀ f i dn, i < N → N ≤ i + f → pkStI (chK pr N) dn = dn.filter (dueP pr i) → (∀ j ∈ dn, j < N ∧ ¬ pathK pr i <+: pathK pr j) →
   Okay pr N dn (walkI (chK pr N) pm f i) ∧ pkStI (chK pr N) (dn ++ walkI (chK pr N) pm f i) = pkStI (chK pr N) dn ++ [i] ∧ pkM (chK pr N) dn (walkI (chK pr N) pm f i) = (pkStI (chK pr N) dn).length + peakI (chK pr N) pm f i := by
  intro f
  induction f with
  | zero => intro i dn h1 h2; omega
  | succ f ih =>
    intro i dn hi hf hst hdn
    have inner : ∀ os2 os1, ordI (chK pr N) pm i = os1 ++ os2 → pkStI (chK pr N) (dn ++ os1.flatMap (walkI (chK pr N) pm f)) = pkStI (chK pr N) dn ++ os1 →
        Okay pr N (dn ++ os1.flatMap (walkI (chK pr N) pm f)) (os2.flatMap (walkI (chK pr N) pm f)) ∧ pkStI (chK pr N) (dn ++ os1.flatMap (walkI (chK pr N) pm f) ++ os2.flatMap (walkI (chK pr N) pm f)) = pkStI (chK pr N) dn ++ (os1 ++ os2) ∧
        max (pkM (chK pr N) (dn ++ os1.flatMap (walkI (chK pr N) pm f)) (os2.flatMap (walkI (chK pr N) pm f))) ((pkStI (chK pr N) dn).length + 1) = (pkStI (chK pr N) dn).length + pkL (peakI (chK pr N) pm f) os1.length os2 := by
      intro os2
      induction os2 with
      | nil =>
        intro os1 ho hs
        refine ⟨Okay.nil, ?_, ?_⟩
        · rw [List.flatMap_nil, List.append_nil, List.append_nil, hs]
        · show max 0 _ = _ + 1
          omega
      | cons c r ihr =>
        intro os1 ho hs
        have hcm : c ∈ ordI (chK pr N) pm i := by rw [ho]; exact List.mem_append_right _ (.head _)
        have h1m : ∀ x ∈ os1, x ∈ ordI (chK pr N) pm i := fun x hx => by rw [ho]; exact List.mem_append_left _ hx
        obtain ⟨c1, c2, c3⟩ := ord_mem hp hi hcm
        have hci := hpr c c1 (by omega)
        have hpc : pathK pr c = pathK pr i ++ [c] := by rw [path_succ hpr c1 (by omega), c3]
        have hdc : dn.filter (dueP pr c) = dn.filter (dueP pr i) := by
          refine List.filter_congr (fun j hj => ?_)
          obtain ⟨j1, j2⟩ := hdn j hj
          rw [due_child hpr c1 (by omega) c3 (by omega)]
          have : (j != 0 && pr j == i) = false := by
            rw [Bool.eq_false_iff]
            intro hh
            simp at hh
            apply j2
            rw [path_succ hpr (k := j) (by omega) (by omega), hh.2]
            exact List.prefix_append _ _
          rw [this, Bool.or_false]
        have hst' : pkStI (chK pr N) (dn ++ os1.flatMap (walkI (chK pr N) pm f)) = (dn ++ os1.flatMap (walkI (chK pr N) pm f)).filter (dueP pr c) := by
          rw [List.filter_append, hdc, flat_due hN hpr hp hi hcm os1 h1m, hs, hst]
        have hdn' : ∀ j ∈ dn ++ os1.flatMap (walkI (chK pr N) pm f), j < N ∧ ¬ pathK pr c <+: pathK pr j := by
          intro j hj
          rcases List.mem_append.mp hj with hj | hj
          · obtain ⟨j1, j2⟩ := hdn j hj
            refine ⟨j1, fun h => j2 (List.IsPrefix.trans ?_ h)⟩
            rw [hpc]; exact List.prefix_append _ _
          · obtain ⟨a, ha, hj⟩ := List.mem_flatMap.mp hj
            obtain ⟨a1, a2, a3⟩ := ord_mem hp hi (h1m a ha)
            obtain ⟨j1, j2, j3⟩ := walk_mem hN hpr hp f a a2 j hj
            refine ⟨j1, fun h => ?_⟩
            have hpa : pathK pr a = pathK pr i ++ [a] := by rw [path_succ hpr a1 (by omega), a3]
            have hle : (pathK pr a).length = (pathK pr c).length := by rw [hpa, hpc]; simp
            have e : pathK pr a = pathK pr c := (List.prefix_of_prefix_length_le j3 h (Nat.le_of_eq hle)).eq_of_length hle
            have eac := path_inj hpr (by omega) (by omega) e
            have hnd := ord_nodup hp hi
            rw [ho] at hnd
            have := (List.nodup_append.mp hnd).2.2 a ha c (.head _)
            exact this eac
        obtain ⟨r1, r2, r3⟩ := ih c _ c2 (by omega) hst' hdn'
        have hs2 : pkStI (chK pr N) (dn ++ (os1 ++ [c]).flatMap (walkI (chK pr N) pm f)) = pkStI (chK pr N) dn ++ (os1 ++ [c]) := by
          rw [List.flatMap_append, List.flatMap_cons, List.flatMap_nil, List.append_nil, ← List.append_assoc, r2, hs, List.append_assoc]
        obtain ⟨q1, q2, q3⟩ := ihr (os1 ++ [c]) (by rw [ho]; simp) hs2
        have e1 : dn ++ (os1 ++ [c]).flatMap (walkI (chK pr N) pm f) = dn ++ os1.flatMap (walkI (chK pr N) pm f) ++ walkI (chK pr N) pm f c := by
          rw [List.flatMap_append, List.flatMap_cons, List.flatMap_nil, List.append_nil, ← List.append_assoc]
        rw [e1] at q1 q2 q3
        refine ⟨?_, ?_, ?_⟩
        · rw [List.flatMap_cons]; exact Okay.append r1 q1
        · rw [List.flatMap_cons, ← List.append_assoc, q2]; simp
        · rw [List.flatMap_cons, pkM_append, r3, Nat.max_assoc, q3, hs, List.length_append, List.length_append, List.length_singleton]
          show max _ _ = (pkStI (chK pr N) dn).length + max _ _
          omega
    obtain ⟨q1, q2, q3⟩ := inner (ordI (chK pr N) pm i) [] rfl (by simp)
    rw [List.flatMap_nil, List.append_nil] at q1 q2 q3
    rw [List.nil_append] at q2
    have hl := ord_len hp hi
    have hstep : pkStI (chK pr N) (dn ++ (ordI (chK pr N) pm i).flatMap (walkI (chK pr N) pm f) ++ [i]) = pkStI (chK pr N) dn ++ [i] := by
      rw [pkSt_snoc, q2]
      unfold pkStepI
      rw [List.length_append, hl, Nat.add_sub_cancel, List.take_left]
    have hdi : dueP pr i i = true := by rw [due_self hpr (by omega) (by omega) List.prefix_rfl]; simp
    have hflat : ((ordI (chK pr N) pm i).flatMap (walkI (chK pr N) pm f)).filter (dueP pr i) = [] := by
      rw [List.filter_eq_nil_iff]
      intro j hj
      obtain ⟨j1, j2, j3⟩ := flat_gt hN hpr hp (f := f) hi (fun c hc => hc) j hj
      rw [due_self hpr (by omega) (by omega) j3]
      simp; omega
    have hcond : CondI pr N (dn ++ (ordI (chK pr N) pm i).flatMap (walkI (chK pr N) pm f)) i := by
      refine ⟨?_, ?_⟩
      · rw [q2, List.length_append, hl]; omega
      · rw [hstep, List.filter_append, List.filter_append, hflat, List.append_nil, hst]
        simp [hdi]
    rw [walkI_succ]
    refine ⟨Okay.append q1 (Okay.single hcond), ?_, ?_⟩
    · rw [← List.append_assoc, hstep]
    · rw [pkM_append]
      show max _ (max (pkStI (chK pr N) (dn ++ (ordI (chK pr N) pm i).flatMap (walkI (chK pr N) pm f) ++ [i])).length 0) = _ + pkL (peakI (chK pr N) pm f) 0 (ordI (chK pr N) pm i)
      rw [hstep, List.length_append, List.length_singleton, Nat.max_zero]
      exact q3
end
end Mine
end
section
open PySem PySem.W PyProof.Rows PySem.Calls
set_option Elab.async false
set_option maxRecDepth 100000
set_option maxHeartbeats 8000000
set_option linter.unusedVariables false
namespace Mine
theorem pkTop_pkM {ch : Nat → List Nat} {is : List Nat} : ∀ k, k ≤ is.length → pkTop ch is k = pkM ch [] (is.take k) := by
  intro k
  induction k with
  | zero => intro _; rw [List.take_zero]; rfl
  | succ k ih =>
    intro hk
    show max (pkTop ch is k) (pkStI ch (is.take (k + 1))).length = _
    rw [ih (by omega), List.take_add_one, List.getElem?_eq_getElem (show k < is.length by omega)]
    simp only [Option.toList_some]
    rw [pkM_append, List.nil_append]
    show _ = max _ (max (pkStI ch (is.take k ++ [is[k]])).length 0)
    rw [Nat.max_zero]
theorem len_le_of_nodup : ∀ (N : Nat) (l : List Nat), l.Nodup → (∀ x ∈ l, x < N) → l.length ≤ N
  | 0, l, _, h => by
    cases l with
    | nil => exact Nat.le_refl _
    | cons a r => exact absurd (h a (.head _)) (Nat.not_lt_zero _)
  | N + 1, l, hn, h => by
    have h1 : (l.erase N).Nodup := hn.erase N
    have h2 : ∀ x ∈ l.erase N, x < N := fun x hx => by
      have hx' := (hn.mem_erase_iff).mp hx
      have := h x hx'.2
      omega
    have := len_le_of_nodup N _ h1 h2
    have h3 : l.length ≤ (l.erase N).length + 1 := by
      rw [List.length_erase]
      split <;> omega
    omega
section
variable {pr : Nat → Nat} {N : Nat} {pm : Nat → Array Nat}
theorem walk_nodup (hN : N ≤ 10) (hpr : ∀ k, 1 ≤ k → k ≤ 9 → pr k < k) (hp : PmOk pr N pm) : ∀ f i, i < N → (walkI (chK pr N) pm f i).Nodup := by
  intro f
  induction f with
  | zero => intro i hi; simp [walkI]
  | succ f ih =>
    intro i hi
    rw [walkI_succ]
    have hfl : ((ordI (chK pr N) pm i).flatMap (walkI (chK pr N) pm f)).Nodup := by
      unfold List.Nodup
      rw [List.pairwise_flatMap]
      refine ⟨fun a ha => ih a (ord_mem hp hi ha).2.1, List.Pairwise.imp_of_mem (fun {a b} ha hb hab x hx y hy e => ?_) (ord_nodup hp hi)⟩
      subst e
      obtain ⟨a1, a2, a3⟩ := ord_mem hp hi ha
      obtain ⟨b1, b2, b3⟩ := ord_mem hp hi hb
      obtain ⟨j1, j2, j3⟩ := walk_mem hN hpr hp f a a2 x hx
      obtain ⟨-, -, k3⟩ := walk_mem hN hpr hp f b b2 x hy
      have hpa : pathK pr a = pathK pr i ++ [a] := by rw [path_succ hpr a1 (by omega), a3]
      have hpb : pathK pr b = pathK pr i ++ [b] := by rw [path_succ hpr b1 (by omega), b3]
      have hle : (pathK pr a).length = (pathK pr b).length := by rw [hpa, hpb]; simp
      have e : pathK pr a = pathK pr b := (List.prefix_of_prefix_length_le j3 k3 (Nat.le_of_eq hle)).eq_of_length hle
      exact hab (path_inj hpr (by omega) (by omega) e)
    rw [List.nodup_append]
    refine ⟨hfl, by simp, fun x hx y hy e => ?_⟩
    have hxg := flat_gt hN hpr hp (f := f) hi (fun c hc => hc) x hx
    have : y = i := by simpa using hy
    omega
theorem walk_len (hN : N ≤ 10) (hpr : ∀ k, 1 ≤ k → k ≤ 9 → pr k < k) (hp : PmOk pr N pm) (f i : Nat) (hi : i < N) : (walkI (chK pr N) pm f i).length ≤ 100 :=
  Nat.le_trans (len_le_of_nodup N _ (walk_nodup hN hpr hp f i hi) (fun x hx => (walk_mem hN hpr hp f i hi x hx).1)) (by omega)
theorem walk_ok (hN : N ≤ 10) (h0 : 0 < N) (hpr : ∀ k, 1 ≤ k → k ≤ 9 → pr k < k) (hp : PmOk pr N pm) : Okay pr N [] (walkI (chK pr N) pm 10 0) ∧ pkTop (chK pr N) (walkI (chK pr N) pm 10 0) (walkI (chK pr N) pm 10 0).length = peakI (chK pr N) pm 10 0 := by
  obtain ⟨h1, h2, h3⟩ := run hN hpr hp 10 0 [] h0 (by omega) rfl (fun j hj => nomatch hj)
  refine ⟨h1, ?_⟩
  rw [pkTop_pkM _ (Nat.le_refl _), List.take_length, h3]
  exact Nat.zero_add _
end
end Mine
end
section
open PySem PySem.W PyProof.Rows PySem.Calls
set_option Elab.async false
set_option maxRecDepth 100000
set_option maxHeartbeats 8000000
set_option linter.unusedVariables false
namespace Mine
noncomputable def pathB (b : Nat) : List Nat := (List.range' 1 9).filter (fun i => b.testBit (i - 1))
noncomputable def compsOf (p : List Nat) : List Str := Str.ofString "t" :: p.map chrS
noncomputable def strOk (p : List Nat) : Bool :=
  (nameOf p).length == 2 + 2 * p.length && Txt.startswith (nameOf p) (Str.ofString "/") && !(Txt.endswith (nameOf p) (Str.ofString "/")) && (Txt.split (nameOf p) (Str.ofString "/") == Str.ofString "" :: compsOf p)
noncomputable def endOk (p : List Nat) : Bool := match p.getLast? with
  | none => dirS (nameOf p) == Str.ofString "/" && baseS (nameOf p) == Str.ofString "t"
  | some c => dirS (nameOf p) == nameOf p.dropLast && baseS (nameOf p) == chrS c
theorem str_0 : ∀ b : Fin 32, (strOk (pathB (b.val + 0)) && endOk (pathB (b.val + 0))) = true := by decide +kernel
theorem str_1 : ∀ b : Fin 32, (strOk (pathB (b.val + 32)) && endOk (pathB (b.val + 32))) = true := by decide +kernel
theorem str_2 : ∀ b : Fin 32, (strOk (pathB (b.val + 64)) && endOk (pathB (b.val + 64))) = true := by decide +kernel
theorem str_3 : ∀ b : Fin 32, (strOk (pathB (b.val + 96)) && endOk (pathB (b.val + 96))) = true := by decide +kernel
theorem str_4 : ∀ b : Fin 32, (strOk (pathB (b.val + 128)) && endOk (pathB (b.val + 128))) = true := by decide +kernel
theorem str_5 : ∀ b : Fin 32, (strOk (pathB (b.val + 160)) && endOk (pathB (b.val + 160))) = true := by decide +kernel
theorem str_6 : ∀ b : Fin 32, (strOk (pathB (b.val + 192)) && endOk (pathB (b.val + 192))) = true := by decide +kernel
theorem str_7 : ∀ b : Fin 32, (strOk (pathB (b.val + 224)) && endOk (pathB (b.val + 224))) = true := by decide +kernel
theorem str_8 : ∀ b : Fin 32, (strOk (pathB (b.val + 256)) && endOk (pathB (b.val + 256))) = true := by decide +kernel
theorem str_9 : ∀ b : Fin 32, (strOk (pathB (b.val + 288)) && endOk (pathB (b.val + 288))) = true := by decide +kernel
theorem str_10 : ∀ b : Fin 32, (strOk (pathB (b.val + 320)) && endOk (pathB (b.val + 320))) = true := by decide +kernel
theorem str_11 : ∀ b : Fin 32, (strOk (pathB (b.val + 352)) && endOk (pathB (b.val + 352))) = true := by decide +kernel
theorem str_12 : ∀ b : Fin 32, (strOk (pathB (b.val + 384)) && endOk (pathB (b.val + 384))) = true := by decide +kernel
theorem str_13 : ∀ b : Fin 32, (strOk (pathB (b.val + 416)) && endOk (pathB (b.val + 416))) = true := by decide +kernel
theorem str_14 : ∀ b : Fin 32, (strOk (pathB (b.val + 448)) && endOk (pathB (b.val + 448))) = true := by decide +kernel
theorem str_15 : ∀ b : Fin 32, (strOk (pathB (b.val + 480)) && endOk (pathB (b.val + 480))) = true := by decide +kernel
theorem str_all : ∀ b, b < 512 → strOk (pathB b) = true ∧ endOk (pathB b) = true := by
  intro b hb
  have key : (strOk (pathB b) && endOk (pathB b)) = true := by
    have h1 : b / 32 < 16 := by omega
    have h2 : b = (⟨b % 32, Nat.mod_lt _ (by decide)⟩ : Fin 32).val + 32 * (b / 32) := by show b = b % 32 + 32 * (b / 32); omega
    rw [h2]
    generalize (⟨b % 32, Nat.mod_lt _ (by decide)⟩ : Fin 32) = c
    generalize b / 32 = d at h1
    match d, h1 with
    | 0, _ => exact str_0 c
    | 1, _ => exact str_1 c
    | 2, _ => exact str_2 c
    | 3, _ => exact str_3 c
    | 4, _ => exact str_4 c
    | 5, _ => exact str_5 c
    | 6, _ => exact str_6 c
    | 7, _ => exact str_7 c
    | 8, _ => exact str_8 c
    | 9, _ => exact str_9 c
    | 10, _ => exact str_10 c
    | 11, _ => exact str_11 c
    | 12, _ => exact str_12 c
    | 13, _ => exact str_13 c
    | 14, _ => exact str_14 c
    | 15, _ => exact str_15 c
    | d + 16, h => exact absurd h (by omega)
  rwa [Bool.and_eq_true] at key
theorem pathB_step0 : ((List.range 9).all fun k => (List.range (2 ^ k)).all fun b => pathB b ++ [k + 1] == pathB (b + 2 ^ k)) = true := by decide +kernel
theorem pathB_step {k b : Nat} (hk : k < 9) (hb : b < 2 ^ k) : pathB b ++ [k + 1] = pathB (b + 2 ^ k) := by
  have h1 := List.all_eq_true.mp pathB_step0 k (List.mem_range.mpr hk)
  have h2 := List.all_eq_true.mp h1 b (List.mem_range.mpr hb)
  exact eq_of_beq h2
theorem path_bits {pr : Nat → Nat} (hpr : ∀ k, 1 ≤ k → k ≤ 9 → pr k < k) : ∀ k, k ≤ 9 → ∃ b, b < 2 ^ k ∧ pathK pr k = pathB b := by
  intro k
  induction k using Nat.strongRecOn with
  | ind k ih =>
    intro hk
    by_cases h0 : k = 0
    · subst h0
      exact ⟨0, by decide, show ([] : List Nat) = pathB 0 by decide +kernel⟩
    · have hlt := hpr k (by omega) hk
      obtain ⟨b, hb, e⟩ := ih (pr k) hlt (by omega)
      have hb' : b < 2 ^ (k - 1) := Nat.lt_of_lt_of_le hb (Nat.pow_le_pow_right (by decide) (by omega))
      refine ⟨b + 2 ^ (k - 1), ?_, ?_⟩
      · have : 2 ^ k = 2 ^ (k - 1) + 2 ^ (k - 1) := by
          conv => lhs; rw [show k = (k - 1) + 1 by omega, Nat.pow_succ]
          omega
        omega
      · rw [path_succ hpr (by omega) hk, e]
        have := pathB_step (k := k - 1) (by omega) hb'
        rwa [show k - 1 + 1 = k by omega] at this
theorem path_str {pr : Nat → Nat} (hpr : ∀ k, 1 ≤ k → k ≤ 9 → pr k < k) {k : Nat} (hk : k ≤ 9) : strOk (pathK pr k) = true ∧ endOk (pathK pr k) = true := by
  obtain ⟨b, hb, e⟩ := path_bits hpr k hk
  rw [e]
  exact str_all b (Nat.lt_of_lt_of_le hb (Nat.le_trans (Nat.pow_le_pow_right (by decide) hk) (by decide)))
end Mine
end
section
open PySem PySem.W PyProof.Rows PySem.Calls
set_option Elab.async false
set_option maxRecDepth 100000
set_option maxHeartbeats 8000000
set_option linter.unusedVariables false
namespace Mine
theorem ltStrs_asymm : ∀ a b : List Str, ltStrs a b = true → ltStrs b a = false
  | [], [], h => by simp [ltStrs] at h
  | [], _ :: _, _ => rfl
  | _ :: _, [], h => by simp [ltStrs] at h
  | x :: xs, y :: ys, h => by
    by_cases e : x = y
    · subst e
      simp only [ltStrs, beq_self_eq_true, if_true] at h ⊢
      exact ltStrs_asymm xs ys h
    · have e' : ¬ y = x := fun q => e q.symm
      simp only [ltStrs, beq_eq_false_iff_ne.mpr e, Bool.false_eq_true, if_false, decide_eq_true_eq] at h
      simp only [ltStrs, beq_eq_false_iff_ne.mpr e', Bool.false_eq_true, if_false, decide_eq_false_iff_not]
      exact List.lt_asymm h
theorem ltStrs_total : ∀ a b : List Str, ltStrs a b = false → ltStrs b a = false → a = b
  | [], [], _, _ => rfl
  | [], _ :: _, h, _ => by simp [ltStrs] at h
  | _ :: _, [], _, h => by simp [ltStrs] at h
  | x :: xs, y :: ys, h, h2 => by
    by_cases e : x = y
    · subst e
      simp only [ltStrs, beq_self_eq_true, if_true] at h h2
      rw [ltStrs_total xs ys h h2]
    · have e' : ¬ y = x := fun q => e q.symm
      simp only [ltStrs, beq_eq_false_iff_ne.mpr e, Bool.false_eq_true, if_false, decide_eq_false_iff_not] at h
      simp only [ltStrs, beq_eq_false_iff_ne.mpr e', Bool.false_eq_true, if_false, decide_eq_false_iff_not] at h2
      have : x.cps.toList = y.cps.toList := List.le_antisymm h2 h
      exact absurd (by cases x; cases y; simp at this; rw [this]) e
theorem lcpS_comm : ∀ a b : List Str, lcpS a b = lcpS b a
  | [], [] => rfl
  | [], _ :: _ => rfl
  | _ :: _, [] => rfl
  | x :: xs, y :: ys => by
    by_cases e : x = y
    · subst e
      simp only [lcpS, beq_self_eq_true, if_true, lcpS_comm xs ys]
    · have e' : ¬ y = x := fun q => e q.symm
      simp only [lcpS, beq_eq_false_iff_ne.mpr e, beq_eq_false_iff_ne.mpr e', Bool.false_eq_true, if_false]
theorem lcp_lohi (a b : List Str) : lcpS (loS a b) (hiS a b) = lcpS a b := by
  unfold loS hiS
  cases h1 : ltStrs b a with
  | false =>
    cases h2 : ltStrs a b with
    | false =>
      have := ltStrs_total a b h2 h1
      subst this
      rfl
    | true => rfl
  | true =>
    rw [ltStrs_asymm b a h1]
    exact lcpS_comm b a
theorem lcp_pre : ∀ a b : List Str, lcpS a b <+: a
  | [], _ => List.nil_prefix
  | x :: xs, [] => List.nil_prefix
  | x :: xs, y :: ys => by
    by_cases e : x = y
    · subst e
      simp only [lcpS, beq_self_eq_true, if_true]
      exact (List.prefix_cons_inj x).mpr (lcp_pre xs ys)
    · simp only [lcpS, beq_eq_false_iff_ne.mpr e, Bool.false_eq_true, if_false]
      exact List.nil_prefix
theorem lcp_of_pre {a b : List Str} (h : a <+: b) : lcpS a b = a := by
  obtain ⟨r, rfl⟩ := h
  exact lcp_all a (a ++ r) (by simp)
theorem pre_of_lcp {a b : List Str} (h : lcpS a b = a) : a <+: b := by
  have := lcp_pre b a
  rwa [lcpS_comm, h] at this
theorem join_len1 : ∀ l : List Str, (∀ z ∈ l, z.length ≤ 1) → (Str.join (Str.ofString "/") l).length ≤ 2 * l.length
  | [], _ => Nat.zero_le _
  | [x], h => by
    have h1 := h x (.head _)
    show x.length ≤ 2 * 1
    omega
  | x :: y :: r, h => by
    have h1 := h x (.head _)
    have h2 := join_len1 (y :: r) (fun z hz => h z (.tail _ hz))
    have h3 : (Str.ofString "/").length = 1 := by decide
    rw [PyProof.Rows.join_cons_cons, Str.length_append, Str.length_append, h3]
    simp only [List.length_cons] at h2 ⊢
    omega
theorem join_snoc : ∀ (l : List Str) (x c : Str), Str.join (Str.ofString "/") (x :: l ++ [c]) = Str.join (Str.ofString "/") (x :: l) ++ (Str.ofString "/" ++ c)
  | [], x, c => by
    rw [List.cons_append, List.nil_append, PyProof.Rows.join_cons_cons]
    show x ++ Str.ofString "/" ++ c = x ++ (Str.ofString "/" ++ c)
    exact Str.append_assoc _ _ _
  | y :: r, x, c => by
    have ih := join_snoc r y c
    rw [List.cons_append, List.cons_append, PyProof.Rows.join_cons_cons, PyProof.Rows.join_cons_cons]
    rw [List.cons_append] at ih
    rw [ih]
    simp only [Str.append_assoc]
end Mine
end
section
open PySem PySem.W PyProof.Rows PySem.Calls
set_option Elab.async false
set_option maxRecDepth 100000
set_option maxHeartbeats 8000000
set_option linter.unusedVariables false
namespace Mine
noncomputable def nmP (pr : Nat → Nat) (k : Nat) : Str := nameOf (pathK pr k)
theorem chrS_inj {a b : Nat} (h : chrS a = chrS b) : a = b := by
  unfold chrS at h
  simp at h
  omega
theorem keep_chr (c : Nat) : keepC (chrS c) = true := by
  unfold keepC
  have h1 : (chrS c).length = 1 := rfl
  have h2 : chrS c ≠ Str.ofString "." := fun e => by
    have : (chrS c).cps = (Str.ofString ".").cps := congrArg Str.cps e
    have h3 : (Str.ofString ".").cps = #[46] := by decide
    rw [h3] at this
    have h4 : #[96 + c] = #[46] := this
    simp at h4
    omega
  rw [h1]
  simp [h2]
theorem keep_comps (p : List Nat) : (Str.ofString "" :: compsOf p).filter keepC = compsOf p := by
  have h0 : keepC (Str.ofString "") = false := by decide +kernel
  have h1 : keepC (Str.ofString "t") = true := by decide +kernel
  rw [List.filter_cons_of_neg (by rw [h0]; decide)]
  unfold compsOf
  rw [List.filter_cons_of_pos h1, List.filter_eq_self.mpr (fun a ha => by
    obtain ⟨c, -, rfl⟩ := List.mem_map.mp ha
    exact keep_chr c)]
theorem comps_one (p : List Nat) : ∀ z ∈ compsOf p, z.length ≤ 1 := by
  intro z hz
  rcases List.mem_cons.mp hz with rfl | hz
  · decide
  · obtain ⟨c, -, rfl⟩ := List.mem_map.mp hz
    exact Nat.le_refl 1
theorem txt_join (l : List Str) : Txt.join (Str.ofString "/") l = Str.join (Str.ofString "/") l := eq_of_beq (PyProof.Rows.join_plain_closes _ _)
section
variable {pr : Nat → Nat}
theorem nm_facts (hpr : ∀ k, 1 ≤ k → k ≤ 9 → pr k < k) {k : Nat} (hk : k ≤ 9) : (nmP pr k).length = 2 + 2 * (pathK pr k).length ∧ Txt.startswith (nmP pr k) (Str.ofString "/") = true ∧ Txt.endswith (nmP pr k) (Str.ofString "/") = false ∧ Txt.split (nmP pr k) (Str.ofString "/") = Str.ofString "" :: compsOf (pathK pr k) := by
  have h := (path_str hpr hk).1
  unfold strOk at h
  simp only [Bool.and_eq_true, beq_iff_eq, Bool.not_eq_true'] at h
  exact ⟨h.1.1.1, h.1.1.2, h.1.2, h.2⟩
theorem path_len (hpr : ∀ k, 1 ≤ k → k ≤ 9 → pr k < k) {k : Nat} (hk : k ≤ 9) : (pathK pr k).length ≤ 9 := by
  obtain ⟨b, hb, e⟩ := path_bits hpr k hk
  rw [e]
  exact List.length_filter_le _ _
theorem nm_jn (hpr : ∀ k, 1 ≤ k → k ≤ 9 → pr k < k) {k : Nat} (h1 : 1 ≤ k) (hk : k ≤ 9) : joinS (nmP pr (pr k)) (chrS k) = nmP pr k := by
  unfold nmP
  rw [path_succ hpr h1 hk]
  unfold nameOf
  rw [List.foldl_append]
  rfl
theorem nm_end (hpr : ∀ k, 1 ≤ k → k ≤ 9 → pr k < k) {k : Nat} (h1 : 1 ≤ k) (hk : k ≤ 9) : dirS (nmP pr k) = nmP pr (pr k) ∧ baseS (nmP pr k) = chrS k := by
  have h := (path_str hpr hk).2
  unfold endOk at h
  rw [path_succ hpr h1 hk, List.getLast?_concat] at h
  simp only [List.dropLast_concat, Bool.and_eq_true, beq_iff_eq] at h
  unfold nmP
  rw [path_succ hpr h1 hk]
  exact h
theorem nm_end0 : dirS (nmP pr 0) = Str.ofString "/" ∧ baseS (nmP pr 0) = Str.ofString "t" := by
  show dirS (nameOf []) = _ ∧ baseS (nameOf []) = _
  decide +kernel
theorem nm_inj (hpr : ∀ k, 1 ≤ k → k ≤ 9 → pr k < k) {i j : Nat} (hi : i ≤ 9) (hj : j ≤ 9) (h : nmP pr i = nmP pr j) : i = j := by
  have e1 := (nm_facts hpr hi).2.2.2
  have e2 := (nm_facts hpr hj).2.2.2
  rw [h, e2] at e1
  have e3 : compsOf (pathK pr j) = compsOf (pathK pr i) := (List.cons.inj e1).2
  have e4 : (pathK pr j).map chrS = (pathK pr i).map chrS := (List.cons.inj e3).2
  have e5 := (List.map_inj_right (fun a b h => chrS_inj h)).mp e4
  exact path_inj hpr hi hj e5.symm
theorem nm_join (hpr : ∀ k, 1 ≤ k → k ≤ 9 → pr k < k) : ∀ k, k ≤ 9 → Str.ofString "/" ++ Str.join (Str.ofString "/") (compsOf (pathK pr k)) = nmP pr k := by
  intro k
  induction k using Nat.strongRecOn with
  | ind k ih =>
    intro hk
    by_cases h0 : k = 0
    · subst h0
      show Str.ofString "/" ++ Str.join (Str.ofString "/") (compsOf []) = nameOf []
      decide +kernel
    · have hlt := hpr k (by omega) hk
      have ih' := ih (pr k) hlt (by omega)
      have he := (nm_facts hpr (k := pr k) (by omega)).2.2.1
      rw [← nm_jn hpr (by omega) hk, path_succ hpr (by omega) hk]
      unfold joinS
      rw [if_neg (by rw [he]; decide), ← ih']
      unfold compsOf
      rw [List.map_append, List.map_cons, List.map_nil]
      rw [show Str.ofString "t" :: ((pathK pr (pr k)).map chrS ++ [chrS k]) = Str.ofString "t" :: (pathK pr (pr k)).map chrS ++ [chrS k] from rfl, join_snoc, Str.append_assoc]
theorem common_nm (hpr : ∀ k, 1 ≤ k → k ≤ 9 → pr k < k) {p i : Nat} (hp : p ≤ 9) (hi : i ≤ 9) : (commonS (nmP pr p) (nmP pr i) == nmP pr p) = decide (pathK pr p <+: pathK pr i) := by
  have e1 := (nm_facts hpr hp).2.2.2
  have e2 := (nm_facts hpr hi).2.2.2
  unfold commonS
  rw [e1, e2, keep_comps, keep_comps, lcp_lohi, txt_join]
  have hpre : compsOf (pathK pr p) <+: compsOf (pathK pr i) ↔ pathK pr p <+: pathK pr i := by
    unfold compsOf
    rw [List.prefix_cons_inj]
    constructor
    · rintro ⟨r, hr⟩
      obtain ⟨l1, l2, h1, h2, h3⟩ := List.map_eq_append_iff.mp hr.symm
      have := (List.map_inj_right (fun a b h => chrS_inj h)).mp h2
      exact ⟨l2, by rw [h1, this]⟩
    · rintro ⟨r, hr⟩
      exact ⟨r.map chrS, by rw [← hr, List.map_append]⟩
  by_cases h : pathK pr p <+: pathK pr i
  · rw [decide_eq_true h, lcp_of_pre (hpre.mpr h), nm_join hpr p hp]
    exact beq_self_eq_true _
  · rw [decide_eq_false h, beq_eq_false_iff_ne]
    intro e
    have hl := lcp_pre (compsOf (pathK pr p)) (compsOf (pathK pr i))
    have hne : lcpS (compsOf (pathK pr p)) (compsOf (pathK pr i)) ≠ compsOf (pathK pr p) := fun q => h (hpre.mp (pre_of_lcp q))
    have hlt : (lcpS (compsOf (pathK pr p)) (compsOf (pathK pr i))).length < (compsOf (pathK pr p)).length := by
      rcases Nat.lt_or_ge (lcpS (compsOf (pathK pr p)) (compsOf (pathK pr i))).length (compsOf (pathK pr p)).length with g | g
      · exact g
      · exact absurd (hl.eq_of_length_le g) hne
    have hj := join_len1 (lcpS (compsOf (pathK pr p)) (compsOf (pathK pr i))) (fun z hz => comps_one _ z (hl.subset hz))
    have hn := (nm_facts hpr hp).1
    have hc : (compsOf (pathK pr p)).length = (pathK pr p).length + 1 := by unfold compsOf; rw [List.length_cons, List.length_map]
    have h3 : (Str.ofString "/").length = 1 := by decide
    have he := congrArg Str.length e
    rw [Str.length_append, h3, hn] at he
    omega
theorem due_eq (hpr : ∀ k, 1 ≤ k → k ≤ 9 → pr k < k) {i j : Nat} (hi : i ≤ 9) (hj : j ≤ 9) : dueI (nmP pr) (fun j => dirS (nmP pr j)) i j = dueP pr i j := by
  by_cases h0 : j = 0
  · subst h0
    unfold dueI
    dsimp only
    rw [nm_end0.1]
    have h1 : (Str.ofString "/" != nmP pr i) = true := by
      rw [bne_iff_ne]
      intro e
      have he := congrArg Str.length e
      have hn := (nm_facts hpr hi).1
      have h3 : (Str.ofString "/").length = 1 := by decide
      omega
    have h2 : commonS (Str.ofString "/") (nmP pr i) = Str.ofString "/" := by
      unfold commonS
      rw [lcp_lohi]
      have e : (Txt.split (Str.ofString "/") (Str.ofString "/")).filter keepC = [] := by decide +kernel
      rw [e]
      show Str.ofString "/" ++ Txt.join (Str.ofString "/") [] = _
      decide +kernel
    rw [h1, h2, beq_self_eq_true]
    rfl
  · have hlt := hpr j (by omega) hj
    unfold dueI
    dsimp only
    rw [(nm_end hpr (k := j) (by omega) hj).1, common_nm hpr (by omega) hi]
    have h1 : (nmP pr (pr j) != nmP pr i) = (pr j != i) := by
      by_cases e : pr j = i
      · rw [e, bne_self_eq_false, bne_self_eq_false]
      · have : nmP pr (pr j) ≠ nmP pr i := fun q => e (nm_inj hpr (by omega) hi q)
        rw [bne_iff_ne.mpr e, bne_iff_ne.mpr this]
    rw [h1]
    unfold dueP
    have h2 : (j == 0) = false := by simpa using h0
    rw [h2, Bool.false_or]
    congr 1
    rw [Bool.eq_iff_iff, decide_eq_true_eq, List.isPrefixOf_iff_prefix]
end
end Mine
end
section
open PySem PySem.W PyProof.Rows PySem.Calls
set_option Elab.async false
set_option maxRecDepth 100000
set_option maxHeartbeats 8000000
set_option linter.unusedVariables false
namespace Mine
noncomputable def maxN (l : List Nat) : Nat := l.foldl Nat.max 1
noncomputable def loV (t : List Nat) : Nat := maxN (t.map fun x => x - 1 + (t.filter fun y => Nat.ble x y).length)
noncomputable def hiV (t : List Nat) : Nat := maxN (t.map fun x => x - 1 + t.length)
noncomputable def permOf (n : Nat) (c : Nat → Nat → Bool) : Option (Array Nat) := if n < 2 then some (List.range n).toArray else evB n c (kas_sort n)
noncomputable def nodupB : List Nat → Bool
  | [] => true
  | a :: l => !(l.any fun b => Nat.beq a b) && nodupB l
noncomputable def pkLv : Nat → List Nat → Nat
  | _, [] => 1
  | t, v :: r => Nat.max (t + v) (pkLv (t + 1) r)
noncomputable def permB (n : Nat) (p : Array Nat) : Bool := Nat.beq p.size n && (p.toList.all fun q => Nat.blt q n) && nodupB p.toList
noncomputable def checkLo (t : List Nat) : Bool := match permOf t.length (fun a b => Nat.blt (t.getD b 0) (t.getD a 0)) with
  | none => false
  | some p => permB t.length p && Nat.beq (pkLv 0 (p.toList.map fun q => t.getD q 0)) (loV t)
noncomputable def checkHi (t : List Nat) : Bool := match permOf t.length (fun a b => Nat.blt (t.getD a 0) (t.getD b 0)) with
  | none => false
  | some p => permB t.length p && Nat.beq (pkLv 0 (p.toList.map fun q => t.getD q 0)) (hiV t)
noncomputable def checkZ (n : Nat) : Bool := match permOf n (fun _ _ => false) with
  | none => false
  | some p => permB n p
noncomputable def sc (v : Nat) : Nat := if v ≤ 1 then 1 else v + 1
noncomputable def cost (t : List Nat) : Nat := (t.map sc).sum
noncomputable def tup : Nat → Nat → List (List Nat)
  | 0, _ => [[]]
  | f + 1, b => [] :: ((List.range b).filter fun v => Nat.ble (sc (v + 1)) b).flatMap fun v => (tup f (b - sc (v + 1))).map ((v + 1) :: ·)
theorem lo_all : (tup 9 9).all checkLo = true := by decide +kernel
theorem hi_all : (tup 9 9).all checkHi = true := by decide +kernel
theorem z_all : (List.range 10).all checkZ = true := by decide +kernel
theorem sc_pos (v : Nat) : 1 ≤ sc v := by unfold sc; split <;> omega
theorem sc_ge (v : Nat) : v ≤ sc v := by unfold sc; split <;> omega
theorem tup_mem : ∀ (f b : Nat) (t : List Nat), (∀ v ∈ t, 1 ≤ v) → cost t ≤ b → t.length ≤ f → t ∈ tup f b
  | 0, b, t, h1, h2, h3 => by
    cases t with
    | nil => exact .head _
    | cons a r => exact absurd h3 (by simp)
  | f + 1, b, [], h1, h2, h3 => .head _
  | f + 1, b, a :: r, h1, h2, h3 => by
    have ha := h1 a (.head _)
    have hc : sc a + cost r ≤ b := h2
    have hg := sc_ge a
    refine .tail _ (List.mem_flatMap.mpr ⟨a - 1, List.mem_filter.mpr ⟨List.mem_range.mpr (by omega), ?_⟩, List.mem_map.mpr ⟨r, ?_, ?_⟩⟩)
    · rw [show a - 1 + 1 = a by omega]
      exact Nat.ble_eq_true_of_le (by omega)
    · rw [show a - 1 + 1 = a by omega]
      exact tup_mem f _ r (fun v hv => h1 v (.tail _ hv)) (by omega) (Nat.le_of_succ_le_succ h3)
    · rw [show a - 1 + 1 = a by omega]
theorem len_le_cost (t : List Nat) : t.length ≤ cost t := by
  induction t with
  | nil => exact Nat.le_refl _
  | cons a r ih =>
    have := sc_pos a
    show r.length + 1 ≤ sc a + cost r
    omega
theorem evB_congr {α : Type} {n : Nat} {c c' : Nat → Nat → Bool} (h : ∀ a b, a < n → b < n → c a b = c' a b) : ∀ t : KasT α, evB n c t = evB n c' t
  | .ret a => rfl
  | .ask i j k => by
    unfold evB
    split
    · rename_i hij
      rw [h i j hij.1 hij.2]
      exact evB_congr h (k (c' i j))
    · rfl
theorem permOf_congr {n : Nat} {c c' : Nat → Nat → Bool} (h : ∀ a b, a < n → b < n → c a b = c' a b) : permOf n c = permOf n c' := by
  unfold permOf
  split
  · rfl
  · exact evB_congr h _
end Mine
end
section
open PySem PySem.W PyProof.Rows PySem.Calls
set_option Elab.async false
set_option maxRecDepth 100000
set_option maxHeartbeats 8000000
set_option linter.unusedVariables false
namespace Mine
theorem maxN_aux : ∀ (l : List Nat) (a : Nat), (l.foldl Nat.max a ∈ a :: l) ∧ (∀ x ∈ a :: l, x ≤ l.foldl Nat.max a)
  | [], a => ⟨.head _, fun x hx => by rw [List.mem_singleton.mp hx]; exact Nat.le_refl _⟩
  | b :: r, a => by
    obtain ⟨h1, h2⟩ := maxN_aux r (Nat.max a b)
    refine ⟨?_, fun x hx => ?_⟩
    · show r.foldl Nat.max (Nat.max a b) ∈ _
      rcases List.mem_cons.mp h1 with h | h
      · rw [h]
        by_cases hab : a ≤ b
        · rw [show Nat.max a b = b from Nat.max_eq_right hab]; exact .tail _ (.head _)
        · rw [show Nat.max a b = a from Nat.max_eq_left (by omega)]; exact .head _
      · exact .tail _ (.tail _ h)
    · show x ≤ r.foldl Nat.max (Nat.max a b)
      have h3 := h2 (Nat.max a b) (.head _)
      rcases List.mem_cons.mp hx with rfl | hx
      · exact Nat.le_trans (Nat.le_max_left _ _) h3
      rcases List.mem_cons.mp hx with rfl | hx
      · exact Nat.le_trans (Nat.le_max_right _ _) h3
      · exact h2 x (.tail _ hx)
theorem maxN_mem (l : List Nat) : maxN l ∈ 1 :: l := (maxN_aux l 1).1
theorem maxN_ge {l : List Nat} {x : Nat} (h : x ∈ 1 :: l) : x ≤ maxN l := (maxN_aux l 1).2 x h
theorem maxN_pos (l : List Nat) : 1 ≤ maxN l := maxN_ge (.head _)
theorem cost_filter (p : Nat → Bool) (m : Nat) : ∀ t : List Nat, (∀ v ∈ t, p v = true → m ≤ sc v) → (t.filter p).length * m ≤ cost t
  | [], _ => by simp [cost]
  | a :: r, h => by
    have ih := cost_filter p m r (fun v hv => h v (.tail _ hv))
    have e : cost (a :: r) = sc a + cost r := rfl
    rw [List.filter_cons]
    by_cases hp : p a = true
    · rw [if_pos hp, List.length_cons, Nat.succ_mul]
      have := h a (.head _) hp
      omega
    · rw [if_neg hp]; omega
theorem cost_mem {x : Nat} : ∀ t : List Nat, x ∈ t → sc x + (t.length - 1) ≤ cost t
  | a :: r, h => by
    have e : cost (a :: r) = sc a + cost r := rfl
    rcases List.mem_cons.mp h with rfl | h
    · have := len_le_cost r
      rw [e, List.length_cons]; omega
    · have := cost_mem r h
      have := sc_pos a
      have : r.length ≠ 0 := by
        intro h0
        rw [List.length_eq_zero_iff.mp h0] at h
        cases h
      rw [e, List.length_cons]; omega
theorem sc_mono {x y : Nat} (h : x ≤ y) : sc x ≤ sc y := by unfold sc; split <;> split <;> omega
theorem sc_loV (t : List Nat) (h : ∀ v ∈ t, 1 ≤ v) : sc (loV t) ≤ 1 + cost t := by
  rcases List.mem_cons.mp (maxN_mem (t.map fun x => x - 1 + (t.filter fun y => Nat.ble x y).length)) with e | e
  · show sc (maxN _) ≤ _
    rw [e]
    show 1 ≤ _
    omega
  · obtain ⟨x, hx, e⟩ := List.mem_map.mp e
    show sc (maxN _) ≤ _
    rw [← e]
    have hx1 := h x hx
    have hk : 1 ≤ (t.filter fun y => Nat.ble x y).length := List.length_pos_of_mem (List.mem_filter.mpr ⟨hx, Nat.ble_eq_true_of_le (Nat.le_refl _)⟩)
    have hc := cost_filter (fun y => Nat.ble x y) (sc x) t (fun v hv hp => sc_mono (Nat.le_of_ble_eq_true hp))
    generalize (t.filter fun y => Nat.ble x y).length = k at hk hc
    by_cases h1 : x = 1
    · subst h1
      have : sc 1 = 1 := rfl
      rw [this, Nat.mul_one] at hc
      have : sc (1 - 1 + k) ≤ k + 1 := by unfold sc; split <;> omega
      omega
    · have e1 : sc x = x + 1 := by unfold sc; rw [if_neg (by omega)]
      have e2 : sc (x - 1 + k) = x + k := by unfold sc; rw [if_neg (by omega)]; omega
      rw [e1, Nat.mul_add, Nat.mul_one] at hc
      have : x ≤ k * x := Nat.le_mul_of_pos_left x hk
      omega
theorem sc_hiV (t : List Nat) (h : ∀ v ∈ t, 1 ≤ v) : sc (hiV t) ≤ 1 + cost t := by
  rcases List.mem_cons.mp (maxN_mem (t.map fun x => x - 1 + t.length)) with e | e
  · show sc (maxN _) ≤ _
    rw [e]
    show 1 ≤ _
    omega
  · obtain ⟨x, hx, e⟩ := List.mem_map.mp e
    show sc (maxN _) ≤ _
    rw [← e]
    have hx1 := h x hx
    have hk : 1 ≤ t.length := List.length_pos_of_mem hx
    have hc := cost_mem t hx
    have hs : sc (x - 1 + t.length) ≤ x + t.length := by unfold sc; split <;> omega
    by_cases h1 : x = 1
    · have := len_le_cost t
      subst h1
      have : sc (1 - 1 + t.length) ≤ t.length + 1 := by unfold sc; split <;> omega
      omega
    · have e1 : sc x = x + 1 := by unfold sc; rw [if_neg (by omega)]
      omega
noncomputable def valN (V : List Nat → Nat) (ch : Nat → List Nat) : Nat → Nat → Nat
  | 0, _ => 1
  | f + 1, i => V ((ch i).map (valN V ch f))
section
variable {pr : Nat → Nat} {N : Nat} {V : List Nat → Nat}
theorem ch_gt (hN : N ≤ 10) (hpr : ∀ k, 1 ≤ k → k ≤ 9 → pr k < k) {i c : Nat} (h : c ∈ chK pr N i) : i < c ∧ c < N := by
  obtain ⟨h1, h2, h3⟩ := mem_ch h
  have := hpr c h1 (by omega)
  omega
theorem valN_stable (hN : N ≤ 10) (hpr : ∀ k, 1 ≤ k → k ≤ 9 → pr k < k) : ∀ f i, i < N → N ≤ i + f → valN V (chK pr N) (f + 1) i = valN V (chK pr N) f i := by
  intro f
  induction f with
  | zero => intro i h1 h2; omega
  | succ f ih =>
    intro i h1 h2
    show V _ = V _
    congr 1
    refine List.map_congr_left (fun c hc => ?_)
    obtain ⟨g1, g2⟩ := ch_gt hN hpr hc
    exact ih c g2 (by omega)
theorem valN_eq (hN : N ≤ 10) (hpr : ∀ k, 1 ≤ k → k ≤ 9 → pr k < k) {i : Nat} (hi : i < N) : valN V (chK pr N) 10 i = V ((chK pr N i).map (valN V (chK pr N) 10)) := by
  show V _ = V _
  congr 1
  refine List.map_congr_left (fun c hc => ?_)
  obtain ⟨g1, g2⟩ := ch_gt hN hpr hc
  exact (valN_stable hN hpr 9 c g2 (by omega)).symm
end
end Mine
end
section
open PySem PySem.W PyProof.Rows PySem.Calls
set_option Elab.async false
set_option maxRecDepth 100000
set_option maxHeartbeats 8000000
set_option linter.unusedVariables false
namespace Mine
noncomputable def pmI (ch : Nat → List Nat) (i : Nat) : Array Nat := (List.range (ch i).length).toArray
noncomputable def sz (ch : Nat → List Nat) (i : Nat) : Nat := (walkI ch (pmI ch) 10 i).length
theorem ord_pmI (ch : Nat → List Nat) (i : Nat) : ordI ch (pmI ch) i = ch i := by
  unfold ordI pmI
  apply List.ext_getElem?
  intro k
  rw [List.toList_toArray, List.getElem?_map]
  by_cases hk : k < (ch i).length
  · rw [List.getElem?_range hk, List.getElem?_eq_getElem hk]
    simp [hk]
  · rw [List.getElem?_eq_none (by rw [List.length_range]; omega), List.getElem?_eq_none (by omega)]
    rfl
section
variable {pr : Nat → Nat} {N : Nat} {pm : Nat → Array Nat}
theorem pmI_ok : PmOk pr N (pmI (chK pr N)) where
  sz i hi := by unfold pmI; simp
  lt i hi q hq := by unfold pmI at hq; simpa using hq
  nd i hi := by unfold pmI; rw [List.toList_toArray]; exact List.nodup_range
theorem walk_stable (hN : N ≤ 10) (hpr : ∀ k, 1 ≤ k → k ≤ 9 → pr k < k) (hp : PmOk pr N pm) : ∀ f i, i < N → N ≤ i + f → walkI (chK pr N) pm (f + 1) i = walkI (chK pr N) pm f i := by
  intro f
  induction f with
  | zero => intro i h1 h2; omega
  | succ f ih =>
    intro i h1 h2
    rw [walkI_succ, walkI_succ]
    congr 1
    have : ∀ os : List Nat, (∀ c ∈ os, c ∈ ordI (chK pr N) pm i) → os.flatMap (walkI (chK pr N) pm (f + 1)) = os.flatMap (walkI (chK pr N) pm f) := by
      intro os
      induction os with
      | nil => intro _; rfl
      | cons c r ihr =>
        intro h
        obtain ⟨c1, c2, c3⟩ := ord_mem hp h1 (h c (.head _))
        have := hpr c c1 (by omega)
        rw [List.flatMap_cons, List.flatMap_cons, ih c c2 (by omega), ihr (fun x hx => h x (.tail _ hx))]
    exact this _ (fun c hc => hc)
theorem sz_le (hN : N ≤ 10) (hpr : ∀ k, 1 ≤ k → k ≤ 9 → pr k < k) {i : Nat} (hi : i < N) : sz (chK pr N) i ≤ N :=
  len_le_of_nodup N _ (walk_nodup hN hpr pmI_ok 10 i hi) (fun x hx => (walk_mem hN hpr pmI_ok 10 i hi x hx).1)
theorem walk_len_succ {ch : Nat → List Nat} (f i : Nat) : (walkI ch (pmI ch) (f + 1) i).length = ((ch i).map fun c => (walkI ch (pmI ch) f c).length).sum + 1 := by
  rw [walkI_succ, ord_pmI, List.length_append, List.length_singleton, List.length_flatMap]
theorem sz_eq (hN : N ≤ 10) (hpr : ∀ k, 1 ≤ k → k ≤ 9 → pr k < k) {i : Nat} (hi : i < N) : sz (chK pr N) i = ((chK pr N i).map (sz (chK pr N))).sum + 1 := by
  have h1 := walk_len_succ (ch := chK pr N) 9 i
  have h2 : (chK pr N i).map (sz (chK pr N)) = (chK pr N i).map fun c => (walkI (chK pr N) (pmI (chK pr N)) 9 c).length := by
    refine List.map_congr_left (fun c hc => ?_)
    obtain ⟨g1, g2⟩ := ch_gt hN hpr hc
    have h3 := walk_stable hN hpr (pmI_ok (pr := pr) (N := N)) 9 c g2 (by omega)
    exact congrArg List.length h3
  rw [h2]
  exact h1
theorem val_small {V : List Nat → Nat} (hV1 : ∀ t, 1 ≤ V t) (hVc : ∀ t : List Nat, (∀ v ∈ t, 1 ≤ v) → sc (V t) ≤ 1 + cost t) (hN : N ≤ 10) (hpr : ∀ k, 1 ≤ k → k ≤ 9 → pr k < k) :
    ∀ d i, i < N → N ≤ i + d → sc (valN V (chK pr N) 10 i) ≤ sz (chK pr N) i ∧ cost ((chK pr N i).map (valN V (chK pr N) 10)) ≤ 9 := by
  intro d
  induction d with
  | zero => intro i h1 h2; omega
  | succ d ih =>
    intro i h1 h2
    have hcost : ∀ l : List Nat, (∀ c ∈ l, c ∈ chK pr N i) → cost (l.map (valN V (chK pr N) 10)) ≤ (l.map (sz (chK pr N))).sum := by
      intro l
      induction l with
      | nil => intro _; exact Nat.le_refl _
      | cons c r ihr =>
        intro h
        obtain ⟨g1, g2⟩ := ch_gt hN hpr (h c (.head _))
        have e1 := (ih c g2 (by omega)).1
        have e2 := ihr (fun x hx => h x (.tail _ hx))
        show sc _ + cost _ ≤ sz _ c + List.sum _
        omega
    have h3 := hcost _ (fun c hc => hc)
    have h4 := sz_eq hN hpr h1
    have h5 := sz_le hN hpr h1
    have h6 : sc (valN V (chK pr N) 10 i) ≤ 1 + cost ((chK pr N i).map (valN V (chK pr N) 10)) := by
      rw [valN_eq hN hpr h1]
      refine hVc _ (fun v hv => ?_)
      obtain ⟨c, hc, rfl⟩ := List.mem_map.mp hv
      obtain ⟨g1, g2⟩ := ch_gt hN hpr hc
      rw [valN_eq hN hpr g2]
      exact hV1 _
    omega
theorem pkL_map {g val : Nat → Nat} : ∀ (os : List Nat) (t : Nat), (∀ c ∈ os, g c = val c) → pkL g t os = pkLv t (os.map val)
  | [], t, _ => rfl
  | c :: r, t, h => by
    show max _ _ = Nat.max _ _
    rw [pkL_map r (t + 1) (fun x hx => h x (.tail _ hx)), h c (.head _)]
theorem peak_val {val : Nat → Nat} (hN : N ≤ 10) (hpr : ∀ k, 1 ≤ k → k ≤ 9 → pr k < k) (hp : PmOk pr N pm) (hv : ∀ i, i < N → pkLv 0 ((ordI (chK pr N) pm i).map val) = val i) : ∀ f i, i < N → N ≤ i + f → peakI (chK pr N) pm f i = val i := by
  intro f
  induction f with
  | zero => intro i h1 h2; omega
  | succ f ih =>
    intro i h1 h2
    rw [← hv i h1]
    exact pkL_map _ 0 (fun c hc => by
      obtain ⟨c1, c2, c3⟩ := ord_mem hp h1 hc
      have := hpr c c1 (by omega)
      exact ih c c2 (by omega))
theorem pkL_pos {g : Nat → Nat} : ∀ (os : List Nat) (t : Nat), 1 ≤ pkL g t os
  | [], t => Nat.le_refl _
  | c :: r, t => Nat.le_trans (pkL_pos r (t + 1)) (Nat.le_max_right _ _)
theorem pkL_ge {g : Nat → Nat} : ∀ (os : List Nat) (t j d : Nat), os[j]? = some d → t + j + g d ≤ pkL g t os
  | [], t, j, d, h => by simp at h
  | c :: r, t, j, d, h => by
    show _ ≤ max _ _
    cases j with
    | zero =>
      have : c = d := by simpa using h
      subst this
      exact Nat.le_max_left _ _
    | succ j =>
      have := pkL_ge (g := g) r (t + 1) j d (by simpa using h)
      refine Nat.le_trans ?_ (Nat.le_max_right _ _)
      omega
theorem pkL_le {g : Nat → Nat} {B : Nat} (hB : 1 ≤ B) : ∀ (os : List Nat) (t : Nat), (∀ j d, os[j]? = some d → t + j + g d ≤ B) → pkL g t os ≤ B
  | [], t, _ => hB
  | c :: r, t, h => by
    show max _ _ ≤ B
    refine Nat.max_le.mpr ⟨h 0 c rfl, pkL_le hB r (t + 1) (fun j d hj => ?_)⟩
    have := h (j + 1) d (by simpa using hj)
    omega
theorem pos_of {P : Nat → Bool} : ∀ (os : List Nat) (k : Nat), (os.filter P).length = k + 1 → ∃ j d, os[j]? = some d ∧ P d = true ∧ k ≤ j
  | [], k, h => by simp at h
  | c :: r, k, h => by
    rw [List.filter_cons] at h
    by_cases hp : P c = true
    · rw [if_pos hp, List.length_cons] at h
      cases k with
      | zero => exact ⟨0, c, rfl, hp, Nat.le_refl _⟩
      | succ k =>
        obtain ⟨j, d, h1, h2, h3⟩ := pos_of (P := P) r k (by omega)
        exact ⟨j + 1, d, by simpa using h1, h2, by omega⟩
    · rw [if_neg hp] at h
      obtain ⟨j, d, h1, h2, h3⟩ := pos_of (P := P) r k h
      exact ⟨j + 1, d, by simpa using h1, h2, by omega⟩
theorem sub_len : ∀ (a b : List Nat), a.Nodup → (∀ x ∈ a, x ∈ b) → a.length ≤ b.length
  | [], b, _, _ => Nat.zero_le _
  | x :: r, b, hn, h => by
    rw [List.nodup_cons] at hn
    have h1 := h x (.head _)
    have h2 := sub_len r (b.erase x) hn.2 (fun y hy => by
      have hne : y ≠ x := fun e => hn.1 (e ▸ hy)
      exact (List.mem_erase_of_ne hne).mpr (h y (.tail _ hy)))
    rw [List.length_erase_of_mem h1] at h2
    have := List.length_pos_of_mem h1
    rw [List.length_cons]; omega
theorem ord_perm (hp : PmOk pr N pm) {i : Nat} (hi : i < N) : (ordI (chK pr N) pm i).Perm (chK pr N i) := by
  have hnd := ord_nodup hp hi
  have hsub : ∀ x ∈ ordI (chK pr N) pm i, x ∈ chK pr N i := fun x hx => by
    obtain ⟨c1, c2, c3⟩ := ord_mem hp hi hx
    unfold chK
    exact List.mem_filter.mpr ⟨List.mem_range.mpr c2, by simp [c1, c3]⟩
  rw [List.perm_ext_iff_of_nodup hnd (ch_nodup i)]
  intro x
  refine ⟨hsub x, fun hx => ?_⟩
  by_cases hm : x ∈ ordI (chK pr N) pm i
  · exact hm
  · have := sub_len (x :: ordI (chK pr N) pm i) (chK pr N i) (List.nodup_cons.mpr ⟨hm, hnd⟩) (fun y hy => by
      rcases List.mem_cons.mp hy with rfl | hy
      · exact hx
      · exact hsub y hy)
    rw [List.length_cons, ord_len hp hi] at this
    omega
end
end Mine
end
section
open PySem PySem.W PyProof.Rows PySem.Calls
set_option Elab.async false
set_option maxRecDepth 100000
set_option maxHeartbeats 8000000
set_option linter.unusedVariables false
namespace Mine
theorem nodup_of : ∀ l : List Nat, nodupB l = true → l.Nodup
  | [], _ => List.nodup_nil
  | a :: l, h => by
    unfold nodupB at h
    rw [Bool.and_eq_true, Bool.not_eq_true'] at h
    refine List.nodup_cons.mpr ⟨fun hm => ?_, nodup_of l h.2⟩
    have : l.any (fun b => Nat.beq a b) = true := List.any_eq_true.mpr ⟨a, hm, Nat.beq_refl a⟩
    rw [this] at h
    cases h.1
theorem permB_of {n : Nat} {p : Array Nat} (h : permB n p = true) : p.size = n ∧ (∀ q ∈ p.toList, q < n) ∧ p.toList.Nodup := by
  unfold permB at h
  rw [Bool.and_eq_true, Bool.and_eq_true] at h
  refine ⟨Nat.eq_of_beq_eq_true h.1.1, fun q hq => ?_, nodup_of _ h.2⟩
  have := List.all_eq_true.mp h.1.2 q hq
  exact Nat.le_of_ble_eq_true this
theorem sort_of {n : Nat} {c : Nat → Nat → Bool} {p : Array Nat} (h : permOf n c = some p) (hs : p.size = n) : SortOk n c p := by
  refine ⟨hs, ?_⟩
  unfold permOf at h
  split at h
  · rename_i hn
    rw [if_pos hn]
    exact (Option.some.inj h).symm
  · rename_i hn
    rw [if_neg hn]
    exact h
noncomputable def pmOf (ch : Nat → List Nat) (ci : Nat → Nat → Int) (i : Nat) : Array Nat := (permOf (ch i).length (fun a b => decide (ci ((ch i).getD a 0) ((ch i).getD b 0) < 0))).getD #[]
theorem getD_map {g : Nat → Nat} {l : List Nat} {a : Nat} (h : a < l.length) : (l.map g).getD a 0 = g (l.getD a 0) := by
  rw [List.getD_eq_getElem?_getD, List.getD_eq_getElem?_getD, List.getElem?_map, List.getElem?_eq_getElem h]
  rfl
section
variable {pr : Nat → Nat} {N : Nat} {pm : Nat → Array Nat}
theorem pm_ok {ci : Nat → Nat → Int} (h : ∀ i, i < N → ∃ p, permOf (chK pr N i).length (fun a b => decide (ci ((chK pr N i).getD a 0) ((chK pr N i).getD b 0) < 0)) = some p ∧ permB (chK pr N i).length p = true) :
    PmOk pr N (pmOf (chK pr N) ci) ∧ ∀ i, i < N → SortOk (chK pr N i).length (fun a b => decide (ci ((chK pr N i).getD a 0) ((chK pr N i).getD b 0) < 0)) (pmOf (chK pr N) ci i) := by
  have key : ∀ i, i < N → (pmOf (chK pr N) ci i).size = (chK pr N i).length ∧ (∀ q ∈ (pmOf (chK pr N) ci i).toList, q < (chK pr N i).length) ∧ (pmOf (chK pr N) ci i).toList.Nodup ∧ SortOk (chK pr N i).length (fun a b => decide (ci ((chK pr N i).getD a 0) ((chK pr N i).getD b 0) < 0)) (pmOf (chK pr N) ci i) := by
    intro i hi
    obtain ⟨p, hp1, hp2⟩ := h i hi
    obtain ⟨b1, b2, b3⟩ := permB_of hp2
    have e : pmOf (chK pr N) ci i = p := by unfold pmOf; rw [hp1]; rfl
    rw [e]
    exact ⟨b1, b2, b3, sort_of hp1 b1⟩
  exact ⟨⟨fun i hi => (key i hi).1, fun i hi => (key i hi).2.1, fun i hi => (key i hi).2.2.1⟩, fun i hi => (key i hi).2.2.2⟩
theorem loV_pos (t : List Nat) : 1 ≤ loV t := maxN_pos _
theorem hiV_pos (t : List Nat) : 1 ≤ hiV t := maxN_pos _
theorem val_pos {V : List Nat → Nat} (hV : ∀ t, 1 ≤ V t) (ch : Nat → List Nat) (i : Nat) : 1 ≤ valN V ch 10 i := hV _
theorem small_mem {V : List Nat → Nat} (hV1 : ∀ t, 1 ≤ V t) (hVc : ∀ t : List Nat, (∀ v ∈ t, 1 ≤ v) → sc (V t) ≤ 1 + cost t) (hN : N ≤ 10) (hpr : ∀ k, 1 ≤ k → k ≤ 9 → pr k < k) {i : Nat} (hi : i < N) : (chK pr N i).map (valN V (chK pr N) 10) ∈ tup 9 9 := by
  have h := (val_small hV1 hVc hN hpr 10 i hi (by omega)).2
  refine tup_mem 9 9 _ (fun v hv => ?_) h (Nat.le_trans (len_le_cost _) h)
  obtain ⟨c, -, rfl⟩ := List.mem_map.mp hv
  exact val_pos hV1 _ c
theorem blt_int (x y : Nat) : Nat.blt x y = decide ((x : Int) - (y : Int) < 0) := by
  rw [Bool.eq_iff_iff, decide_eq_true_eq]
  constructor
  · intro h; have : x < y := Nat.le_of_ble_eq_true h; omega
  · intro h; exact Nat.ble_eq_true_of_le (by omega : x + 1 ≤ y)
theorem lo_perm (hN : N ≤ 10) (hpr : ∀ k, 1 ≤ k → k ≤ 9 → pr k < k) : ∀ i, i < N → ∃ p, permOf (chK pr N i).length (fun a b => decide (((valN loV (chK pr N) 10 ((chK pr N i).getD b 0) : Nat) : Int) - (valN loV (chK pr N) 10 ((chK pr N i).getD a 0) : Nat) < 0)) = some p ∧ permB (chK pr N i).length p = true ∧
     pkLv 0 (p.toList.map fun q => valN loV (chK pr N) 10 ((chK pr N i).getD q 0)) = valN loV (chK pr N) 10 i := by
  intro i hi
  have h := List.all_eq_true.mp lo_all _ (small_mem loV_pos sc_loV hN hpr hi)
  unfold checkLo at h
  rw [List.length_map] at h
  rw [show permOf (chK pr N i).length (fun a b => decide (((valN loV (chK pr N) 10 ((chK pr N i).getD b 0) : Nat) : Int) - (valN loV (chK pr N) 10 ((chK pr N i).getD a 0) : Nat) < 0)) = permOf (chK pr N i).length (fun a b => Nat.blt (((chK pr N i).map (valN loV (chK pr N) 10)).getD b 0) (((chK pr N i).map (valN loV (chK pr N) 10)).getD a 0)) from
    permOf_congr (fun a b ha hb => by rw [getD_map ha, getD_map hb, blt_int])]
  split at h
  · cases h
  · rename_i p hp
    rw [Bool.and_eq_true] at h
    refine ⟨p, hp, h.1, ?_⟩
    have e := Nat.eq_of_beq_eq_true h.2
    rw [valN_eq hN hpr hi, ← e]
    congr 1
    refine List.map_congr_left (fun q hq => ?_)
    rw [getD_map ((permB_of h.1).2.1 q hq)]
theorem hi_perm (hN : N ≤ 10) (hpr : ∀ k, 1 ≤ k → k ≤ 9 → pr k < k) : ∀ i, i < N → ∃ p, permOf (chK pr N i).length (fun a b => decide (((valN hiV (chK pr N) 10 ((chK pr N i).getD a 0) : Nat) : Int) - (valN hiV (chK pr N) 10 ((chK pr N i).getD b 0) : Nat) < 0)) = some p ∧ permB (chK pr N i).length p = true ∧
     pkLv 0 (p.toList.map fun q => valN hiV (chK pr N) 10 ((chK pr N i).getD q 0)) = valN hiV (chK pr N) 10 i := by
  intro i hi
  have h := List.all_eq_true.mp hi_all _ (small_mem hiV_pos sc_hiV hN hpr hi)
  unfold checkHi at h
  rw [List.length_map] at h
  rw [show permOf (chK pr N i).length (fun a b => decide (((valN hiV (chK pr N) 10 ((chK pr N i).getD a 0) : Nat) : Int) - (valN hiV (chK pr N) 10 ((chK pr N i).getD b 0) : Nat) < 0)) = permOf (chK pr N i).length (fun a b => Nat.blt (((chK pr N i).map (valN hiV (chK pr N) 10)).getD a 0) (((chK pr N i).map (valN hiV (chK pr N) 10)).getD b 0)) from
    permOf_congr (fun a b ha hb => by rw [getD_map ha, getD_map hb, blt_int])]
  split at h
  · cases h
  · rename_i p hp
    rw [Bool.and_eq_true] at h
    refine ⟨p, hp, h.1, ?_⟩
    have e := Nat.eq_of_beq_eq_true h.2
    rw [valN_eq hN hpr hi, ← e]
    congr 1
    refine List.map_congr_left (fun q hq => ?_)
    rw [getD_map ((permB_of h.1).2.1 q hq)]
theorem ch_len (hN : N ≤ 10) (i : Nat) (hi : i < N) : (chK pr N i).length ≤ 9 := by
  have h1 : (chK pr N i).length ≤ ((List.range N).erase 0).length := sub_len _ _ (ch_nodup i) (fun x hx => by
    obtain ⟨c1, c2, c3⟩ := mem_ch hx
    exact (List.mem_erase_of_ne (by omega)).mpr (List.mem_range.mpr c2))
  rw [List.length_erase_of_mem (List.mem_range.mpr (by omega)), List.length_range] at h1
  omega
theorem z_perm (hN : N ≤ 10) : ∀ i, i < N → ∃ p, permOf (chK pr N i).length (fun a b => decide ((0 : Int) < 0)) = some p ∧ permB (chK pr N i).length p = true := by
  intro i hi
  have h := List.all_eq_true.mp z_all (chK pr N i).length (List.mem_range.mpr (Nat.lt_succ_of_le (ch_len hN i hi)))
  unfold checkZ at h
  split at h
  · cases h
  · rename_i p hp
    exact ⟨p, hp, h⟩
theorem ord_map {ci : Nat → Nat → Int} {g : Nat → Nat} {i : Nat} {p : Array Nat} (h : permOf (chK pr N i).length (fun a b => decide (ci ((chK pr N i).getD a 0) ((chK pr N i).getD b 0) < 0)) = some p) : (ordI (chK pr N) (pmOf (chK pr N) ci) i).map g = p.toList.map fun q => g ((chK pr N i).getD q 0) := by
  unfold ordI pmOf
  rw [h, List.map_map]
  rfl
theorem bounds (hN : N ≤ 10) (hpr : ∀ k, 1 ≤ k → k ≤ 9 → pr k < k) (hp : PmOk pr N pm) : ∀ f i, i < N → N ≤ i + f → valN loV (chK pr N) 10 i ≤ peakI (chK pr N) pm f i ∧ peakI (chK pr N) pm f i ≤ valN hiV (chK pr N) 10 i := by
  intro f
  induction f with
  | zero => intro i h1 h2; omega
  | succ f ih =>
    intro i h1 h2
    have ihc : ∀ c ∈ ordI (chK pr N) pm i, valN loV (chK pr N) 10 c ≤ peakI (chK pr N) pm f c ∧ peakI (chK pr N) pm f c ≤ valN hiV (chK pr N) 10 c := fun c hc => by
      obtain ⟨c1, c2, c3⟩ := ord_mem hp h1 hc
      have := hpr c c1 (by omega)
      exact ih c c2 (by omega)
    show _ ≤ pkL _ 0 _ ∧ pkL _ 0 _ ≤ _
    constructor
    · rw [valN_eq hN hpr h1]
      rcases List.mem_cons.mp (maxN_mem (((chK pr N i).map (valN loV (chK pr N) 10)).map fun x => x - 1 + (((chK pr N i).map (valN loV (chK pr N) 10)).filter fun y => Nat.ble x y).length)) with e | e
      · show maxN _ ≤ _
        rw [e]
        exact pkL_pos _ _
      · obtain ⟨x, hx, e⟩ := List.mem_map.mp e
        show maxN _ ≤ _
        rw [← e]
        obtain ⟨c, hc, rfl⟩ := List.mem_map.mp hx
        have hk1 : (((chK pr N i).map (valN loV (chK pr N) 10)).filter fun y => Nat.ble (valN loV (chK pr N) 10 c) y).length = ((ordI (chK pr N) pm i).filter fun d => Nat.ble (valN loV (chK pr N) 10 c) (valN loV (chK pr N) 10 d)).length := by
          rw [List.filter_map, List.length_map]
          exact ((ord_perm hp h1).filter _).length_eq.symm
        rw [hk1]
        have hco : c ∈ ordI (chK pr N) pm i := (ord_perm hp h1).mem_iff.mpr hc
        have hpos : 1 ≤ ((ordI (chK pr N) pm i).filter fun d => Nat.ble (valN loV (chK pr N) 10 c) (valN loV (chK pr N) 10 d)).length := List.length_pos_of_mem (List.mem_filter.mpr ⟨hco, Nat.ble_eq_true_of_le (Nat.le_refl _)⟩)
        obtain ⟨j, d, j1, j2, j3⟩ := pos_of (P := fun d => Nat.ble (valN loV (chK pr N) 10 c) (valN loV (chK pr N) 10 d)) (ordI (chK pr N) pm i) (((ordI (chK pr N) pm i).filter fun d => Nat.ble (valN loV (chK pr N) 10 c) (valN loV (chK pr N) 10 d)).length - 1) (by omega)
        have h4 := pkL_ge (g := peakI (chK pr N) pm f) (ordI (chK pr N) pm i) 0 j d j1
        have h5 := (ihc d (List.mem_of_getElem? j1)).1
        have h6 : valN loV (chK pr N) 10 c ≤ valN loV (chK pr N) 10 d := Nat.le_of_ble_eq_true j2
        have h7 := val_pos loV_pos (chK pr N) c
        omega
    · refine pkL_le (val_pos hiV_pos _ _) _ 0 (fun j d hj => ?_)
      have hdm := List.mem_of_getElem? hj
      have h5 := (ihc d hdm).2
      have hjl := (List.getElem?_eq_some_iff.mp hj).1
      rw [ord_len hp h1] at hjl
      have hdc : d ∈ chK pr N i := (ord_perm hp h1).mem_iff.mp hdm
      have h7 := val_pos hiV_pos (chK pr N) d
      have h8 : valN hiV (chK pr N) 10 d - 1 + ((chK pr N i).map (valN hiV (chK pr N) 10)).length ≤ hiV ((chK pr N i).map (valN hiV (chK pr N) 10)) :=
        maxN_ge (.tail _ (List.mem_map.mpr ⟨_, List.mem_map.mpr ⟨d, hdc, rfl⟩, rfl⟩))
      rw [List.length_map, ← valN_eq (V := hiV) hN hpr h1] at h8
      omega
end
end Mine
end
section
open PySem PySem.W PyProof.Rows PySem.Calls
set_option Elab.async false
set_option maxRecDepth 100000
set_option maxHeartbeats 8000000
set_option linter.unusedVariables false
namespace Mine
theorem prl_lt (ns : List Int) : ∀ k, 1 ≤ k → k ≤ 9 → prL (psOf ns) k < k := by
  intro k h1 h2
  by_cases hk : k - 1 < (xsOf ns).length
  · have h := psOf_at (ns := ns) (i := k - 1) (x := (xsOf ns)[k - 1]) (List.getElem?_eq_getElem hk)
    rw [show k - 1 + 1 = k by omega] at h
    have h3 := Int.fmod_lt_of_pos (xsOf ns)[k - 1] (show (0 : Int) < (k : Int) by omega)
    omega
  · unfold prL
    rw [List.getD_eq_getElem?_getD, List.getElem?_eq_none (by rw [psOf_len]; omega)]
    show 0 < k
    omega
section
variable {ps : List Nat} {pm : Nat → Array Nat}
theorem join_pb (hpr : ∀ k, 1 ≤ k → k ≤ 9 → prL ps k < k) {j : Nat} (hj : j ≤ 9) : joinS (paL ps j) (baseS (nmL ps j)) = nmL ps j := by
  show joinS (dirS (nmP (prL ps) j)) (baseS (nmP (prL ps) j)) = nmP (prL ps) j
  by_cases h0 : j = 0
  · subst h0
    rw [nm_end0.1, nm_end0.2]
    show joinS _ _ = nameOf []
    decide +kernel
  · obtain ⟨e1, e2⟩ := nm_end hpr (k := j) (by omega) hj
    rw [e1, e2]
    exact nm_jn hpr (by omega) hj
theorem okw_of (h9 : ps.length ≤ 9) (hpr : ∀ k, 1 ≤ k → k ≤ 9 → prL ps k < k) (hp : PmOk (prL ps) (ps.length + 1) pm) : OkW ps (walkI (trL ps).ch pm 10 0) := by
  have hN : ps.length + 1 ≤ 10 := by omega
  obtain ⟨h1, -⟩ := walk_ok hN (Nat.succ_pos _) hpr hp
  intro k i hk
  have hc : CondI (prL ps) (ps.length + 1) ([] ++ (walkI (trL ps).ch pm 10 0).take k) i := h1 k i hk
  rw [List.nil_append] at hc
  have ht : (walkI (trL ps).ch pm 10 0).take (k + 1) = (walkI (trL ps).ch pm 10 0).take k ++ [i] := by rw [List.take_add_one, hk]; rfl
  have hlt : ∀ j ∈ (walkI (trL ps).ch pm 10 0).take (k + 1), j ≤ 9 := fun j hj => by
    have := (walk_mem hN hpr hp 10 0 (Nat.succ_pos _) j (List.mem_of_mem_take hj)).1
    omega
  have hi9 : i ≤ 9 := hlt i (by rw [ht]; exact List.mem_append_right _ (.head _))
  have hst : pkStI (trL ps).ch ((walkI (trL ps).ch pm 10 0).take (k + 1)) = ((walkI (trL ps).ch pm 10 0).take (k + 1)).filter (dueP (prL ps) i) := by rw [ht]; exact hc.2
  refine ⟨hc.1, ?_, ?_⟩
  · rw [hst]
    refine Nat.le_trans (List.length_filter_le _ _) (Nat.le_trans (List.length_take_le' _ _) (walk_len hN hpr hp 10 0 (Nat.succ_pos _)))
  · rw [hst]
    have e1 : ((walkI (trL ps).ch pm 10 0).take (k + 1)).filter (dueI (trL ps).nm (paL ps) i) = ((walkI (trL ps).ch pm 10 0).take (k + 1)).filter (dueP (prL ps) i) :=
      List.filter_congr (fun j hj => due_eq hpr hi9 (hlt j hj))
    rw [e1]
    refine List.map_congr_left (fun j hj => ?_)
    exact join_pb hpr (hlt j (List.mem_filter.mp hj).1)
theorem walk_of {ci : Nat → Nat → Int} (h9 : ps.length ≤ 9) (hpr : ∀ k, 1 ≤ k → k ≤ 9 → prL ps k < k) (hp : PmOk (prL ps) (ps.length + 1) pm) (hs : ∀ i, i < ps.length + 1 → SortOk (chK (prL ps) (ps.length + 1) i).length (fun a b => decide (ci ((chK (prL ps) (ps.length + 1) i).getD a 0) ((chK (prL ps) (ps.length + 1) i).getD b 0) < 0)) (pm i)) : WalkOk ps pm ci where
  sort := hs
  pr := hp.lt
  wl f _ i hi := walk_len (by omega) hpr hp f i hi
  win i hi := (walk_mem (show ps.length + 1 ≤ 10 by omega) hpr hp 10 0 (Nat.succ_pos _) i hi).1
  ok := okw_of h9 hpr hp
theorem vals_int {V : List Nat → Nat} {i : Nat} {f : List Nat → Nat → Nat} {F : Nat → Int} {v : Nat → Nat} (ch : List Nat) (hV : v i = maxN ((ch.map v).map (f (ch.map v)))) (hF : ∀ c ∈ ch, F c = ((f (ch.map v) (v c) : Nat) : Int)) :
    ∀ M, M ∈ 1 :: ch.map F → (∀ a ∈ 1 :: ch.map F, a ≤ M) → M = (v i : Int) := by
  have e : ch.map F = ((ch.map v).map (f (ch.map v))).map fun (n : Nat) => (n : Int) := by
    rw [List.map_map, List.map_map]
    exact List.map_congr_left (fun c hc => hF c hc)
  intro M h1 h2
  rw [e] at h1 h2
  have e2 : (1 : Int) :: ((ch.map v).map (f (ch.map v))).map (fun (n : Nat) => (n : Int)) = (1 :: (ch.map v).map (f (ch.map v))).map fun (n : Nat) => (n : Int) := rfl
  rw [e2] at h1 h2
  obtain ⟨a, ha, rfl⟩ := List.mem_map.mp h1
  have g1 : a ≤ v i := by rw [hV]; exact maxN_ge ha
  have g2 := h2 _ (List.mem_map.mpr ⟨_, maxN_mem ((ch.map v).map (f (ch.map v))), rfl⟩)
  rw [← hV] at g2
  omega
end
theorem good_all (ns : List Int) : ∃ lo hi pm1 pm2 pm3, Good (psOf ns) lo hi pm1 pm2 pm3 := by
  have hpr := prl_lt ns
  have h4 : 4 ≤ (psOf ns).length := by rw [psOf_len]; exact (xsOf_len ns).1
  have h9 : (psOf ns).length ≤ 9 := by rw [psOf_len]; exact (xsOf_len ns).2
  generalize psOf ns = ps at hpr h4 h9
  have hN : ps.length + 1 ≤ 10 := by omega
  have h0 : 0 < ps.length + 1 := Nat.succ_pos _
  obtain ⟨p1, s1⟩ := pm_ok (ci := fun i j => ((valN loV (chK (prL ps) (ps.length + 1)) 10 j : Nat) : Int) - (valN loV (chK (prL ps) (ps.length + 1)) 10 i : Nat)) (fun i hi => by obtain ⟨p, a, b, c⟩ := lo_perm hN hpr i hi; exact ⟨p, a, b⟩)
  obtain ⟨p2, s2⟩ := pm_ok (ci := fun i j => ((valN hiV (chK (prL ps) (ps.length + 1)) 10 i : Nat) : Int) - (valN hiV (chK (prL ps) (ps.length + 1)) 10 j : Nat)) (fun i hi => by obtain ⟨p, a, b, c⟩ := hi_perm hN hpr i hi; exact ⟨p, a, b⟩)
  obtain ⟨p3, s3⟩ := pm_ok (pr := prL ps) (N := ps.length + 1) (ci := fun _ _ => 0) (fun i hi => z_perm hN i hi)
  have k1 := (walk_ok hN h0 hpr p1).2
  have k2 := (walk_ok hN h0 hpr p2).2
  have k3 := (walk_ok hN h0 hpr p3).2
  have v1 := peak_val (val := valN loV (chK (prL ps) (ps.length + 1)) 10) hN hpr p1 (fun i hi => by obtain ⟨p, a, b, c⟩ := lo_perm hN hpr i hi; exact (congrArg (pkLv 0) (ord_map (ci := fun i j => ((valN loV (chK (prL ps) (ps.length + 1)) 10 j : Nat) : Int) - (valN loV (chK (prL ps) (ps.length + 1)) 10 i : Nat)) a)).trans c) 10 0 h0 (by omega)
  have v2 := peak_val (val := valN hiV (chK (prL ps) (ps.length + 1)) 10) hN hpr p2 (fun i hi => by obtain ⟨p, a, b, c⟩ := hi_perm hN hpr i hi; exact (congrArg (pkLv 0) (ord_map (ci := fun i j => ((valN hiV (chK (prL ps) (ps.length + 1)) 10 i : Nat) : Int) - (valN hiV (chK (prL ps) (ps.length + 1)) 10 j : Nat)) a)).trans c) 10 0 h0 (by omega)
  have v3 := bounds hN hpr p3 10 0 h0 (by omega)
  have q1 : peakOf ps (pmOf (chK (prL ps) (ps.length + 1)) (fun i j => ((valN loV (chK (prL ps) (ps.length + 1)) 10 j : Nat) : Int) - (valN loV (chK (prL ps) (ps.length + 1)) 10 i : Nat))) = valN loV (chK (prL ps) (ps.length + 1)) 10 0 := k1.trans v1
  have q2 : peakOf ps (pmOf (chK (prL ps) (ps.length + 1)) (fun i j => ((valN hiV (chK (prL ps) (ps.length + 1)) 10 i : Nat) : Int) - (valN hiV (chK (prL ps) (ps.length + 1)) 10 j : Nat))) = valN hiV (chK (prL ps) (ps.length + 1)) 10 0 := k2.trans v2
  have q3 : peakOf ps (pmOf (chK (prL ps) (ps.length + 1)) (fun _ _ => 0)) = peakI (chK (prL ps) (ps.length + 1)) (pmOf (chK (prL ps) (ps.length + 1)) (fun _ _ => 0)) 10 0 := k3
  have nmf : ∀ i, i ≤ 9 → (nmL ps i).length ≤ 100 ∧ (nmL ps i).length ≠ 0 ∧ Txt.startswith (nmL ps i) (Str.ofString "/") = true ∧ (Txt.split (nmL ps i) (Str.ofString "/")).length ≤ 200 := fun i hi => by
    obtain ⟨a, b, c, d⟩ := nm_facts hpr hi
    have hl := path_len hpr hi
    have d' : Txt.split (nmL ps i) (Str.ofString "/") = Str.ofString "" :: compsOf (pathK (prL ps) i) := d
    have a' : (nmL ps i).length = 2 + 2 * (pathK (prL ps) i).length := a
    refine ⟨by omega, by omega, b, ?_⟩
    rw [d']
    unfold compsOf
    rw [List.length_cons, List.length_cons, List.length_map]
    omega
  refine ⟨fun i => (valN loV (chK (prL ps) (ps.length + 1)) 10 i : Nat), fun i => (valN hiV (chK (prL ps) (ps.length + 1)) 10 i : Nat),
    pmOf (chK (prL ps) (ps.length + 1)) (fun i j => ((valN loV (chK (prL ps) (ps.length + 1)) 10 j : Nat) : Int) - (valN loV (chK (prL ps) (ps.length + 1)) 10 i : Nat)),
    pmOf (chK (prL ps) (ps.length + 1)) (fun i j => ((valN hiV (chK (prL ps) (ps.length + 1)) 10 i : Nat) : Int) - (valN hiV (chK (prL ps) (ps.length + 1)) 10 j : Nat)),
    pmOf (chK (prL ps) (ps.length + 1)) (fun _ _ => 0), ?_⟩
  refine { len4 := h4, len9 := h9, prlt := hpr, inj := fun i j hi hj h => nm_inj hpr hi hj h, jn := fun k h1 h2 => nm_jn hpr h1 h2, dn := fun k h1 h2 => (nm_end hpr h1 h2).1, root := ?root, hlo := ?hlo, hhi := ?hhi, ch := fun i hi j hj => ch_gt hN hpr hj, cl := fun i hi => ch_len hN i hi, nm := nmf, pa := ?pa, ba := ?ba, w1 := walk_of h9 hpr p1 s1, w2 := walk_of h9 hpr p2 s2, w3 := walk_of h9 hpr p3 s3, r1 := ?r1, r2 := ?r2, r3 := ?r3, r4 := ?r4 }
  case root => rfl
  case hlo =>
    intro i hi
    refine vals_int (V := loV) (v := valN loV (chK (prL ps) (ps.length + 1)) 10) (f := fun t x => x - 1 + (t.filter fun y => Nat.ble x y).length) _ (valN_eq hN hpr hi) (fun c hc => ?_)
    have hp := val_pos loV_pos (chK (prL ps) (ps.length + 1)) c
    rw [List.filter_map, List.length_map]
    have e : ((trL ps).ch i).filter (fun d => decide (((valN loV (chK (prL ps) (ps.length + 1)) 10 d : Nat) : Int) ≥ (valN loV (chK (prL ps) (ps.length + 1)) 10 c : Nat))) = (chK (prL ps) (ps.length + 1) i).filter ((fun y => Nat.ble (valN loV (chK (prL ps) (ps.length + 1)) 10 c) y) ∘ valN loV (chK (prL ps) (ps.length + 1)) 10) := by
      refine List.filter_congr (fun d _ => ?_)
      rw [Bool.eq_iff_iff, decide_eq_true_eq]
      constructor
      · intro h; exact Nat.ble_eq_true_of_le (by omega)
      · intro h; have := Nat.le_of_ble_eq_true h; omega
    have ee : (trL ps).ch i = chK (prL ps) (ps.length + 1) i := rfl
    rw [e, ee]
    omega
  case hhi =>
    intro i hi
    refine vals_int (V := hiV) (v := valN hiV (chK (prL ps) (ps.length + 1)) 10) (f := fun t x => x - 1 + t.length) _ (valN_eq hN hpr hi) (fun c hc => ?_)
    have hp := val_pos hiV_pos (chK (prL ps) (ps.length + 1)) c
    rw [List.length_map]
    have ee : (trL ps).ch i = chK (prL ps) (ps.length + 1) i := rfl
    rw [ee]
    show _ - 1 + (((chK (prL ps) (ps.length + 1) i).length : Nat) : Int) = _
    omega
  case pa =>
    intro i hi
    by_cases h : i = 0
    · subst h
      have e : paL ps 0 = Str.ofString "/" := nm_end0.1
      rw [e]
      decide +kernel
    · have e : paL ps i = nmL ps (prL ps i) := (nm_end hpr (k := i) (by omega) hi).1
      have := hpr i (by omega) hi
      rw [e]
      exact nmf _ (by omega)
  case ba =>
    intro i hi
    by_cases h : i = 0
    · subst h
      have e : baseS (nmL ps 0) = Str.ofString "t" := nm_end0.2
      rw [e]
      decide +kernel
    · have e : baseS (nmL ps i) = chrS i := (nm_end hpr (k := i) (by omega) hi).2
      rw [e]
      exact ⟨chrS_len i, chrS_slash i (by omega) hi⟩
  case r1 => exact congrArg (fun n : Nat => (n : Int)) q1
  case r2 => exact congrArg (fun n : Nat => (n : Int)) q2
  case r3 => exact Int.ofNat_le.mpr (Nat.le_trans (Nat.le_of_eq q1) (Nat.le_trans v3.1 (Nat.le_of_eq q3.symm)))
  case r4 => exact Int.ofNat_le.mpr (Nat.le_trans (Nat.le_of_eq q3) (Nat.le_trans v3.2 (Nat.le_of_eq q2.symm)))
end Mine
end
section
open PySem PySem.W PyProof.Rows PySem.Calls
set_option Elab.async false
set_option maxRecDepth 100000
set_option maxHeartbeats 8000000
set_option linter.unusedVariables false
namespace Mine
section
theorem fresh_TP : True ∧ True := by
  w_top off
  exact ⟨trivial, trivial⟩
end
theorem top : PySem.Challenge.rw_il0172_01.Holds := by
  w_on
  refine holds_law said0 fun said => ?_
  refine holds_open (q := view0) (loose := [Str.ofString "_Accumulator"]) (Xt := fun s => xlAt view0 [] s && recOk (RowW.records rw0.row.toRowW) s) (XP := XL view0 []) (Yf := (kmHook hd.heap_39 as0 as0_ok [106, 238]).obs) (Ya := (kmHook hd.heap_39 as0 as0_ok [106, 238]).val) (YP := (kmHook hd.heap_39 as0 as0_ok [106, 238]).says) (N := 3188) left0 (kmHook hd.heap_39 as0 as0_ok [106, 238]).of (kmHook hd.heap_39 as0 as0_ok [106, 238]).keeps (fun s e => xl_of s (Bool.and_eq_true_iff.mp e).1) XL.keeps (by rfl) (by rfl) (by rfl) (fun s e => recFacts_of (Bool.and_eq_true_iff.mp e).2) (by rfl) said (by decide +kernel) ⟨rfl, rfl, rfl, rfl, rfl, by decide +kernel⟩ ?hw ?hc
  case hw => w_witness2
  k_go0
  refine' (show ∀ {w : World} {s : Shared} {Lx fa : Addr} {Q : Flow → Shared → Prop} {E : Value → Shared → Prop}, wpAny (model PySem.Challenge.rw_il0172_01.row.prog w) (ktrTop (1 + claimMargin + 1) (4 + 3) (some []) (Str.ofString "law") lawSC Lx fa (.ref 240) (cellsFrom (Lx + 1) lawSC.names []) []) (execs lawB (envOfC (Str.ofString "law") lawSC Lx fa (.ref 240))) Q E s → wpAny (model PySem.Challenge.rw_il0172_01.row.prog w) (callerA.deeper (envOfC (Str.ofString "law") lawSC Lx fa (.ref 240))) (execs lawB (envOfC (Str.ofString "law") lawSC Lx fa (.ref 240))) Q E s from fun h => h) ?_
  rename IntsAre _ _ => hIA
  rename CodeHd _ (110, 106).1 _ => hC1
  rename CodeHd _ (240, 238).1 _ => hC2
  rename Heap.IsList (ghostOf _ _) _ _ => hLs
  rename News _ _ _ _ => hNN
  rename Fr _ _ _ _ => hFF
  rename (106 : Nat) < _ ∧ _ => hl0
  refine law_main (sc := _) (sv := _) (ns := _) (by assumption) hFF (by assumption) hNN (by assumption) ?hd ?hu rfl ?hE ?hm hLs hIA ?hl hl0.2 hC1 hC2 rfl (by assumption) (by assumption) (by assumption) (by assumption) (good_all _) ?hret
  case hd => decide
  case hu => decide
  case hE => passes_own
  case hm => rfl
  case hl => omega
  case hret =>
    intro h9 tk9 m9 F9 G1 G2
    refine ⟨?_, G1, G2, trivial⟩
    dsimp only
    k_steps
end Mine
end
open PySem PySem.W PyProof.Rows
set_option maxRecDepth 100000 in
set_option maxHeartbeats 8000000 in
theorem PySem.Challenge.cw_il0172_01_holds : PySem.Challenge.rw_il0172_01.Holds := by
  exact Mine.top
