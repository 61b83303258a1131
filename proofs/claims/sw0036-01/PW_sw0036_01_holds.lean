import PyProof.Rows.All
import Wide.All
import OpenK.AllK
import Wide.FinOn
import PySem.Challenge.RW_sw0036_01
open PySem PySem.W PySem.Spec PySem.Calls PyProof.Rows
set_option Elab.async false
set_option maxRecDepth 100000
set_option compiler.extract_closed false
namespace Mine
/-- the program's top statements by place; a function's object by its statement -/
noncomputable def nthS : List Stmt → Nat → Stmt
  | [], _ => .Pass ⟨0, 0, 0, 0⟩
  | s :: _, 0 => s
  | _ :: r, n + 1 => nthS r n
noncomputable def clsS : Stmt → List Stmt
  | .ClassDef _ _ _ body _ _ _ _ _ _ _ => body
  | _ => []
noncomputable abbrev topS : List Stmt := PySem.Challenge.pw_sw0036_01.main.body
noncomputable def fnO (st : Stmt) (q : Str) (dV kV md : Value) (code : Addr) : Obj := match st with
  | .FunctionDef name args body _ _ _ scope _ _ _ => { cls := .type "function", data := .func { name := name, qualname := q, params := args, body := .stmts body, scope := scope, globals := 3, closure := [], defaults := dV, kwdefaults := kV, pyModule := md, code := .ref code } }
  | _ => default
noncomputable def fnD (st : Stmt) : DefRec := match st with
  | .FunctionDef name args body _ _ _ scope _ _ pos => ⟨name, args, body, scope, pos⟩
  | _ => ⟨Str.empty, ⟨[], [], none, [], [], none, []⟩, [], { kind := .function, names := [], isGenerator := false, isCoroutine := false }, ⟨0, 0, 0, 0⟩⟩
noncomputable def o23 : Obj := by
  refine (?_ : { o : Obj // o = fnO (nthS topS 1) (Str.ofString "insort_right") (Value.ref 15) (Value.ref 16) (Value.str (Str.ofString "cpy313.bisect") 187) 22 }).1
  refine ⟨?o, ?h⟩
  case h => (conv => rhs; whnf)
noncomputable def o32 : Obj := by
  refine (?_ : { o : Obj // o = fnO (nthS topS 2) (Str.ofString "bisect_right") (Value.ref 24) (Value.ref 25) (Value.str (Str.ofString "cpy313.bisect") 187) 31 }).1
  refine ⟨?o, ?h⟩
  case h => (conv => rhs; whnf)
noncomputable def o41 : Obj := by
  refine (?_ : { o : Obj // o = fnO (nthS topS 3) (Str.ofString "bisect_left") (Value.ref 33) (Value.ref 34) (Value.str (Str.ofString "cpy313.bisect") 187) 40 }).1
  refine ⟨?o, ?h⟩
  case h => (conv => rhs; whnf)
noncomputable def o55 : Obj := by
  refine (?_ : { o : Obj // o = fnO (nthS (clsS (nthS topS 5)) 0) (Str.ofString "_netrclex.__init__") (Value.none) (Value.none) (Value.str (Str.ofString "cpy313.netrc") 230) 54 }).1
  refine ⟨?o, ?h⟩
  case h => (conv => rhs; whnf)
noncomputable def o62 : Obj := by
  refine (?_ : { o : Obj // o = fnO (nthS (clsS (nthS topS 5)) 1) (Str.ofString "_netrclex._read_char") (Value.none) (Value.none) (Value.str (Str.ofString "cpy313.netrc") 230) 61 }).1
  refine ⟨?o, ?h⟩
  case h => (conv => rhs; whnf)
noncomputable def o69 : Obj := by
  refine (?_ : { o : Obj // o = fnO (nthS (clsS (nthS topS 5)) 2) (Str.ofString "_netrclex.get_token") (Value.none) (Value.none) (Value.str (Str.ofString "cpy313.netrc") 230) 68 }).1
  refine ⟨?o, ?h⟩
  case h => (conv => rhs; whnf)
noncomputable def o76 : Obj := by
  refine (?_ : { o : Obj // o = fnO (nthS (clsS (nthS topS 5)) 3) (Str.ofString "_netrclex.push_token") (Value.none) (Value.none) (Value.str (Str.ofString "cpy313.netrc") 230) 75 }).1
  refine ⟨?o, ?h⟩
  case h => (conv => rhs; whnf)
noncomputable def o90 : Obj := by
  refine (?_ : { o : Obj // o = fnO (nthS topS 7) (Str.ofString "le") (Value.none) (Value.none) (Value.str (Str.ofString "cpy313.operator") 290) 89 }).1
  refine ⟨?o, ?h⟩
  case h => (conv => rhs; whnf)
noncomputable def o97 : Obj := by
  refine (?_ : { o : Obj // o = fnO (nthS topS 8) (Str.ofString "add") (Value.none) (Value.none) (Value.str (Str.ofString "cpy313.operator") 290) 96 }).1
  refine ⟨?o, ?h⟩
  case h => (conv => rhs; whnf)
noncomputable def o104 : Obj := by
  refine (?_ : { o : Obj // o = fnO (nthS topS 9) (Str.ofString "floordiv") (Value.none) (Value.none) (Value.str (Str.ofString "cpy313.operator") 290) 103 }).1
  refine ⟨?o, ?h⟩
  case h => (conv => rhs; whnf)
noncomputable def o111 : Obj := by
  refine (?_ : { o : Obj // o = fnO (nthS topS 10) (Str.ofString "mul") (Value.none) (Value.none) (Value.str (Str.ofString "cpy313.operator") 290) 110 }).1
  refine ⟨?o, ?h⟩
  case h => (conv => rhs; whnf)
noncomputable def o118 : Obj := by
  refine (?_ : { o : Obj // o = fnO (nthS topS 11) (Str.ofString "sub") (Value.none) (Value.none) (Value.str (Str.ofString "cpy313.operator") 290) 117 }).1
  refine ⟨?o, ?h⟩
  case h => (conv => rhs; whnf)
noncomputable def o125 : Obj := by
  refine (?_ : { o : Obj // o = fnO (nthS topS 12) (Str.ofString "countOf") (Value.none) (Value.none) (Value.str (Str.ofString "cpy313.operator") 290) 124 }).1
  refine ⟨?o, ?h⟩
  case h => (conv => rhs; whnf)
noncomputable def o132 : Obj := by
  refine (?_ : { o : Obj // o = fnO (nthS topS 13) (Str.ofString "getitem") (Value.none) (Value.none) (Value.str (Str.ofString "cpy313.operator") 290) 131 }).1
  refine ⟨?o, ?h⟩
  case h => (conv => rhs; whnf)
noncomputable def o139 : Obj := by
  refine (?_ : { o : Obj // o = fnO (nthS topS 15) (Str.ofString "_law_totals") (Value.none) (Value.none) (Value.str (Str.ofString "law_sw0036_01") 350) 138 }).1
  refine ⟨?o, ?h⟩
  case h => (conv => rhs; whnf)
noncomputable def o144 : Obj := by
  refine (?_ : { o : Obj // o = fnO (nthS topS 16) (Str.ofString "_law_written") (Value.none) (Value.none) (Value.str (Str.ofString "law_sw0036_01") 350) 143 }).1
  refine ⟨?o, ?h⟩
  case h => (conv => rhs; whnf)
noncomputable def o151 : Obj := by
  refine (?_ : { o : Obj // o = fnO (nthS topS 17) (Str.ofString "_law_lexer") (Value.none) (Value.none) (Value.str (Str.ofString "law_sw0036_01") 350) 150 }).1
  refine ⟨?o, ?h⟩
  case h => (conv => rhs; whnf)
noncomputable def o158 : Obj := by
  refine (?_ : { o : Obj // o = fnO (nthS topS 18) (Str.ofString "_law_claim") (Value.none) (Value.none) (Value.str (Str.ofString "law_sw0036_01") 350) 157 }).1
  refine ⟨?o, ?h⟩
  case h => (conv => rhs; whnf)
noncomputable def o165 : Obj := by
  refine (?_ : { o : Obj // o = fnO (nthS topS 19) (Str.ofString "_law_share") (Value.none) (Value.none) (Value.str (Str.ofString "law_sw0036_01") 350) 164 }).1
  refine ⟨?o, ?h⟩
  case h => (conv => rhs; whnf)
noncomputable def o170 : Obj := by
  refine (?_ : { o : Obj // o = fnO (nthS topS 20) (Str.ofString "_law_held") (Value.none) (Value.none) (Value.str (Str.ofString "law_sw0036_01") 350) 169 }).1
  refine ⟨?o, ?h⟩
  case h => (conv => rhs; whnf)
noncomputable def o177 : Obj := by
  refine (?_ : { o : Obj // o = fnO (nthS topS 21) (Str.ofString "_law_by_the_line") (Value.none) (Value.none) (Value.str (Str.ofString "law_sw0036_01") 350) 176 }).1
  refine ⟨?o, ?h⟩
  case h => (conv => rhs; whnf)
noncomputable def o184 : Obj := by
  refine (?_ : { o : Obj // o = fnO (nthS topS 22) (Str.ofString "_law_as_two_alone") (Value.none) (Value.none) (Value.str (Str.ofString "law_sw0036_01") 350) 183 }).1
  refine ⟨?o, ?h⟩
  case h => (conv => rhs; whnf)
noncomputable def o189 : Obj := by
  refine (?_ : { o : Obj // o = fnO (nthS topS 23) (Str.ofString "law") (Value.none) (Value.none) (Value.str (Str.ofString "law_sw0036_01") 350) 188 }).1
  refine ⟨?o, ?h⟩
  case h => (conv => rhs; whnf)
noncomputable def hd.heap_39 : Params → Frag := fun P => (nat_lit 2, { cls := Value.none, data := Data.dict #[] }) ::
  (nat_lit 3, { cls := Value.type "dict", data := Data.dict #[{ hash := PyData.keyHash P (Str.ofString "__name__"), key := Value.str (Str.ofString "__name__") 165, val := Value.str (Str.ofString "law_sw0036_01") 350 }, { hash := PyData.keyHash P (Str.ofString "__doc__"), key := Value.str (Str.ofString "__doc__") 166, val := Value.none }, { hash := PyData.keyHash P (Str.ofString "__package__"), key := Value.str (Str.ofString "__package__") 167, val := Value.none }, { hash := PyData.keyHash P (Str.ofString "__loader__"), key := Value.str (Str.ofString "__loader__") 168, val := Value.builtin "__main__.__loader__#opaque" }, { hash := PyData.keyHash P (Str.ofString "__spec__"), key := Value.str (Str.ofString "__spec__") 169, val := Value.none }, { hash := PyData.keyHash P (Str.ofString "__annotations__"), key := Value.str (Str.ofString "__annotations__") 170, val := Value.ref 6 }, { hash := PyData.keyHash P (Str.ofString "__builtins__"), key := Value.str (Str.ofString "__builtins__") 171, val := Value.ref 4 }, { hash := PyData.keyHash P (Str.ofString "__file__"), key := Value.str (Str.ofString "__file__") 173, val := Value.str (Str.ofString "/claim/cut.py") 172 }, { hash := PyData.keyHash P (Str.ofString "__cached__"), key := Value.str (Str.ofString "__cached__") 174, val := Value.none }, { hash := PyData.keyHash P (Str.ofString "insort_right"), key := Value.str (Str.ofString "insort_right") 201, val := Value.ref 23 }, { hash := PyData.keyHash P (Str.ofString "bisect_right"), key := Value.str (Str.ofString "bisect_right") 215, val := Value.ref 32 }, { hash := PyData.keyHash P (Str.ofString "bisect_left"), key := Value.str (Str.ofString "bisect_left") 229, val := Value.ref 41 }, { hash := PyData.keyHash P (Str.ofString "_netrclex"), key := Value.str (Str.ofString "_netrclex") 289, val := Value.ref 79 }, { hash := PyData.keyHash P (Str.ofString "le"), key := Value.str (Str.ofString "le") 299, val := Value.ref 90 }, { hash := PyData.keyHash P (Str.ofString "add"), key := Value.str (Str.ofString "add") 307, val := Value.ref 97 }, { hash := PyData.keyHash P (Str.ofString "floordiv"), key := Value.str (Str.ofString "floordiv") 315, val := Value.ref 104 }, { hash := PyData.keyHash P (Str.ofString "mul"), key := Value.str (Str.ofString "mul") 323, val := Value.ref 111 }, { hash := PyData.keyHash P (Str.ofString "sub"), key := Value.str (Str.ofString "sub") 331, val := Value.ref 118 }, { hash := PyData.keyHash P (Str.ofString "countOf"), key := Value.str (Str.ofString "countOf") 341, val := Value.ref 125 }, { hash := PyData.keyHash P (Str.ofString "getitem"), key := Value.str (Str.ofString "getitem") 349, val := Value.ref 132 }, { hash := PyData.keyHash P (Str.ofString "_law_totals"), key := Value.str (Str.ofString "_law_totals") 361, val := Value.ref 139 }, { hash := PyData.keyHash P (Str.ofString "_law_written"), key := Value.str (Str.ofString "_law_written") 367, val := Value.ref 144 }, { hash := PyData.keyHash P (Str.ofString "_law_lexer"), key := Value.str (Str.ofString "_law_lexer") 378, val := Value.ref 151 }, { hash := PyData.keyHash P (Str.ofString "_law_claim"), key := Value.str (Str.ofString "_law_claim") 385, val := Value.ref 158 }, { hash := PyData.keyHash P (Str.ofString "_law_share"), key := Value.str (Str.ofString "_law_share") 395, val := Value.ref 165 }, { hash := PyData.keyHash P (Str.ofString "_law_held"), key := Value.str (Str.ofString "_law_held") 401, val := Value.ref 170 }, { hash := PyData.keyHash P (Str.ofString "_law_by_the_line"), key := Value.str (Str.ofString "_law_by_the_line") 421, val := Value.ref 177 }, { hash := PyData.keyHash P (Str.ofString "_law_as_two_alone"), key := Value.str (Str.ofString "_law_as_two_alone") 434, val := Value.ref 184 }, { hash := PyData.keyHash P (Str.ofString "law"), key := Value.str (Str.ofString "law") 440, val := Value.ref 189 }] 29 }) ::
  (nat_lit 15, { cls := Value.type "tuple", data := Data.seq #[Value.int 0 189, Value.none] }) ::
  (nat_lit 16, { cls := Value.type "dict", data := Data.dict #[{ hash := PyData.keyHash P (Str.ofString "key"), key := Value.str (Str.ofString "key") 190, val := Value.none }] 1 }) ::
  (nat_lit 17, { cls := Value.type "tuple", data := Data.seq #[] }) ::
  (nat_lit 19, { cls := Value.type "tuple", data := Data.seq #[Value.str (Str.ofString "a") 194, Value.str (Str.ofString "x") 195, Value.str (Str.ofString "lo") 196, Value.str (Str.ofString "hi") 197, Value.str (Str.ofString "key") 198] }) ::
  (nat_lit 20, { cls := Value.type "tuple", data := Data.seq #[] }) ::
  (nat_lit 22, { cls := Value.type "code", data := Data.fields #[Value.str (Str.ofString "insort_right") 191, Value.str (Str.ofString "insort_right") 192, Value.str (Str.ofString "/claim/cut.py") 193, Value.int 2 0, Value.int 4 0, Value.int 0 0, Value.int 1 0, Value.int 3 0, Value.ref 17, Value.bool true, Value.int 181 0, Value.ref 18, Value.none, Value.ref 19, Value.ref 20, Value.ref 21, Value.int 199 0, Value.int 2 0, Value.str (Str.ofString "/claim/cut.py") 200] }) ::
  (nat_lit 23, o23) ::
  (nat_lit 24, { cls := Value.type "tuple", data := Data.seq #[Value.int 0 202, Value.none] }) ::
  (nat_lit 25, { cls := Value.type "dict", data := Data.dict #[{ hash := PyData.keyHash P (Str.ofString "key"), key := Value.str (Str.ofString "key") 203, val := Value.none }] 1 }) ::
  (nat_lit 26, { cls := Value.type "tuple", data := Data.seq #[] }) ::
  (nat_lit 28, { cls := Value.type "tuple", data := Data.seq #[Value.str (Str.ofString "a") 207, Value.str (Str.ofString "x") 208, Value.str (Str.ofString "lo") 209, Value.str (Str.ofString "hi") 210, Value.str (Str.ofString "key") 211, Value.str (Str.ofString "mid") 212] }) ::
  (nat_lit 29, { cls := Value.type "tuple", data := Data.seq #[] }) ::
  (nat_lit 31, { cls := Value.type "code", data := Data.fields #[Value.str (Str.ofString "bisect_right") 204, Value.str (Str.ofString "bisect_right") 205, Value.str (Str.ofString "/claim/cut.py") 206, Value.int 8 0, Value.int 4 0, Value.int 0 0, Value.int 1 0, Value.int 3 0, Value.ref 26, Value.bool true, Value.int 181 0, Value.ref 27, Value.none, Value.ref 28, Value.ref 29, Value.ref 30, Value.int 213 0, Value.int 8 0, Value.str (Str.ofString "/claim/cut.py") 214] }) ::
  (nat_lit 32, o32) ::
  (nat_lit 33, { cls := Value.type "tuple", data := Data.seq #[Value.int 0 216, Value.none] }) ::
  (nat_lit 34, { cls := Value.type "dict", data := Data.dict #[{ hash := PyData.keyHash P (Str.ofString "key"), key := Value.str (Str.ofString "key") 217, val := Value.none }] 1 }) ::
  (nat_lit 35, { cls := Value.type "tuple", data := Data.seq #[] }) ::
  (nat_lit 37, { cls := Value.type "tuple", data := Data.seq #[Value.str (Str.ofString "a") 221, Value.str (Str.ofString "x") 222, Value.str (Str.ofString "lo") 223, Value.str (Str.ofString "hi") 224, Value.str (Str.ofString "key") 225, Value.str (Str.ofString "mid") 226] }) ::
  (nat_lit 38, { cls := Value.type "tuple", data := Data.seq #[] }) ::
  (nat_lit 40, { cls := Value.type "code", data := Data.fields #[Value.str (Str.ofString "bisect_left") 218, Value.str (Str.ofString "bisect_left") 219, Value.str (Str.ofString "/claim/cut.py") 220, Value.int 28 0, Value.int 4 0, Value.int 0 0, Value.int 1 0, Value.int 3 0, Value.ref 35, Value.bool true, Value.int 181 0, Value.ref 36, Value.none, Value.ref 37, Value.ref 38, Value.ref 39, Value.int 227 0, Value.int 28 0, Value.str (Str.ofString "/claim/cut.py") 228] }) ::
  (nat_lit 41, o41) ::
  (nat_lit 49, { cls := Value.type "tuple", data := Data.seq #[] }) ::
  (nat_lit 51, { cls := Value.type "tuple", data := Data.seq #[Value.str (Str.ofString "self") 247, Value.str (Str.ofString "fp") 248] }) ::
  (nat_lit 52, { cls := Value.type "tuple", data := Data.seq #[] }) ::
  (nat_lit 54, { cls := Value.type "code", data := Data.fields #[Value.str (Str.ofString "__init__") 244, Value.str (Str.ofString "_netrclex.__init__") 245, Value.str (Str.ofString "/claim/cut.py") 246, Value.int 51 0, Value.int 2 0, Value.int 0 0, Value.int 0 0, Value.int 3 0, Value.ref 49, Value.bool true, Value.int 181 0, Value.ref 50, Value.none, Value.ref 51, Value.ref 52, Value.ref 53, Value.int 249 0, Value.int 51 0, Value.str (Str.ofString "/claim/cut.py") 250] }) ::
  (nat_lit 55, o55) ::
  (nat_lit 56, { cls := Value.type "tuple", data := Data.seq #[] }) ::
  (nat_lit 58, { cls := Value.type "tuple", data := Data.seq #[Value.str (Str.ofString "self") 255, Value.str (Str.ofString "ch") 256] }) ::
  (nat_lit 59, { cls := Value.type "tuple", data := Data.seq #[] }) ::
  (nat_lit 61, { cls := Value.type "code", data := Data.fields #[Value.str (Str.ofString "_read_char") 252, Value.str (Str.ofString "_netrclex._read_char") 253, Value.str (Str.ofString "/claim/cut.py") 254, Value.int 57 0, Value.int 1 0, Value.int 0 0, Value.int 0 0, Value.int 3 0, Value.ref 56, Value.bool true, Value.int 181 0, Value.ref 57, Value.none, Value.ref 58, Value.ref 59, Value.ref 60, Value.int 257 0, Value.int 57 0, Value.str (Str.ofString "/claim/cut.py") 258] }) ::
  (nat_lit 62, o62) ::
  (nat_lit 63, { cls := Value.type "tuple", data := Data.seq #[] }) ::
  (nat_lit 65, { cls := Value.type "tuple", data := Data.seq #[Value.str (Str.ofString "self") 263, Value.str (Str.ofString "token") 264, Value.str (Str.ofString "fiter") 265, Value.str (Str.ofString "ch") 266] }) ::
  (nat_lit 66, { cls := Value.type "tuple", data := Data.seq #[] }) ::
  (nat_lit 68, { cls := Value.type "code", data := Data.fields #[Value.str (Str.ofString "get_token") 260, Value.str (Str.ofString "_netrclex.get_token") 261, Value.str (Str.ofString "/claim/cut.py") 262, Value.int 63 0, Value.int 1 0, Value.int 0 0, Value.int 0 0, Value.int 3 0, Value.ref 63, Value.bool true, Value.int 181 0, Value.ref 64, Value.none, Value.ref 65, Value.ref 66, Value.ref 67, Value.int 267 0, Value.int 63 0, Value.str (Str.ofString "/claim/cut.py") 268] }) ::
  (nat_lit 69, o69) ::
  (nat_lit 70, { cls := Value.type "tuple", data := Data.seq #[] }) ::
  (nat_lit 72, { cls := Value.type "tuple", data := Data.seq #[Value.str (Str.ofString "self") 273, Value.str (Str.ofString "token") 274] }) ::
  (nat_lit 73, { cls := Value.type "tuple", data := Data.seq #[] }) ::
  (nat_lit 75, { cls := Value.type "code", data := Data.fields #[Value.str (Str.ofString "push_token") 270, Value.str (Str.ofString "_netrclex.push_token") 271, Value.str (Str.ofString "/claim/cut.py") 272, Value.int 90 0, Value.int 2 0, Value.int 0 0, Value.int 0 0, Value.int 3 0, Value.ref 70, Value.bool true, Value.int 181 0, Value.ref 71, Value.none, Value.ref 72, Value.ref 73, Value.ref 74, Value.int 275 0, Value.int 90 0, Value.str (Str.ofString "/claim/cut.py") 276] }) ::
  (nat_lit 76, o76) ::
  (nat_lit 77, { cls := Value.type "tuple", data := Data.seq #[Value.str (Str.ofString "instream") 278, Value.str (Str.ofString "lineno") 279, Value.str (Str.ofString "pushback") 280, Value.str (Str.ofString "whitespace") 281] }) ::
  (nat_lit 78, { cls := Value.type "dict", data := Data.dict #[{ hash := PyData.keyHash P (Str.ofString "__module__"), key := Value.str (Str.ofString "__module__") 239, val := Value.str (Str.ofString "cpy313.netrc") 230 }, { hash := PyData.keyHash P (Str.ofString "__firstlineno__"), key := Value.str (Str.ofString "__firstlineno__") 243, val := Value.int 49 242 }, { hash := PyData.keyHash P (Str.ofString "__init__"), key := Value.str (Str.ofString "__init__") 251, val := Value.ref 55 }, { hash := PyData.keyHash P (Str.ofString "_read_char"), key := Value.str (Str.ofString "_read_char") 259, val := Value.ref 62 }, { hash := PyData.keyHash P (Str.ofString "get_token"), key := Value.str (Str.ofString "get_token") 269, val := Value.ref 69 }, { hash := PyData.keyHash P (Str.ofString "push_token"), key := Value.str (Str.ofString "push_token") 277, val := Value.ref 76 }, { hash := PyData.keyHash P (Str.ofString "__static_attributes__"), key := Value.str (Str.ofString "__static_attributes__") 282, val := Value.ref 77 }, { hash := PyData.keyHash P (Str.ofString "__dict__"), key := Value.str (Str.ofString "__dict__") 284, val := Value.ref 80 }, { hash := PyData.keyHash P (Str.ofString "__weakref__"), key := Value.str (Str.ofString "__weakref__") 286, val := Value.ref 81 }, { hash := PyData.keyHash P (Str.ofString "__doc__"), key := Value.str (Str.ofString "__doc__") 287, val := Value.none }] 4 }) ::
  (nat_lit 79, { cls := Value.type "type", data := Data.cls { name := Str.ofString "_netrclex", bases := [Value.type "object"], mro := [Value.ref 79, Value.type "object"], ns := 78, qualname := Str.ofString "_netrclex" }, slots := #[none, none, some (Value.str (Str.ofString "_netrclex") 232), some (Value.str (Str.ofString "_netrclex") 240), some (Value.builtin "object.__new__"), some (Value.bool true)] }) ::
  (nat_lit 80, { cls := Value.type "getset_descriptor", data := Data.fields #[Value.str (Str.ofString "__dict__") 283, Value.ref 79, Value.builtin "function.__dict__", Value.builtin "function.__dict__#set"] }) ::
  (nat_lit 81, { cls := Value.type "getset_descriptor", data := Data.fields #[Value.str (Str.ofString "__weakref__") 285, Value.ref 79, Value.builtin "ExceptionGroup.__weakref__", Value.none] }) ::
  (nat_lit 84, { cls := Value.type "tuple", data := Data.seq #[] }) ::
  (nat_lit 86, { cls := Value.type "tuple", data := Data.seq #[Value.str (Str.ofString "a") 295, Value.str (Str.ofString "b") 296] }) ::
  (nat_lit 87, { cls := Value.type "tuple", data := Data.seq #[] }) ::
  (nat_lit 89, { cls := Value.type "code", data := Data.fields #[Value.str (Str.ofString "le") 292, Value.str (Str.ofString "le") 293, Value.str (Str.ofString "/claim/cut.py") 294, Value.int 93 0, Value.int 2 0, Value.int 0 0, Value.int 0 0, Value.int 3 0, Value.ref 84, Value.bool true, Value.int 181 0, Value.ref 85, Value.none, Value.ref 86, Value.ref 87, Value.ref 88, Value.int 297 0, Value.int 93 0, Value.str (Str.ofString "/claim/cut.py") 298] }) ::
  (nat_lit 90, o90) ::
  (nat_lit 91, { cls := Value.type "tuple", data := Data.seq #[] }) ::
  (nat_lit 93, { cls := Value.type "tuple", data := Data.seq #[Value.str (Str.ofString "a") 303, Value.str (Str.ofString "b") 304] }) ::
  (nat_lit 94, { cls := Value.type "tuple", data := Data.seq #[] }) ::
  (nat_lit 96, { cls := Value.type "code", data := Data.fields #[Value.str (Str.ofString "add") 300, Value.str (Str.ofString "add") 301, Value.str (Str.ofString "/claim/cut.py") 302, Value.int 95 0, Value.int 2 0, Value.int 0 0, Value.int 0 0, Value.int 3 0, Value.ref 91, Value.bool true, Value.int 181 0, Value.ref 92, Value.none, Value.ref 93, Value.ref 94, Value.ref 95, Value.int 305 0, Value.int 95 0, Value.str (Str.ofString "/claim/cut.py") 306] }) ::
  (nat_lit 97, o97) ::
  (nat_lit 98, { cls := Value.type "tuple", data := Data.seq #[] }) ::
  (nat_lit 100, { cls := Value.type "tuple", data := Data.seq #[Value.str (Str.ofString "a") 311, Value.str (Str.ofString "b") 312] }) ::
  (nat_lit 101, { cls := Value.type "tuple", data := Data.seq #[] }) ::
  (nat_lit 103, { cls := Value.type "code", data := Data.fields #[Value.str (Str.ofString "floordiv") 308, Value.str (Str.ofString "floordiv") 309, Value.str (Str.ofString "/claim/cut.py") 310, Value.int 97 0, Value.int 2 0, Value.int 0 0, Value.int 0 0, Value.int 3 0, Value.ref 98, Value.bool true, Value.int 181 0, Value.ref 99, Value.none, Value.ref 100, Value.ref 101, Value.ref 102, Value.int 313 0, Value.int 97 0, Value.str (Str.ofString "/claim/cut.py") 314] }) ::
  (nat_lit 104, o104) ::
  (nat_lit 105, { cls := Value.type "tuple", data := Data.seq #[] }) ::
  (nat_lit 107, { cls := Value.type "tuple", data := Data.seq #[Value.str (Str.ofString "a") 319, Value.str (Str.ofString "b") 320] }) ::
  (nat_lit 108, { cls := Value.type "tuple", data := Data.seq #[] }) ::
  (nat_lit 110, { cls := Value.type "code", data := Data.fields #[Value.str (Str.ofString "mul") 316, Value.str (Str.ofString "mul") 317, Value.str (Str.ofString "/claim/cut.py") 318, Value.int 99 0, Value.int 2 0, Value.int 0 0, Value.int 0 0, Value.int 3 0, Value.ref 105, Value.bool true, Value.int 181 0, Value.ref 106, Value.none, Value.ref 107, Value.ref 108, Value.ref 109, Value.int 321 0, Value.int 99 0, Value.str (Str.ofString "/claim/cut.py") 322] }) ::
  (nat_lit 111, o111) ::
  (nat_lit 112, { cls := Value.type "tuple", data := Data.seq #[] }) ::
  (nat_lit 114, { cls := Value.type "tuple", data := Data.seq #[Value.str (Str.ofString "a") 327, Value.str (Str.ofString "b") 328] }) ::
  (nat_lit 115, { cls := Value.type "tuple", data := Data.seq #[] }) ::
  (nat_lit 117, { cls := Value.type "code", data := Data.fields #[Value.str (Str.ofString "sub") 324, Value.str (Str.ofString "sub") 325, Value.str (Str.ofString "/claim/cut.py") 326, Value.int 101 0, Value.int 2 0, Value.int 0 0, Value.int 0 0, Value.int 3 0, Value.ref 112, Value.bool true, Value.int 181 0, Value.ref 113, Value.none, Value.ref 114, Value.ref 115, Value.ref 116, Value.int 329 0, Value.int 101 0, Value.str (Str.ofString "/claim/cut.py") 330] }) ::
  (nat_lit 118, o118) ::
  (nat_lit 119, { cls := Value.type "tuple", data := Data.seq #[] }) ::
  (nat_lit 121, { cls := Value.type "tuple", data := Data.seq #[Value.str (Str.ofString "a") 335, Value.str (Str.ofString "b") 336, Value.str (Str.ofString "count") 337, Value.str (Str.ofString "i") 338] }) ::
  (nat_lit 122, { cls := Value.type "tuple", data := Data.seq #[] }) ::
  (nat_lit 124, { cls := Value.type "code", data := Data.fields #[Value.str (Str.ofString "countOf") 332, Value.str (Str.ofString "countOf") 333, Value.str (Str.ofString "/claim/cut.py") 334, Value.int 103 0, Value.int 2 0, Value.int 0 0, Value.int 0 0, Value.int 3 0, Value.ref 119, Value.bool true, Value.int 181 0, Value.ref 120, Value.none, Value.ref 121, Value.ref 122, Value.ref 123, Value.int 339 0, Value.int 103 0, Value.str (Str.ofString "/claim/cut.py") 340] }) ::
  (nat_lit 125, o125) ::
  (nat_lit 126, { cls := Value.type "tuple", data := Data.seq #[] }) ::
  (nat_lit 128, { cls := Value.type "tuple", data := Data.seq #[Value.str (Str.ofString "a") 345, Value.str (Str.ofString "b") 346] }) ::
  (nat_lit 129, { cls := Value.type "tuple", data := Data.seq #[] }) ::
  (nat_lit 131, { cls := Value.type "code", data := Data.fields #[Value.str (Str.ofString "getitem") 342, Value.str (Str.ofString "getitem") 343, Value.str (Str.ofString "/claim/cut.py") 344, Value.int 109 0, Value.int 2 0, Value.int 0 0, Value.int 0 0, Value.int 3 0, Value.ref 126, Value.bool true, Value.int 181 0, Value.ref 127, Value.none, Value.ref 128, Value.ref 129, Value.ref 130, Value.int 347 0, Value.int 109 0, Value.str (Str.ofString "/claim/cut.py") 348] }) ::
  (nat_lit 132, o132) ::
  (nat_lit 133, { cls := Value.type "tuple", data := Data.seq #[] }) ::
  (nat_lit 135, { cls := Value.type "tuple", data := Data.seq #[Value.str (Str.ofString "script") 355, Value.str (Str.ofString "totals") 356, Value.str (Str.ofString "place") 357, Value.str (Str.ofString "number") 358] }) ::
  (nat_lit 136, { cls := Value.type "tuple", data := Data.seq #[] }) ::
  (nat_lit 138, { cls := Value.type "code", data := Data.fields #[Value.str (Str.ofString "_law_totals") 352, Value.str (Str.ofString "_law_totals") 353, Value.str (Str.ofString "/claim/cut.py") 354, Value.int 112 0, Value.int 1 0, Value.int 0 0, Value.int 0 0, Value.int 3 0, Value.ref 133, Value.bool true, Value.int 181 0, Value.ref 134, Value.none, Value.ref 135, Value.ref 136, Value.ref 137, Value.int 359 0, Value.int 112 0, Value.str (Str.ofString "/claim/cut.py") 360] }) ::
  (nat_lit 139, o139) ::
  (nat_lit 140, { cls := Value.type "tuple", data := Data.seq #[] }) ::
  (nat_lit 143, { cls := Value.type "code", data := Data.fields #[Value.str (Str.ofString "_law_written") 362, Value.str (Str.ofString "_law_written") 363, Value.str (Str.ofString "/claim/cut.py") 364, Value.int 117 0, Value.int 2 0, Value.int 0 0, Value.int 0 0, Value.int 3 0, Value.ref 140, Value.bool true, Value.int 181 0, Value.ref 141, Value.none, Value.none, Value.none, Value.ref 142, Value.int 365 0, Value.int 117 0, Value.str (Str.ofString "/claim/cut.py") 366] }) ::
  (nat_lit 144, o144) ::
  (nat_lit 145, { cls := Value.type "tuple", data := Data.seq #[] }) ::
  (nat_lit 147, { cls := Value.type "tuple", data := Data.seq #[Value.str (Str.ofString "text") 371, Value.str (Str.ofString "read") 372, Value.str (Str.ofString "stream") 373] }) ::
  (nat_lit 148, { cls := Value.type "tuple", data := Data.seq #[Value.str (Str.ofString "text") 374, Value.str (Str.ofString "place") 375] }) ::
  (nat_lit 150, { cls := Value.type "code", data := Data.fields #[Value.str (Str.ofString "_law_lexer") 368, Value.str (Str.ofString "_law_lexer") 369, Value.str (Str.ofString "/claim/cut.py") 370, Value.int 121 0, Value.int 1 0, Value.int 0 0, Value.int 0 0, Value.int 3 0, Value.ref 145, Value.bool true, Value.int 181 0, Value.ref 146, Value.none, Value.ref 147, Value.ref 148, Value.ref 149, Value.int 376 0, Value.int 121 0, Value.str (Str.ofString "/claim/cut.py") 377] }) ::
  (nat_lit 151, o151) ::
  (nat_lit 152, { cls := Value.type "tuple", data := Data.seq #[] }) ::
  (nat_lit 154, { cls := Value.type "tuple", data := Data.seq #[Value.str (Str.ofString "creditor") 382] }) ::
  (nat_lit 155, { cls := Value.type "tuple", data := Data.seq #[] }) ::
  (nat_lit 157, { cls := Value.type "code", data := Data.fields #[Value.str (Str.ofString "_law_claim") 379, Value.str (Str.ofString "_law_claim") 380, Value.str (Str.ofString "/claim/cut.py") 381, Value.int 130 0, Value.int 1 0, Value.int 0 0, Value.int 0 0, Value.int 3 0, Value.ref 152, Value.bool true, Value.int 181 0, Value.ref 153, Value.none, Value.ref 154, Value.ref 155, Value.ref 156, Value.int 383 0, Value.int 130 0, Value.str (Str.ofString "/claim/cut.py") 384] }) ::
  (nat_lit 158, o158) ::
  (nat_lit 159, { cls := Value.type "tuple", data := Data.seq #[] }) ::
  (nat_lit 161, { cls := Value.type "tuple", data := Data.seq #[Value.str (Str.ofString "claim") 389, Value.str (Str.ofString "height") 390, Value.str (Str.ofString "top") 391, Value.str (Str.ofString "half") 392] }) ::
  (nat_lit 162, { cls := Value.type "tuple", data := Data.seq #[] }) ::
  (nat_lit 164, { cls := Value.type "code", data := Data.fields #[Value.str (Str.ofString "_law_share") 386, Value.str (Str.ofString "_law_share") 387, Value.str (Str.ofString "/claim/cut.py") 388, Value.int 132 0, Value.int 3 0, Value.int 0 0, Value.int 0 0, Value.int 3 0, Value.ref 159, Value.bool true, Value.int 181 0, Value.ref 160, Value.none, Value.ref 161, Value.ref 162, Value.ref 163, Value.int 393 0, Value.int 132 0, Value.str (Str.ofString "/claim/cut.py") 394] }) ::
  (nat_lit 165, o165) ::
  (nat_lit 166, { cls := Value.type "tuple", data := Data.seq #[] }) ::
  (nat_lit 169, { cls := Value.type "code", data := Data.fields #[Value.str (Str.ofString "_law_held") 396, Value.str (Str.ofString "_law_held") 397, Value.str (Str.ofString "/claim/cut.py") 398, Value.int 135 0, Value.int 2 0, Value.int 0 0, Value.int 0 0, Value.int 3 0, Value.ref 166, Value.bool true, Value.int 181 0, Value.ref 167, Value.none, Value.none, Value.none, Value.ref 168, Value.int 399 0, Value.int 135 0, Value.str (Str.ofString "/claim/cut.py") 400] }) ::
  (nat_lit 170, o170) ::
  (nat_lit 171, { cls := Value.type "tuple", data := Data.seq #[] }) ::
  (nat_lit 173, { cls := Value.type "tuple", data := Data.seq #[Value.str (Str.ofString "lexer") 405, Value.str (Str.ofString "row") 406, Value.str (Str.ofString "estate") 407, Value.str (Str.ofString "claims") 408, Value.str (Str.ofString "name") 409, Value.str (Str.ofString "claim") 410, Value.str (Str.ofString "left") 411, Value.str (Str.ofString "lack") 412, Value.str (Str.ofString "waiting") 413, Value.str (Str.ofString "manner") 414, Value.str (Str.ofString "part") 415, Value.str (Str.ofString "paid") 416, Value.str (Str.ofString "taken") 417, Value.str (Str.ofString "half") 418] }) ::
  (nat_lit 174, { cls := Value.type "tuple", data := Data.seq #[] }) ::
  (nat_lit 176, { cls := Value.type "code", data := Data.fields #[Value.str (Str.ofString "_law_by_the_line") 402, Value.str (Str.ofString "_law_by_the_line") 403, Value.str (Str.ofString "/claim/cut.py") 404, Value.int 138 0, Value.int 3 0, Value.int 0 0, Value.int 0 0, Value.int 3 0, Value.ref 171, Value.bool true, Value.int 181 0, Value.ref 172, Value.none, Value.ref 173, Value.ref 174, Value.ref 175, Value.int 419 0, Value.int 138 0, Value.str (Str.ofString "/claim/cut.py") 420] }) ::
  (nat_lit 177, o177) ::
  (nat_lit 178, { cls := Value.type "tuple", data := Data.seq #[] }) ::
  (nat_lit 180, { cls := Value.type "tuple", data := Data.seq #[Value.str (Str.ofString "mine") 425, Value.str (Str.ofString "yours") 426, Value.str (Str.ofString "my_share") 427, Value.str (Str.ofString "your_share") 428, Value.str (Str.ofString "both") 429, Value.str (Str.ofString "ahead") 430, Value.str (Str.ofString "behind") 431] }) ::
  (nat_lit 181, { cls := Value.type "tuple", data := Data.seq #[] }) ::
  (nat_lit 183, { cls := Value.type "code", data := Data.fields #[Value.str (Str.ofString "_law_as_two_alone") 422, Value.str (Str.ofString "_law_as_two_alone") 423, Value.str (Str.ofString "/claim/cut.py") 424, Value.int 169 0, Value.int 4 0, Value.int 0 0, Value.int 0 0, Value.int 3 0, Value.ref 178, Value.bool true, Value.int 181 0, Value.ref 179, Value.none, Value.ref 180, Value.ref 181, Value.ref 182, Value.int 432 0, Value.int 169 0, Value.str (Str.ofString "/claim/cut.py") 433] }) ::
  (nat_lit 184, o184) ::
  (nat_lit 185, { cls := Value.type "tuple", data := Data.seq #[] }) ::
  (nat_lit 188, { cls := Value.type "code", data := Data.fields #[Value.str (Str.ofString "law") 435, Value.str (Str.ofString "law") 436, Value.str (Str.ofString "/claim/cut.py") 437, Value.int 174 0, Value.int 1 0, Value.int 0 0, Value.int 0 0, Value.int 3 0, Value.ref 185, Value.bool true, Value.int 181 0, Value.ref 186, Value.none, Value.none, Value.none, Value.ref 187, Value.int 438 0, Value.int 174 0, Value.str (Str.ofString "/claim/cut.py") 439] }) ::
  (nat_lit 189, o189) :: []
noncomputable def st5 : Stmt := by
  refine (?_ : { o : Stmt // o = nthS topS 5 }).1
  refine ⟨?o, ?h⟩
  case h => (conv => rhs; whnf)
noncomputable def st7 : Stmt := by
  refine (?_ : { o : Stmt // o = nthS topS 7 }).1
  refine ⟨?o, ?h⟩
  case h => (conv => rhs; whnf)
noncomputable def st8 : Stmt := by
  refine (?_ : { o : Stmt // o = nthS topS 8 }).1
  refine ⟨?o, ?h⟩
  case h => (conv => rhs; whnf)
noncomputable def st9 : Stmt := by
  refine (?_ : { o : Stmt // o = nthS topS 9 }).1
  refine ⟨?o, ?h⟩
  case h => (conv => rhs; whnf)
noncomputable def st10 : Stmt := by
  refine (?_ : { o : Stmt // o = nthS topS 10 }).1
  refine ⟨?o, ?h⟩
  case h => (conv => rhs; whnf)
noncomputable def st11 : Stmt := by
  refine (?_ : { o : Stmt // o = nthS topS 11 }).1
  refine ⟨?o, ?h⟩
  case h => (conv => rhs; whnf)
noncomputable def st12 : Stmt := by
  refine (?_ : { o : Stmt // o = nthS topS 12 }).1
  refine ⟨?o, ?h⟩
  case h => (conv => rhs; whnf)
noncomputable def st13 : Stmt := by
  refine (?_ : { o : Stmt // o = nthS topS 13 }).1
  refine ⟨?o, ?h⟩
  case h => (conv => rhs; whnf)
noncomputable def st15 : Stmt := by
  refine (?_ : { o : Stmt // o = nthS topS 15 }).1
  refine ⟨?o, ?h⟩
  case h => (conv => rhs; whnf)
noncomputable def st16 : Stmt := by
  refine (?_ : { o : Stmt // o = nthS topS 16 }).1
  refine ⟨?o, ?h⟩
  case h => (conv => rhs; whnf)
noncomputable def st17 : Stmt := by
  refine (?_ : { o : Stmt // o = nthS topS 17 }).1
  refine ⟨?o, ?h⟩
  case h => (conv => rhs; whnf)
noncomputable def st18 : Stmt := by
  refine (?_ : { o : Stmt // o = nthS topS 18 }).1
  refine ⟨?o, ?h⟩
  case h => (conv => rhs; whnf)
noncomputable def st19 : Stmt := by
  refine (?_ : { o : Stmt // o = nthS topS 19 }).1
  refine ⟨?o, ?h⟩
  case h => (conv => rhs; whnf)
noncomputable def st20 : Stmt := by
  refine (?_ : { o : Stmt // o = nthS topS 20 }).1
  refine ⟨?o, ?h⟩
  case h => (conv => rhs; whnf)
noncomputable def st21 : Stmt := by
  refine (?_ : { o : Stmt // o = nthS topS 21 }).1
  refine ⟨?o, ?h⟩
  case h => (conv => rhs; whnf)
noncomputable def st22 : Stmt := by
  refine (?_ : { o : Stmt // o = nthS topS 22 }).1
  refine ⟨?o, ?h⟩
  case h => (conv => rhs; whnf)
noncomputable def st23 : Stmt := by
  refine (?_ : { o : Stmt // o = nthS topS 23 }).1
  refine ⟨?o, ?h⟩
  case h => (conv => rhs; whnf)
noncomputable def hd.view_39 : Program := { PySem.Challenge.pw_sw0036_01 with main := { PySem.Challenge.pw_sw0036_01.main with body := [st5, st7, st8, st9, st10, st11, st12, st13, st15, st16, st17, st18, st19, st20, st21, st22, st23] } }
noncomputable def dlaw : DefRec := by
  refine (?_ : { o : DefRec // o = fnD (nthS topS 23) }).1
  refine ⟨?o, ?h⟩
  case h => (conv => rhs; whnf)
noncomputable def fnC (st : Stmt) (q : Str) : Obj := match st with
  | .FunctionDef name args body _ _ _ scope _ _ _ => { cls := .none, data := .func { name := name, qualname := q, params := args, body := .stmts body, scope := scope, globals := 0, closure := [], defaults := .none, kwdefaults := .none } }
  | _ => default
noncomputable def sts1 : List Stmt := [nthS topS 0, nthS topS 1, nthS topS 2, nthS topS 3, nthS topS 4]
noncomputable def sts2 : List Stmt := [nthS topS 5]
noncomputable def sts3 : List Stmt := [nthS topS 6, nthS topS 7, nthS topS 8, nthS topS 9]
noncomputable def sts4 : List Stmt := [nthS topS 10, nthS topS 11, nthS topS 12, nthS topS 13]
noncomputable def sts5 : List Stmt := [nthS topS 14, nthS topS 15, nthS topS 16, nthS topS 17, nthS topS 18]
noncomputable def sts6 : List Stmt := [nthS topS 19, nthS topS 20, nthS topS 21, nthS topS 22, nthS topS 23]
noncomputable def bodE : List Stmt := sts1 ++ (sts2 ++ (sts3 ++ (sts4 ++ (sts5 ++ (sts6 ++ ([]))))))
noncomputable def envE : Env := { scope := PySem.Challenge.pw_sw0036_01.main.scope, locals := mainNs, globals := mainNs, cells := [], code := .ref 13, frame := some 14 }
noncomputable abbrev codE : Code := .body bodE envE
noncomputable abbrev annE : Option Value := some (Value.ref 6)
noncomputable abbrev p0E : Pos := (⟨nat_lit 0, nat_lit 0, nat_lit 0, nat_lit 0⟩ : Pos)
noncomputable def q11 : Params → Obj := fun _ => { cls := Value.type "tuple", data := Data.seq #[] }
noncomputable def q12_1 : Params → Obj := fun _ => { cls := Value.none, data := Data.fields #[] }
noncomputable def q13 : Params → Obj := fun _ => { cls := Value.type "code", data := Data.fields #[Value.str (Str.ofString "<module>") 182, Value.str (Str.ofString "<module>") 183, Value.str (Str.ofString "/claim/cut.py") 184, Value.int 1 0, Value.int 0 0, Value.int 0 0, Value.int 0 0, Value.int 0 0, Value.ref 11, Value.bool false, Value.int 181 0, Value.ref 12, Value.none, Value.none, Value.none, Value.none, Value.int 185 0, Value.int 1 0, Value.str (Str.ofString "/claim/cut.py") 186] }
noncomputable def q14 : Params → Obj := fun _ => { cls := Value.type "frame", slots := #[some (Value.ref 13), some (Value.ref 3), some (Value.ref 3), none, some (Value.str (Str.ofString "__main__") 164), none, some (Value.ref 0)] }
noncomputable def tr0 : Params → BT := fun P => (.node (boot_o_0 P) (.node (boot_o_1 P) (.node (boot_o_3 P) (.node (boot_o_7 P) .nil .nil) (.node (q11 P) .nil .nil)) (.node (boot_o_5 P) (.node (boot_o_9 P) .nil .nil) (.node (q13 P) .nil .nil))) (.node (boot_o_2 P) (.node (boot_o_4 P) (.node (boot_o_8 P) .nil .nil) (.node (q12_1 P) .nil .nil)) (.node (boot_o_6 P) (.node (boot_o_10 P) .nil .nil) (.node (q14 P) .nil .nil))))
noncomputable abbrev S0 (w : World) (os : OsState) : SharedT := ⟨tr0 w.params, nat_lit 15, {}, Array.mk [], {}, nat_lit 187, os⟩
noncomputable def HA : Params → Heap := fun P => ⟨Array.mk (boot_o_0 P :: boot_o_1 P :: boot_o_2 P :: boot_o_3 P :: boot_o_4 P :: boot_o_5 P :: boot_o_6 P :: boot_o_7 P :: boot_o_8 P :: boot_o_9 P :: boot_o_10 P :: q11 P :: q12_1 P :: q13 P :: q14 P :: []), {}⟩
theorem lpre (w : World) : (fun os => topGo treeTable PySem.Challenge.pw_sw0036_01 w (nat_lit 11) annE (nat_lit 12) ⟨boot_heap w.params, Array.mk [], boot_drawn, boot_toks, os⟩ (topStub PySem.Challenge.pw_sw0036_01)) = fun os => some ((⟨HA w.params, Array.mk [], {}, nat_lit 187, os⟩ : Shared), (⟨denote treeTable codE, codE, p0E, [topFrame p0E]⟩ : Thread)) := by kernel_rfl
theorem lblock (w : World) : (fun os => segRun treeTable PySem.Challenge.pw_sw0036_01 w (nat_lit 11) annE (nat_lit 1) (nat_lit 1) (⟨HA w.params, Array.mk [], {}, nat_lit 187, os⟩ : Shared) (blockOf bodE envE codE p0E [topFrame p0E])) = fun os => some (Flow.next, (S0 w os).abs, codE, p0E) := by kernel_rfl
noncomputable def q3_7 : Params → Obj := fun P => { cls := Value.type "dict", data := Data.dict #[{ hash := PyData.keyHash P (Str.ofString "__name__"), key := Value.str (Str.ofString "__name__") 165, val := Value.str (Str.ofString "cpy313.netrc") 230 }, { hash := PyData.keyHash P (Str.ofString "__doc__"), key := Value.str (Str.ofString "__doc__") 166, val := Value.none }, { hash := PyData.keyHash P (Str.ofString "__package__"), key := Value.str (Str.ofString "__package__") 167, val := Value.none }, { hash := PyData.keyHash P (Str.ofString "__loader__"), key := Value.str (Str.ofString "__loader__") 168, val := Value.builtin "__main__.__loader__#opaque" }, { hash := PyData.keyHash P (Str.ofString "__spec__"), key := Value.str (Str.ofString "__spec__") 169, val := Value.none }, { hash := PyData.keyHash P (Str.ofString "__annotations__"), key := Value.str (Str.ofString "__annotations__") 170, val := Value.ref 6 }, { hash := PyData.keyHash P (Str.ofString "__builtins__"), key := Value.str (Str.ofString "__builtins__") 171, val := Value.ref 4 }, { hash := PyData.keyHash P (Str.ofString "__file__"), key := Value.str (Str.ofString "__file__") 173, val := Value.str (Str.ofString "/claim/cut.py") 172 }, { hash := PyData.keyHash P (Str.ofString "__cached__"), key := Value.str (Str.ofString "__cached__") 174, val := Value.none }, { hash := PyData.keyHash P (Str.ofString "insort_right"), key := Value.str (Str.ofString "insort_right") 201, val := Value.ref 23 }, { hash := PyData.keyHash P (Str.ofString "bisect_right"), key := Value.str (Str.ofString "bisect_right") 215, val := Value.ref 32 }, { hash := PyData.keyHash P (Str.ofString "bisect_left"), key := Value.str (Str.ofString "bisect_left") 229, val := Value.ref 41 }] 12 }
noncomputable def q12_6 : Params → Obj := fun _ => { cls := Value.none, data := Data.fields #[Value.int 2 0, Value.int 0 0, Value.ref 22, Value.int 8 0, Value.int 0 0, Value.ref 31, Value.int 28 0, Value.int 0 0, Value.ref 40] }
noncomputable def q15 : Params → Obj := fun _ => { cls := Value.type "tuple", data := Data.seq #[Value.int 0 189, Value.none] }
noncomputable def q16 : Params → Obj := fun P => { cls := Value.type "dict", data := Data.dict #[{ hash := PyData.keyHash P (Str.ofString "key"), key := Value.str (Str.ofString "key") 190, val := Value.none }] 1 }
noncomputable def q17 : Params → Obj := fun _ => { cls := Value.type "tuple", data := Data.seq #[] }
noncomputable def q18 : Params → Obj := fun _ => { cls := Value.none, data := Data.fields #[] }
noncomputable def q19 : Params → Obj := fun _ => { cls := Value.type "tuple", data := Data.seq #[Value.str (Str.ofString "a") 194, Value.str (Str.ofString "x") 195, Value.str (Str.ofString "lo") 196, Value.str (Str.ofString "hi") 197, Value.str (Str.ofString "key") 198] }
noncomputable def q20 : Params → Obj := fun _ => { cls := Value.type "tuple", data := Data.seq #[] }
noncomputable def c21 : Obj := fnC (nthS topS 1) (Str.ofString "insort_right")
noncomputable def q22 : Params → Obj := fun _ => { cls := Value.type "code", data := Data.fields #[Value.str (Str.ofString "insort_right") 191, Value.str (Str.ofString "insort_right") 192, Value.str (Str.ofString "/claim/cut.py") 193, Value.int 2 0, Value.int 4 0, Value.int 0 0, Value.int 1 0, Value.int 3 0, Value.ref 17, Value.bool true, Value.int 181 0, Value.ref 18, Value.none, Value.ref 19, Value.ref 20, Value.ref 21, Value.int 199 0, Value.int 2 0, Value.str (Str.ofString "/claim/cut.py") 200] }
noncomputable def q24 : Params → Obj := fun _ => { cls := Value.type "tuple", data := Data.seq #[Value.int 0 202, Value.none] }
noncomputable def q25 : Params → Obj := fun P => { cls := Value.type "dict", data := Data.dict #[{ hash := PyData.keyHash P (Str.ofString "key"), key := Value.str (Str.ofString "key") 203, val := Value.none }] 1 }
noncomputable def q26 : Params → Obj := fun _ => { cls := Value.type "tuple", data := Data.seq #[] }
noncomputable def q27 : Params → Obj := fun _ => { cls := Value.none, data := Data.fields #[] }
noncomputable def q28 : Params → Obj := fun _ => { cls := Value.type "tuple", data := Data.seq #[Value.str (Str.ofString "a") 207, Value.str (Str.ofString "x") 208, Value.str (Str.ofString "lo") 209, Value.str (Str.ofString "hi") 210, Value.str (Str.ofString "key") 211, Value.str (Str.ofString "mid") 212] }
noncomputable def q29 : Params → Obj := fun _ => { cls := Value.type "tuple", data := Data.seq #[] }
noncomputable def c30 : Obj := fnC (nthS topS 2) (Str.ofString "bisect_right")
noncomputable def q31 : Params → Obj := fun _ => { cls := Value.type "code", data := Data.fields #[Value.str (Str.ofString "bisect_right") 204, Value.str (Str.ofString "bisect_right") 205, Value.str (Str.ofString "/claim/cut.py") 206, Value.int 8 0, Value.int 4 0, Value.int 0 0, Value.int 1 0, Value.int 3 0, Value.ref 26, Value.bool true, Value.int 181 0, Value.ref 27, Value.none, Value.ref 28, Value.ref 29, Value.ref 30, Value.int 213 0, Value.int 8 0, Value.str (Str.ofString "/claim/cut.py") 214] }
noncomputable def q33 : Params → Obj := fun _ => { cls := Value.type "tuple", data := Data.seq #[Value.int 0 216, Value.none] }
noncomputable def q34 : Params → Obj := fun P => { cls := Value.type "dict", data := Data.dict #[{ hash := PyData.keyHash P (Str.ofString "key"), key := Value.str (Str.ofString "key") 217, val := Value.none }] 1 }
noncomputable def q35 : Params → Obj := fun _ => { cls := Value.type "tuple", data := Data.seq #[] }
noncomputable def q36 : Params → Obj := fun _ => { cls := Value.none, data := Data.fields #[] }
noncomputable def q37 : Params → Obj := fun _ => { cls := Value.type "tuple", data := Data.seq #[Value.str (Str.ofString "a") 221, Value.str (Str.ofString "x") 222, Value.str (Str.ofString "lo") 223, Value.str (Str.ofString "hi") 224, Value.str (Str.ofString "key") 225, Value.str (Str.ofString "mid") 226] }
noncomputable def q38 : Params → Obj := fun _ => { cls := Value.type "tuple", data := Data.seq #[] }
noncomputable def c39 : Obj := fnC (nthS topS 3) (Str.ofString "bisect_left")
noncomputable def q40 : Params → Obj := fun _ => { cls := Value.type "code", data := Data.fields #[Value.str (Str.ofString "bisect_left") 218, Value.str (Str.ofString "bisect_left") 219, Value.str (Str.ofString "/claim/cut.py") 220, Value.int 28 0, Value.int 4 0, Value.int 0 0, Value.int 1 0, Value.int 3 0, Value.ref 35, Value.bool true, Value.int 181 0, Value.ref 36, Value.none, Value.ref 37, Value.ref 38, Value.ref 39, Value.int 227 0, Value.int 28 0, Value.str (Str.ofString "/claim/cut.py") 228] }
noncomputable def tr1 : Params → BT := fun P => (.node (boot_o_0 P) (.node (boot_o_1 P) (.node (q3_7 P) (.node (boot_o_7 P) (.node (q15 P) (.node (q31 P) .nil .nil) .nil) (.node (o23) (.node (c39) .nil .nil) .nil)) (.node (q11 P) (.node (q19 P) (.node (q35 P) .nil .nil) .nil) (.node (q27 P) .nil .nil))) (.node (boot_o_5 P) (.node (boot_o_9 P) (.node (q17 P) (.node (q33 P) .nil .nil) .nil) (.node (q25 P) (.node (o41) .nil .nil) .nil)) (.node (q13 P) (.node (c21) (.node (q37 P) .nil .nil) .nil) (.node (q29 P) .nil .nil)))) (.node (boot_o_2 P) (.node (boot_o_4 P) (.node (boot_o_8 P) (.node (q16 P) (.node (o32) .nil .nil) .nil) (.node (q24 P) (.node (q40 P) .nil .nil) .nil)) (.node (q12_6 P) (.node (q20 P) (.node (q36 P) .nil .nil) .nil) (.node (q28 P) .nil .nil))) (.node (boot_o_6 P) (.node (boot_o_10 P) (.node (q18 P) (.node (q34 P) .nil .nil) .nil) (.node (q26 P) .nil .nil)) (.node (q14 P) (.node (q22 P) (.node (q38 P) .nil .nil) .nil) (.node (c30) .nil .nil)))))
noncomputable abbrev S1 (w : World) (os : OsState) : SharedT := ⟨tr1 w.params, nat_lit 42, {}, Array.mk [], {}, nat_lit 232, os⟩
theorem lrun1 (w : World) : (fun os => segRunT treeTable PySem.Challenge.pw_sw0036_01 w (nat_lit 11) annE (nat_lit 1) (nat_lit 141) (S0 w os) (⟨(execs sts1 envE).wrap doneF deadEnd id id, codE, (⟨nat_lit 0, nat_lit 0, nat_lit 0, nat_lit 0⟩ : Pos), [topFrame p0E]⟩ : Thread)) = fun os => some (Flow.next, S1 w os, codE, (⟨nat_lit 48, nat_lit 0, nat_lit 48, nat_lit 8⟩ : Pos)) := by
  rw [Fast.te10110043849684766642, Fast.te14364793385576792824, Fast.te12563942051412417395]
  kernel_rfl
noncomputable def q3_8 : Params → Obj := fun P => { cls := Value.type "dict", data := Data.dict #[{ hash := PyData.keyHash P (Str.ofString "__name__"), key := Value.str (Str.ofString "__name__") 165, val := Value.str (Str.ofString "cpy313.netrc") 230 }, { hash := PyData.keyHash P (Str.ofString "__doc__"), key := Value.str (Str.ofString "__doc__") 166, val := Value.none }, { hash := PyData.keyHash P (Str.ofString "__package__"), key := Value.str (Str.ofString "__package__") 167, val := Value.none }, { hash := PyData.keyHash P (Str.ofString "__loader__"), key := Value.str (Str.ofString "__loader__") 168, val := Value.builtin "__main__.__loader__#opaque" }, { hash := PyData.keyHash P (Str.ofString "__spec__"), key := Value.str (Str.ofString "__spec__") 169, val := Value.none }, { hash := PyData.keyHash P (Str.ofString "__annotations__"), key := Value.str (Str.ofString "__annotations__") 170, val := Value.ref 6 }, { hash := PyData.keyHash P (Str.ofString "__builtins__"), key := Value.str (Str.ofString "__builtins__") 171, val := Value.ref 4 }, { hash := PyData.keyHash P (Str.ofString "__file__"), key := Value.str (Str.ofString "__file__") 173, val := Value.str (Str.ofString "/claim/cut.py") 172 }, { hash := PyData.keyHash P (Str.ofString "__cached__"), key := Value.str (Str.ofString "__cached__") 174, val := Value.none }, { hash := PyData.keyHash P (Str.ofString "insort_right"), key := Value.str (Str.ofString "insort_right") 201, val := Value.ref 23 }, { hash := PyData.keyHash P (Str.ofString "bisect_right"), key := Value.str (Str.ofString "bisect_right") 215, val := Value.ref 32 }, { hash := PyData.keyHash P (Str.ofString "bisect_left"), key := Value.str (Str.ofString "bisect_left") 229, val := Value.ref 41 }, { hash := PyData.keyHash P (Str.ofString "_netrclex"), key := Value.str (Str.ofString "_netrclex") 289, val := Value.ref 79 }] 13 }
noncomputable def q12_8 : Params → Obj := fun _ => { cls := Value.none, data := Data.fields #[Value.int 2 0, Value.int 0 0, Value.ref 22, Value.int 8 0, Value.int 0 0, Value.ref 31, Value.int 28 0, Value.int 0 0, Value.ref 40, Value.int 49 0, Value.int 0 0, Value.ref 47] }
noncomputable def q42 : Params → Obj := fun _ => { cls := Value.type "tuple", data := Data.seq #[] }
noncomputable def q43 : Params → Obj := fun _ => { cls := Value.type "builtin_function_or_method", data := Data.fields #[Value.builtin "type.__prepare__", Value.type "type"] }
noncomputable def q44 : Params → Obj := fun P => { cls := Value.type "dict", data := Data.dict #[{ hash := PyData.keyHash P (Str.ofString "__module__"), key := Value.str (Str.ofString "__module__") 239, val := Value.str (Str.ofString "cpy313.netrc") 230 }, { hash := PyData.keyHash P (Str.ofString "__qualname__"), key := Value.str (Str.ofString "__qualname__") 241, val := Value.str (Str.ofString "_netrclex") 240 }, { hash := PyData.keyHash P (Str.ofString "__firstlineno__"), key := Value.str (Str.ofString "__firstlineno__") 243, val := Value.int 49 242 }, { hash := PyData.keyHash P (Str.ofString "__init__"), key := Value.str (Str.ofString "__init__") 251, val := Value.ref 55 }, { hash := PyData.keyHash P (Str.ofString "_read_char"), key := Value.str (Str.ofString "_read_char") 259, val := Value.ref 62 }, { hash := PyData.keyHash P (Str.ofString "get_token"), key := Value.str (Str.ofString "get_token") 269, val := Value.ref 69 }, { hash := PyData.keyHash P (Str.ofString "push_token"), key := Value.str (Str.ofString "push_token") 277, val := Value.ref 76 }, { hash := PyData.keyHash P (Str.ofString "__static_attributes__"), key := Value.str (Str.ofString "__static_attributes__") 282, val := Value.ref 77 }] 8 }
noncomputable def q45 : Params → Obj := fun _ => { cls := Value.type "tuple", data := Data.seq #[] }
noncomputable def q46 : Params → Obj := fun _ => { cls := Value.none, data := Data.fields #[Value.int 51 0, Value.int 4 0, Value.ref 54, Value.int 57 0, Value.int 4 0, Value.ref 61, Value.int 63 0, Value.int 4 0, Value.ref 68, Value.int 90 0, Value.int 4 0, Value.ref 75] }
noncomputable def q47 : Params → Obj := fun _ => { cls := Value.type "code", data := Data.fields #[Value.str (Str.ofString "_netrclex") 234, Value.str (Str.ofString "_netrclex") 235, Value.str (Str.ofString "/claim/cut.py") 236, Value.int 49 0, Value.int 0 0, Value.int 0 0, Value.int 0 0, Value.int 0 0, Value.ref 45, Value.bool false, Value.int 181 0, Value.ref 46, Value.none, Value.none, Value.none, Value.none, Value.int 237 0, Value.int 49 0, Value.str (Str.ofString "/claim/cut.py") 238] }
noncomputable def q48 : Params → Obj := fun _ => { cls := Value.type "frame", slots := #[some (Value.ref 47), some (Value.ref 3), some (Value.ref 44), none, some (Value.str (Str.ofString "cpy313.netrc") 230), none, some (Value.ref 0)] }
noncomputable def q49 : Params → Obj := fun _ => { cls := Value.type "tuple", data := Data.seq #[] }
noncomputable def q50 : Params → Obj := fun _ => { cls := Value.none, data := Data.fields #[] }
noncomputable def q51 : Params → Obj := fun _ => { cls := Value.type "tuple", data := Data.seq #[Value.str (Str.ofString "self") 247, Value.str (Str.ofString "fp") 248] }
noncomputable def q52 : Params → Obj := fun _ => { cls := Value.type "tuple", data := Data.seq #[] }
noncomputable def c53 : Obj := fnC (nthS (clsS (nthS topS 5)) 0) (Str.ofString "_netrclex.__init__")
noncomputable def q54 : Params → Obj := fun _ => { cls := Value.type "code", data := Data.fields #[Value.str (Str.ofString "__init__") 244, Value.str (Str.ofString "_netrclex.__init__") 245, Value.str (Str.ofString "/claim/cut.py") 246, Value.int 51 0, Value.int 2 0, Value.int 0 0, Value.int 0 0, Value.int 3 0, Value.ref 49, Value.bool true, Value.int 181 0, Value.ref 50, Value.none, Value.ref 51, Value.ref 52, Value.ref 53, Value.int 249 0, Value.int 51 0, Value.str (Str.ofString "/claim/cut.py") 250] }
noncomputable def q56 : Params → Obj := fun _ => { cls := Value.type "tuple", data := Data.seq #[] }
noncomputable def q57 : Params → Obj := fun _ => { cls := Value.none, data := Data.fields #[] }
noncomputable def q58 : Params → Obj := fun _ => { cls := Value.type "tuple", data := Data.seq #[Value.str (Str.ofString "self") 255, Value.str (Str.ofString "ch") 256] }
noncomputable def q59 : Params → Obj := fun _ => { cls := Value.type "tuple", data := Data.seq #[] }
noncomputable def c60 : Obj := fnC (nthS (clsS (nthS topS 5)) 1) (Str.ofString "_netrclex._read_char")
noncomputable def q61 : Params → Obj := fun _ => { cls := Value.type "code", data := Data.fields #[Value.str (Str.ofString "_read_char") 252, Value.str (Str.ofString "_netrclex._read_char") 253, Value.str (Str.ofString "/claim/cut.py") 254, Value.int 57 0, Value.int 1 0, Value.int 0 0, Value.int 0 0, Value.int 3 0, Value.ref 56, Value.bool true, Value.int 181 0, Value.ref 57, Value.none, Value.ref 58, Value.ref 59, Value.ref 60, Value.int 257 0, Value.int 57 0, Value.str (Str.ofString "/claim/cut.py") 258] }
noncomputable def q63 : Params → Obj := fun _ => { cls := Value.type "tuple", data := Data.seq #[] }
noncomputable def q64 : Params → Obj := fun _ => { cls := Value.none, data := Data.fields #[] }
noncomputable def q65 : Params → Obj := fun _ => { cls := Value.type "tuple", data := Data.seq #[Value.str (Str.ofString "self") 263, Value.str (Str.ofString "token") 264, Value.str (Str.ofString "fiter") 265, Value.str (Str.ofString "ch") 266] }
noncomputable def q66 : Params → Obj := fun _ => { cls := Value.type "tuple", data := Data.seq #[] }
noncomputable def c67 : Obj := fnC (nthS (clsS (nthS topS 5)) 2) (Str.ofString "_netrclex.get_token")
noncomputable def q68 : Params → Obj := fun _ => { cls := Value.type "code", data := Data.fields #[Value.str (Str.ofString "get_token") 260, Value.str (Str.ofString "_netrclex.get_token") 261, Value.str (Str.ofString "/claim/cut.py") 262, Value.int 63 0, Value.int 1 0, Value.int 0 0, Value.int 0 0, Value.int 3 0, Value.ref 63, Value.bool true, Value.int 181 0, Value.ref 64, Value.none, Value.ref 65, Value.ref 66, Value.ref 67, Value.int 267 0, Value.int 63 0, Value.str (Str.ofString "/claim/cut.py") 268] }
noncomputable def q70 : Params → Obj := fun _ => { cls := Value.type "tuple", data := Data.seq #[] }
noncomputable def q71 : Params → Obj := fun _ => { cls := Value.none, data := Data.fields #[] }
noncomputable def q72 : Params → Obj := fun _ => { cls := Value.type "tuple", data := Data.seq #[Value.str (Str.ofString "self") 273, Value.str (Str.ofString "token") 274] }
noncomputable def q73 : Params → Obj := fun _ => { cls := Value.type "tuple", data := Data.seq #[] }
noncomputable def c74 : Obj := fnC (nthS (clsS (nthS topS 5)) 3) (Str.ofString "_netrclex.push_token")
noncomputable def q75 : Params → Obj := fun _ => { cls := Value.type "code", data := Data.fields #[Value.str (Str.ofString "push_token") 270, Value.str (Str.ofString "_netrclex.push_token") 271, Value.str (Str.ofString "/claim/cut.py") 272, Value.int 90 0, Value.int 2 0, Value.int 0 0, Value.int 0 0, Value.int 3 0, Value.ref 70, Value.bool true, Value.int 181 0, Value.ref 71, Value.none, Value.ref 72, Value.ref 73, Value.ref 74, Value.int 275 0, Value.int 90 0, Value.str (Str.ofString "/claim/cut.py") 276] }
noncomputable def q77 : Params → Obj := fun _ => { cls := Value.type "tuple", data := Data.seq #[Value.str (Str.ofString "instream") 278, Value.str (Str.ofString "lineno") 279, Value.str (Str.ofString "pushback") 280, Value.str (Str.ofString "whitespace") 281] }
noncomputable def q78 : Params → Obj := fun P => { cls := Value.type "dict", data := Data.dict #[{ hash := PyData.keyHash P (Str.ofString "__module__"), key := Value.str (Str.ofString "__module__") 239, val := Value.str (Str.ofString "cpy313.netrc") 230 }, { hash := PyData.keyHash P (Str.ofString "__firstlineno__"), key := Value.str (Str.ofString "__firstlineno__") 243, val := Value.int 49 242 }, { hash := PyData.keyHash P (Str.ofString "__init__"), key := Value.str (Str.ofString "__init__") 251, val := Value.ref 55 }, { hash := PyData.keyHash P (Str.ofString "_read_char"), key := Value.str (Str.ofString "_read_char") 259, val := Value.ref 62 }, { hash := PyData.keyHash P (Str.ofString "get_token"), key := Value.str (Str.ofString "get_token") 269, val := Value.ref 69 }, { hash := PyData.keyHash P (Str.ofString "push_token"), key := Value.str (Str.ofString "push_token") 277, val := Value.ref 76 }, { hash := PyData.keyHash P (Str.ofString "__static_attributes__"), key := Value.str (Str.ofString "__static_attributes__") 282, val := Value.ref 77 }, { hash := PyData.keyHash P (Str.ofString "__dict__"), key := Value.str (Str.ofString "__dict__") 284, val := Value.ref 80 }, { hash := PyData.keyHash P (Str.ofString "__weakref__"), key := Value.str (Str.ofString "__weakref__") 286, val := Value.ref 81 }, { hash := PyData.keyHash P (Str.ofString "__doc__"), key := Value.str (Str.ofString "__doc__") 287, val := Value.none }] 4 }
noncomputable def q79 : Params → Obj := fun _ => { cls := Value.type "type", data := Data.cls { name := Str.ofString "_netrclex", bases := [Value.type "object"], mro := [Value.ref 79, Value.type "object"], ns := 78, qualname := Str.ofString "_netrclex" }, slots := #[none, none, some (Value.str (Str.ofString "_netrclex") 232), some (Value.str (Str.ofString "_netrclex") 240), some (Value.builtin "object.__new__"), some (Value.bool true)] }
noncomputable def q80 : Params → Obj := fun _ => { cls := Value.type "getset_descriptor", data := Data.fields #[Value.str (Str.ofString "__dict__") 283, Value.ref 79, Value.builtin "function.__dict__", Value.builtin "function.__dict__#set"] }
noncomputable def q81 : Params → Obj := fun _ => { cls := Value.type "getset_descriptor", data := Data.fields #[Value.str (Str.ofString "__weakref__") 285, Value.ref 79, Value.builtin "ExceptionGroup.__weakref__", Value.none] }
noncomputable def q82 : Params → Obj := fun _ => { cls := Value.type "super", data := Data.fields #[Value.ref 79, Value.ref 79, Value.ref 79] }
noncomputable def q83 : Params → Obj := fun _ => { cls := Value.type "builtin_function_or_method", data := Data.fields #[Value.builtin "object.__init_subclass__", Value.ref 79] }
noncomputable def tr2 : Params → BT := fun P => (.node (boot_o_0 P) (.node (boot_o_1 P) (.node (q3_8 P) (.node (boot_o_7 P) (.node (q15 P) (.node (q31 P) (.node (q63 P) .nil .nil) .nil) (.node (q47 P) (.node (q79 P) .nil .nil) .nil)) (.node (o23) (.node (c39) (.node (q71 P) .nil .nil) .nil) (.node (o55) .nil .nil))) (.node (q11 P) (.node (q19 P) (.node (q35 P) (.node (c67) .nil .nil) .nil) (.node (q51 P) (.node (q83 P) .nil .nil) .nil)) (.node (q27 P) (.node (q43 P) (.node (q75 P) .nil .nil) .nil) (.node (q59 P) .nil .nil)))) (.node (boot_o_5 P) (.node (boot_o_9 P) (.node (q17 P) (.node (q33 P) (.node (q65 P) .nil .nil) .nil) (.node (q49 P) (.node (q81 P) .nil .nil) .nil)) (.node (q25 P) (.node (o41) (.node (q73 P) .nil .nil) .nil) (.node (q57 P) .nil .nil))) (.node (q13 P) (.node (c21) (.node (q37 P) (.node (o69) .nil .nil) .nil) (.node (c53) .nil .nil)) (.node (q29 P) (.node (q45 P) (.node (q77 P) .nil .nil) .nil) (.node (q61 P) .nil .nil))))) (.node (boot_o_2 P) (.node (boot_o_4 P) (.node (boot_o_8 P) (.node (q16 P) (.node (o32) (.node (q64 P) .nil .nil) .nil) (.node (q48 P) (.node (q80 P) .nil .nil) .nil)) (.node (q24 P) (.node (q40 P) (.node (q72 P) .nil .nil) .nil) (.node (q56 P) .nil .nil))) (.node (q12_8 P) (.node (q20 P) (.node (q36 P) (.node (q68 P) .nil .nil) .nil) (.node (q52 P) .nil .nil)) (.node (q28 P) (.node (q44 P) (.node (o76) .nil .nil) .nil) (.node (c60) .nil .nil)))) (.node (boot_o_6 P) (.node (boot_o_10 P) (.node (q18 P) (.node (q34 P) (.node (q66 P) .nil .nil) .nil) (.node (q50 P) (.node (q82 P) .nil .nil) .nil)) (.node (q26 P) (.node (q42 P) (.node (c74) .nil .nil) .nil) (.node (q58 P) .nil .nil))) (.node (q14 P) (.node (q22 P) (.node (q38 P) (.node (q70 P) .nil .nil) .nil) (.node (q54 P) .nil .nil)) (.node (c30) (.node (q46 P) (.node (q78 P) .nil .nil) .nil) (.node (o62) .nil .nil))))))
noncomputable abbrev S2 (w : World) (os : OsState) : SharedT := ⟨tr2 w.params, nat_lit 84, {}, Array.mk [], {}, nat_lit 290, os⟩
theorem lrun2 (w : World) : (fun os => segRunT treeTable PySem.Challenge.pw_sw0036_01 w (nat_lit 11) annE (nat_lit 1) (nat_lit 324) (S1 w os) (⟨(execs sts2 envE).wrap doneF deadEnd id id, codE, (⟨nat_lit 48, nat_lit 0, nat_lit 48, nat_lit 8⟩ : Pos), [topFrame p0E]⟩ : Thread)) = fun os => some (Flow.next, S2 w os, codE, (⟨nat_lit 49, nat_lit 0, nat_lit 91, nat_lit 35⟩ : Pos)) := by
  rw [Fast.te10110043849684766642, Fast.te14364793385576792824, Fast.te12563942051412417395]
  kernel_rfl
noncomputable def q3_12 : Params → Obj := fun P => { cls := Value.type "dict", data := Data.dict #[{ hash := PyData.keyHash P (Str.ofString "__name__"), key := Value.str (Str.ofString "__name__") 165, val := Value.str (Str.ofString "cpy313.operator") 290 }, { hash := PyData.keyHash P (Str.ofString "__doc__"), key := Value.str (Str.ofString "__doc__") 166, val := Value.none }, { hash := PyData.keyHash P (Str.ofString "__package__"), key := Value.str (Str.ofString "__package__") 167, val := Value.none }, { hash := PyData.keyHash P (Str.ofString "__loader__"), key := Value.str (Str.ofString "__loader__") 168, val := Value.builtin "__main__.__loader__#opaque" }, { hash := PyData.keyHash P (Str.ofString "__spec__"), key := Value.str (Str.ofString "__spec__") 169, val := Value.none }, { hash := PyData.keyHash P (Str.ofString "__annotations__"), key := Value.str (Str.ofString "__annotations__") 170, val := Value.ref 6 }, { hash := PyData.keyHash P (Str.ofString "__builtins__"), key := Value.str (Str.ofString "__builtins__") 171, val := Value.ref 4 }, { hash := PyData.keyHash P (Str.ofString "__file__"), key := Value.str (Str.ofString "__file__") 173, val := Value.str (Str.ofString "/claim/cut.py") 172 }, { hash := PyData.keyHash P (Str.ofString "__cached__"), key := Value.str (Str.ofString "__cached__") 174, val := Value.none }, { hash := PyData.keyHash P (Str.ofString "insort_right"), key := Value.str (Str.ofString "insort_right") 201, val := Value.ref 23 }, { hash := PyData.keyHash P (Str.ofString "bisect_right"), key := Value.str (Str.ofString "bisect_right") 215, val := Value.ref 32 }, { hash := PyData.keyHash P (Str.ofString "bisect_left"), key := Value.str (Str.ofString "bisect_left") 229, val := Value.ref 41 }, { hash := PyData.keyHash P (Str.ofString "_netrclex"), key := Value.str (Str.ofString "_netrclex") 289, val := Value.ref 79 }, { hash := PyData.keyHash P (Str.ofString "le"), key := Value.str (Str.ofString "le") 299, val := Value.ref 90 }, { hash := PyData.keyHash P (Str.ofString "add"), key := Value.str (Str.ofString "add") 307, val := Value.ref 97 }, { hash := PyData.keyHash P (Str.ofString "floordiv"), key := Value.str (Str.ofString "floordiv") 315, val := Value.ref 104 }] 16 }
noncomputable def q12_12 : Params → Obj := fun _ => { cls := Value.none, data := Data.fields #[Value.int 2 0, Value.int 0 0, Value.ref 22, Value.int 8 0, Value.int 0 0, Value.ref 31, Value.int 28 0, Value.int 0 0, Value.ref 40, Value.int 49 0, Value.int 0 0, Value.ref 47, Value.int 93 0, Value.int 0 0, Value.ref 89, Value.int 95 0, Value.int 0 0, Value.ref 96, Value.int 97 0, Value.int 0 0, Value.ref 103] }
noncomputable def q84 : Params → Obj := fun _ => { cls := Value.type "tuple", data := Data.seq #[] }
noncomputable def q85 : Params → Obj := fun _ => { cls := Value.none, data := Data.fields #[] }
noncomputable def q86 : Params → Obj := fun _ => { cls := Value.type "tuple", data := Data.seq #[Value.str (Str.ofString "a") 295, Value.str (Str.ofString "b") 296] }
noncomputable def q87 : Params → Obj := fun _ => { cls := Value.type "tuple", data := Data.seq #[] }
noncomputable def c88 : Obj := fnC (nthS topS 7) (Str.ofString "le")
noncomputable def q89 : Params → Obj := fun _ => { cls := Value.type "code", data := Data.fields #[Value.str (Str.ofString "le") 292, Value.str (Str.ofString "le") 293, Value.str (Str.ofString "/claim/cut.py") 294, Value.int 93 0, Value.int 2 0, Value.int 0 0, Value.int 0 0, Value.int 3 0, Value.ref 84, Value.bool true, Value.int 181 0, Value.ref 85, Value.none, Value.ref 86, Value.ref 87, Value.ref 88, Value.int 297 0, Value.int 93 0, Value.str (Str.ofString "/claim/cut.py") 298] }
noncomputable def q91 : Params → Obj := fun _ => { cls := Value.type "tuple", data := Data.seq #[] }
noncomputable def q92 : Params → Obj := fun _ => { cls := Value.none, data := Data.fields #[] }
noncomputable def q93 : Params → Obj := fun _ => { cls := Value.type "tuple", data := Data.seq #[Value.str (Str.ofString "a") 303, Value.str (Str.ofString "b") 304] }
noncomputable def q94 : Params → Obj := fun _ => { cls := Value.type "tuple", data := Data.seq #[] }
noncomputable def c95 : Obj := fnC (nthS topS 8) (Str.ofString "add")
noncomputable def q96 : Params → Obj := fun _ => { cls := Value.type "code", data := Data.fields #[Value.str (Str.ofString "add") 300, Value.str (Str.ofString "add") 301, Value.str (Str.ofString "/claim/cut.py") 302, Value.int 95 0, Value.int 2 0, Value.int 0 0, Value.int 0 0, Value.int 3 0, Value.ref 91, Value.bool true, Value.int 181 0, Value.ref 92, Value.none, Value.ref 93, Value.ref 94, Value.ref 95, Value.int 305 0, Value.int 95 0, Value.str (Str.ofString "/claim/cut.py") 306] }
noncomputable def q98 : Params → Obj := fun _ => { cls := Value.type "tuple", data := Data.seq #[] }
noncomputable def q99 : Params → Obj := fun _ => { cls := Value.none, data := Data.fields #[] }
noncomputable def q100 : Params → Obj := fun _ => { cls := Value.type "tuple", data := Data.seq #[Value.str (Str.ofString "a") 311, Value.str (Str.ofString "b") 312] }
noncomputable def q101 : Params → Obj := fun _ => { cls := Value.type "tuple", data := Data.seq #[] }
noncomputable def c102 : Obj := fnC (nthS topS 9) (Str.ofString "floordiv")
noncomputable def q103 : Params → Obj := fun _ => { cls := Value.type "code", data := Data.fields #[Value.str (Str.ofString "floordiv") 308, Value.str (Str.ofString "floordiv") 309, Value.str (Str.ofString "/claim/cut.py") 310, Value.int 97 0, Value.int 2 0, Value.int 0 0, Value.int 0 0, Value.int 3 0, Value.ref 98, Value.bool true, Value.int 181 0, Value.ref 99, Value.none, Value.ref 100, Value.ref 101, Value.ref 102, Value.int 313 0, Value.int 97 0, Value.str (Str.ofString "/claim/cut.py") 314] }
noncomputable def tr3 : Params → BT := fun P => (.node (boot_o_0 P) (.node (boot_o_1 P) (.node (q3_12 P) (.node (boot_o_7 P) (.node (q15 P) (.node (q31 P) (.node (q63 P) .nil .nil) (.node (c95) .nil .nil)) (.node (q47 P) (.node (q79 P) .nil .nil) .nil)) (.node (o23) (.node (c39) (.node (q71 P) .nil .nil) (.node (q103 P) .nil .nil)) (.node (o55) (.node (q87 P) .nil .nil) .nil))) (.node (q11 P) (.node (q19 P) (.node (q35 P) (.node (c67) .nil .nil) (.node (q99 P) .nil .nil)) (.node (q51 P) (.node (q83 P) .nil .nil) .nil)) (.node (q27 P) (.node (q43 P) (.node (q75 P) .nil .nil) .nil) (.node (q59 P) (.node (q91 P) .nil .nil) .nil)))) (.node (boot_o_5 P) (.node (boot_o_9 P) (.node (q17 P) (.node (q33 P) (.node (q65 P) .nil .nil) (.node (o97) .nil .nil)) (.node (q49 P) (.node (q81 P) .nil .nil) .nil)) (.node (q25 P) (.node (o41) (.node (q73 P) .nil .nil) .nil) (.node (q57 P) (.node (q89 P) .nil .nil) .nil))) (.node (q13 P) (.node (c21) (.node (q37 P) (.node (o69) .nil .nil) (.node (q101 P) .nil .nil)) (.node (c53) (.node (q85 P) .nil .nil) .nil)) (.node (q29 P) (.node (q45 P) (.node (q77 P) .nil .nil) .nil) (.node (q61 P) (.node (q93 P) .nil .nil) .nil))))) (.node (boot_o_2 P) (.node (boot_o_4 P) (.node (boot_o_8 P) (.node (q16 P) (.node (o32) (.node (q64 P) .nil .nil) (.node (q96 P) .nil .nil)) (.node (q48 P) (.node (q80 P) .nil .nil) .nil)) (.node (q24 P) (.node (q40 P) (.node (q72 P) .nil .nil) (.node (o104) .nil .nil)) (.node (q56 P) (.node (c88) .nil .nil) .nil))) (.node (q12_12 P) (.node (q20 P) (.node (q36 P) (.node (q68 P) .nil .nil) (.node (q100 P) .nil .nil)) (.node (q52 P) (.node (q84 P) .nil .nil) .nil)) (.node (q28 P) (.node (q44 P) (.node (o76) .nil .nil) .nil) (.node (c60) (.node (q92 P) .nil .nil) .nil)))) (.node (boot_o_6 P) (.node (boot_o_10 P) (.node (q18 P) (.node (q34 P) (.node (q66 P) .nil .nil) (.node (q98 P) .nil .nil)) (.node (q50 P) (.node (q82 P) .nil .nil) .nil)) (.node (q26 P) (.node (q42 P) (.node (c74) .nil .nil) .nil) (.node (q58 P) (.node (o90) .nil .nil) .nil))) (.node (q14 P) (.node (q22 P) (.node (q38 P) (.node (q70 P) .nil .nil) (.node (c102) .nil .nil)) (.node (q54 P) (.node (q86 P) .nil .nil) .nil)) (.node (c30) (.node (q46 P) (.node (q78 P) .nil .nil) .nil) (.node (o62) (.node (q94 P) .nil .nil) .nil))))))
noncomputable abbrev S3 (w : World) (os : OsState) : SharedT := ⟨tr3 w.params, nat_lit 105, {}, Array.mk [], {}, nat_lit 316, os⟩
theorem lrun3 (w : World) : (fun os => segRunT treeTable PySem.Challenge.pw_sw0036_01 w (nat_lit 11) annE (nat_lit 1) (nat_lit 100) (S2 w os) (⟨(execs sts3 envE).wrap doneF deadEnd id id, codE, (⟨nat_lit 49, nat_lit 0, nat_lit 91, nat_lit 35⟩ : Pos), [topFrame p0E]⟩ : Thread)) = fun os => some (Flow.next, S3 w os, codE, (⟨nat_lit 97, nat_lit 0, nat_lit 98, nat_lit 17⟩ : Pos)) := by
  rw [Fast.te10110043849684766642, Fast.te14364793385576792824, Fast.te12563942051412417395]
  kernel_rfl
noncomputable def q3_16 : Params → Obj := fun P => { cls := Value.type "dict", data := Data.dict #[{ hash := PyData.keyHash P (Str.ofString "__name__"), key := Value.str (Str.ofString "__name__") 165, val := Value.str (Str.ofString "cpy313.operator") 290 }, { hash := PyData.keyHash P (Str.ofString "__doc__"), key := Value.str (Str.ofString "__doc__") 166, val := Value.none }, { hash := PyData.keyHash P (Str.ofString "__package__"), key := Value.str (Str.ofString "__package__") 167, val := Value.none }, { hash := PyData.keyHash P (Str.ofString "__loader__"), key := Value.str (Str.ofString "__loader__") 168, val := Value.builtin "__main__.__loader__#opaque" }, { hash := PyData.keyHash P (Str.ofString "__spec__"), key := Value.str (Str.ofString "__spec__") 169, val := Value.none }, { hash := PyData.keyHash P (Str.ofString "__annotations__"), key := Value.str (Str.ofString "__annotations__") 170, val := Value.ref 6 }, { hash := PyData.keyHash P (Str.ofString "__builtins__"), key := Value.str (Str.ofString "__builtins__") 171, val := Value.ref 4 }, { hash := PyData.keyHash P (Str.ofString "__file__"), key := Value.str (Str.ofString "__file__") 173, val := Value.str (Str.ofString "/claim/cut.py") 172 }, { hash := PyData.keyHash P (Str.ofString "__cached__"), key := Value.str (Str.ofString "__cached__") 174, val := Value.none }, { hash := PyData.keyHash P (Str.ofString "insort_right"), key := Value.str (Str.ofString "insort_right") 201, val := Value.ref 23 }, { hash := PyData.keyHash P (Str.ofString "bisect_right"), key := Value.str (Str.ofString "bisect_right") 215, val := Value.ref 32 }, { hash := PyData.keyHash P (Str.ofString "bisect_left"), key := Value.str (Str.ofString "bisect_left") 229, val := Value.ref 41 }, { hash := PyData.keyHash P (Str.ofString "_netrclex"), key := Value.str (Str.ofString "_netrclex") 289, val := Value.ref 79 }, { hash := PyData.keyHash P (Str.ofString "le"), key := Value.str (Str.ofString "le") 299, val := Value.ref 90 }, { hash := PyData.keyHash P (Str.ofString "add"), key := Value.str (Str.ofString "add") 307, val := Value.ref 97 }, { hash := PyData.keyHash P (Str.ofString "floordiv"), key := Value.str (Str.ofString "floordiv") 315, val := Value.ref 104 }, { hash := PyData.keyHash P (Str.ofString "mul"), key := Value.str (Str.ofString "mul") 323, val := Value.ref 111 }, { hash := PyData.keyHash P (Str.ofString "sub"), key := Value.str (Str.ofString "sub") 331, val := Value.ref 118 }, { hash := PyData.keyHash P (Str.ofString "countOf"), key := Value.str (Str.ofString "countOf") 341, val := Value.ref 125 }, { hash := PyData.keyHash P (Str.ofString "getitem"), key := Value.str (Str.ofString "getitem") 349, val := Value.ref 132 }] 20 }
noncomputable def q12_16 : Params → Obj := fun _ => { cls := Value.none, data := Data.fields #[Value.int 2 0, Value.int 0 0, Value.ref 22, Value.int 8 0, Value.int 0 0, Value.ref 31, Value.int 28 0, Value.int 0 0, Value.ref 40, Value.int 49 0, Value.int 0 0, Value.ref 47, Value.int 93 0, Value.int 0 0, Value.ref 89, Value.int 95 0, Value.int 0 0, Value.ref 96, Value.int 97 0, Value.int 0 0, Value.ref 103, Value.int 99 0, Value.int 0 0, Value.ref 110, Value.int 101 0, Value.int 0 0, Value.ref 117, Value.int 103 0, Value.int 0 0, Value.ref 124, Value.int 109 0, Value.int 0 0, Value.ref 131] }
noncomputable def q105 : Params → Obj := fun _ => { cls := Value.type "tuple", data := Data.seq #[] }
noncomputable def q106 : Params → Obj := fun _ => { cls := Value.none, data := Data.fields #[] }
noncomputable def q107 : Params → Obj := fun _ => { cls := Value.type "tuple", data := Data.seq #[Value.str (Str.ofString "a") 319, Value.str (Str.ofString "b") 320] }
noncomputable def q108 : Params → Obj := fun _ => { cls := Value.type "tuple", data := Data.seq #[] }
noncomputable def c109 : Obj := fnC (nthS topS 10) (Str.ofString "mul")
noncomputable def q110 : Params → Obj := fun _ => { cls := Value.type "code", data := Data.fields #[Value.str (Str.ofString "mul") 316, Value.str (Str.ofString "mul") 317, Value.str (Str.ofString "/claim/cut.py") 318, Value.int 99 0, Value.int 2 0, Value.int 0 0, Value.int 0 0, Value.int 3 0, Value.ref 105, Value.bool true, Value.int 181 0, Value.ref 106, Value.none, Value.ref 107, Value.ref 108, Value.ref 109, Value.int 321 0, Value.int 99 0, Value.str (Str.ofString "/claim/cut.py") 322] }
noncomputable def q112 : Params → Obj := fun _ => { cls := Value.type "tuple", data := Data.seq #[] }
noncomputable def q113 : Params → Obj := fun _ => { cls := Value.none, data := Data.fields #[] }
noncomputable def q114 : Params → Obj := fun _ => { cls := Value.type "tuple", data := Data.seq #[Value.str (Str.ofString "a") 327, Value.str (Str.ofString "b") 328] }
noncomputable def q115 : Params → Obj := fun _ => { cls := Value.type "tuple", data := Data.seq #[] }
noncomputable def c116 : Obj := fnC (nthS topS 11) (Str.ofString "sub")
noncomputable def q117 : Params → Obj := fun _ => { cls := Value.type "code", data := Data.fields #[Value.str (Str.ofString "sub") 324, Value.str (Str.ofString "sub") 325, Value.str (Str.ofString "/claim/cut.py") 326, Value.int 101 0, Value.int 2 0, Value.int 0 0, Value.int 0 0, Value.int 3 0, Value.ref 112, Value.bool true, Value.int 181 0, Value.ref 113, Value.none, Value.ref 114, Value.ref 115, Value.ref 116, Value.int 329 0, Value.int 101 0, Value.str (Str.ofString "/claim/cut.py") 330] }
noncomputable def q119 : Params → Obj := fun _ => { cls := Value.type "tuple", data := Data.seq #[] }
noncomputable def q120 : Params → Obj := fun _ => { cls := Value.none, data := Data.fields #[] }
noncomputable def q121 : Params → Obj := fun _ => { cls := Value.type "tuple", data := Data.seq #[Value.str (Str.ofString "a") 335, Value.str (Str.ofString "b") 336, Value.str (Str.ofString "count") 337, Value.str (Str.ofString "i") 338] }
noncomputable def q122 : Params → Obj := fun _ => { cls := Value.type "tuple", data := Data.seq #[] }
noncomputable def c123 : Obj := fnC (nthS topS 12) (Str.ofString "countOf")
noncomputable def q124 : Params → Obj := fun _ => { cls := Value.type "code", data := Data.fields #[Value.str (Str.ofString "countOf") 332, Value.str (Str.ofString "countOf") 333, Value.str (Str.ofString "/claim/cut.py") 334, Value.int 103 0, Value.int 2 0, Value.int 0 0, Value.int 0 0, Value.int 3 0, Value.ref 119, Value.bool true, Value.int 181 0, Value.ref 120, Value.none, Value.ref 121, Value.ref 122, Value.ref 123, Value.int 339 0, Value.int 103 0, Value.str (Str.ofString "/claim/cut.py") 340] }
noncomputable def q126 : Params → Obj := fun _ => { cls := Value.type "tuple", data := Data.seq #[] }
noncomputable def q127 : Params → Obj := fun _ => { cls := Value.none, data := Data.fields #[] }
noncomputable def q128 : Params → Obj := fun _ => { cls := Value.type "tuple", data := Data.seq #[Value.str (Str.ofString "a") 345, Value.str (Str.ofString "b") 346] }
noncomputable def q129 : Params → Obj := fun _ => { cls := Value.type "tuple", data := Data.seq #[] }
noncomputable def c130 : Obj := fnC (nthS topS 13) (Str.ofString "getitem")
noncomputable def q131 : Params → Obj := fun _ => { cls := Value.type "code", data := Data.fields #[Value.str (Str.ofString "getitem") 342, Value.str (Str.ofString "getitem") 343, Value.str (Str.ofString "/claim/cut.py") 344, Value.int 109 0, Value.int 2 0, Value.int 0 0, Value.int 0 0, Value.int 3 0, Value.ref 126, Value.bool true, Value.int 181 0, Value.ref 127, Value.none, Value.ref 128, Value.ref 129, Value.ref 130, Value.int 347 0, Value.int 109 0, Value.str (Str.ofString "/claim/cut.py") 348] }
noncomputable def tr4 : Params → BT := fun P => (.node (boot_o_0 P) (.node (boot_o_1 P) (.node (q3_16 P) (.node (boot_o_7 P) (.node (q15 P) (.node (q31 P) (.node (q63 P) (.node (q127 P) .nil .nil) .nil) (.node (c95) .nil .nil)) (.node (q47 P) (.node (q79 P) .nil .nil) (.node (o111) .nil .nil))) (.node (o23) (.node (c39) (.node (q71 P) .nil .nil) (.node (q103 P) .nil .nil)) (.node (o55) (.node (q87 P) .nil .nil) (.node (q119 P) .nil .nil)))) (.node (q11 P) (.node (q19 P) (.node (q35 P) (.node (c67) (.node (q131 P) .nil .nil) .nil) (.node (q99 P) .nil .nil)) (.node (q51 P) (.node (q83 P) .nil .nil) (.node (q115 P) .nil .nil))) (.node (q27 P) (.node (q43 P) (.node (q75 P) .nil .nil) (.node (q107 P) .nil .nil)) (.node (q59 P) (.node (q91 P) .nil .nil) (.node (c123) .nil .nil))))) (.node (boot_o_5 P) (.node (boot_o_9 P) (.node (q17 P) (.node (q33 P) (.node (q65 P) (.node (q129 P) .nil .nil) .nil) (.node (o97) .nil .nil)) (.node (q49 P) (.node (q81 P) .nil .nil) (.node (q113 P) .nil .nil))) (.node (q25 P) (.node (o41) (.node (q73 P) .nil .nil) (.node (q105 P) .nil .nil)) (.node (q57 P) (.node (q89 P) .nil .nil) (.node (q121 P) .nil .nil)))) (.node (q13 P) (.node (c21) (.node (q37 P) (.node (o69) .nil .nil) (.node (q101 P) .nil .nil)) (.node (c53) (.node (q85 P) .nil .nil) (.node (q117 P) .nil .nil))) (.node (q29 P) (.node (q45 P) (.node (q77 P) .nil .nil) (.node (c109) .nil .nil)) (.node (q61 P) (.node (q93 P) .nil .nil) (.node (o125) .nil .nil)))))) (.node (boot_o_2 P) (.node (boot_o_4 P) (.node (boot_o_8 P) (.node (q16 P) (.node (o32) (.node (q64 P) (.node (q128 P) .nil .nil) .nil) (.node (q96 P) .nil .nil)) (.node (q48 P) (.node (q80 P) .nil .nil) (.node (q112 P) .nil .nil))) (.node (q24 P) (.node (q40 P) (.node (q72 P) .nil .nil) (.node (o104) .nil .nil)) (.node (q56 P) (.node (c88) .nil .nil) (.node (q120 P) .nil .nil)))) (.node (q12_16 P) (.node (q20 P) (.node (q36 P) (.node (q68 P) (.node (o132) .nil .nil) .nil) (.node (q100 P) .nil .nil)) (.node (q52 P) (.node (q84 P) .nil .nil) (.node (c116) .nil .nil))) (.node (q28 P) (.node (q44 P) (.node (o76) .nil .nil) (.node (q108 P) .nil .nil)) (.node (c60) (.node (q92 P) .nil .nil) (.node (q124 P) .nil .nil))))) (.node (boot_o_6 P) (.node (boot_o_10 P) (.node (q18 P) (.node (q34 P) (.node (q66 P) (.node (c130) .nil .nil) .nil) (.node (q98 P) .nil .nil)) (.node (q50 P) (.node (q82 P) .nil .nil) (.node (q114 P) .nil .nil))) (.node (q26 P) (.node (q42 P) (.node (c74) .nil .nil) (.node (q106 P) .nil .nil)) (.node (q58 P) (.node (o90) .nil .nil) (.node (q122 P) .nil .nil)))) (.node (q14 P) (.node (q22 P) (.node (q38 P) (.node (q70 P) .nil .nil) (.node (c102) .nil .nil)) (.node (q54 P) (.node (q86 P) .nil .nil) (.node (o118) .nil .nil))) (.node (c30) (.node (q46 P) (.node (q78 P) .nil .nil) (.node (q110 P) .nil .nil)) (.node (o62) (.node (q94 P) .nil .nil) (.node (q126 P) .nil .nil)))))))
noncomputable abbrev S4 (w : World) (os : OsState) : SharedT := ⟨tr4 w.params, nat_lit 133, {}, Array.mk [], {}, nat_lit 350, os⟩
theorem lrun4 (w : World) : (fun os => segRunT treeTable PySem.Challenge.pw_sw0036_01 w (nat_lit 11) annE (nat_lit 1) (nat_lit 123) (S3 w os) (⟨(execs sts4 envE).wrap doneF deadEnd id id, codE, (⟨nat_lit 97, nat_lit 0, nat_lit 98, nat_lit 17⟩ : Pos), [topFrame p0E]⟩ : Thread)) = fun os => some (Flow.next, S4 w os, codE, (⟨nat_lit 109, nat_lit 0, nat_lit 110, nat_lit 15⟩ : Pos)) := by
  rw [Fast.te10110043849684766642, Fast.te14364793385576792824, Fast.te12563942051412417395]
  kernel_rfl
noncomputable def q3_21 : Params → Obj := fun P => { cls := Value.type "dict", data := Data.dict #[{ hash := PyData.keyHash P (Str.ofString "__name__"), key := Value.str (Str.ofString "__name__") 165, val := Value.str (Str.ofString "law_sw0036_01") 350 }, { hash := PyData.keyHash P (Str.ofString "__doc__"), key := Value.str (Str.ofString "__doc__") 166, val := Value.none }, { hash := PyData.keyHash P (Str.ofString "__package__"), key := Value.str (Str.ofString "__package__") 167, val := Value.none }, { hash := PyData.keyHash P (Str.ofString "__loader__"), key := Value.str (Str.ofString "__loader__") 168, val := Value.builtin "__main__.__loader__#opaque" }, { hash := PyData.keyHash P (Str.ofString "__spec__"), key := Value.str (Str.ofString "__spec__") 169, val := Value.none }, { hash := PyData.keyHash P (Str.ofString "__annotations__"), key := Value.str (Str.ofString "__annotations__") 170, val := Value.ref 6 }, { hash := PyData.keyHash P (Str.ofString "__builtins__"), key := Value.str (Str.ofString "__builtins__") 171, val := Value.ref 4 }, { hash := PyData.keyHash P (Str.ofString "__file__"), key := Value.str (Str.ofString "__file__") 173, val := Value.str (Str.ofString "/claim/cut.py") 172 }, { hash := PyData.keyHash P (Str.ofString "__cached__"), key := Value.str (Str.ofString "__cached__") 174, val := Value.none }, { hash := PyData.keyHash P (Str.ofString "insort_right"), key := Value.str (Str.ofString "insort_right") 201, val := Value.ref 23 }, { hash := PyData.keyHash P (Str.ofString "bisect_right"), key := Value.str (Str.ofString "bisect_right") 215, val := Value.ref 32 }, { hash := PyData.keyHash P (Str.ofString "bisect_left"), key := Value.str (Str.ofString "bisect_left") 229, val := Value.ref 41 }, { hash := PyData.keyHash P (Str.ofString "_netrclex"), key := Value.str (Str.ofString "_netrclex") 289, val := Value.ref 79 }, { hash := PyData.keyHash P (Str.ofString "le"), key := Value.str (Str.ofString "le") 299, val := Value.ref 90 }, { hash := PyData.keyHash P (Str.ofString "add"), key := Value.str (Str.ofString "add") 307, val := Value.ref 97 }, { hash := PyData.keyHash P (Str.ofString "floordiv"), key := Value.str (Str.ofString "floordiv") 315, val := Value.ref 104 }, { hash := PyData.keyHash P (Str.ofString "mul"), key := Value.str (Str.ofString "mul") 323, val := Value.ref 111 }, { hash := PyData.keyHash P (Str.ofString "sub"), key := Value.str (Str.ofString "sub") 331, val := Value.ref 118 }, { hash := PyData.keyHash P (Str.ofString "countOf"), key := Value.str (Str.ofString "countOf") 341, val := Value.ref 125 }, { hash := PyData.keyHash P (Str.ofString "getitem"), key := Value.str (Str.ofString "getitem") 349, val := Value.ref 132 }, { hash := PyData.keyHash P (Str.ofString "_law_totals"), key := Value.str (Str.ofString "_law_totals") 361, val := Value.ref 139 }, { hash := PyData.keyHash P (Str.ofString "_law_written"), key := Value.str (Str.ofString "_law_written") 367, val := Value.ref 144 }, { hash := PyData.keyHash P (Str.ofString "_law_lexer"), key := Value.str (Str.ofString "_law_lexer") 378, val := Value.ref 151 }, { hash := PyData.keyHash P (Str.ofString "_law_claim"), key := Value.str (Str.ofString "_law_claim") 385, val := Value.ref 158 }] 24 }
noncomputable def q12_21 : Params → Obj := fun _ => { cls := Value.none, data := Data.fields #[Value.int 2 0, Value.int 0 0, Value.ref 22, Value.int 8 0, Value.int 0 0, Value.ref 31, Value.int 28 0, Value.int 0 0, Value.ref 40, Value.int 49 0, Value.int 0 0, Value.ref 47, Value.int 93 0, Value.int 0 0, Value.ref 89, Value.int 95 0, Value.int 0 0, Value.ref 96, Value.int 97 0, Value.int 0 0, Value.ref 103, Value.int 99 0, Value.int 0 0, Value.ref 110, Value.int 101 0, Value.int 0 0, Value.ref 117, Value.int 103 0, Value.int 0 0, Value.ref 124, Value.int 109 0, Value.int 0 0, Value.ref 131, Value.int 112 0, Value.int 0 0, Value.ref 138, Value.int 117 0, Value.int 0 0, Value.ref 143, Value.int 121 0, Value.int 0 0, Value.ref 150, Value.int 130 0, Value.int 0 0, Value.ref 157] }
noncomputable def q133 : Params → Obj := fun _ => { cls := Value.type "tuple", data := Data.seq #[] }
noncomputable def q134 : Params → Obj := fun _ => { cls := Value.none, data := Data.fields #[] }
noncomputable def q135 : Params → Obj := fun _ => { cls := Value.type "tuple", data := Data.seq #[Value.str (Str.ofString "script") 355, Value.str (Str.ofString "totals") 356, Value.str (Str.ofString "place") 357, Value.str (Str.ofString "number") 358] }
noncomputable def q136 : Params → Obj := fun _ => { cls := Value.type "tuple", data := Data.seq #[] }
noncomputable def c137 : Obj := fnC (nthS topS 15) (Str.ofString "_law_totals")
noncomputable def q138 : Params → Obj := fun _ => { cls := Value.type "code", data := Data.fields #[Value.str (Str.ofString "_law_totals") 352, Value.str (Str.ofString "_law_totals") 353, Value.str (Str.ofString "/claim/cut.py") 354, Value.int 112 0, Value.int 1 0, Value.int 0 0, Value.int 0 0, Value.int 3 0, Value.ref 133, Value.bool true, Value.int 181 0, Value.ref 134, Value.none, Value.ref 135, Value.ref 136, Value.ref 137, Value.int 359 0, Value.int 112 0, Value.str (Str.ofString "/claim/cut.py") 360] }
noncomputable def q140 : Params → Obj := fun _ => { cls := Value.type "tuple", data := Data.seq #[] }
noncomputable def q141 : Params → Obj := fun _ => { cls := Value.none, data := Data.fields #[] }
noncomputable def c142 : Obj := fnC (nthS topS 16) (Str.ofString "_law_written")
noncomputable def q143 : Params → Obj := fun _ => { cls := Value.type "code", data := Data.fields #[Value.str (Str.ofString "_law_written") 362, Value.str (Str.ofString "_law_written") 363, Value.str (Str.ofString "/claim/cut.py") 364, Value.int 117 0, Value.int 2 0, Value.int 0 0, Value.int 0 0, Value.int 3 0, Value.ref 140, Value.bool true, Value.int 181 0, Value.ref 141, Value.none, Value.none, Value.none, Value.ref 142, Value.int 365 0, Value.int 117 0, Value.str (Str.ofString "/claim/cut.py") 366] }
noncomputable def q145 : Params → Obj := fun _ => { cls := Value.type "tuple", data := Data.seq #[] }
noncomputable def q146 : Params → Obj := fun _ => { cls := Value.none, data := Data.fields #[] }
noncomputable def q147 : Params → Obj := fun _ => { cls := Value.type "tuple", data := Data.seq #[Value.str (Str.ofString "text") 371, Value.str (Str.ofString "read") 372, Value.str (Str.ofString "stream") 373] }
noncomputable def q148 : Params → Obj := fun _ => { cls := Value.type "tuple", data := Data.seq #[Value.str (Str.ofString "text") 374, Value.str (Str.ofString "place") 375] }
noncomputable def c149 : Obj := fnC (nthS topS 17) (Str.ofString "_law_lexer")
noncomputable def q150 : Params → Obj := fun _ => { cls := Value.type "code", data := Data.fields #[Value.str (Str.ofString "_law_lexer") 368, Value.str (Str.ofString "_law_lexer") 369, Value.str (Str.ofString "/claim/cut.py") 370, Value.int 121 0, Value.int 1 0, Value.int 0 0, Value.int 0 0, Value.int 3 0, Value.ref 145, Value.bool true, Value.int 181 0, Value.ref 146, Value.none, Value.ref 147, Value.ref 148, Value.ref 149, Value.int 376 0, Value.int 121 0, Value.str (Str.ofString "/claim/cut.py") 377] }
noncomputable def q152 : Params → Obj := fun _ => { cls := Value.type "tuple", data := Data.seq #[] }
noncomputable def q153 : Params → Obj := fun _ => { cls := Value.none, data := Data.fields #[] }
noncomputable def q154 : Params → Obj := fun _ => { cls := Value.type "tuple", data := Data.seq #[Value.str (Str.ofString "creditor") 382] }
noncomputable def q155 : Params → Obj := fun _ => { cls := Value.type "tuple", data := Data.seq #[] }
noncomputable def c156 : Obj := fnC (nthS topS 18) (Str.ofString "_law_claim")
noncomputable def q157 : Params → Obj := fun _ => { cls := Value.type "code", data := Data.fields #[Value.str (Str.ofString "_law_claim") 379, Value.str (Str.ofString "_law_claim") 380, Value.str (Str.ofString "/claim/cut.py") 381, Value.int 130 0, Value.int 1 0, Value.int 0 0, Value.int 0 0, Value.int 3 0, Value.ref 152, Value.bool true, Value.int 181 0, Value.ref 153, Value.none, Value.ref 154, Value.ref 155, Value.ref 156, Value.int 383 0, Value.int 130 0, Value.str (Str.ofString "/claim/cut.py") 384] }
noncomputable def tr5 : Params → BT := fun P => (.node (boot_o_0 P) (.node (boot_o_1 P) (.node (q3_21 P) (.node (boot_o_7 P) (.node (q15 P) (.node (q31 P) (.node (q63 P) (.node (q127 P) .nil .nil) .nil) (.node (c95) .nil .nil)) (.node (q47 P) (.node (q79 P) (.node (q143 P) .nil .nil) .nil) (.node (o111) .nil .nil))) (.node (o23) (.node (c39) (.node (q71 P) (.node (q135 P) .nil .nil) .nil) (.node (q103 P) .nil .nil)) (.node (o55) (.node (q87 P) (.node (o151) .nil .nil) .nil) (.node (q119 P) .nil .nil)))) (.node (q11 P) (.node (q19 P) (.node (q35 P) (.node (c67) (.node (q131 P) .nil .nil) .nil) (.node (q99 P) .nil .nil)) (.node (q51 P) (.node (q83 P) (.node (q147 P) .nil .nil) .nil) (.node (q115 P) .nil .nil))) (.node (q27 P) (.node (q43 P) (.node (q75 P) (.node (o139) .nil .nil) .nil) (.node (q107 P) .nil .nil)) (.node (q59 P) (.node (q91 P) (.node (q155 P) .nil .nil) .nil) (.node (c123) .nil .nil))))) (.node (boot_o_5 P) (.node (boot_o_9 P) (.node (q17 P) (.node (q33 P) (.node (q65 P) (.node (q129 P) .nil .nil) .nil) (.node (o97) .nil .nil)) (.node (q49 P) (.node (q81 P) (.node (q145 P) .nil .nil) .nil) (.node (q113 P) .nil .nil))) (.node (q25 P) (.node (o41) (.node (q73 P) (.node (c137) .nil .nil) .nil) (.node (q105 P) .nil .nil)) (.node (q57 P) (.node (q89 P) (.node (q153 P) .nil .nil) .nil) (.node (q121 P) .nil .nil)))) (.node (q13 P) (.node (c21) (.node (q37 P) (.node (o69) (.node (q133 P) .nil .nil) .nil) (.node (q101 P) .nil .nil)) (.node (c53) (.node (q85 P) (.node (c149) .nil .nil) .nil) (.node (q117 P) .nil .nil))) (.node (q29 P) (.node (q45 P) (.node (q77 P) (.node (q141 P) .nil .nil) .nil) (.node (c109) .nil .nil)) (.node (q61 P) (.node (q93 P) (.node (q157 P) .nil .nil) .nil) (.node (o125) .nil .nil)))))) (.node (boot_o_2 P) (.node (boot_o_4 P) (.node (boot_o_8 P) (.node (q16 P) (.node (o32) (.node (q64 P) (.node (q128 P) .nil .nil) .nil) (.node (q96 P) .nil .nil)) (.node (q48 P) (.node (q80 P) (.node (o144) .nil .nil) .nil) (.node (q112 P) .nil .nil))) (.node (q24 P) (.node (q40 P) (.node (q72 P) (.node (q136 P) .nil .nil) .nil) (.node (o104) .nil .nil)) (.node (q56 P) (.node (c88) (.node (q152 P) .nil .nil) .nil) (.node (q120 P) .nil .nil)))) (.node (q12_21 P) (.node (q20 P) (.node (q36 P) (.node (q68 P) (.node (o132) .nil .nil) .nil) (.node (q100 P) .nil .nil)) (.node (q52 P) (.node (q84 P) (.node (q148 P) .nil .nil) .nil) (.node (c116) .nil .nil))) (.node (q28 P) (.node (q44 P) (.node (o76) (.node (q140 P) .nil .nil) .nil) (.node (q108 P) .nil .nil)) (.node (c60) (.node (q92 P) (.node (c156) .nil .nil) .nil) (.node (q124 P) .nil .nil))))) (.node (boot_o_6 P) (.node (boot_o_10 P) (.node (q18 P) (.node (q34 P) (.node (q66 P) (.node (c130) .nil .nil) .nil) (.node (q98 P) .nil .nil)) (.node (q50 P) (.node (q82 P) (.node (q146 P) .nil .nil) .nil) (.node (q114 P) .nil .nil))) (.node (q26 P) (.node (q42 P) (.node (c74) (.node (q138 P) .nil .nil) .nil) (.node (q106 P) .nil .nil)) (.node (q58 P) (.node (o90) (.node (q154 P) .nil .nil) .nil) (.node (q122 P) .nil .nil)))) (.node (q14 P) (.node (q22 P) (.node (q38 P) (.node (q70 P) (.node (q134 P) .nil .nil) .nil) (.node (c102) .nil .nil)) (.node (q54 P) (.node (q86 P) (.node (q150 P) .nil .nil) .nil) (.node (o118) .nil .nil))) (.node (c30) (.node (q46 P) (.node (q78 P) (.node (c142) .nil .nil) .nil) (.node (q110 P) .nil .nil)) (.node (o62) (.node (q94 P) (.node (o158) .nil .nil) .nil) (.node (q126 P) .nil .nil)))))))
noncomputable abbrev S5 (w : World) (os : OsState) : SharedT := ⟨tr5 w.params, nat_lit 159, {}, Array.mk [], {}, nat_lit 386, os⟩
theorem lrun5 (w : World) : (fun os => segRunT treeTable PySem.Challenge.pw_sw0036_01 w (nat_lit 11) annE (nat_lit 1) (nat_lit 130) (S4 w os) (⟨(execs sts5 envE).wrap doneF deadEnd id id, codE, (⟨nat_lit 109, nat_lit 0, nat_lit 110, nat_lit 15⟩ : Pos), [topFrame p0E]⟩ : Thread)) = fun os => some (Flow.next, S5 w os, codE, (⟨nat_lit 130, nat_lit 0, nat_lit 131, nat_lit 31⟩ : Pos)) := by
  rw [Fast.te10110043849684766642, Fast.te14364793385576792824, Fast.te12563942051412417395]
  kernel_rfl
noncomputable def q3_26 : Params → Obj := fun P => { cls := Value.type "dict", data := Data.dict #[{ hash := PyData.keyHash P (Str.ofString "__name__"), key := Value.str (Str.ofString "__name__") 165, val := Value.str (Str.ofString "law_sw0036_01") 350 }, { hash := PyData.keyHash P (Str.ofString "__doc__"), key := Value.str (Str.ofString "__doc__") 166, val := Value.none }, { hash := PyData.keyHash P (Str.ofString "__package__"), key := Value.str (Str.ofString "__package__") 167, val := Value.none }, { hash := PyData.keyHash P (Str.ofString "__loader__"), key := Value.str (Str.ofString "__loader__") 168, val := Value.builtin "__main__.__loader__#opaque" }, { hash := PyData.keyHash P (Str.ofString "__spec__"), key := Value.str (Str.ofString "__spec__") 169, val := Value.none }, { hash := PyData.keyHash P (Str.ofString "__annotations__"), key := Value.str (Str.ofString "__annotations__") 170, val := Value.ref 6 }, { hash := PyData.keyHash P (Str.ofString "__builtins__"), key := Value.str (Str.ofString "__builtins__") 171, val := Value.ref 4 }, { hash := PyData.keyHash P (Str.ofString "__file__"), key := Value.str (Str.ofString "__file__") 173, val := Value.str (Str.ofString "/claim/cut.py") 172 }, { hash := PyData.keyHash P (Str.ofString "__cached__"), key := Value.str (Str.ofString "__cached__") 174, val := Value.none }, { hash := PyData.keyHash P (Str.ofString "insort_right"), key := Value.str (Str.ofString "insort_right") 201, val := Value.ref 23 }, { hash := PyData.keyHash P (Str.ofString "bisect_right"), key := Value.str (Str.ofString "bisect_right") 215, val := Value.ref 32 }, { hash := PyData.keyHash P (Str.ofString "bisect_left"), key := Value.str (Str.ofString "bisect_left") 229, val := Value.ref 41 }, { hash := PyData.keyHash P (Str.ofString "_netrclex"), key := Value.str (Str.ofString "_netrclex") 289, val := Value.ref 79 }, { hash := PyData.keyHash P (Str.ofString "le"), key := Value.str (Str.ofString "le") 299, val := Value.ref 90 }, { hash := PyData.keyHash P (Str.ofString "add"), key := Value.str (Str.ofString "add") 307, val := Value.ref 97 }, { hash := PyData.keyHash P (Str.ofString "floordiv"), key := Value.str (Str.ofString "floordiv") 315, val := Value.ref 104 }, { hash := PyData.keyHash P (Str.ofString "mul"), key := Value.str (Str.ofString "mul") 323, val := Value.ref 111 }, { hash := PyData.keyHash P (Str.ofString "sub"), key := Value.str (Str.ofString "sub") 331, val := Value.ref 118 }, { hash := PyData.keyHash P (Str.ofString "countOf"), key := Value.str (Str.ofString "countOf") 341, val := Value.ref 125 }, { hash := PyData.keyHash P (Str.ofString "getitem"), key := Value.str (Str.ofString "getitem") 349, val := Value.ref 132 }, { hash := PyData.keyHash P (Str.ofString "_law_totals"), key := Value.str (Str.ofString "_law_totals") 361, val := Value.ref 139 }, { hash := PyData.keyHash P (Str.ofString "_law_written"), key := Value.str (Str.ofString "_law_written") 367, val := Value.ref 144 }, { hash := PyData.keyHash P (Str.ofString "_law_lexer"), key := Value.str (Str.ofString "_law_lexer") 378, val := Value.ref 151 }, { hash := PyData.keyHash P (Str.ofString "_law_claim"), key := Value.str (Str.ofString "_law_claim") 385, val := Value.ref 158 }, { hash := PyData.keyHash P (Str.ofString "_law_share"), key := Value.str (Str.ofString "_law_share") 395, val := Value.ref 165 }, { hash := PyData.keyHash P (Str.ofString "_law_held"), key := Value.str (Str.ofString "_law_held") 401, val := Value.ref 170 }, { hash := PyData.keyHash P (Str.ofString "_law_by_the_line"), key := Value.str (Str.ofString "_law_by_the_line") 421, val := Value.ref 177 }, { hash := PyData.keyHash P (Str.ofString "_law_as_two_alone"), key := Value.str (Str.ofString "_law_as_two_alone") 434, val := Value.ref 184 }, { hash := PyData.keyHash P (Str.ofString "law"), key := Value.str (Str.ofString "law") 440, val := Value.ref 189 }] 29 }
noncomputable def q12_26 : Params → Obj := fun _ => { cls := Value.none, data := Data.fields #[Value.int 2 0, Value.int 0 0, Value.ref 22, Value.int 8 0, Value.int 0 0, Value.ref 31, Value.int 28 0, Value.int 0 0, Value.ref 40, Value.int 49 0, Value.int 0 0, Value.ref 47, Value.int 93 0, Value.int 0 0, Value.ref 89, Value.int 95 0, Value.int 0 0, Value.ref 96, Value.int 97 0, Value.int 0 0, Value.ref 103, Value.int 99 0, Value.int 0 0, Value.ref 110, Value.int 101 0, Value.int 0 0, Value.ref 117, Value.int 103 0, Value.int 0 0, Value.ref 124, Value.int 109 0, Value.int 0 0, Value.ref 131, Value.int 112 0, Value.int 0 0, Value.ref 138, Value.int 117 0, Value.int 0 0, Value.ref 143, Value.int 121 0, Value.int 0 0, Value.ref 150, Value.int 130 0, Value.int 0 0, Value.ref 157, Value.int 132 0, Value.int 0 0, Value.ref 164, Value.int 135 0, Value.int 0 0, Value.ref 169, Value.int 138 0, Value.int 0 0, Value.ref 176, Value.int 169 0, Value.int 0 0, Value.ref 183, Value.int 174 0, Value.int 0 0, Value.ref 188] }
noncomputable def q159 : Params → Obj := fun _ => { cls := Value.type "tuple", data := Data.seq #[] }
noncomputable def q160 : Params → Obj := fun _ => { cls := Value.none, data := Data.fields #[] }
noncomputable def q161 : Params → Obj := fun _ => { cls := Value.type "tuple", data := Data.seq #[Value.str (Str.ofString "claim") 389, Value.str (Str.ofString "height") 390, Value.str (Str.ofString "top") 391, Value.str (Str.ofString "half") 392] }
noncomputable def q162 : Params → Obj := fun _ => { cls := Value.type "tuple", data := Data.seq #[] }
noncomputable def c163 : Obj := fnC (nthS topS 19) (Str.ofString "_law_share")
noncomputable def q164 : Params → Obj := fun _ => { cls := Value.type "code", data := Data.fields #[Value.str (Str.ofString "_law_share") 386, Value.str (Str.ofString "_law_share") 387, Value.str (Str.ofString "/claim/cut.py") 388, Value.int 132 0, Value.int 3 0, Value.int 0 0, Value.int 0 0, Value.int 3 0, Value.ref 159, Value.bool true, Value.int 181 0, Value.ref 160, Value.none, Value.ref 161, Value.ref 162, Value.ref 163, Value.int 393 0, Value.int 132 0, Value.str (Str.ofString "/claim/cut.py") 394] }
noncomputable def q166 : Params → Obj := fun _ => { cls := Value.type "tuple", data := Data.seq #[] }
noncomputable def q167 : Params → Obj := fun _ => { cls := Value.none, data := Data.fields #[] }
noncomputable def c168 : Obj := fnC (nthS topS 20) (Str.ofString "_law_held")
noncomputable def q169 : Params → Obj := fun _ => { cls := Value.type "code", data := Data.fields #[Value.str (Str.ofString "_law_held") 396, Value.str (Str.ofString "_law_held") 397, Value.str (Str.ofString "/claim/cut.py") 398, Value.int 135 0, Value.int 2 0, Value.int 0 0, Value.int 0 0, Value.int 3 0, Value.ref 166, Value.bool true, Value.int 181 0, Value.ref 167, Value.none, Value.none, Value.none, Value.ref 168, Value.int 399 0, Value.int 135 0, Value.str (Str.ofString "/claim/cut.py") 400] }
noncomputable def q171 : Params → Obj := fun _ => { cls := Value.type "tuple", data := Data.seq #[] }
noncomputable def q172 : Params → Obj := fun _ => { cls := Value.none, data := Data.fields #[] }
noncomputable def q173 : Params → Obj := fun _ => { cls := Value.type "tuple", data := Data.seq #[Value.str (Str.ofString "lexer") 405, Value.str (Str.ofString "row") 406, Value.str (Str.ofString "estate") 407, Value.str (Str.ofString "claims") 408, Value.str (Str.ofString "name") 409, Value.str (Str.ofString "claim") 410, Value.str (Str.ofString "left") 411, Value.str (Str.ofString "lack") 412, Value.str (Str.ofString "waiting") 413, Value.str (Str.ofString "manner") 414, Value.str (Str.ofString "part") 415, Value.str (Str.ofString "paid") 416, Value.str (Str.ofString "taken") 417, Value.str (Str.ofString "half") 418] }
noncomputable def q174 : Params → Obj := fun _ => { cls := Value.type "tuple", data := Data.seq #[] }
noncomputable def c175 : Obj := fnC (nthS topS 21) (Str.ofString "_law_by_the_line")
noncomputable def q176 : Params → Obj := fun _ => { cls := Value.type "code", data := Data.fields #[Value.str (Str.ofString "_law_by_the_line") 402, Value.str (Str.ofString "_law_by_the_line") 403, Value.str (Str.ofString "/claim/cut.py") 404, Value.int 138 0, Value.int 3 0, Value.int 0 0, Value.int 0 0, Value.int 3 0, Value.ref 171, Value.bool true, Value.int 181 0, Value.ref 172, Value.none, Value.ref 173, Value.ref 174, Value.ref 175, Value.int 419 0, Value.int 138 0, Value.str (Str.ofString "/claim/cut.py") 420] }
noncomputable def q178 : Params → Obj := fun _ => { cls := Value.type "tuple", data := Data.seq #[] }
noncomputable def q179 : Params → Obj := fun _ => { cls := Value.none, data := Data.fields #[] }
noncomputable def q180 : Params → Obj := fun _ => { cls := Value.type "tuple", data := Data.seq #[Value.str (Str.ofString "mine") 425, Value.str (Str.ofString "yours") 426, Value.str (Str.ofString "my_share") 427, Value.str (Str.ofString "your_share") 428, Value.str (Str.ofString "both") 429, Value.str (Str.ofString "ahead") 430, Value.str (Str.ofString "behind") 431] }
noncomputable def q181 : Params → Obj := fun _ => { cls := Value.type "tuple", data := Data.seq #[] }
noncomputable def c182 : Obj := fnC (nthS topS 22) (Str.ofString "_law_as_two_alone")
noncomputable def q183 : Params → Obj := fun _ => { cls := Value.type "code", data := Data.fields #[Value.str (Str.ofString "_law_as_two_alone") 422, Value.str (Str.ofString "_law_as_two_alone") 423, Value.str (Str.ofString "/claim/cut.py") 424, Value.int 169 0, Value.int 4 0, Value.int 0 0, Value.int 0 0, Value.int 3 0, Value.ref 178, Value.bool true, Value.int 181 0, Value.ref 179, Value.none, Value.ref 180, Value.ref 181, Value.ref 182, Value.int 432 0, Value.int 169 0, Value.str (Str.ofString "/claim/cut.py") 433] }
noncomputable def q185 : Params → Obj := fun _ => { cls := Value.type "tuple", data := Data.seq #[] }
noncomputable def q186 : Params → Obj := fun _ => { cls := Value.none, data := Data.fields #[] }
noncomputable def c187 : Obj := fnC (nthS topS 23) (Str.ofString "law")
noncomputable def q188 : Params → Obj := fun _ => { cls := Value.type "code", data := Data.fields #[Value.str (Str.ofString "law") 435, Value.str (Str.ofString "law") 436, Value.str (Str.ofString "/claim/cut.py") 437, Value.int 174 0, Value.int 1 0, Value.int 0 0, Value.int 0 0, Value.int 3 0, Value.ref 185, Value.bool true, Value.int 181 0, Value.ref 186, Value.none, Value.none, Value.none, Value.ref 187, Value.int 438 0, Value.int 174 0, Value.str (Str.ofString "/claim/cut.py") 439] }
noncomputable def tr6 : Params → BT := fun P => (.node (boot_o_0 P) (.node (boot_o_1 P) (.node (q3_26 P) (.node (boot_o_7 P) (.node (q15 P) (.node (q31 P) (.node (q63 P) (.node (q127 P) .nil .nil) .nil) (.node (c95) (.node (q159 P) .nil .nil) .nil)) (.node (q47 P) (.node (q79 P) (.node (q143 P) .nil .nil) .nil) (.node (o111) (.node (c175) .nil .nil) .nil))) (.node (o23) (.node (c39) (.node (q71 P) (.node (q135 P) .nil .nil) .nil) (.node (q103 P) (.node (q167 P) .nil .nil) .nil)) (.node (o55) (.node (q87 P) (.node (o151) .nil .nil) .nil) (.node (q119 P) (.node (q183 P) .nil .nil) .nil)))) (.node (q11 P) (.node (q19 P) (.node (q35 P) (.node (c67) (.node (q131 P) .nil .nil) .nil) (.node (q99 P) (.node (c163) .nil .nil) .nil)) (.node (q51 P) (.node (q83 P) (.node (q147 P) .nil .nil) .nil) (.node (q115 P) (.node (q179 P) .nil .nil) .nil))) (.node (q27 P) (.node (q43 P) (.node (q75 P) (.node (o139) .nil .nil) .nil) (.node (q107 P) (.node (q171 P) .nil .nil) .nil)) (.node (q59 P) (.node (q91 P) (.node (q155 P) .nil .nil) .nil) (.node (c123) (.node (c187) .nil .nil) .nil))))) (.node (boot_o_5 P) (.node (boot_o_9 P) (.node (q17 P) (.node (q33 P) (.node (q65 P) (.node (q129 P) .nil .nil) .nil) (.node (o97) (.node (q161 P) .nil .nil) .nil)) (.node (q49 P) (.node (q81 P) (.node (q145 P) .nil .nil) .nil) (.node (q113 P) (.node (o177) .nil .nil) .nil))) (.node (q25 P) (.node (o41) (.node (q73 P) (.node (c137) .nil .nil) .nil) (.node (q105 P) (.node (q169 P) .nil .nil) .nil)) (.node (q57 P) (.node (q89 P) (.node (q153 P) .nil .nil) .nil) (.node (q121 P) (.node (q185 P) .nil .nil) .nil)))) (.node (q13 P) (.node (c21) (.node (q37 P) (.node (o69) (.node (q133 P) .nil .nil) .nil) (.node (q101 P) (.node (o165) .nil .nil) .nil)) (.node (c53) (.node (q85 P) (.node (c149) .nil .nil) .nil) (.node (q117 P) (.node (q181 P) .nil .nil) .nil))) (.node (q29 P) (.node (q45 P) (.node (q77 P) (.node (q141 P) .nil .nil) .nil) (.node (c109) (.node (q173 P) .nil .nil) .nil)) (.node (q61 P) (.node (q93 P) (.node (q157 P) .nil .nil) .nil) (.node (o125) (.node (o189) .nil .nil) .nil)))))) (.node (boot_o_2 P) (.node (boot_o_4 P) (.node (boot_o_8 P) (.node (q16 P) (.node (o32) (.node (q64 P) (.node (q128 P) .nil .nil) .nil) (.node (q96 P) (.node (q160 P) .nil .nil) .nil)) (.node (q48 P) (.node (q80 P) (.node (o144) .nil .nil) .nil) (.node (q112 P) (.node (q176 P) .nil .nil) .nil))) (.node (q24 P) (.node (q40 P) (.node (q72 P) (.node (q136 P) .nil .nil) .nil) (.node (o104) (.node (c168) .nil .nil) .nil)) (.node (q56 P) (.node (c88) (.node (q152 P) .nil .nil) .nil) (.node (q120 P) (.node (o184) .nil .nil) .nil)))) (.node (q12_26 P) (.node (q20 P) (.node (q36 P) (.node (q68 P) (.node (o132) .nil .nil) .nil) (.node (q100 P) (.node (q164 P) .nil .nil) .nil)) (.node (q52 P) (.node (q84 P) (.node (q148 P) .nil .nil) .nil) (.node (c116) (.node (q180 P) .nil .nil) .nil))) (.node (q28 P) (.node (q44 P) (.node (o76) (.node (q140 P) .nil .nil) .nil) (.node (q108 P) (.node (q172 P) .nil .nil) .nil)) (.node (c60) (.node (q92 P) (.node (c156) .nil .nil) .nil) (.node (q124 P) (.node (q188 P) .nil .nil) .nil))))) (.node (boot_o_6 P) (.node (boot_o_10 P) (.node (q18 P) (.node (q34 P) (.node (q66 P) (.node (c130) .nil .nil) .nil) (.node (q98 P) (.node (q162 P) .nil .nil) .nil)) (.node (q50 P) (.node (q82 P) (.node (q146 P) .nil .nil) .nil) (.node (q114 P) (.node (q178 P) .nil .nil) .nil))) (.node (q26 P) (.node (q42 P) (.node (c74) (.node (q138 P) .nil .nil) .nil) (.node (q106 P) (.node (o170) .nil .nil) .nil)) (.node (q58 P) (.node (o90) (.node (q154 P) .nil .nil) .nil) (.node (q122 P) (.node (q186 P) .nil .nil) .nil)))) (.node (q14 P) (.node (q22 P) (.node (q38 P) (.node (q70 P) (.node (q134 P) .nil .nil) .nil) (.node (c102) (.node (q166 P) .nil .nil) .nil)) (.node (q54 P) (.node (q86 P) (.node (q150 P) .nil .nil) .nil) (.node (o118) (.node (c182) .nil .nil) .nil))) (.node (c30) (.node (q46 P) (.node (q78 P) (.node (c142) .nil .nil) .nil) (.node (q110 P) (.node (q174 P) .nil .nil) .nil)) (.node (o62) (.node (q94 P) (.node (o158) .nil .nil) .nil) (.node (q126 P) .nil .nil)))))))
noncomputable abbrev S6 (w : World) (os : OsState) : SharedT := ⟨tr6 w.params, nat_lit 190, {}, Array.mk [], {}, nat_lit 441, os⟩
theorem lrun6 (w : World) : (fun os => segRunT treeTable PySem.Challenge.pw_sw0036_01 w (nat_lit 11) annE (nat_lit 1) (nat_lit 162) (S5 w os) (⟨(execs sts6 envE).wrap doneF deadEnd id id, codE, (⟨nat_lit 130, nat_lit 0, nat_lit 131, nat_lit 31⟩ : Pos), [topFrame p0E]⟩ : Thread)) = fun os => some (Flow.next, S6 w os, codE, (⟨nat_lit 174, nat_lit 0, nat_lit 211, nat_lit 15⟩ : Pos)) := by
  rw [Fast.te10110043849684766642, Fast.te14364793385576792824, Fast.te12563942051412417395]
  kernel_rfl
noncomputable def HF : Params → Heap := fun P => ⟨Array.mk (boot_o_0 P :: boot_o_1 P :: boot_o_2 P :: q3_26 P :: boot_o_4 P :: boot_o_5 P :: boot_o_6 P :: boot_o_7 P :: boot_o_8 P :: boot_o_9 P :: boot_o_10 P :: q11 P :: q12_26 P :: q13 P :: q14 P :: q15 P :: q16 P :: q17 P :: q18 P :: q19 P :: q20 P :: c21 :: q22 P :: o23 :: q24 P :: q25 P :: q26 P :: q27 P :: q28 P :: q29 P :: c30 :: q31 P :: o32 :: q33 P :: q34 P :: q35 P :: q36 P :: q37 P :: q38 P :: c39 :: q40 P :: o41 :: q42 P :: q43 P :: q44 P :: q45 P :: q46 P :: q47 P :: q48 P :: q49 P :: q50 P :: q51 P :: q52 P :: c53 :: q54 P :: o55 :: q56 P :: q57 P :: q58 P :: q59 P :: c60 :: q61 P :: o62 :: q63 P :: q64 P :: q65 P :: q66 P :: c67 :: q68 P :: o69 :: q70 P :: q71 P :: q72 P :: q73 P :: c74 :: q75 P :: o76 :: q77 P :: q78 P :: q79 P :: q80 P :: q81 P :: q82 P :: q83 P :: q84 P :: q85 P :: q86 P :: q87 P :: c88 :: q89 P :: o90 :: q91 P :: q92 P :: q93 P :: q94 P :: c95 :: q96 P :: o97 :: q98 P :: q99 P :: q100 P :: q101 P :: c102 :: q103 P :: o104 :: q105 P :: q106 P :: q107 P :: q108 P :: c109 :: q110 P :: o111 :: q112 P :: q113 P :: q114 P :: q115 P :: c116 :: q117 P :: o118 :: q119 P :: q120 P :: q121 P :: q122 P :: c123 :: q124 P :: o125 :: q126 P :: q127 P :: q128 P :: q129 P :: c130 :: q131 P :: o132 :: q133 P :: q134 P :: q135 P :: q136 P :: c137 :: q138 P :: o139 :: q140 P :: q141 P :: c142 :: q143 P :: o144 :: q145 P :: q146 P :: q147 P :: q148 P :: c149 :: q150 P :: o151 :: q152 P :: q153 P :: q154 P :: q155 P :: c156 :: q157 P :: o158 :: q159 P :: q160 P :: q161 P :: q162 P :: c163 :: q164 P :: o165 :: q166 P :: q167 P :: c168 :: q169 P :: o170 :: q171 P :: q172 P :: q173 P :: q174 P :: c175 :: q176 P :: o177 :: q178 P :: q179 P :: q180 P :: q181 P :: c182 :: q183 P :: o184 :: q185 P :: q186 P :: c187 :: q188 P :: o189 :: []), {}⟩
theorem lfin (w : World) : (fun os => topRun treeTable PySem.Challenge.pw_sw0036_01 w (nat_lit 11) annE (nat_lit 2) (S6 w os).abs ⟨doneF .next, codE, (⟨nat_lit 174, nat_lit 0, nat_lit 211, nat_lit 15⟩ : Pos), [topFrame p0E]⟩) = fun os => some (⟨HF w.params, Array.mk [], {}, nat_lit 441, os⟩ : Shared) := by kernel_rfl
theorem lall (w : World) (os : OsState) : topRun treeTable PySem.Challenge.pw_sw0036_01 w (nat_lit 11) annE (nat_lit 12 + (nat_lit 1 + (nat_lit 141 + (nat_lit 324 + (nat_lit 100 + (nat_lit 123 + (nat_lit 130 + (nat_lit 162 + (nat_lit 2))))))))) ⟨boot_heap w.params, Array.mk [], boot_drawn, boot_toks, os⟩ (topStub PySem.Challenge.pw_sw0036_01) = some ⟨HF w.params, Array.mk [], {}, nat_lit 441, os⟩ :=
  go_top (congrFun (lpre w) os) (piece_block (congrFun (lblock w) os) (piece_app (p := PySem.Challenge.pw_sw0036_01) (l := sts1) (segRun_of (congrFun (lrun1 w) os)) (piece_app (p := PySem.Challenge.pw_sw0036_01) (l := sts2) (segRun_of (congrFun (lrun2 w) os)) (piece_app (p := PySem.Challenge.pw_sw0036_01) (l := sts3) (segRun_of (congrFun (lrun3 w) os)) (piece_app (p := PySem.Challenge.pw_sw0036_01) (l := sts4) (segRun_of (congrFun (lrun4 w) os)) (piece_app (p := PySem.Challenge.pw_sw0036_01) (l := sts5) (segRun_of (congrFun (lrun5 w) os)) (piece_app (p := PySem.Challenge.pw_sw0036_01) (l := sts6) (segRun_of (congrFun (lrun6 w) os)) (congrFun (lfin w) os))))))))
noncomputable def hkH : Hook := kmHook hd.heap_39 (nat_lit 2 :: nat_lit 3 :: nat_lit 15 :: nat_lit 16 :: nat_lit 17 :: nat_lit 19 :: nat_lit 20 :: nat_lit 22 :: nat_lit 23 :: nat_lit 24 :: nat_lit 25 :: nat_lit 26 :: nat_lit 28 :: nat_lit 29 :: nat_lit 31 :: nat_lit 32 :: nat_lit 33 :: nat_lit 34 :: nat_lit 35 :: nat_lit 37 :: nat_lit 38 :: nat_lit 40 :: nat_lit 41 :: nat_lit 49 :: nat_lit 51 :: nat_lit 52 :: nat_lit 54 :: nat_lit 55 :: nat_lit 56 :: nat_lit 58 :: nat_lit 59 :: nat_lit 61 :: nat_lit 62 :: nat_lit 63 :: nat_lit 65 :: nat_lit 66 :: nat_lit 68 :: nat_lit 69 :: nat_lit 70 :: nat_lit 72 :: nat_lit 73 :: nat_lit 75 :: nat_lit 76 :: nat_lit 77 :: nat_lit 78 :: nat_lit 79 :: nat_lit 80 :: nat_lit 81 :: nat_lit 84 :: nat_lit 86 :: nat_lit 87 :: nat_lit 89 :: nat_lit 90 :: nat_lit 91 :: nat_lit 93 :: nat_lit 94 :: nat_lit 96 :: nat_lit 97 :: nat_lit 98 :: nat_lit 100 :: nat_lit 101 :: nat_lit 103 :: nat_lit 104 :: nat_lit 105 :: nat_lit 107 :: nat_lit 108 :: nat_lit 110 :: nat_lit 111 :: nat_lit 112 :: nat_lit 114 :: nat_lit 115 :: nat_lit 117 :: nat_lit 118 :: nat_lit 119 :: nat_lit 121 :: nat_lit 122 :: nat_lit 124 :: nat_lit 125 :: nat_lit 126 :: nat_lit 128 :: nat_lit 129 :: nat_lit 131 :: nat_lit 132 :: nat_lit 133 :: nat_lit 135 :: nat_lit 136 :: nat_lit 138 :: nat_lit 139 :: nat_lit 140 :: nat_lit 143 :: nat_lit 144 :: nat_lit 145 :: nat_lit 147 :: nat_lit 148 :: nat_lit 150 :: nat_lit 151 :: nat_lit 152 :: nat_lit 154 :: nat_lit 155 :: nat_lit 157 :: nat_lit 158 :: nat_lit 159 :: nat_lit 161 :: nat_lit 162 :: nat_lit 164 :: nat_lit 165 :: nat_lit 166 :: nat_lit 169 :: nat_lit 170 :: nat_lit 171 :: nat_lit 173 :: nat_lit 174 :: nat_lit 176 :: nat_lit 177 :: nat_lit 178 :: nat_lit 180 :: nat_lit 181 :: nat_lit 183 :: nat_lit 184 :: nat_lit 185 :: nat_lit 188 :: nat_lit 189 :: []) (fun _ => by kernel_rfl) [146, 186]
theorem lopen : ∀ w : World, (fencedOpening treeTable PySem.Challenge.pw_sw0036_01 w 2074).map (fun s => (s.heap, s.gens, s.drawn, s.toks)) = some (boot_heap w.params, Array.mk [], boot_drawn, boot_toks) :=
  boot_open (by kernel_rfl) (by kernel_rfl) (fun _ => by kernel_rfl)
theorem lsize (w : World) : ((boot_heap w.params).isNs mainGlobals && (Array.mk [] : Array GenState).size == 0, (boot_heap w.params).objs.size, (boot_heap w.params).nsMap mainGlobals "__annotations__") = (true, nat_lit 11, annE) := by kernel_rfl
noncomputable abbrev SF (w : World) (os : OsState) : Shared := ⟨HF w.params, Array.mk [], {}, nat_lit 441, os⟩
theorem llook1 (w : World) : (fun os => (staticsOk (importedModules PySem.Challenge.pw_sw0036_01.main.body) (boot_heap w.params) (HF w.params) && namesBound PySem.Challenge.pw_sw0036_01 (HF w.params) && gensDone (SF w os) && laidKept (boot_heap w.params) (HF w.params))) = fun _ => true := by kernel_rfl
set_option maxHeartbeats 8000000 in
theorem llook2 (w : World) (os : OsState) : openSeen hd.view_39 [Str.ofString "insort_right", Str.ofString "bisect_right", Str.ofString "bisect_left"] (importedModules PySem.Challenge.pw_sw0036_01.main.body) (fun s => xlAt hd.view_39 [] s && recOk (RowW.records (OpenRow.toRowW (OpenLaw.row PySem.Challenge.rw_sw0036_01))) s) true (SF w os) = openGood hd.view_39 [Str.ofString "insort_right", Str.ofString "bisect_right", Str.ofString "bisect_left"] := by
  rw [Fast.te4187177175401517315]
  unfold Fast.tw4187177175401517315 openGood
  refine looks_pair ?_ (looks_pair ?_ (looks_pair ?_ (looks_pair ?_ (looks_pair ?_ (looks_pair ?_ (looks_pair ?_ (looks_pair ?_ ?_))))))) <;> as_aux_lemma => kernel_rfl
theorem llook3 (w : World) : (fun os => Hook.obs hkH (SF w os)) = fun _ => Hook.val hkH w := by kernel_rfl
theorem lft : LeftO PySem.Challenge.pw_sw0036_01 hd.view_39 [Str.ofString "insort_right", Str.ofString "bisect_right", Str.ofString "bisect_left"] (fun s => xlAt hd.view_39 [] s && recOk (RowW.records (OpenRow.toRowW (OpenLaw.row PySem.Challenge.rw_sw0036_01))) s) (Hook.obs hkH) (Hook.val hkH) 2074 true :=
  LeftO.of_pieces lopen lsize lall (by kernel_rfl) fun w => funext fun os => looks_pair (congrFun (llook1 w) os) (looks_pair (llook2 w os) (congrFun (llook3 w) os))
theorem fil3 {f : Str → Bool} {a b c : Str} (h1 : f a = false) (h2 : f b = false) (h3 : f c = false) : R.filterR f [a, b, c] = [] := by
  rw [← congrFun (congrFun (congrFun (R.filterR_eq) _) f) [a, b, c]]
  simp only [List.filter, h1, h2, h3]
theorem tabw : (OpenLaw.row PySem.Challenge.rw_sw0036_01).prog.tablesWhole = true := by
  unfold Program.tablesWhole TablesWhole.wProgram
  rw [Fast.te6116379765354995101]
  unfold TablesWhole.holds
  rw [Fast.te15985051520779696433]
  decide +kernel
theorem wsaid : OpenLaw.wellSaid PySem.Challenge.rw_sw0036_01 = true := by
  rw [Fast.te9446332074065402090]
  unfold Fast.tw9446332074065402090 Fast.tw17960256430627541270 Fast.tw2436336058641802641 Fast.tw12908688711261696721
  repeat' with_reducible refine look_both ?_ ?_
  all_goals first | (rw [fil3]; all_goals decide +kernel) | decide +kernel
set_option maxHeartbeats 8000000 in
theorem hd (walk : WalkO hd.view_39 [Str.ofString "insort_right", Str.ofString "bisect_right", Str.ofString "bisect_left"] (XL hd.view_39 []) (Hook.says (kmHook hd.heap_39 (nat_lit 2 :: nat_lit 3 :: nat_lit 15 :: nat_lit 16 :: nat_lit 17 :: nat_lit 19 :: nat_lit 20 :: nat_lit 22 :: nat_lit 23 :: nat_lit 24 :: nat_lit 25 :: nat_lit 26 :: nat_lit 28 :: nat_lit 29 :: nat_lit 31 :: nat_lit 32 :: nat_lit 33 :: nat_lit 34 :: nat_lit 35 :: nat_lit 37 :: nat_lit 38 :: nat_lit 40 :: nat_lit 41 :: nat_lit 49 :: nat_lit 51 :: nat_lit 52 :: nat_lit 54 :: nat_lit 55 :: nat_lit 56 :: nat_lit 58 :: nat_lit 59 :: nat_lit 61 :: nat_lit 62 :: nat_lit 63 :: nat_lit 65 :: nat_lit 66 :: nat_lit 68 :: nat_lit 69 :: nat_lit 70 :: nat_lit 72 :: nat_lit 73 :: nat_lit 75 :: nat_lit 76 :: nat_lit 77 :: nat_lit 78 :: nat_lit 79 :: nat_lit 80 :: nat_lit 81 :: nat_lit 84 :: nat_lit 86 :: nat_lit 87 :: nat_lit 89 :: nat_lit 90 :: nat_lit 91 :: nat_lit 93 :: nat_lit 94 :: nat_lit 96 :: nat_lit 97 :: nat_lit 98 :: nat_lit 100 :: nat_lit 101 :: nat_lit 103 :: nat_lit 104 :: nat_lit 105 :: nat_lit 107 :: nat_lit 108 :: nat_lit 110 :: nat_lit 111 :: nat_lit 112 :: nat_lit 114 :: nat_lit 115 :: nat_lit 117 :: nat_lit 118 :: nat_lit 119 :: nat_lit 121 :: nat_lit 122 :: nat_lit 124 :: nat_lit 125 :: nat_lit 126 :: nat_lit 128 :: nat_lit 129 :: nat_lit 131 :: nat_lit 132 :: nat_lit 133 :: nat_lit 135 :: nat_lit 136 :: nat_lit 138 :: nat_lit 139 :: nat_lit 140 :: nat_lit 143 :: nat_lit 144 :: nat_lit 145 :: nat_lit 147 :: nat_lit 148 :: nat_lit 150 :: nat_lit 151 :: nat_lit 152 :: nat_lit 154 :: nat_lit 155 :: nat_lit 157 :: nat_lit 158 :: nat_lit 159 :: nat_lit 161 :: nat_lit 162 :: nat_lit 164 :: nat_lit 165 :: nat_lit 166 :: nat_lit 169 :: nat_lit 170 :: nat_lit 171 :: nat_lit 173 :: nat_lit 174 :: nat_lit 176 :: nat_lit 177 :: nat_lit 178 :: nat_lit 180 :: nat_lit 181 :: nat_lit 183 :: nat_lit 184 :: nat_lit 185 :: nat_lit 188 :: nat_lit 189 :: []) (fun _ => by kernel_rfl) [146, 186])) (OpenRow.toRowW (OpenLaw.row PySem.Challenge.rw_sw0036_01)) dlaw [] fun f vs => PySem.call f vs) : PySem.Challenge.rw_sw0036_01.Holds :=
  holds_law wsaid fun said => holds_open (q := hd.view_39) (loose := [Str.ofString "insort_right", Str.ofString "bisect_right", Str.ofString "bisect_left"]) (Xt := fun s => xlAt hd.view_39 [] s && recOk (RowW.records (OpenRow.toRowW (OpenLaw.row PySem.Challenge.rw_sw0036_01))) s) (XP := XL hd.view_39 [])
    (Yf := Hook.obs hkH) (Ya := Hook.val hkH) (YP := Hook.says hkH) (N := 2074) lft (Hook.of hkH) (Hook.keeps hkH) (fun s e => xl_of s (Bool.and_eq_true_iff.mp e).1) XL.keeps (by kernel_rfl) (by kernel_rfl) (by kernel_rfl)
    (fun s e => recFacts_of (Bool.and_eq_true_iff.mp e).2) (by kernel_rfl) said (look_both (look_both (by decide +kernel) (by decide +kernel)) (look_both (by decide +kernel) (by decide +kernel))) ⟨rfl, rfl, rfl, rfl, rfl, tabw⟩ ⟨[.list []], by decide +kernel, by decide +kernel⟩ walk
theorem fill0 : PySem.Challenge.rw_sw0036_01 = PySem.Challenge.rw_sw0036_01 ∧ Mine.hd.heap_39 = Mine.hd.heap_39 := by
  k_fill
  w_top off
  exact ⟨rfl, rfl⟩
theorem allLt_ne0 {d : Addr} {r : List (Addr × Obj)} (h : AllLt d r) : ∀ p ∈ r, p.1 ≠ d := fun p hp => Nat.ne_of_lt (ktn_ltOf h p hp)
theorem allLt_ne1 {d : Addr} {r : List (Addr × Obj)} (h : AllLt d r) : ∀ p ∈ r, p.1 ≠ d + 1 := fun p hp => Nat.ne_of_lt (Nat.lt_trans (ktn_ltOf h p hp) (Nat.lt_succ_self _))
theorem allLt_ne2 {d : Addr} {r : List (Addr × Obj)} (h : AllLt d r) : ∀ p ∈ r, p.1 ≠ d + 1 + 1 := fun p hp => Nat.ne_of_lt (Nat.lt_trans (ktn_ltOf h p hp) (Nat.lt_trans (Nat.lt_succ_self _) (Nat.lt_succ_self _)))
theorem allLt_ne3 {d : Addr} {r : List (Addr × Obj)} (h : AllLt d r) : ∀ p ∈ r, p.1 ≠ d + 1 + 1 + 1 := fun p hp => Nat.ne_of_lt (Nat.lt_trans (ktn_ltOf h p hp) (Nat.lt_trans (Nat.lt_succ_self _) (Nat.lt_trans (Nat.lt_succ_self _) (Nat.lt_succ_self _))))

/-- what a call does: from the ledger news, if v comes back with the ledger n' then post v n' -/
noncomputable abbrev Calls (prog : Program) (w : World) (f : Value) (pos : List Value) (kw : List (Str × Value)) (D U : Nat) (news : List (Addr × Obj)) (post : Value → List (Addr × Obj) → Prop) : Prop :=
  ∀ (dp un : Nat) (gd : Option (List Code)) (cn : Str) (cs : Scope) (a : Addr) (ccd : Value) (cl : List (Str × Addr)) (outer : List Env) (A₀ : Around) (base h₀ : Heap) (L : Addr) (m : Str → Option Value) (s : Shared) (Rk : Result → Shared → Prop)
    (p : Program) (loose : List Str) (mean : ExcName → Option Value) (mg mb : Str → Option Value),
    Below A₀ base outer h₀ → Fr h₀ L s.heap m → (Mine.hd.heap_39 w.params).In h₀ → News h₀ L s.heap news → Top p loose mean mg mb h₀ → cs.kind = .function → dp + D < recursionLimit → un + U < cLine →
    (∀ v news' h' tk', post v news' → Fr h₀ L h' m → News h₀ L h' news' → Rk (.ok (.ret v)) { s with heap := h', toks := tk' }) →
    codeAny (model prog w) (ktrTop dp un gd cn cs L a ccd cl outer) (.call f ⟨pos, kw⟩) Rk s

inductive Pull (q : Addr × Obj) : List (Addr × Obj) → List (Addr × Obj) → Prop
  | head {r} : Pull q (q :: r) r
  | tail {p r r'} : Pull q r r' → Pull q (p :: r) (p :: r')
theorem Pull.mem {q : Addr × Obj} {l r : List (Addr × Obj)} (u : Pull q l r) : ∀ y ∈ q :: r, y ∈ l := by
  induction u with
  | head => exact fun y hy => hy
  | tail u ih =>
    intro y hy
    rcases List.mem_cons.mp hy with rfl | hy
    · exact .tail _ (ih _ (.head _))
    · rcases List.mem_cons.mp hy with rfl | hy
      · exact .head _
      · exact .tail _ (ih _ (.tail _ hy))
theorem Pull.cons {q : Addr × Obj} {l r a : List (Addr × Obj)} (u : Pull q l r) (h : ∀ y ∈ a, y ∈ q :: r) : ∀ y ∈ a, y ∈ l := fun y hy => u.mem y (h y hy)
theorem News.perm {h₀ h : Heap} {L : Addr} {a b : List (Addr × Obj)} (hs : ∀ q ∈ b, q ∈ a) (N : News h₀ L h a) : News h₀ L h b := fun p hp => N p (hs p hp)
theorem OwnOff.one {r : List (Addr × Obj)} {a : Addr} (h : ∀ p ∈ r, p.1 ≠ a) : OwnOff r [a] := by
  intro p hp b hb
  rw [List.mem_singleton.mp hb]
  exact h p hp
theorem OwnOff.more {r : List (Addr × Obj)} {a : Addr} {as : List Addr} (h : ∀ p ∈ r, p.1 ≠ a) (k : OwnOff r as) : OwnOff r (a :: as) := by
  intro p hp b hb
  rcases List.mem_cons.mp hb with rfl | hb
  · exact h p hp
  · exact k p hp b hb

inductive Pulls : List (Addr × Obj) → List (Addr × Obj) → List (Addr × Obj) → Prop
  | nil {l} : Pulls [] l l
  | cons {q qs l l1 l2} : Pull q l l1 → Pulls qs l1 l2 → Pulls (q :: qs) l l2
theorem Pulls.mem {qs l r : List (Addr × Obj)} (u : Pulls qs l r) : ∀ y ∈ qs ++ r, y ∈ l := by
  induction u with
  | nil => exact fun y hy => hy
  | cons u _ ih =>
    intro y hy
    rcases List.mem_cons.mp hy with rfl | hy
    · exact u.mem _ (.head _)
    · exact u.mem _ (.tail _ (ih y hy))

noncomputable def Again (I : Nat → Shared → Prop) (n : Nat) (s : Shared) : Prop := ∃ m, m < n ∧ I m s
theorem forLoop_of {prog : Program} {w : World} {A : Around} {s : Shared} {R : Result → Shared → Prop} {target : Expr} {it : Value} {body orelse : List Stmt} {env : Env} (I : Nat → Shared → Prop)
    (turn : ∀ n s, I n s → wpAny (model prog w) A (pyNext it) (fun r s₁ => match r with
      | none => wpAny (model prog w) A (execs orelse env) (fun f s₃ => R (.ok f) s₃) (notedBy (model prog w) A env fun e s' => R (.error e) s') s₁
      | some v => wpAny (model prog w) A (assign target env v) (fun _ s₂ => wpAny (model prog w) A (execs body env) (fun f s₃ => match f with
          | .next | .cont => Again I n s₃
          | .brk => R (.ok .next) s₃
          | .ret v => R (.ok (.ret v)) s₃) (notedBy (model prog w) A env fun e s' => R (.error e) s') s₂) (notedBy (model prog w) A env fun e s' => R (.error e) s') s₁) (notedBy (model prog w) A env fun e s' => R (.error e) s') s)
    (n : Nat) (h : I n s) (ht : ∀ v, letOwnedTupleGo target it v = pure () := by intro _; rfl) : codeAny (model prog w) A (.forLoop target it body orelse env) R s :=
  codeAny_forLoop I turn n h ht

inductive All2 {α β : Type} (g : α → β → Prop) : List α → List β → Prop
  | nil : All2 g [] []
  | cons {a b l r} : g a b → All2 g l r → All2 g (a :: l) (b :: r)
theorem All2.append {α β : Type} {g : α → β → Prop} {l l' : List α} {r r' : List β} (h : All2 g l r) (k : All2 g l' r') : All2 g (l ++ l') (r ++ r') := by
  induction h with
  | nil => exact k
  | cons a _ ih => exact .cons a ih
theorem All2.length {α β : Type} {g : α → β → Prop} {l : List α} {r : List β} (h : All2 g l r) : l.length = r.length := by
  induction h with
  | nil => rfl
  | cons _ _ ih => simp [ih]

theorem whileLoop_of {prog : Program} {w : World} {A : Around} {s : Shared} {R : Result → Shared → Prop} {test : Expr} {body orelse : List Stmt} {env : Env} (I : Nat → Shared → Prop)
    (turn : ∀ n s, I n s →
      wpAny (model prog w) A (isTrue test env (eval test env)) (fun b s₂ =>
        if b then wpAny (model prog w) A (execs body env) (fun f s₃ => match f with
            | .next | .cont => Again I n s₃
            | .brk => R (.ok .next) s₃
            | .ret v => R (.ok (.ret v)) s₃) (notedBy (model prog w) A env fun e s' => R (.error e) s') s₂
        else wpAny (model prog w) A (execs orelse env) (fun f s₃ => R (.ok f) s₃) (notedBy (model prog w) A env fun e s' => R (.error e) s') s₂)
        (notedBy (model prog w) A env fun e s' => R (.error e) s') s)
    (n : Nat) (h : I n s) : codeAny (model prog w) A (.whileLoop test body orelse env) R s := codeAny_whileLoop I turn n h
theorem len_my {prog : Program} {w : World} {A : Around} {E : Value → Shared → Prop} {s : Shared} {h₀ : Heap} {L l : Addr} {news : List (Addr × Obj)} {its : Array Value} {n k : Nat} {Q : Value → Shared → Prop}
    (N : News h₀ L s.heap news) (hm : (l, W.listOf its n) ∈ news) (hz : its.size = k) (hb : k ≤ 100000) (h : ∀ t tk, Q (.int k t) { s with toks := tk }) : wpAny (model prog w) A (call (.builtin "len") [.ref l]) Q E s :=
  len_list ⟨_, N.get hm, rfl, _, rfl⟩ (by omega) (by rw [hz]; exact h _ _)
theorem item_my {prog : Program} {w : World} {A : Around} {E : Value → Shared → Prop} {s : Shared} {h₀ : Heap} {L l : Addr} {news : List (Addr × Obj)} {value slice : PySem.Expr} {vs : List Value} {k : Int} {u : Tok} {n : Nat} {v : Value} {Q : Value → Shared → Prop}
    (N : News h₀ L s.heap news) (hm : (l, W.listOf vs.toArray n) ∈ news) (h0 : 0 ≤ k) (hb : k ≤ 100000) (hx : vs[k.toNat]? = some v) (h : Q v s)
    (hs : subscripted slice false (.ref l) (.int k u) = operate [.ref l, .int k u] (getItem (.ref l) (.int k u)) := by with_unfolding_all rfl) :
    wpAny (model prog w) A (subscriptTail value slice (.ref l) (.int k u)) Q E s :=
  tail_any (T := "list") ⟨_, N.get hm, rfl⟩ slot_list_getitem.lookup (wpAny_getItem_list ⟨_, N.get hm, rfl, _, rfl⟩ h0 (by omega) (by simpa using hx) h) hs

/-- a continuation put out of sight: the walk carries a name in its place -/
theorem hideQ {M : PySem.Model} {A : Around} {α : Type} {t : Sem α} {E : Value → Shared → Prop} {s : Shared} {Q : α → Shared → Prop} (h : ∀ Q' : α → Shared → Prop, (∀ a s, Q a s → Q' a s) → wpAny M A t Q' E s) : wpAny M A t Q E s := h Q fun _ _ x => x
theorem neA {a b : Nat} (h : @LT.lt Nat _ a b) : a ≠ b := Nat.ne_of_lt h
theorem neB {a b : Nat} (h : @LT.lt Nat _ b a) : a ≠ b := fun e => Nat.ne_of_lt h e.symm
theorem neC {a b : Nat} (h : @LT.lt Nat _ a b) : a ≠ b + 1 := neA (Nat.lt_succ_of_lt h)
theorem neD {a b : Nat} (h : @LT.lt Nat _ a b) : b + 1 ≠ a := neB (Nat.lt_succ_of_lt h)
theorem neE {a b : Nat} (h : @LT.lt Nat _ a b) : a ≠ b + 1 + 1 := neC (Nat.lt_succ_of_lt h)
theorem neF {a b : Nat} (h : @LT.lt Nat _ a b) : b + 1 + 1 ≠ a := neD (Nat.lt_succ_of_lt h)
theorem neG {a b : Nat} (h : @LT.lt Nat _ a b) : a ≠ b + 1 + 1 + 1 := neE (Nat.lt_succ_of_lt h)
theorem neH {a b : Nat} (h : @LT.lt Nat _ a b) : b + 1 + 1 + 1 ≠ a := neF (Nat.lt_succ_of_lt h)
theorem bel1 {d a1 : Nat} {o1 : Obj} {T : List (Addr × Obj)} {C : Prop} (h : AllLt d ((a1, o1) :: T)) (c : @LT.lt Nat _ a1 d → AllLt d T → C) : C := c h.1 h.2
theorem bel2 {d a1 a2 : Nat} {o1 o2 : Obj} {T : List (Addr × Obj)} {C : Prop} (h : AllLt d ((a1, o1) :: (a2, o2) :: T)) (c : @LT.lt Nat _ a1 d → @LT.lt Nat _ a2 d → AllLt d T → C) : C := c h.1 h.2.1 h.2.2
theorem bel3 {d a1 a2 a3 : Nat} {o1 o2 o3 : Obj} {T : List (Addr × Obj)} {C : Prop} (h : AllLt d ((a1, o1) :: (a2, o2) :: (a3, o3) :: T)) (c : @LT.lt Nat _ a1 d → @LT.lt Nat _ a2 d → @LT.lt Nat _ a3 d → AllLt d T → C) : C := c h.1 h.2.1 h.2.2.1 h.2.2.2
theorem bel4 {d a1 a2 a3 a4 : Nat} {o1 o2 o3 o4 : Obj} {T : List (Addr × Obj)} {C : Prop} (h : AllLt d ((a1, o1) :: (a2, o2) :: (a3, o3) :: (a4, o4) :: T)) (c : @LT.lt Nat _ a1 d → @LT.lt Nat _ a2 d → @LT.lt Nat _ a3 d → @LT.lt Nat _ a4 d → AllLt d T → C) : C := c h.1 h.2.1 h.2.2.1 h.2.2.2.1 h.2.2.2.2
theorem bel5 {d a1 a2 a3 a4 a5 : Nat} {o1 o2 o3 o4 o5 : Obj} {T : List (Addr × Obj)} {C : Prop} (h : AllLt d ((a1, o1) :: (a2, o2) :: (a3, o3) :: (a4, o4) :: (a5, o5) :: T)) (c : @LT.lt Nat _ a1 d → @LT.lt Nat _ a2 d → @LT.lt Nat _ a3 d → @LT.lt Nat _ a4 d → @LT.lt Nat _ a5 d → AllLt d T → C) : C := c h.1 h.2.1 h.2.2.1 h.2.2.2.1 h.2.2.2.2.1 h.2.2.2.2.2
theorem bel6 {d a1 a2 a3 a4 a5 a6 : Nat} {o1 o2 o3 o4 o5 o6 : Obj} {T : List (Addr × Obj)} {C : Prop} (h : AllLt d ((a1, o1) :: (a2, o2) :: (a3, o3) :: (a4, o4) :: (a5, o5) :: (a6, o6) :: T)) (c : @LT.lt Nat _ a1 d → @LT.lt Nat _ a2 d → @LT.lt Nat _ a3 d → @LT.lt Nat _ a4 d → @LT.lt Nat _ a5 d → @LT.lt Nat _ a6 d → AllLt d T → C) : C := c h.1 h.2.1 h.2.2.1 h.2.2.2.1 h.2.2.2.2.1 h.2.2.2.2.2.1 h.2.2.2.2.2.2
theorem bel7 {d a1 a2 a3 a4 a5 a6 a7 : Nat} {o1 o2 o3 o4 o5 o6 o7 : Obj} {T : List (Addr × Obj)} {C : Prop} (h : AllLt d ((a1, o1) :: (a2, o2) :: (a3, o3) :: (a4, o4) :: (a5, o5) :: (a6, o6) :: (a7, o7) :: T)) (c : @LT.lt Nat _ a1 d → @LT.lt Nat _ a2 d → @LT.lt Nat _ a3 d → @LT.lt Nat _ a4 d → @LT.lt Nat _ a5 d → @LT.lt Nat _ a6 d → @LT.lt Nat _ a7 d → AllLt d T → C) : C := c h.1 h.2.1 h.2.2.1 h.2.2.2.1 h.2.2.2.2.1 h.2.2.2.2.2.1 h.2.2.2.2.2.2.1 h.2.2.2.2.2.2.2
theorem bel8 {d a1 a2 a3 a4 a5 a6 a7 a8 : Nat} {o1 o2 o3 o4 o5 o6 o7 o8 : Obj} {T : List (Addr × Obj)} {C : Prop} (h : AllLt d ((a1, o1) :: (a2, o2) :: (a3, o3) :: (a4, o4) :: (a5, o5) :: (a6, o6) :: (a7, o7) :: (a8, o8) :: T)) (c : @LT.lt Nat _ a1 d → @LT.lt Nat _ a2 d → @LT.lt Nat _ a3 d → @LT.lt Nat _ a4 d → @LT.lt Nat _ a5 d → @LT.lt Nat _ a6 d → @LT.lt Nat _ a7 d → @LT.lt Nat _ a8 d → AllLt d T → C) : C := c h.1 h.2.1 h.2.2.1 h.2.2.2.1 h.2.2.2.2.1 h.2.2.2.2.2.1 h.2.2.2.2.2.2.1 h.2.2.2.2.2.2.2.1 h.2.2.2.2.2.2.2.2
theorem bel9 {d a1 a2 a3 a4 a5 a6 a7 a8 a9 : Nat} {o1 o2 o3 o4 o5 o6 o7 o8 o9 : Obj} {T : List (Addr × Obj)} {C : Prop} (h : AllLt d ((a1, o1) :: (a2, o2) :: (a3, o3) :: (a4, o4) :: (a5, o5) :: (a6, o6) :: (a7, o7) :: (a8, o8) :: (a9, o9) :: T)) (c : @LT.lt Nat _ a1 d → @LT.lt Nat _ a2 d → @LT.lt Nat _ a3 d → @LT.lt Nat _ a4 d → @LT.lt Nat _ a5 d → @LT.lt Nat _ a6 d → @LT.lt Nat _ a7 d → @LT.lt Nat _ a8 d → @LT.lt Nat _ a9 d → AllLt d T → C) : C := c h.1 h.2.1 h.2.2.1 h.2.2.2.1 h.2.2.2.2.1 h.2.2.2.2.2.1 h.2.2.2.2.2.2.1 h.2.2.2.2.2.2.2.1 h.2.2.2.2.2.2.2.2.1 h.2.2.2.2.2.2.2.2.2
theorem bel10 {d a1 a2 a3 a4 a5 a6 a7 a8 a9 a10 : Nat} {o1 o2 o3 o4 o5 o6 o7 o8 o9 o10 : Obj} {T : List (Addr × Obj)} {C : Prop} (h : AllLt d ((a1, o1) :: (a2, o2) :: (a3, o3) :: (a4, o4) :: (a5, o5) :: (a6, o6) :: (a7, o7) :: (a8, o8) :: (a9, o9) :: (a10, o10) :: T)) (c : @LT.lt Nat _ a1 d → @LT.lt Nat _ a2 d → @LT.lt Nat _ a3 d → @LT.lt Nat _ a4 d → @LT.lt Nat _ a5 d → @LT.lt Nat _ a6 d → @LT.lt Nat _ a7 d → @LT.lt Nat _ a8 d → @LT.lt Nat _ a9 d → @LT.lt Nat _ a10 d → AllLt d T → C) : C := c h.1 h.2.1 h.2.2.1 h.2.2.2.1 h.2.2.2.2.1 h.2.2.2.2.2.1 h.2.2.2.2.2.2.1 h.2.2.2.2.2.2.2.1 h.2.2.2.2.2.2.2.2.1 h.2.2.2.2.2.2.2.2.2.1 h.2.2.2.2.2.2.2.2.2.2
theorem bel11 {d a1 a2 a3 a4 a5 a6 a7 a8 a9 a10 a11 : Nat} {o1 o2 o3 o4 o5 o6 o7 o8 o9 o10 o11 : Obj} {T : List (Addr × Obj)} {C : Prop} (h : AllLt d ((a1, o1) :: (a2, o2) :: (a3, o3) :: (a4, o4) :: (a5, o5) :: (a6, o6) :: (a7, o7) :: (a8, o8) :: (a9, o9) :: (a10, o10) :: (a11, o11) :: T)) (c : @LT.lt Nat _ a1 d → @LT.lt Nat _ a2 d → @LT.lt Nat _ a3 d → @LT.lt Nat _ a4 d → @LT.lt Nat _ a5 d → @LT.lt Nat _ a6 d → @LT.lt Nat _ a7 d → @LT.lt Nat _ a8 d → @LT.lt Nat _ a9 d → @LT.lt Nat _ a10 d → @LT.lt Nat _ a11 d → AllLt d T → C) : C := c h.1 h.2.1 h.2.2.1 h.2.2.2.1 h.2.2.2.2.1 h.2.2.2.2.2.1 h.2.2.2.2.2.2.1 h.2.2.2.2.2.2.2.1 h.2.2.2.2.2.2.2.2.1 h.2.2.2.2.2.2.2.2.2.1 h.2.2.2.2.2.2.2.2.2.2.1 h.2.2.2.2.2.2.2.2.2.2.2
theorem bel12 {d a1 a2 a3 a4 a5 a6 a7 a8 a9 a10 a11 a12 : Nat} {o1 o2 o3 o4 o5 o6 o7 o8 o9 o10 o11 o12 : Obj} {T : List (Addr × Obj)} {C : Prop} (h : AllLt d ((a1, o1) :: (a2, o2) :: (a3, o3) :: (a4, o4) :: (a5, o5) :: (a6, o6) :: (a7, o7) :: (a8, o8) :: (a9, o9) :: (a10, o10) :: (a11, o11) :: (a12, o12) :: T)) (c : @LT.lt Nat _ a1 d → @LT.lt Nat _ a2 d → @LT.lt Nat _ a3 d → @LT.lt Nat _ a4 d → @LT.lt Nat _ a5 d → @LT.lt Nat _ a6 d → @LT.lt Nat _ a7 d → @LT.lt Nat _ a8 d → @LT.lt Nat _ a9 d → @LT.lt Nat _ a10 d → @LT.lt Nat _ a11 d → @LT.lt Nat _ a12 d → AllLt d T → C) : C := c h.1 h.2.1 h.2.2.1 h.2.2.2.1 h.2.2.2.2.1 h.2.2.2.2.2.1 h.2.2.2.2.2.2.1 h.2.2.2.2.2.2.2.1 h.2.2.2.2.2.2.2.2.1 h.2.2.2.2.2.2.2.2.2.1 h.2.2.2.2.2.2.2.2.2.2.1 h.2.2.2.2.2.2.2.2.2.2.2.1 h.2.2.2.2.2.2.2.2.2.2.2.2
theorem bel13 {d a1 a2 a3 a4 a5 a6 a7 a8 a9 a10 a11 a12 a13 : Nat} {o1 o2 o3 o4 o5 o6 o7 o8 o9 o10 o11 o12 o13 : Obj} {T : List (Addr × Obj)} {C : Prop} (h : AllLt d ((a1, o1) :: (a2, o2) :: (a3, o3) :: (a4, o4) :: (a5, o5) :: (a6, o6) :: (a7, o7) :: (a8, o8) :: (a9, o9) :: (a10, o10) :: (a11, o11) :: (a12, o12) :: (a13, o13) :: T)) (c : @LT.lt Nat _ a1 d → @LT.lt Nat _ a2 d → @LT.lt Nat _ a3 d → @LT.lt Nat _ a4 d → @LT.lt Nat _ a5 d → @LT.lt Nat _ a6 d → @LT.lt Nat _ a7 d → @LT.lt Nat _ a8 d → @LT.lt Nat _ a9 d → @LT.lt Nat _ a10 d → @LT.lt Nat _ a11 d → @LT.lt Nat _ a12 d → @LT.lt Nat _ a13 d → AllLt d T → C) : C := c h.1 h.2.1 h.2.2.1 h.2.2.2.1 h.2.2.2.2.1 h.2.2.2.2.2.1 h.2.2.2.2.2.2.1 h.2.2.2.2.2.2.2.1 h.2.2.2.2.2.2.2.2.1 h.2.2.2.2.2.2.2.2.2.1 h.2.2.2.2.2.2.2.2.2.2.1 h.2.2.2.2.2.2.2.2.2.2.2.1 h.2.2.2.2.2.2.2.2.2.2.2.2.1 h.2.2.2.2.2.2.2.2.2.2.2.2.2
theorem bel14 {d a1 a2 a3 a4 a5 a6 a7 a8 a9 a10 a11 a12 a13 a14 : Nat} {o1 o2 o3 o4 o5 o6 o7 o8 o9 o10 o11 o12 o13 o14 : Obj} {T : List (Addr × Obj)} {C : Prop} (h : AllLt d ((a1, o1) :: (a2, o2) :: (a3, o3) :: (a4, o4) :: (a5, o5) :: (a6, o6) :: (a7, o7) :: (a8, o8) :: (a9, o9) :: (a10, o10) :: (a11, o11) :: (a12, o12) :: (a13, o13) :: (a14, o14) :: T)) (c : @LT.lt Nat _ a1 d → @LT.lt Nat _ a2 d → @LT.lt Nat _ a3 d → @LT.lt Nat _ a4 d → @LT.lt Nat _ a5 d → @LT.lt Nat _ a6 d → @LT.lt Nat _ a7 d → @LT.lt Nat _ a8 d → @LT.lt Nat _ a9 d → @LT.lt Nat _ a10 d → @LT.lt Nat _ a11 d → @LT.lt Nat _ a12 d → @LT.lt Nat _ a13 d → @LT.lt Nat _ a14 d → AllLt d T → C) : C := c h.1 h.2.1 h.2.2.1 h.2.2.2.1 h.2.2.2.2.1 h.2.2.2.2.2.1 h.2.2.2.2.2.2.1 h.2.2.2.2.2.2.2.1 h.2.2.2.2.2.2.2.2.1 h.2.2.2.2.2.2.2.2.2.1 h.2.2.2.2.2.2.2.2.2.2.1 h.2.2.2.2.2.2.2.2.2.2.2.1 h.2.2.2.2.2.2.2.2.2.2.2.2.1 h.2.2.2.2.2.2.2.2.2.2.2.2.2.1 h.2.2.2.2.2.2.2.2.2.2.2.2.2.2
theorem bel15 {d a1 a2 a3 a4 a5 a6 a7 a8 a9 a10 a11 a12 a13 a14 a15 : Nat} {o1 o2 o3 o4 o5 o6 o7 o8 o9 o10 o11 o12 o13 o14 o15 : Obj} {T : List (Addr × Obj)} {C : Prop} (h : AllLt d ((a1, o1) :: (a2, o2) :: (a3, o3) :: (a4, o4) :: (a5, o5) :: (a6, o6) :: (a7, o7) :: (a8, o8) :: (a9, o9) :: (a10, o10) :: (a11, o11) :: (a12, o12) :: (a13, o13) :: (a14, o14) :: (a15, o15) :: T)) (c : @LT.lt Nat _ a1 d → @LT.lt Nat _ a2 d → @LT.lt Nat _ a3 d → @LT.lt Nat _ a4 d → @LT.lt Nat _ a5 d → @LT.lt Nat _ a6 d → @LT.lt Nat _ a7 d → @LT.lt Nat _ a8 d → @LT.lt Nat _ a9 d → @LT.lt Nat _ a10 d → @LT.lt Nat _ a11 d → @LT.lt Nat _ a12 d → @LT.lt Nat _ a13 d → @LT.lt Nat _ a14 d → @LT.lt Nat _ a15 d → AllLt d T → C) : C := c h.1 h.2.1 h.2.2.1 h.2.2.2.1 h.2.2.2.2.1 h.2.2.2.2.2.1 h.2.2.2.2.2.2.1 h.2.2.2.2.2.2.2.1 h.2.2.2.2.2.2.2.2.1 h.2.2.2.2.2.2.2.2.2.1 h.2.2.2.2.2.2.2.2.2.2.1 h.2.2.2.2.2.2.2.2.2.2.2.1 h.2.2.2.2.2.2.2.2.2.2.2.2.1 h.2.2.2.2.2.2.2.2.2.2.2.2.2.1 h.2.2.2.2.2.2.2.2.2.2.2.2.2.2.1 h.2.2.2.2.2.2.2.2.2.2.2.2.2.2.2
theorem bel16 {d a1 a2 a3 a4 a5 a6 a7 a8 a9 a10 a11 a12 a13 a14 a15 a16 : Nat} {o1 o2 o3 o4 o5 o6 o7 o8 o9 o10 o11 o12 o13 o14 o15 o16 : Obj} {T : List (Addr × Obj)} {C : Prop} (h : AllLt d ((a1, o1) :: (a2, o2) :: (a3, o3) :: (a4, o4) :: (a5, o5) :: (a6, o6) :: (a7, o7) :: (a8, o8) :: (a9, o9) :: (a10, o10) :: (a11, o11) :: (a12, o12) :: (a13, o13) :: (a14, o14) :: (a15, o15) :: (a16, o16) :: T)) (c : @LT.lt Nat _ a1 d → @LT.lt Nat _ a2 d → @LT.lt Nat _ a3 d → @LT.lt Nat _ a4 d → @LT.lt Nat _ a5 d → @LT.lt Nat _ a6 d → @LT.lt Nat _ a7 d → @LT.lt Nat _ a8 d → @LT.lt Nat _ a9 d → @LT.lt Nat _ a10 d → @LT.lt Nat _ a11 d → @LT.lt Nat _ a12 d → @LT.lt Nat _ a13 d → @LT.lt Nat _ a14 d → @LT.lt Nat _ a15 d → @LT.lt Nat _ a16 d → AllLt d T → C) : C := c h.1 h.2.1 h.2.2.1 h.2.2.2.1 h.2.2.2.2.1 h.2.2.2.2.2.1 h.2.2.2.2.2.2.1 h.2.2.2.2.2.2.2.1 h.2.2.2.2.2.2.2.2.1 h.2.2.2.2.2.2.2.2.2.1 h.2.2.2.2.2.2.2.2.2.2.1 h.2.2.2.2.2.2.2.2.2.2.2.1 h.2.2.2.2.2.2.2.2.2.2.2.2.1 h.2.2.2.2.2.2.2.2.2.2.2.2.2.1 h.2.2.2.2.2.2.2.2.2.2.2.2.2.2.1 h.2.2.2.2.2.2.2.2.2.2.2.2.2.2.2.1 h.2.2.2.2.2.2.2.2.2.2.2.2.2.2.2.2
theorem rm0 {a b c : Nat} (h : a + b < c) : a < c := Nat.lt_of_le_of_lt (Nat.le_add_right a b) h
theorem rm1 {a b c j : Nat} (h : a + b < c) (e : Nat.ble j b = true) : a + j < c := Nat.lt_of_le_of_lt (Nat.add_le_add_left (Nat.le_of_ble_eq_true e) a) h
theorem rm2 {a b c j k : Nat} (h : a + b < c) (e : Nat.ble (j + k) b = true) : a + j + k < c := Nat.add_assoc a j k ▸ rm1 h e
theorem rm3 {a b c j k l : Nat} (h : a + b < c) (e : Nat.ble (j + k + l) b = true) : a + j + k + l < c := by rw [Nat.add_assoc a j k, Nat.add_assoc a (j + k) l]; exact rm1 h e
theorem fitsL {a b : Nat} (h : a ≤ b) (e : Nat.ble b 16777216 = true) : a ≤ sizeLine := by rw [sizeLine_eq]; exact Nat.le_trans h (Nat.le_of_ble_eq_true e)
theorem fits {a b c : Nat} (h : a ≤ b) (e : Nat.ble b c = true) : a ≤ c := Nat.le_trans h (Nat.le_of_ble_eq_true e)
theorem mid_is {lo hi : Nat} : Int.fdiv ((lo : Int) + (hi : Int)) 2 = (((lo + hi) / 2 : Nat) : Int) := by
  rw [Int.fdiv_eq_ediv_of_nonneg _ (by decide)]
  omega
theorem mid_ge {lo hi : Nat} (h : lo < hi) : lo ≤ (lo + hi) / 2 := by omega
theorem mid_lt {lo hi : Nat} (h : lo < hi) : (lo + hi) / 2 < hi := by omega
theorem mid0 {z : Int} {md : Nat} (h : z = (md : Int)) : 0 ≤ z := by rw [h]; exact Int.natCast_nonneg _
theorem midB {z : Int} {md b : Nat} (h : z = (md : Int)) (k : md ≤ b) : z ≤ (b : Int) := by rw [h]; exact Int.ofNat_le.mpr k
theorem midL {z : Int} {md b : Nat} (h : z = (md : Int)) (k : md < b) : z < (b : Int) := by rw [h]; exact Int.ofNat_lt.mpr k
theorem perm3 {α : Type} {A B C : List α} : ∀ q ∈ C ++ (A ++ B), q ∈ A ++ (B ++ C) := by
  intro q hq
  rcases List.mem_append.mp hq with h | h
  · exact List.mem_append.mpr (.inr (List.mem_append.mpr (.inr h)))
  rcases List.mem_append.mp h with h | h
  · exact List.mem_append.mpr (.inl h)
  · exact List.mem_append.mpr (.inr (List.mem_append.mpr (.inl h)))
theorem twice {i : Nat} : 0 + (i : Int) * 2 = ((2 * i : Nat) : Int) := by rw [Int.zero_add, Int.mul_comm]; rfl
theorem twice1 {i : Nat} : 0 + (i : Int) * 2 + 1 = ((2 * i + 1 : Nat) : Int) := by rw [twice]; rfl
theorem toNat_of {z : Int} {n : Nat} (h : z = (n : Int)) : z.toNat = n := by rw [h]; rfl
theorem less5 {i b c : Nat} (h : i < 5) (e : Nat.ble (2 * 5 + c) b = true) : 2 * i + c ≤ b := Nat.le_trans (Nat.add_le_add_right (Nat.mul_le_mul_left 2 (Nat.le_of_lt h)) c) (Nat.le_of_ble_eq_true e)
theorem cnt3_is {n : Nat} {f : Int} (h : n = (3 + Int.fmod f 3).toNat) : 3 + Int.fmod f 3 = (n : Int) := by
  rw [h, Int.toNat_of_nonneg (Int.add_nonneg (by decide) (Int.fmod_nonneg_of_pos f (by decide)))]
noncomputable def Hold (p : Prop) : Prop := p
theorem Hold.go {p : Prop} (h : Hold p) : p := h
theorem Hold.of {p : Prop} (h : p) : Hold p := h
/-- the functions whose contracts are put by hand: the walk stops at a call of theirs -/
theorem stopC {M : PySem.Model} {A : Around} {n : Nat} {a : Args} {R : Result → Shared → Prop} {s : Shared} (hn : [62, 69, 76, 151, 23, 32, 170, 139, 144, 125, 41, 177].contains n = true) (h : Hold (codeAny M A (.call (.ref n) a) R s)) : codeAny M A (.call (.ref n) a) R s := h
theorem stopO {M : PySem.Model} {A : Around} {n : Nat} {a : Args} {R : Result → Shared → Prop} {s : Shared} (hn : [90, 97, 104, 111, 118].contains n = true) (h : Hold (codeAny M A (.call (.ref n) a) R s)) : codeAny M A (.call (.ref n) a) R s := h
local macro_rules | `(tactic| ktr_room) => `(tactic| first | exact rm0 (by with_reducible assumption) | exact rm1 (by with_reducible assumption) (by rfl) | exact rm2 (by with_reducible assumption) (by rfl))
local macro_rules | `(tactic| ktr_units) => `(tactic| ktr_room)
local macro_rules | `(tactic| size_fits) => `(tactic| exact fitsL (by with_reducible assumption) (by rfl))
local macro_rules | `(tactic| tb_rel) => `(tactic| first | assumption | exact Nat.lt_succ_self _ | exact Nat.lt_of_succ_lt (by assumption) | exact Nat.lt_of_succ_lt (Nat.lt_of_succ_lt (by assumption)) | (refine Nat.lt_succ_of_lt ?_; tb_rel) | (refine Nat.lt_trans ?_ (by assumption); tb_rel))
local macro_rules | `(tactic| k_ne) => `(tactic| (refine neN ?_; (try dsimp only); with_reducible first | exact neA (by assumption) | exact neB (by assumption) | exact neA (Nat.le_of_ble_eq_true rfl) | exact neB (Nat.le_of_ble_eq_true rfl) | (refine neA ?_; tb_rel) | (refine neB ?_; tb_rel)))
local macro_rules | `(tactic| k_room) => `(tactic| ktr_room)
local macro_rules | `(tactic| kn_enter) => `(tactic| (refine' code_nest ?k1 ?k2 ?k3 ?k4 ?k5 ?kA ?kF ?kK ?k6 ?k7 ?k8 ?k9 ?kB ?_ ?c2 ?c3 ?c4 ?c5; (case kA | kF => exact rfl); (case kK => assumption); (case k1 | k2 | k3 | k4 | k5 => k_asm); (case k6 => k_mem); (case k7 => exact codeRec_news (by k_asm) (by k_mem) (by assumption) (by assumption)); (case k8 => k_room); (case k9 => exact BindsTo.of_eq rfl); (case c5 => decide); (case kB => exact locs rfl); (case c2 | c3 | c4 => exact rfl); k_whole; intro g' L' h' FG' F' N' B' X' T'; (try dsimp only); (try k_lift B'); (try k_fold)))
local macro_rules | `(tactic| k_lt $h:ident) => `(tactic| (replace $h := allLt_of $h; (try ((with_reducible first | refine bel16 $h ?_ | refine bel15 $h ?_ | refine bel14 $h ?_ | refine bel13 $h ?_ | refine bel12 $h ?_ | refine bel11 $h ?_ | refine bel10 $h ?_ | refine bel9 $h ?_ | refine bel8 $h ?_ | refine bel7 $h ?_ | refine bel6 $h ?_ | refine bel5 $h ?_ | refine bel4 $h ?_ | refine bel3 $h ?_ | refine bel2 $h ?_ | refine bel1 $h ?_); clear $h; intros))))
local macro_rules | `(tactic| k_enter) => `(tactic| first
  | (refine' code_def ?k1 ?k2 ?k3 ?k4 ?k5 ?kA ?kF ?kK ?k6 ?k7 ?k8 ?k9 ?kB ?_ ?c2 ?c3 ?c4 ?c5; (case kA | kF => exact rfl); (case kK => assumption); (case k1 | k2 | k3 | k4 | k5 => k_asm); (case k6 | k7 => k_is); (case k8 => k_room); (case k9 => first | exact BindsTo.of_eq rfl | exact binds_K (by k_in) rfl (by k_is) rfl rfl rfl | fail "k_enter: no rule for these arguments"); (case c5 => decide); (case kB => exact locs rfl); (case c2 | c3 | c4 => exact rfl); k_whole; intro g' L' h' FG' F' N' B' X' T'; (try dsimp only); (try k_lift B'); (try k_fold))
  | (refine' code_defC ?k1 ?k2 ?k3 ?k4 ?k5 ?kA ?kF ?kK ?k6 ?k7 ?k8 ?k9 ?kB ?kD ?_ ?c2 ?c3 ?c4; (case kA | kF => exact rfl); (case kK => assumption); (case k1 | k2 | k3 | k4 | k5 => k_asm); (case k6 | k7 => k_is); (case k8 => k_room); (case k9 => first | exact BindsTo.of_eq rfl | exact binds_K (by k_in) rfl (by k_is) rfl rfl rfl | fail "k_enter: no rule for these arguments"); (case kB => exact rfl); (case kD => decide +kernel); (case c2 | c3 | c4 => exact rfl); k_whole; intro g' L' h' tk' cells' FG' F' N' Y' B' X' T' l1; (try k_lt l1); k_cells Y'; (try simp only [List.cons_append, List.nil_append] at N'); (try dsimp only); (try k_lift B'); (try k_fold)))
local macro_rules | `(tactic| k_allIn) => `(tactic| (intro q hq; k_ownIn))
local macro_rules | `(tactic| walk_at "eval Name") => `(tactic| (k_here; (with_reducible show wpAny _ _ (eval (PySem.Expr.Name _ _) (envOf _ _ _ _ _)) _ _ _); k_dflt (refine ld (by k_asm) (by ((fail_if_success exact rfl); assumption)) ?_)))
local macro_rules | `(tactic| walk_at "loadName") => `(tactic| (k_here; (with_reducible show wpAny _ _ (loadName (envOf _ _ _ _ _) _) _ _ _); k_dflt (refine ldn (by k_asm) (by ((fail_if_success exact rfl); assumption)) ?_)))

local macro_rules | `(tactic| k_all) => `(tactic| first
  | exact List.forall_mem_nil _
  | (refine' List.forall_mem_cons.mpr ⟨?a, ?b⟩; (case a => k_ne); (case b => k_all))
  | exact allLt_ne0 (by with_reducible assumption) | exact allLt_ne1 (by with_reducible assumption) | exact allLt_ne2 (by with_reducible assumption) | exact allLt_ne3 (by with_reducible assumption)
  | exact OwnOff.ne (by with_reducible assumption) (by k_memK)
  | (refine OwnOff.one ?_; k_all) | (refine OwnOff.more ?_ ?_; (k_all); (k_all)))
local macro_rules | `(tactic| k_mem) => `(tactic| first | exact Pull.head | (apply Pull.tail; k_mem) | exact Pulls.nil | (refine' Pulls.cons ?k90 ?k91; (case k90 | k91 => k_mem)) | ((fail_if_success (refine' List.Mem.tail _ ?_)); with_reducible_and_instances assumption))
local macro_rules | `(tactic| walk_at "call builtin:len") => `(tactic| (k_here; (with_reducible show wpAny _ _ (call (Value.builtin "len") [Value.ref _]) _ _ _); k_dflt (refine len_my (by k_asm) (by k_mem) (by with_reducible assumption) (by omega) ?_); intro t9 tk9))
local macro_rules | `(tactic| walk_at "subscriptTail") => `(tactic| (k_here; (with_reducible show wpAny _ _ (subscriptTail _ _ (Value.ref _) (Value.int _ _)) _ _ _); k_dflt (refine item_my (by k_asm) (by k_mem) (by with_reducible assumption) (by with_reducible assumption) (by with_reducible assumption) ?_)))
local macro_rules | `(tactic| walk_at "exec While Compare cons nil") => `(tactic| (k_here; refine wpAny_While ?_))
local macro_rules | `(tactic| walk_at "execs cons") => `(tactic| (k_here; k_fold; with_reducible refine wpAny_execs_cons ?_))
local macro_rules | `(tactic| walk_at "call ref") => `(tactic| (k_here; k_dflt (refine wpAny_call ?_; refine stopC (by decide) ?_)))
section
local macro_rules | `(tactic| walk_at "mine-nothing") => `(tactic| skip)
/-- the addresses and the still objects of a lexer over a text -/
structure LexP where
  (l x d l1 x1 d1 f c pl cp ct : Addr)
  (fo oc ocp oct : Obj)
  (k1 k2 k3 k4 tw j1 j2 j3 j4 j5 tl1 tw1 : Tok)
noncomputable abbrev lexDict (w : World) (P : LexP) (ln : Int) (tkl : Tok) : Obj :=
  dictOf [⟨PyData.keyHash w.params (Str.ofString "lineno"), .str (Str.ofString "lineno") P.k1, .int ln tkl⟩,
     ⟨PyData.keyHash w.params (Str.ofString "instream"), .str (Str.ofString "instream") P.k2, .ref P.x1⟩,
     ⟨PyData.keyHash w.params (Str.ofString "whitespace"), .str (Str.ofString "whitespace") P.k3, .str (Str.ofString "\n\t\r ") P.tw⟩,
     ⟨PyData.keyHash w.params (Str.ofString "pushback"), .str (Str.ofString "pushback") P.k4, .ref P.l⟩] 4
noncomputable abbrev lexDict1 (w : World) (P : LexP) : Obj :=
  dictOf [⟨PyData.keyHash w.params (Str.ofString "lineno"), .str (Str.ofString "lineno") P.j1, .int 1 P.tl1⟩,
     ⟨PyData.keyHash w.params (Str.ofString "instream"), .str (Str.ofString "instream") P.j2, .none⟩,
     ⟨PyData.keyHash w.params (Str.ofString "whitespace"), .str (Str.ofString "whitespace") P.j3, .str (Str.ofString "\n\t\r ") P.tw1⟩,
     ⟨PyData.keyHash w.params (Str.ofString "pushback"), .str (Str.ofString "pushback") P.j4, .ref P.l1⟩,
     ⟨PyData.keyHash w.params (Str.ofString "read"), .str (Str.ofString "read") P.j5, .ref P.f⟩] 5
noncomputable abbrev LexLed (w : World) (P : LexP) (ln : Int) (tkl : Tok) (p : Int) (tkp : Tok) (pb : Array Value) (ne : Nat) : List (Addr × Obj) :=
  [(P.l, W.listOf pb ne), (P.x, instObj 79 P.d), (P.d, lexDict w P ln tkl),
   (P.l1, W.listOf #[] 0), (P.x1, instObj 79 P.d1), (P.d1, lexDict1 w P),
   (P.f, P.fo), (P.c, P.oc), (P.pl, W.listOf #[.int p tkp] 0), (P.cp, P.ocp), (P.ct, P.oct)]
structure LexOrd (P : LexP) : Prop where
  h1 : @LT.lt Nat _ P.ct P.cp
  h2 : @LT.lt Nat _ P.cp P.pl
  h3 : @LT.lt Nat _ P.pl P.c
  h4 : @LT.lt Nat _ P.c P.f
  h5 : @LT.lt Nat _ P.f P.d1
  h6 : @LT.lt Nat _ P.d1 P.x1
  h7 : @LT.lt Nat _ P.x1 P.l1
  h8 : @LT.lt Nat _ P.l1 P.d
  h9 : @LT.lt Nat _ P.d P.x
  h10 : @LT.lt Nat _ P.x P.l
noncomputable def chAt (text : Str) (p : Int) : Str := Txt.slice text (some p) (some (p + 1))
noncomputable abbrev ReadOk (prog : Program) (w : World) (text : Str) (f c pl cp ct : Addr) (fo oc ocp oct : Obj) : Prop :=
  (∃ oc od fd sl, fo = ⟨oc, od, .func fd, sl⟩) ∧
  ∀ (rest : List (Addr × Obj)) (p : Int) (tkp t : Tok) (n : Nat), OwnOff rest [pl] →
   Calls prog w (.ref f) [.int 1 t] [] 2 10 ((f, fo) :: (c, oc) :: (pl, W.listOf #[.int p tkp] n) :: (cp, ocp) :: (ct, oct) :: rest)
    (fun v n' => ∃ tk tk', v = .str (chAt text p) tk' ∧ n' = ((f, fo) :: (c, oc) :: (pl, W.listOf #[.int (p + 1) tk] n) :: (cp, ocp) :: (ct, oct) :: rest))
theorem chAt_of (text : Str) (p : Int) : Txt.slice text (some (p + 1 - 1)) (some (p + 1)) = chAt text p := by
  unfold chAt
  rw [show p + 1 - 1 = p by omega]

theorem allLt_mono {d : Addr} : ∀ {r : List (Addr × Obj)}, AllLt d r → AllLt (d + 1) r
  | [], _ => trivial
  | _ :: _, h => ⟨Nat.lt_succ_of_lt h.1, allLt_mono h.2⟩
local macro_rules | `(tactic| kn_code) => `(tactic| first | with_reducible assumption | exact CodeHd.keeps (by assumption) (Fr.keep (by assumption)))
set_option maxHeartbeats 4000000 in
theorem c_law_lexer (prog : Program) (w : World) (rest : List (Addr × Obj)) (t1 : Tok) (text : Str) (ht : text.length ≤ 100000) (h1 : OwnOff rest [146]) :
    Calls prog w (.ref 151) [.str text t1] [] 10 100 ((146, tabObj #[]) :: rest) (fun v n' => ∃ (P : LexP) (tkl tkp : Tok) (ps : Array Value),
      v = .ref P.x ∧ n' = LexLed w P 1 tkl 0 tkp #[] 0 ++ (146, tabObj ps) :: rest ∧ LexOrd P ∧ @LT.lt Nat _ 146 P.ct ∧ AllLt P.ct rest ∧ ReadOk prog w text P.f P.c P.pl P.cp P.ct P.fo P.oc P.ocp P.oct) := by
  intro dp un gd cn cs a ccd cl outer A₀ base h₀ L m s Rk p loose mean mg mb B F X N T hk hd hu hret
  have C : CodeHd h₀ 150 146 := codeHd_of_K X (by kernel_rfl)
  k_dflt k_enter
  k_steps
  refine' hret _ _ _ _ ?post ?fr ?nw
  case nw => k_asm
  case fr => k_asm
  case post =>
    refine ⟨⟨_, _, _, _, _, _, _, _, _, _, _, _, _, _, _, _, _, _, _, _, _, _, _, _, _, _, _⟩, _, _, _, rfl, rfl, ?_, ?_, ?_, ?_, ?_⟩
    · constructor <;> dsimp only <;> first | omega | exact Nat.lt_succ_self _ | assumption
    · dsimp only; omega
    · dsimp only; exact allLt_mono (by assumption)
    · exact ⟨_, _, _, _, rfl⟩
    intro rest p tkp t n hoff
    intro dp un gd cn cs a ccd cl outer A₀ base h₀ L m s Rk p loose mean mg mb B F X N T hk hd hu hret
    dsimp only at N
    k_dflt kn_enter
    k_steps
    refine' hret _ _ _ _ ?post ?fr ?nw
    case nw => k_asm
    case fr => k_asm
    case post => exact ⟨_, _, congrArg (fun z => Value.str z _) (chAt_of text _), rfl⟩

end
section
-- plain facts about texts: no program here
theorem sliceIx_one (p n : Nat) : Builtin.Str.strSliceIndices (some (p : Int)) (some ((p : Int) + 1)) 1 n = if p < n then [p] else [] := by
  unfold Builtin.Str.strSliceIndices sliceRange
  have e1 : ¬ ((p : Int) < 0) := by omega
  have e2 : ¬ ((p : Int) + 1 < 0) := by omega
  simp only [show (1 : Int) > 0 from by decide, if_true, e1, e2, if_false, Int.ediv_one]
  by_cases h : p < n
  · have a1 : max 0 (min (p : Int) (n : Int)) = p := by omega
    have a2 : max 0 (min ((p : Int) + 1) (n : Int)) = p + 1 := by omega
    rw [a1, a2, if_pos (by omega), if_pos h]
    have : ((p : Int) + 1 - p + 1 - 1).toNat = 1 := by omega
    rw [this]
    simp
  · have a1 : max 0 (min (p : Int) (n : Int)) = n := by omega
    have a2 : max 0 (min ((p : Int) + 1) (n : Int)) = n := by omega
    rw [a1, a2, if_neg (by omega), if_neg h]
    simp
theorem chAt_cons {text : Str} {p : Nat} {c : Nat} {r : List Nat} (h : text.cps.toList.drop p = c :: r) : chAt text (p : Int) = ⟨#[c]⟩ := by
  have hlt : p < text.cps.toList.length := by
    rcases Nat.lt_or_ge p text.cps.toList.length with h' | h'
    · exact h'
    · rw [List.drop_eq_nil_of_le h'] at h; cases h
  have hg : text.cps.toList[p]? = some c := by
    have := congrArg List.head? h
    rw [List.head?_drop] at this
    exact this
  have hlt' : p < text.length := by show p < text.cps.size; simpa using hlt
  unfold chAt Txt.slice
  rw [sliceIx_one, if_pos hlt']
  split
  · rename_i hq
    have h1 : 1 = text.length := by simpa using hq
    have hp : p = 0 := by omega
    subst hp
    rw [List.drop_zero] at h
    have hl : text.cps.toList.length = 1 := by
      have : text.cps.size = 1 := h1.symm
      simpa using this
    rw [h] at hl
    have hr : r = [] := by
      cases r with
      | nil => rfl
      | cons _ _ => simp at hl
    subst hr
    have : text.cps = #[c] := by rw [← Array.toArray_toList (xs := text.cps), h]
    cases text with
    | mk cps => dsimp only at this; rw [this]
  · have hg' : text.cps[p]? = some c := by rw [← Array.getElem?_toList]; exact hg
    simp [List.filterMap, hg']
theorem chAt_nil {text : Str} {p : Nat} (h : text.cps.toList.drop p = []) : chAt text (p : Int) = ⟨#[]⟩ := by
  have hle : text.cps.toList.length ≤ p := List.drop_eq_nil_iff.mp h
  have hle' : ¬ p < text.length := by show ¬ p < text.cps.size; simpa using hle
  unfold chAt Txt.slice
  rw [sliceIx_one, if_neg hle']
  split
  · rename_i hq
    have h1 : 0 = text.length := by simpa using hq
    have h2 : text.cps = #[] := by
      apply Array.eq_empty_of_size_eq_zero
      exact h1.symm
    cases text with
    | mk cps => dsimp only at h2; rw [h2]
  · rfl
/-- the blanks between words -/
noncomputable def wsl : List Nat := [10, 9, 13, 32]
theorem ws_text : (Str.ofString "\n\t\r ").cps.toList = wsl := by decide +kernel
theorem in_ws (c : Nat) : (!(Builtin.Str.occurrences (Str.ofString "\n\t\r ") ⟨#[c]⟩ 0 (Str.ofString "\n\t\r ").length 1).isEmpty) = decide (c ∈ wsl) := by
  rw [StrLaws.found_one, ws_text]
theorem not_in_ws {c : Nat} (h : c ∉ wsl) : (Builtin.Str.occurrences (Str.ofString "\n\t\r ") ⟨#[c]⟩ 0 (Str.ofString "\n\t\r ").length 1).isEmpty = true := by
  have := in_ws c
  rw [decide_eq_false h] at this
  simpa using this
theorem one_eq (c d : Nat) : ((⟨#[c]⟩ : Str) == ⟨#[d]⟩) = decide (c = d) := by
  rw [Bool.eq_iff_iff, beq_iff_eq, decide_eq_true_eq]
  exact ⟨fun h => by cases h; rfl, fun h => by rw [h]⟩
theorem nl_is : Str.ofString "\n" = ⟨#[10]⟩ := by decide +kernel
theorem bs_is : Str.ofString "\\" = ⟨#[92]⟩ := by decide +kernel
theorem dq_is : Str.ofString "\"" = ⟨#[34]⟩ := by decide +kernel
theorem no_is : Str.ofString "" = ⟨#[]⟩ := by decide +kernel
/-- a sign within quotation marks -/
noncomputable def esc (c : Nat) : List Nat := if c = 34 ∨ c = 92 then [92, c] else [c]
/-- a word as it is written: within quotation marks, or with a backslash ahead of each sign -/
noncomputable def wrt (w : List Nat) (q : Bool) : List Nat := if q then 34 :: (w.flatMap esc ++ [34]) else w.flatMap fun c => [92, c]
noncomputable def nls (l : List Nat) : Int := (l.count 10 : Nat)
theorem nls_cons (c : Nat) (l : List Nat) : nls (c :: l) = (if c = 10 then 1 else 0) + nls l := by
  unfold nls
  rw [List.count_cons]
  by_cases h : c = 10
  · subst h; simp; omega
  · simp [h]
theorem nls_nil : nls [] = 0 := rfl
theorem nls_append (a b : List Nat) : nls (a ++ b) = nls a + nls b := by
  unfold nls
  rw [List.count_append]
  omega
theorem drop_more {l r a : List Nat} {p : Nat} (h : l.drop p = a ++ r) : l.drop (p + a.length) = r := by
  rw [← List.drop_drop, h, List.drop_left]
theorem drop_one {l r : List Nat} {p c : Nat} (h : l.drop p = c :: r) : l.drop (p + 1) = r := by
  rw [← List.drop_drop, h]
  rfl

end
section

theorem read_use {prog : Program} {w : World} {text : Str} {f c pl cp ct : Addr} {fo oc ocp oct : Obj} {dp un : Nat} {gd : Option (List Code)} {cn : Str} {cs : Scope} {a : Addr} {ccd : Value} {cl : List (Str × Addr)} {outer : List Env} {A₀ : Around} {base h₀ : Heap} {L : Addr} {m : Str → Option Value} {s : Shared} {Q E : Value → Shared → Prop}
    {pp : Program} {loose : List Str} {mean : ExcName → Option Value} {mg mb : Str → Option Value} {news r1 r2 r3 r4 r5 : List (Addr × Obj)} {p : Int} {tkp t : Tok} {n : Nat}
    (R : ReadOk prog w text f c pl cp ct fo oc ocp oct)
    (B : Below A₀ base outer h₀) (F : Fr h₀ L s.heap m) (X : (Mine.hd.heap_39 w.params).In h₀) (N : News h₀ L s.heap news) (T : Top pp loose mean mg mb h₀) (hk : cs.kind = .function)
    (u1 : Pull (f, fo) news r1) (u2 : Pull (c, oc) r1 r2) (u3 : Pull (pl, W.listOf #[.int p tkp] n) r2 r3) (u4 : Pull (cp, ocp) r3 r4) (u5 : Pull (ct, oct) r4 r5) (ho : ∀ q ∈ r5, q.1 ≠ pl)
    (hd : dp + 2 < recursionLimit) (hu : un + 10 < cLine)
    (h : ∀ tk tk' h' tks, Fr h₀ L h' m → News h₀ L h' ((f, fo) :: (c, oc) :: (pl, W.listOf #[.int (p + 1) tk] n) :: (cp, ocp) :: (ct, oct) :: r5) → Q (.str (chAt text p) tk') { s with heap := h', toks := tks }) :
    wpAny (model prog w) (ktrTop dp un gd cn cs L a ccd cl outer) (call (.ref f) [.int 1 t] []) Q E s := by
  refine wpAny_call ?_
  refine R.2 r5 p tkp t n (OwnOff.one ho) dp un gd cn cs a ccd cl outer A₀ base h₀ L m s _ pp loose mean mg mb B F X (News.perm ?_ N) T hk hd hu ?_
  · refine u1.cons ?_
    intro y hy
    rcases List.mem_cons.mp hy with rfl | hy
    · exact .head _
    refine .tail _ (u2.cons ?_ y hy)
    intro y hy
    rcases List.mem_cons.mp hy with rfl | hy
    · exact .head _
    refine .tail _ (u3.cons ?_ y hy)
    intro y hy
    rcases List.mem_cons.mp hy with rfl | hy
    · exact .head _
    refine .tail _ (u4.cons ?_ y hy)
    intro y hy
    rcases List.mem_cons.mp hy with rfl | hy
    · exact .head _
    exact .tail _ (u5.mem y hy)
  · rintro v news' h' tk' ⟨tk, tk2, rfl, rfl⟩ F' N'
    exact h tk tk2 h' tk' F' N'

theorem fnAt_read {prog : Program} {w : World} {text : Str} {f c pl cp ct : Addr} {fo oc ocp oct : Obj} {h₀ h : Heap} {L : Addr} {news : List (Addr × Obj)} (R : ReadOk prog w text f c pl cp ct fo oc ocp oct) (N : News h₀ L h news) (hm : (f, fo) ∈ news) : FnAt f h := by
  obtain ⟨⟨oc, od, fd, sl, rfl⟩, _⟩ := R
  exact FnAt.of N hm
local macro_rules | `(tactic| walk_at "FnAt") => `(tactic| (k_dflt (exact fnAt_read (by assumption) (by k_asm) (by k_mem))))
local macro_rules | `(tactic| walk_at "callWith ref") => `(tactic| (k_here; k_dflt (refine' callWith_F ?k1 ?_; (case k1 => exact fnAt_read (by assumption) (by k_asm) (by k_mem)); k_whole)))
local macro_rules | `(tactic| walk_at "call ref") => `(tactic| (k_here; (with_reducible show wpAny _ _ (call (Value.ref _) [Value.int _ _] _) _ _ _); k_dflt (refine' read_use ?R ?B ?F ?X ?N ?T ?K ?u1 ?u2 ?u3 ?u4 ?u5 ?o ?d ?u ?_; (case R => assumption); (case B => k_asm); (case F => k_asm); (case X => k_asm); (case N => k_asm); (case T => k_asm); (case K => first | exact rfl | assumption); (case u1 => k_mem); (case u2 => k_mem); (case u3 => k_mem); (case u4 => k_mem); (case u5 => k_mem); (case o => k_all); (case d => ktr_room); (case u => ktr_units); k_whole; intro t9 t8 h' tk' F' N')))

set_option maxHeartbeats 4000000 in
theorem c_read_char (prog : Program) (w : World) (text : Str) (P : LexP) (rest : List (Addr × Obj)) (ln p : Int) (tkl tkp : Tok) (pb : Array Value) (ne : Nat) (O : LexOrd P)
    (R : ReadOk prog w text P.f P.c P.pl P.cp P.ct P.fo P.oc P.ocp P.oct) (h1 : OwnOff rest [P.l, P.d, P.pl]) :
    Calls prog w (.ref 62) [.ref P.x] [] 5 30 (LexLed w P ln tkl p tkp pb ne ++ rest) (fun v n' => ∃ (tkl' tkp' tk : Tok),
      v = .str (chAt text p) tk ∧ n' = LexLed w P (if (chAt text p == Str.ofString "\n") = true then ln + 1 else ln) tkl' (p + 1) tkp' pb ne ++ rest) := by
  intro dp un gd cn cs a ccd cl outer A₀ base h₀ L m s Rk pp loose mean mg mb B F X N T hk hd hu hret
  obtain ⟨h1', h2', h3', h4', h5', h6', h7', h8', h9', h10'⟩ := O
  obtain ⟨oc9, od9, fd9, sl9, hfo⟩ := id R.1
  simp only [List.cons_append, List.nil_append] at N
  k_dflt k_enter
  k_steps
  · refine hret (.str _ ?zk) (LexLed w P (if (chAt text p == Str.ofString "\n") = true then ln + 1 else ln) ?zl (p + 1) ?zq pb ne ++ rest) _ _ ⟨_, _, _, rfl, rfl⟩ ?zf ?zw
    case zf => k_asm
    case zw =>
      rw [if_pos (by assumption)]
      refine' News.perm ?zp ?zn
      case zn => k_asm
      case zp => k_allIn
  · refine hret (.str _ ?zk2) (LexLed w P (if (chAt text p == Str.ofString "\n") = true then ln + 1 else ln) ?zl2 (p + 1) ?zq2 pb ne ++ rest) _ _ ⟨_, _, _, rfl, rfl⟩ ?zf2 ?zw2
    case zf2 => k_asm
    case zw2 =>
      rw [if_neg (by simp_all)]
      refine' News.perm ?zp2 ?zn2
      case zn2 => k_asm
      case zp2 => k_allIn

end
section
/-- the object of iter(f, sentinel) -/
noncomputable abbrev ciObj (q : Addr) (st : Str) (t : Tok) : Obj := { cls := .type "callable_iterator", data := .fields #[.ref q, .str st t, .bool false] }
theorem ci_slot_next : Slot "callable_iterator" "__next__" "callable_iterator.__next__" :=
  .of (owner := "callable_iterator") (n := "__next__") (by rw [typeLookup_type, builtinLookup_eq_fast]; kernel_rfl) (by decide +kernel) (by decide +kernel) (by decide +kernel)
    (by first | exact .inl (by decide +kernel) | exact .inr (by decide +kernel)) (by rw [isSubtype_type]; kernel_rfl)
theorem ci_entry_next : entryFor table "callable_iterator.__next__" = some Builtin.«callable_iterator.__next__» := entryFor_of_fast (by rw [fastTable_eq_tree]; kernel_rfl)
theorem ci_args_next (a : Value) : argsOk "callable_iterator.__next__" ⟨[a], []⟩ := by unfold argsOk; kernel_rfl
theorem ci_slot_iter : Slot "callable_iterator" "__iter__" "callable_iterator.__iter__" :=
  .of (owner := "callable_iterator") (n := "__iter__") (by rw [typeLookup_type, builtinLookup_eq_fast]; kernel_rfl) (by decide +kernel) (by decide +kernel) (by decide +kernel)
    (by first | exact .inl (by decide +kernel) | exact .inr (by decide +kernel)) (by rw [isSubtype_type]; kernel_rfl)
theorem ci_entry_iter : entryFor table "callable_iterator.__iter__" = some Builtin.«dict_keyiterator.__iter__» :=
  entryFor_alias (id' := "dict_keyiterator.__iter__") (by rw [fastTable_eq_tree]; kernel_rfl) rfl (by decide +kernel) (by rw [fastTable_eq_tree]; kernel_rfl)
theorem ci_args_iter (a : Value) : argsOk "callable_iterator.__iter__" ⟨[a], []⟩ := by unfold argsOk; kernel_rfl
theorem ci_meth_call : typeLookup (.type "method") "__call__" = pure (some (.builtin "method.__call__")) := by rw [typeLookup_type, builtinLookup_eq_fast]; kernel_rfl
theorem ci_args2 (a b : Value) : argsOk "iter" ⟨[a, b], []⟩ := by unfold argsOk; kernel_rfl
section
variable {prog : Program} {w : World} {A : Around} {E : Value → Shared → Prop} {s : Shared} {M : Model}
theorem wpAny_callBorrowed {f : Value} {pos : List Value} {Q : Value → Shared → Prop}
    (hc : codeAny M A (.call f ⟨pos, []⟩) (fun r s' => match r with | .ok (.ret v) => Q v s' | .ok _ => False | .error e => E e s') s) :
    wpAny M A (callBorrowed f pos) Q E s := fun Γ p hΓ => by
  have h := hc _ p rfl (hΓ.enter (.call f ⟨pos, []⟩) none p (by intro x; cases x))
  unfold callBorrowed
  rw [Sem.wp_call]
  refine Eq.mp ?_ h
  congr 1
  funext r s'
  cases r with
  | error e => rfl
  | ok f => cases f <;> rfl
theorem wpAny_iter2 {q f x : Addr} {st : Str} {t : Tok} {Q : Value → Shared → Prop} (hq : s.heap.get? q = some (methodObj (.ref f) (.ref x)))
    (h : Q (.ref s.heap.objs.size) { s with heap := s.heap.push (ciObj q st t) }) :
    wpAny (model prog w) A (call (.builtin "iter") [.ref q, .str st t]) Q E s := by
  refine call_function_entry (by decide +kernel) (by decide +kernel) kdk_entry_iter (ci_args2 _ _) ?_
  unfold Builtin.«iter»
  refine wpAny_bind (m := someArgs "iter" 1 2 _) (wpAny_of_eq (a := [Value.ref q, .str st t]) (by first | rfl | kernel_rfl!) ?_)
  dsimp only
  refine wpAny_bind (wpAny_specialOf (name := Str.ofString "__call__") (T := "method") ⟨_, hq, rfl⟩ ci_meth_call ?_)
  rw [if_neg (by decide)]
  refine wpAny_bind (wpAny_rule ?_)
  exact wpAny_bind (wpAny_newObj_type (wpAny_pure ⟨_, rfl, h⟩))
theorem wpAny_pyIter_ci {it q : Addr} {st : Str} {t : Tok} {Q : Value → Shared → Prop} (hit : s.heap.get? it = some (ciObj q st t)) (h : Q (.ref it) s) :
    wpAny (model prog w) A (pyIter (.ref it)) Q E s := by
  have hT : s.TypeIs (.ref it) "callable_iterator" := ⟨_, hit, rfl⟩
  refine wpAny_pyIter_slot hT ci_slot_iter (wpAny_call_entry ci_slot_iter hT ci_entry_iter ?_ (ci_args_iter _))
  show wpAny _ _ (ret (.ref it)) _ _ s
  exact wpAny_pure ⟨_, rfl, "callable_iterator", _, hT, ci_slot_next.lookup, h⟩
theorem wpAny_borrows {q f x : Addr} {fo : Obj} {fd : FuncData} {Q : Bool → Shared → Prop} (hq : s.heap.get? q = some (methodObj (.ref f) (.ref x))) (hf : s.heap.get? f = some fo) (hfd : fo.data = .func fd) (h : Q true s) :
    wpAny M A (borrowsExactly (.ref q)) Q E s := by
  unfold borrowsExactly
  dsimp only
  refine wpAny_bind (wpAny_load hq ?_)
  dsimp only
  rw [if_pos (by decide)]
  show wpAny M A (do match (← load f).data with | .func _ => pure true | _ => pure false) Q E s
  refine wpAny_bind (wpAny_load hf ?_)
  rw [hfd]
  exact wpAny_pure h
theorem wpAny_pyNext_ci_item {it q f x : Addr} {st : Str} {t : Tok} {fo : Obj} {fd : FuncData} {Q : Option Value → Shared → Prop}
    (hit : s.heap.get? it = some (ciObj q st t)) (hq : s.heap.get? q = some (methodObj (.ref f) (.ref x))) (hf : s.heap.get? f = some fo) (hfd : fo.data = .func fd)
    (hc : codeAny (model prog w) A.in1 (.call (.ref f) ⟨[.ref x], []⟩) (fun r s' => match r with | .ok (.ret v) => ∃ c tk, v = .str c tk ∧ c ≠ st ∧ s'.heap.get? it = some (ciObj q st t) ∧ Q (some v) s' | _ => False) s) :
    wpAny (model prog w) A (pyNext (.ref it)) Q E s := by
  have hT : s.TypeIs (.ref it) "callable_iterator" := ⟨_, hit, rfl⟩
  unfold pyNext
  refine wpAny_bind (wpAny_attempt (wpAny_callSpecial?_slot (name := Str.ofString "__next__") hT ci_slot_next
    (wpAny_call_entry ci_slot_next hT ci_entry_next ?_ (ci_args_next _))))
  unfold Builtin.«callable_iterator.__next__»
  refine wpAny_bind (m := slotArgs "__next__" 0 _) (wpAny_of_eq (a := (Value.ref it, [])) (by first | rfl | kernel_rfl!) ?_)
  dsimp only
  refine wpAny_bind (wpAny_field hit rfl (x := .bool false) rfl ?_)
  rw [if_neg (by decide)]
  refine wpAny_bind (wpAny_field hit rfl (x := .ref q) rfl ?_)
  unfold callOutOfASlot
  refine wpAny_bind (wpAny_attempt (wpAny_bind (wpAny_borrows hq hf hfd ?_)))
  rw [if_pos rfl]
  refine wpAny_callBorrowed (method_call hq (codeAny_mono hc ?_))
  intro r s' hr
  cases r with
  | error e => exact hr.elim
  | ok fl =>
    cases fl with
    | ret v =>
      obtain ⟨c, tk, rfl, hne, hit', hQ⟩ := hr
      dsimp only
      refine wpAny_bind (wpAny_field hit' rfl (x := .bool false) rfl ?_)
      rw [if_neg (by decide)]
      refine wpAny_bind (wpAny_field hit' rfl (x := .str st t) rfl ?_)
      refine wpAny_bind (wpAny_holding (eqBool_str ?_))
      have hb : (st == c) = false := by
        rw [beq_eq_false_iff_ne]
        exact fun e => hne e.symm
      rw [hb, if_pos (by decide)]
      exact wpAny_pure ⟨_, rfl, wpAny_pure hQ⟩
    | next => exact hr.elim
    | brk => exact hr.elim
    | cont => exact hr.elim
theorem wpAny_pyNext_ci_end {it q f x : Addr} {st : Str} {t : Tok} {fo : Obj} {fd : FuncData} {Q : Option Value → Shared → Prop} (hh : A.handled = none)
    (hit : s.heap.get? it = some (ciObj q st t)) (hq : s.heap.get? q = some (methodObj (.ref f) (.ref x))) (hf : s.heap.get? f = some fo) (hfd : fo.data = .func fd)
    (hc : codeAny (model prog w) A.in1 (.call (.ref f) ⟨[.ref x], []⟩) (fun r s' => match r with
      | .ok (.ret v) => ∃ tk, v = .str st tk ∧ s'.heap.get? it = some (ciObj q st t) ∧ s'.heap.get? q = some (methodObj (.ref f) (.ref x)) ∧ s'.heap.get? f = some fo ∧ (∀ h', Heap.ExtBut it s'.heap h' → Q none { s' with heap := h' })
      | _ => False) s) :
    wpAny (model prog w) A (pyNext (.ref it)) Q E s := by
  have hT : s.TypeIs (.ref it) "callable_iterator" := ⟨_, hit, rfl⟩
  unfold pyNext
  refine wpAny_bind (wpAny_attempt (wpAny_callSpecial?_slot (name := Str.ofString "__next__") hT ci_slot_next
    (wpAny_call_entry ci_slot_next hT ci_entry_next ?_ (ci_args_next _))))
  unfold Builtin.«callable_iterator.__next__»
  refine wpAny_bind (m := slotArgs "__next__" 0 _) (wpAny_of_eq (a := (Value.ref it, [])) (by first | rfl | kernel_rfl!) ?_)
  dsimp only
  refine wpAny_bind (wpAny_field hit rfl (x := .bool false) rfl ?_)
  rw [if_neg (by decide)]
  refine wpAny_bind (wpAny_field hit rfl (x := .ref q) rfl ?_)
  unfold callOutOfASlot
  refine wpAny_bind (wpAny_attempt (wpAny_bind (wpAny_borrows hq hf hfd ?_)))
  rw [if_pos rfl]
  refine wpAny_callBorrowed (method_call hq (codeAny_mono hc ?_))
  intro r s' hr
  cases r with
  | error e => exact hr.elim
  | ok fl =>
    cases fl with
    | ret v =>
      obtain ⟨tk, rfl, hit', hq', hf', hQ⟩ := hr
      dsimp only
      refine wpAny_bind (wpAny_field hit' rfl (x := .bool false) rfl ?_)
      rw [if_neg (by decide)]
      refine wpAny_bind (wpAny_field hit' rfl (x := .str st t) rfl ?_)
      refine wpAny_bind (wpAny_holding (eqBool_str ?_))
      have hb : (st == st) = true := by rw [beq_iff_eq]
      rw [hb, if_neg (by decide)]
      refine wpAny_bind (wpAny_rule ?_)
      refine wpAny_bind (m := (field (.ref it) 0 >>= fun o => slotLetsGo "callable_iterator.__next__" o (fun | .builtin "callable_iterator.__next__" x => x.pos.head? == some (.ref it) | _ => false) >>= fun _ => setField (.ref it) 0 .none >>= fun _ => setField (.ref it) 1 .none >>= fun _ => setField (.ref it) 2 (.bool true))) ?_
      refine wpAny_bind (wpAny_field hit' rfl (x := .ref q) rfl ?_)
      unfold slotLetsGo
      refine wpAny_bind ?_
      dsimp only
      refine wpAny_bind (wpAny_borrows hq' hf' hfd ?_)
      rw [if_pos rfl]
      refine wpAny_pure ?_
      refine wpAny_bind (wpAny_setField hit' rfl (by simp) ?_)
      refine wpAny_bind (wpAny_setField (Heap.get?_update_self _ hit' (by rfl)) rfl (by simp) ?_)
      refine wpAny_setField (Heap.get?_update_self _ (Heap.get?_update_self _ hit' (by rfl)) (by rfl)) rfl (by simp) ?_
      show wpAny _ _ (newExc (.type "StopIteration") [] >>= _) _ _ _
      refine wpAny_bind ?_
      simp only [newExc, newTuple]
      refine wpAny_bind (wpAny_newObj_type ?_ (by size_fits))
      refine wpAny_bind (m := firstArgMember _ _) (wpAny_of_eq (a := Value.none) (by first | rfl | (simp only [firstArgMember]; rfl)) ?_)
      refine wpAny_newObj_type ?_ (by size_fits)
      simp only [raiseNew]
      refine wpAny_bind (wpAny_handled ?_)
      rw [show A.in1.handled = none from hh]
      refine wpAny_bind (wpAny_pure (wpAny_throw ?_))
      refine wpAny_bind (wpAny_isInstance (T := "StopIteration") (b := true) ⟨_, Heap.get?_push_size _ rfl, rfl⟩ isSubtype_stop ?_)
      exact wpAny_pure (hQ _ (((((Heap.SameBut.update ..).extBut.trans (Heap.SameBut.update ..).extBut).trans (Heap.SameBut.update ..).extBut).push _).push _))
    | next => exact hr.elim
    | brk => exact hr.elim
    | cont => exact hr.elim
end

end
section

theorem rc_use {prog : Program} {w : World} {text : Str} {P : LexP} {dp un : Nat} {gd : Option (List Code)} {cn : Str} {cs : Scope} {a : Addr} {ccd : Value} {cl : List (Str × Addr)} {outer : List Env} {A₀ : Around} {base h₀ : Heap} {L : Addr} {m : Str → Option Value} {s : Shared} {Rk : Result → Shared → Prop}
    {pp : Program} {loose : List Str} {mean : ExcName → Option Value} {mg mb : Str → Option Value} {news r : List (Addr × Obj)} {ln p : Int} {tkl tkp : Tok} {pb : Array Value} {ne : Nat}
    (O : LexOrd P) (R : ReadOk prog w text P.f P.c P.pl P.cp P.ct P.fo P.oc P.ocp P.oct)
    (B : Below A₀ base outer h₀) (F : Fr h₀ L s.heap m) (X : (Mine.hd.heap_39 w.params).In h₀) (N : News h₀ L s.heap news) (T : Top pp loose mean mg mb h₀) (hk : cs.kind = .function)
    (u : Pulls (LexLed w P ln tkl p tkp pb ne) news r) (ho : OwnOff r [P.l, P.d, P.pl])
    (hd : dp + 5 < recursionLimit) (hu : un + 30 < cLine)
    (h : ∀ tkl' tkp' tk h' tks, Fr h₀ L h' m → News h₀ L h' (LexLed w P (if (chAt text p == Str.ofString "\n") = true then ln + 1 else ln) tkl' (p + 1) tkp' pb ne ++ r) → Rk (.ok (.ret (.str (chAt text p) tk))) { s with heap := h', toks := tks }) :
    codeAny (model prog w) (ktrTop dp un gd cn cs L a ccd cl outer) (.call (.ref 62) ⟨[.ref P.x], []⟩) Rk s := by
  refine c_read_char prog w text P r ln p tkl tkp pb ne O R ho dp un gd cn cs a ccd cl outer A₀ base h₀ L m s Rk pp loose mean mg mb B F X (News.perm u.mem N) T hk hd hu ?_
  rintro v news' h' tk' ⟨tkl', tkp', tk, rfl, rfl⟩ F' N'
  exact h tkl' tkp' tk h' tk' F' N'

theorem iter2_K {prog : Program} {w : World} {A : Around} {E : Value → Shared → Prop} {s : Shared} {h₀ : Heap} {L : Addr} {m : Str → Option Value} {news : List (Addr × Obj)} {q f x : Addr} {st : Str} {t : Tok} {Q : Value → Shared → Prop}
    (F : Fr h₀ L s.heap m) (N : News h₀ L s.heap news) (hq : (q, methodObj (.ref f) (.ref x)) ∈ news)
    (h : ∀ (it : Addr) h', Fr h₀ L h' m → News h₀ L h' ((it, ciObj q st t) :: news) → (∀ p ∈ news, p.1 < it) → Q (.ref it) { s with heap := h' }) :
    wpAny (model prog w) A (call (.builtin "iter") [.ref q, .str st t]) Q E s :=
  wpAny_iter2 (N.get hq) (h _ _ (F.push _) (News.push F N _ rfl) fun p hp => Heap.lt_size (N p hp).1)
local macro_rules | `(tactic| walk_at "call builtin:iter") => `(tactic| (k_here; (with_reducible show wpAny _ _ (call (Value.builtin "iter") [Value.ref _, Value.str _ _]) _ _ _); k_dflt (refine' iter2_K ?F ?N ?q ?_; (case F => k_asm); (case N => k_asm); (case q => k_mem); k_whole); intro it' h' F' N' l1; (try k_lt l1)))

theorem f62 (w : World) : ∃ oc od fd sl, (Mine.hd.heap_39 w.params).lookup 62 = some ⟨oc, od, .func fd, sl⟩ := ⟨_, _, _, _, by k_is⟩
noncomputable abbrev CiLed (w : World) (P : LexP) (it q : Addr) (t : Tok) (ln : Int) (tkl : Tok) (p : Int) (tkp : Tok) (pb : Array Value) (ne : Nat) (r : List (Addr × Obj)) : List (Addr × Obj) :=
  (it, ciObj q (Str.ofString "") t) :: (q, methodObj (.ref 62) (.ref P.x)) :: (LexLed w P ln tkl p tkp pb ne ++ r)
section
variable {prog : Program} {w : World} {text : Str} {P : LexP} {dp un : Nat} {gd : Option (List Code)} {cn : Str} {cs : Scope} {a : Addr} {ccd : Value} {cl : List (Str × Addr)} {outer : List Env} {A₀ : Around} {base h₀ : Heap} {L : Addr} {m : Str → Option Value} {s : Shared} {Q : Option Value → Shared → Prop} {E : Value → Shared → Prop}
    {pp : Program} {loose : List Str} {mean : ExcName → Option Value} {mg mb : Str → Option Value} {r : List (Addr × Obj)} {ln : Int} {p : Nat} {tkl tkp t : Tok} {pb : Array Value} {ne : Nat} {it q : Addr} {c : Nat} {rt : List Nat}
theorem ci_step (O : LexOrd P) (R : ReadOk prog w text P.f P.c P.pl P.cp P.ct P.fo P.oc P.ocp P.oct)
    (B : Below A₀ base outer h₀) (F : Fr h₀ L s.heap m) (X : (Mine.hd.heap_39 w.params).In h₀) (N : News h₀ L s.heap (CiLed w P it q t ln tkl p tkp pb ne r)) (T : Top pp loose mean mg mb h₀) (hk : cs.kind = .function)
    (h1 : it ≠ P.l) (h2 : it ≠ P.d) (h3 : it ≠ P.pl) (h4 : q ≠ P.l) (h5 : q ≠ P.d) (h6 : q ≠ P.pl) (ho : OwnOff r [P.l, P.d, P.pl])
    (hd : dp + 6 < recursionLimit) (hu : un + 32 < cLine) (hc : text.cps.toList.drop p = c :: rt)
    (h : ∀ tkl' tkp' tk h' tks, Fr h₀ L h' m → News h₀ L h' (CiLed w P it q t (if c = 10 then ln + 1 else ln) tkl' (p + 1 : Nat) tkp' pb ne r) → Q (some (.str ⟨#[c]⟩ tk)) { s with heap := h', toks := tks }) :
    wpAny (model prog w) (ktrTop dp un gd cn cs L a ccd cl outer) (pyNext (.ref it)) Q E s := by
  obtain ⟨oc, od, fd, sl, hf⟩ := f62 w
  refine wpAny_pyNext_ci_item (N.get (.head _)) (N.get (.tail _ (.head _))) (F.keep _ _ (X _ _ hf)) rfl ?_
  refine rc_use (news := CiLed w P it q t ln tkl p tkp pb ne r) (r := (it, ciObj q (Str.ofString "") t) :: (q, methodObj (.ref 62) (.ref P.x)) :: r) (ln := ln) (tkl := tkl) (p := p) (tkp := tkp) (pb := pb) (ne := ne) O R B F X N T hk ?_ ?_ (rm1 hd rfl) (rm2 hu rfl) ?_
  · k_mem
  · intro y hy b hb
    rcases List.mem_cons.mp hy with rfl | hy
    · simp only [List.mem_cons, List.not_mem_nil, or_false] at hb
      rcases hb with rfl | rfl | rfl <;> assumption
    · rcases List.mem_cons.mp hy with rfl | hy
      · simp only [List.mem_cons, List.not_mem_nil, or_false] at hb
        rcases hb with rfl | rfl | rfl <;> assumption
      · exact ho y hy b hb
  · intro tkl' tkp' tk h' tks F' N'
    rw [chAt_cons hc, nl_is, one_eq] at N'
    simp only [decide_eq_true_eq] at N'
    rw [chAt_cons hc]
    have hN : News h₀ L h' (CiLed w P it q t (if c = 10 then ln + 1 else ln) tkl' (p + 1 : Nat) tkp' pb ne r) := by
      refine News.perm ?_ N'
      intro y hy
      rcases List.mem_cons.mp hy with rfl | hy
      · exact List.mem_append_right _ (.head _)
      rcases List.mem_cons.mp hy with rfl | hy
      · exact List.mem_append_right _ (.tail _ (.head _))
      rcases List.mem_append.mp hy with hy | hy
      · exact List.mem_append_left _ hy
      · exact List.mem_append_right _ (.tail _ (.tail _ hy))
    refine ⟨⟨#[c]⟩, tk, rfl, ?_, hN.get (.head _), h tkl' tkp' tk h' tks F' hN⟩
    rw [no_is]
    intro e
    cases e
theorem ci_end (O : LexOrd P) (R : ReadOk prog w text P.f P.c P.pl P.cp P.ct P.fo P.oc P.ocp P.oct)
    (B : Below A₀ base outer h₀) (F : Fr h₀ L s.heap m) (X : (Mine.hd.heap_39 w.params).In h₀) (N : News h₀ L s.heap (CiLed w P it q t ln tkl p tkp pb ne r)) (T : Top pp loose mean mg mb h₀) (hk : cs.kind = .function)
    (h1 : it ≠ P.l) (h2 : it ≠ P.d) (h3 : it ≠ P.pl) (h4 : q ≠ P.l) (h5 : q ≠ P.d) (h6 : q ≠ P.pl) (ho : OwnOff r [P.l, P.d, P.pl])
    (hne : ∀ tkl' tkp', ∀ y ∈ LexLed w P ln tkl' (p + 1 : Nat) tkp' pb ne ++ r, y.1 ≠ it)
    (hd : dp + 6 < recursionLimit) (hu : un + 32 < cLine) (hc : text.cps.toList.drop p = [])
    (h : ∀ tkl' tkp' h' tks, Fr h₀ L h' m → News h₀ L h' (LexLed w P ln tkl' (p + 1 : Nat) tkp' pb ne ++ r) → Q none { s with heap := h', toks := tks }) :
    wpAny (model prog w) (ktrTop dp un gd cn cs L a ccd cl outer) (pyNext (.ref it)) Q E s := by
  obtain ⟨oc, od, fd, sl, hf⟩ := f62 w
  refine wpAny_pyNext_ci_end rfl (N.get (.head _)) (N.get (.tail _ (.head _))) (F.keep _ _ (X _ _ hf)) rfl ?_
  refine rc_use (news := CiLed w P it q t ln tkl p tkp pb ne r) (r := (it, ciObj q (Str.ofString "") t) :: (q, methodObj (.ref 62) (.ref P.x)) :: r) (ln := ln) (tkl := tkl) (p := p) (tkp := tkp) (pb := pb) (ne := ne) O R B F X N T hk ?_ ?_ (rm1 hd rfl) (rm2 hu rfl) ?_
  · k_mem
  · intro y hy b hb
    rcases List.mem_cons.mp hy with rfl | hy
    · simp only [List.mem_cons, List.not_mem_nil, or_false] at hb
      rcases hb with rfl | rfl | rfl <;> assumption
    · rcases List.mem_cons.mp hy with rfl | hy
      · simp only [List.mem_cons, List.not_mem_nil, or_false] at hb
        rcases hb with rfl | rfl | rfl <;> assumption
      · exact ho y hy b hb
  · intro tkl' tkp' tk h' tks F' N'
    rw [chAt_nil hc, nl_is, if_neg (by decide)] at N'
    rw [chAt_nil hc, ← no_is]
    have n1 := N' _ (List.mem_append_right _ (.head _))
    have n2 := N' _ (List.mem_append_right _ (.tail _ (.head _)))
    refine ⟨tk, rfl, n1.1, n2.1, F'.keep _ _ (X _ _ hf), fun h3 he => ?_⟩
    refine h tkl' tkp' h3 tks ⟨F'.ns.extBut he (Ne.symm n1.2.1), fun b o e => he b o ?_ (F'.keep b o e), F'.above⟩ ?_
    · rintro rfl
      rw [n1.2.2] at e
      cases e
    · intro y hy
      have hy2 : y ∈ LexLed w P ln tkl' ((p : Int) + 1) tkp' pb ne ++ (it, ciObj q (Str.ofString "") t) :: (q, methodObj (.ref 62) (.ref P.x)) :: r := by
        rcases List.mem_append.mp hy with hy | hy
        · exact List.mem_append_left _ hy
        · exact List.mem_append_right _ (.tail _ (.tail _ hy))
      have n3 := N' y hy2
      exact ⟨he _ _ (hne tkl' tkp' y hy) n3.1, n3.2⟩
end

inductive L1Inv (w : World) (P : LexP) (text : Str) (X : List Nat) (pT : Nat) (lnT : Int) (ne : Nat) (rest : List (Addr × Obj)) (g : Heap) (L it q : Addr) (t tkt : Tok) (s : Shared) (n : Nat) (s' : Shared) : Prop
  | mk (ws : List Nat) (p : Nat) (ln : Int) (tkl tkp : Tok) (h : Heap) (tk : Nat) (m : Str → Option Value) : (s' = { s with heap := h, toks := tk }) → (ws.length = n) → ((∀ c ∈ ws, c ∈ wsl)) → (text.cps.toList.drop p = ws ++ X) → (p + ws.length = pT) → (ln + nls ws = lnT) → (Fr g L h m) → (News g L h (CiLed w P it q t ln tkl p tkp #[] ne rest)) → (m (Str.ofString "self") = some (.ref P.x)) → (m (Str.ofString "token") = some (.str (Str.ofString "") tkt)) → (m (Str.ofString "fiter") = some (.ref it)) → L1Inv w P text X pT lnT ne rest g L it q t tkt s n s'
theorem l1_init {w : World} {P : LexP} {text : Str} {X : List Nat} {ne : Nat} {rest : List (Addr × Obj)} {g h : Heap} {L it q : Addr} {t tkt : Tok} {s : Shared} {ws : List Nat} {p : Nat} {ln : Int} {tkl tkp : Tok} {tk : Nat} {m : Str → Option Value}
    (hws : ∀ c ∈ ws, c ∈ wsl) (hX : text.cps.toList.drop p = ws ++ X) (F : Fr g L h m) (N : News g L h (CiLed w P it q t ln tkl p tkp #[] ne rest)) (h1 : m (Str.ofString "self") = some (.ref P.x)) (h2 : m (Str.ofString "token") = some (.str (Str.ofString "") tkt)) (h3 : m (Str.ofString "fiter") = some (.ref it)) :
    L1Inv w P text X (p + ws.length) (ln + nls ws) ne rest g L it q t tkt s ws.length { s with heap := h, toks := tk } :=
  ⟨ws, p, ln, tkl, tkp, h, tk, m, rfl, rfl, hws, hX, rfl, rfl, F, N, h1, h2, h3⟩
inductive L2Inv (w : World) (P : LexP) (text : Str) (remf : List Nat → List Nat) (wd tail : List Nat) (pT : Nat) (lnT : Int) (ne : Nat) (rest : List (Addr × Obj)) (g : Heap) (L it q : Addr) (t : Tok) (s : Shared) (n : Nat) (s' : Shared) : Prop
  | mk (w2 : List Nat) (tt : Str) (p : Nat) (ln : Int) (tkl tkp tkt : Tok) (h : Heap) (tk : Nat) (m : Str → Option Value) : (s' = { s with heap := h, toks := tk }) → (w2.length = n) → (tt.cps.toList ++ w2 = wd) → (text.cps.toList.drop p = remf w2 ++ tail) → (p + (remf w2).length = pT) → (ln + nls (remf w2) = lnT) → (Fr g L h m) → (News g L h (CiLed w P it q t ln tkl p tkp #[] ne rest)) → (m (Str.ofString "self") = some (.ref P.x)) → (m (Str.ofString "token") = some (.str tt tkt)) → (m (Str.ofString "fiter") = some (.ref it)) → L2Inv w P text remf wd tail pT lnT ne rest g L it q t s n s'
theorem l2_init {w : World} {P : LexP} {text : Str} {remf : List Nat → List Nat} {wd tail : List Nat} {pT : Nat} {lnT : Int} {ne : Nat} {rest : List (Addr × Obj)} {g h : Heap} {L it q : Addr} {t tkt : Tok} {s : Shared} {w2 : List Nat} {tt : Str} {p : Nat} {ln : Int} {tkl tkp : Tok} {tk : Nat} {m : Str → Option Value}
    (F : Fr g L h m) (N : News g L h (CiLed w P it q t ln tkl p tkp #[] ne rest)) (hw : tt.cps.toList ++ w2 = wd) (hX : text.cps.toList.drop p = remf w2 ++ tail) (hp : p + (remf w2).length = pT) (hl : ln + nls (remf w2) = lnT)
    (h1 : m (Str.ofString "self") = some (.ref P.x)) (h2 : m (Str.ofString "token") = some (.str tt tkt)) (h3 : m (Str.ofString "fiter") = some (.ref it)) :
    L2Inv w P text remf wd tail pT lnT ne rest g L it q t s w2.length { s with heap := h, toks := tk } :=
  ⟨w2, tt, p, ln, tkl, tkp, tkt, h, tk, m, rfl, rfl, hw, hX, hp, hl, F, N, h1, h2, h3⟩
theorem l2_again {w : World} {P : LexP} {text : Str} {remf : List Nat → List Nat} {wd tail : List Nat} {pT : Nat} {lnT : Int} {ne : Nat} {rest : List (Addr × Obj)} {g h : Heap} {L it q : Addr} {t tkt : Tok} {s : Shared} {w2 : List Nat} {tt : Str} {p : Nat} {ln : Int} {tkl tkp : Tok} {tk n : Nat} {m : Str → Option Value} (hn : w2.length < n)
    (F : Fr g L h m) (N : News g L h (CiLed w P it q t ln tkl p tkp #[] ne rest)) (hw : tt.cps.toList ++ w2 = wd) (hX : text.cps.toList.drop p = remf w2 ++ tail) (hp : p + (remf w2).length = pT) (hl : ln + nls (remf w2) = lnT)
    (h1 : m (Str.ofString "self") = some (.ref P.x)) (h2 : m (Str.ofString "token") = some (.str tt tkt)) (h3 : m (Str.ofString "fiter") = some (.ref it)) :
    Again (L2Inv w P text remf wd tail pT lnT ne rest g L it q t s) n { s with heap := h, toks := tk } := ⟨w2.length, hn, l2_init F N hw hX hp hl h1 h2 h3⟩
theorem padd {p n : Nat} : p + 1 + n = p + (n + 1) := by omega
theorem padd2 {p n : Nat} : p + 1 + 1 + n = p + (n + 1 + 1) := by omega
theorem ifadd {c : Nat} {ln z : Int} : (if c = 10 then ln + 1 else ln) + z = ln + ((if c = 10 then 1 else 0) + z) := by split <;> omega
theorem nls92 {c : Nat} {ln : Int} {X : List Nat} : (if c = 10 then ln + 1 else ln) + nls X = ln + nls ([92, c] ++ X) := by
  show _ = ln + nls (92 :: c :: X)
  rw [nls_cons, nls_cons, if_neg (show ¬(92 : Nat) = 10 by decide), Int.zero_add, ifadd]
theorem nls1 {c : Nat} {ln : Int} {X : List Nat} : (if c = 10 then ln + 1 else ln) + nls X = ln + nls ([c] ++ X) := by
  show _ = ln + nls (c :: X)
  rw [nls_cons, ifadd]
theorem nls_sep {c : Nat} {ln : Int} : (if c = 10 then ln + 1 else ln) = ln + nls [c] := by
  rw [nls_cons, nls_nil, ← ifadd, Int.add_zero]
theorem tt_le {tt : Str} {w2 wd : List Nat} (h : tt.cps.toList ++ w2 = wd) (k : wd.length ≤ 1000) : tt.length ≤ 1000 := by
  rw [← h, List.length_append, Array.length_toList] at k
  exact Nat.le_trans (Nat.le_add_right _ _) k
theorem no_92 : ((92 : Nat) = 10) = False := by simp
theorem no_34 : ((34 : Nat) = 10) = False := by simp
set_option maxHeartbeats 4000000 in
theorem c_get_token (prog : Program) (w : World) (text : Str) (P : LexP) (rest : List (Addr × Obj)) (ln : Int) (p : Nat) (tkl tkp : Tok) (ne : Nat) (O : LexOrd P)
    (R : ReadOk prog w text P.f P.c P.pl P.cp P.ct P.fo P.oc P.ocp P.oct) (h1 : OwnOff rest [P.l, P.d, P.pl]) (ht : text.length ≤ 100000)
    (ws wd tail X us : List Nat) (e : Nat) (hwd : wd.length ≤ 1000) (hws : ∀ c ∈ ws, c ∈ wsl) (hX : text.cps.toList.drop p = ws ++ X)
    (H : (X = wrt wd true ++ tail ∧ us = wrt wd true ∧ e = 0)
      ∨ (∃ sep ∈ wsl, wd ≠ [] ∧ X = wrt wd false ++ sep :: tail ∧ us = wrt wd false ++ [sep] ∧ e = 0)
      ∨ (wd = [] ∧ X = [] ∧ us = [] ∧ e = 1)) :
    Calls prog w (.ref 69) [.ref P.x] [] 10 50 (LexLed w P ln tkl p tkp #[] ne ++ rest) (fun v n' => ∃ (tkl' tkp' tk : Tok),
      v = .str ⟨wd.toArray⟩ tk ∧ n' = LexLed w P (ln + nls ws + nls us) tkl' (p + ws.length + us.length + e : Nat) tkp' #[] ne ++ rest) := by
  intro dp un gd cn cs a ccd cl outer A₀ base h₀ L m s Rk pp loose mean mg mb B F X0 N T hk hd hu hret
  obtain ⟨h1', h2', h3', h4', h5', h6', h7', h8', h9', h10'⟩ := id O
  simp only [List.cons_append, List.nil_append] at N
  k_dflt k_enter
  (k_steps; repeat' ((with_reducible show Hold _); (first | ((with_reducible show Hold (codeAny _ _ (Code.call (Value.ref 62) _) _ _)); k_dflt (refine Hold.of ?_; refine rc_use (by assumption) (by assumption) (by k_asm) (by k_asm) (by k_asm) (by k_asm) (by k_asm) (by first | exact rfl | assumption) (by k_mem) (by k_all) (by ktr_room) (by ktr_units) ?_; intro t9u t8u t7u h'u tk'u F'u N'u; simp only [List.cons_append, List.nil_append] at N'u; (try dsimp only)))); k_steps))
  refine wpAny_For ?_
  (k_steps; repeat' ((with_reducible show Hold _); (first | ((with_reducible show Hold (codeAny _ _ (Code.call (Value.ref 62) _) _ _)); k_dflt (refine Hold.of ?_; refine rc_use (by assumption) (by assumption) (by k_asm) (by k_asm) (by k_asm) (by k_asm) (by k_asm) (by first | exact rfl | assumption) (by k_mem) (by k_all) (by ktr_room) (by ktr_units) ?_; intro t9u t8u t7u h'u tk'u F'u N'u; simp only [List.cons_append, List.nil_append] at N'u; (try dsimp only)))); k_steps))
  refine wpAny_pyIter_ci (News.get (by k_asm) (by k_mem)) ?_
  rename Fr _ _ _ _ => F0
  rename News _ _ _ _ => N0
  rename Below _ _ _ _ => B0
  rename Frag.In _ _ => X0
  rename Top _ _ _ _ _ _ => T0
  refine forLoop_of (L1Inv w P text X _ _ ne rest _ _ _ _ _ _ s) ?turn ws.length (l1_init hws hX F0 N0 rfl rfl rfl)
  case turn =>
    rintro n s' ⟨ws', p', ln', tkl', tkp', h, tk, m', rfl, rfl, hws', hX', hp', hln', F1, N1, hself, htok, hfit⟩
    cases ws' with
    | cons c ws' =>
      refine ci_step (c := c) (rt := ws' ++ X) O R B0 F1 X0 N1 T0 rfl (by k_ne) (by k_ne) (by k_ne) (by k_ne) (by k_ne) (by k_ne) h1 (rm2 hd rfl) (rm2 hu rfl) hX' ?_
      intro tkl2 tkp2 tk2 h2 tks2 F2 N2
      have hin := in_ws c
      rw [decide_eq_true (hws' c (.head _))] at hin
      dsimp only
      refine wpAny_assign_Name ?_
      simp only [CiLed, List.cons_append, List.nil_append] at N2
      (k_steps; repeat' ((with_reducible show Hold _); (first | ((with_reducible show Hold (codeAny _ _ (Code.call (Value.ref 62) _) _ _)); k_dflt (refine Hold.of ?_; refine rc_use (by assumption) (by assumption) (by k_asm) (by k_asm) (by k_asm) (by k_asm) (by k_asm) (by first | exact rfl | assumption) (by k_mem) (by k_all) (by ktr_room) (by ktr_units) ?_; intro t9u t8u t7u h'u tk'u F'u N'u; simp only [List.cons_append, List.nil_append] at N'u; (try dsimp only)))); k_steps))
      rename Fr _ _ _ _ => F3
      rename News _ _ _ _ => N3
      rw [nls_cons] at hln'
      exact ⟨ws'.length, Nat.lt_succ_self _, ws', p' + 1, _, _, _, _, _, _, rfl, rfl, fun d hd => hws' d (.tail _ hd), drop_one hX', padd.trans hp', ifadd.trans hln', F3, N3, hself, htok, hfit⟩
    | nil =>
      rw [List.nil_append] at hX'
      simp only [List.length_nil, Nat.add_zero] at hp'
      rw [nls_nil, Int.add_zero] at hln'
      rcases H with ⟨rfl, rfl, rfl⟩ | ⟨sep, hsep, hne, rfl, rfl, rfl⟩ | ⟨rfl, rfl, rfl, rfl⟩
      · have hX2 : text.cps.toList.drop p' = 34 :: (wd.flatMap esc ++ [34] ++ tail) := hX'
        refine ci_step O R B0 F1 X0 N1 T0 rfl (by k_ne) (by k_ne) (by k_ne) (by k_ne) (by k_ne) (by k_ne) h1 (rm2 hd rfl) (rm2 hu rfl) hX2 ?_
        intro tkl2 tkp2 tk2 h2 tks2 F2 N2
        dsimp only
        refine wpAny_assign_Name ?_
        simp only [CiLed, List.cons_append, List.nil_append] at N2
        have hin := not_in_ws (c := 34) (by decide)
        have hdq : ((⟨#[34]⟩ : Str) == Str.ofString "\"") = true := by rw [dq_is, one_eq]; decide
        (k_steps; repeat' ((with_reducible show Hold _); (first | ((with_reducible show Hold (codeAny _ _ (Code.call (Value.ref 62) _) _ _)); k_dflt (refine Hold.of ?_; refine rc_use (by assumption) (by assumption) (by k_asm) (by k_asm) (by k_asm) (by k_asm) (by k_asm) (by first | exact rfl | assumption) (by k_mem) (by k_all) (by ktr_room) (by ktr_units) ?_; intro t9u t8u t7u h'u tk'u F'u N'u; simp only [List.cons_append, List.nil_append] at N'u; (try dsimp only)))); k_steps))
        rotate_left
        · exact Bool.noConfusion (hin.symm.trans (by assumption))
        refine wpAny_For ?_
        (k_steps; repeat' ((with_reducible show Hold _); (first | ((with_reducible show Hold (codeAny _ _ (Code.call (Value.ref 62) _) _ _)); k_dflt (refine Hold.of ?_; refine rc_use (by assumption) (by assumption) (by k_asm) (by k_asm) (by k_asm) (by k_asm) (by k_asm) (by first | exact rfl | assumption) (by k_mem) (by k_all) (by ktr_room) (by ktr_units) ?_; intro t9u t8u t7u h'u tk'u F'u N'u; simp only [List.cons_append, List.nil_append] at N'u; (try dsimp only)))); k_steps))
        refine wpAny_pyIter_ci (News.get (by k_asm) (by k_mem)) ?_
        rename Fr _ _ _ _ => F3
        rename News _ _ _ _ => N3
        refine forLoop_of (L2Inv w P text (fun w2 => w2.flatMap esc ++ [34]) wd tail (p' + (34 :: (wd.flatMap esc ++ [34])).length) (ln' + nls (34 :: (wd.flatMap esc ++ [34]))) ne rest _ _ _ _ _ s) ?turn2 wd.length (l2_init (tt := Str.ofString "") F3 N3 (by rw [no_is]; rfl) (drop_one hX2) padd (by rw [nls_cons]; simp) hself htok hfit)
        case turn2 =>
          rintro n2 s2 ⟨w2, tt, p2, ln2, tkl3, tkp3, tkt3, h3, tk3, m3, rfl, rfl, htt, hX3, hp3, hln3, F4, N4, hself4, htok4, hfit4⟩
          have httl := tt_le htt hwd
          cases w2 with
          | nil =>
            refine ci_step (c := 34) (rt := tail) O R B0 F4 X0 N4 T0 rfl (by k_ne) (by k_ne) (by k_ne) (by k_ne) (by k_ne) (by k_ne) h1 (rm2 hd rfl) (rm2 hu rfl) hX3 ?_
            intro tkl5 tkp5 tk5 h5 tks5 F5 N5
            dsimp only
            refine wpAny_assign_Name ?_
            simp only [CiLed, List.cons_append, List.nil_append] at N5
            (k_steps; repeat' ((with_reducible show Hold _); (first | ((with_reducible show Hold (codeAny _ _ (Code.call (Value.ref 62) _) _ _)); k_dflt (refine Hold.of ?_; refine rc_use (by assumption) (by assumption) (by k_asm) (by k_asm) (by k_asm) (by k_asm) (by k_asm) (by first | exact rfl | assumption) (by k_mem) (by k_all) (by ktr_room) (by ktr_units) ?_; intro t9u t8u t7u h'u tk'u F'u N'u; simp only [List.cons_append, List.nil_append] at N'u; (try dsimp only)))); k_steps))
            rename Fr _ _ _ _ => F6
            rename News _ _ _ _ => N6
            have e1 : tt = ⟨wd.toArray⟩ := by
              rw [List.append_nil] at htt
              rw [← htt]
            subst e1
            refine hret _ _ _ _ ⟨tkl5, tkp5, tkt3, rfl, rfl⟩ F6 ?_
            refine News.perm ?_ N6
            have e2 : (if 34 = 10 then ln2 + 1 else ln2) = ln + nls ws + nls (wrt wd true) := by
              have q0 : ln2 + 0 = ln' + nls (wrt wd true) := hln3
              rw [if_neg (by decide), ← hln', ← q0, Int.add_zero]
            have e3 : ((p2 + 1 : Nat) : Int) = (p + ws.length + (wrt wd true).length + 0 : Nat) := by
              have q0 : p2 + 1 = p' + (wrt wd true).length := hp3
              rw [q0, hp']
              rfl
            rw [← e2, ← e3]
            simp only [List.cons_append, List.nil_append]
            k_allIn
          | cons c w3 =>
            have hfl : List.flatMap esc (c :: w3) ++ [34] = esc c ++ (w3.flatMap esc ++ [34]) := by simp
            rw [hfl] at hX3 hp3 hln3
            by_cases hc : c = 34 ∨ c = 92
            · have hesc : esc c = [92, c] := if_pos hc
              rw [hesc] at hX3 hp3 hln3
              have hX3 : text.cps.toList.drop p2 = 92 :: c :: (w3.flatMap esc ++ [34] ++ tail) := by rw [hX3]; simp
              refine ci_step (c := 92) (rt := c :: (w3.flatMap esc ++ [34] ++ tail)) O R B0 F4 X0 N4 T0 rfl (by k_ne) (by k_ne) (by k_ne) (by k_ne) (by k_ne) (by k_ne) h1 (rm2 hd rfl) (rm2 hu rfl) hX3 ?_
              intro tkl5 tkp5 tk5 h5 tks5 F5 N5
              dsimp only
              refine wpAny_assign_Name ?_
              simp only [CiLed, List.cons_append, List.nil_append] at N5
              have hch := chAt_cons (drop_one hX3)
              have hchl : (chAt text (p2 + 1 : Nat)).length ≤ 1 := by rw [hch]; exact Nat.le_refl _
              (k_steps; repeat' ((with_reducible show Hold _); (first | ((with_reducible show Hold (codeAny _ _ (Code.call (Value.ref 62) _) _ _)); k_dflt (refine Hold.of ?_; refine rc_use (by assumption) (by assumption) (by k_asm) (by k_asm) (by k_asm) (by k_asm) (by k_asm) (by first | exact rfl | assumption) (by k_mem) (by k_all) (by ktr_room) (by ktr_units) ?_; intro t9u t8u t7u h'u tk'u F'u N'u; simp only [List.cons_append, List.nil_append] at N'u; (try dsimp only)))); k_steps))
              rename Fr _ _ _ _ => F6
              rename News _ _ _ _ => N6
              rw [hch] at F6
              simp only [hch, nl_is, one_eq, decide_eq_true_eq, no_92, if_false] at N6
              refine l2_again (w2 := w3) (tt := tt ++ ⟨#[c]⟩) (p := p2 + 1 + 1) (ln := if c = 10 then ln2 + 1 else ln2) ?_ F6 (News.perm (by simp only [CiLed, List.cons_append, List.nil_append]; k_allIn) N6) ?_ ?_ ?_ ?_ hself4 rfl hfit4
              · exact Nat.lt_succ_self _
              · rw [← htt]; show (tt.cps ++ #[c]).toList ++ w3 = _; simp
              · exact drop_one (drop_one hX3)
              · exact padd2.trans hp3
              · exact nls92.trans hln3
            · have hesc : esc c = [c] := if_neg hc
              rw [hesc] at hX3 hp3 hln3
              have hX3 : text.cps.toList.drop p2 = c :: (w3.flatMap esc ++ [34] ++ tail) := by rw [hX3]; simp
              refine ci_step (c := c) (rt := w3.flatMap esc ++ [34] ++ tail) O R B0 F4 X0 N4 T0 rfl (by k_ne) (by k_ne) (by k_ne) (by k_ne) (by k_ne) (by k_ne) h1 (rm2 hd rfl) (rm2 hu rfl) hX3 ?_
              intro tkl5 tkp5 tk5 h5 tks5 F5 N5
              dsimp only
              refine wpAny_assign_Name ?_
              simp only [CiLed, List.cons_append, List.nil_append] at N5
              have hq1 : ((⟨#[c]⟩ : Str) == Str.ofString "\"") = false := by rw [dq_is, one_eq, decide_eq_false_iff_not]; exact fun e => hc (.inl e)
              have hq2 : ((⟨#[c]⟩ : Str) == Str.ofString "\\") = false := by rw [bs_is, one_eq, decide_eq_false_iff_not]; exact fun e => hc (.inr e)
              have hcl : (⟨#[c]⟩ : Str).length ≤ 1 := Nat.le_refl _
              (k_steps; repeat' ((with_reducible show Hold _); (first | ((with_reducible show Hold (codeAny _ _ (Code.call (Value.ref 62) _) _ _)); k_dflt (refine Hold.of ?_; refine rc_use (by assumption) (by assumption) (by k_asm) (by k_asm) (by k_asm) (by k_asm) (by k_asm) (by first | exact rfl | assumption) (by k_mem) (by k_all) (by ktr_room) (by ktr_units) ?_; intro t9u t8u t7u h'u tk'u F'u N'u; simp only [List.cons_append, List.nil_append] at N'u; (try dsimp only)))); k_steps))
              rename Fr _ _ _ _ => F6
              rename News _ _ _ _ => N6
              refine l2_again (w2 := w3) (tt := tt ++ ⟨#[c]⟩) (p := p2 + 1) (ln := if c = 10 then ln2 + 1 else ln2) ?_ F6 (News.perm (by simp only [CiLed, List.cons_append, List.nil_append]; k_allIn) N6) ?_ ?_ ?_ ?_ hself4 rfl hfit4
              · exact Nat.lt_succ_self _
              · rw [← htt]; show (tt.cps ++ #[c]).toList ++ w3 = _; simp
              · exact drop_one hX3
              · exact padd.trans hp3
              · exact nls1.trans hln3
      · cases wd with
        | nil => exact absurd rfl hne
        | cons c0 w0 =>
          have hX2 : text.cps.toList.drop p' = 92 :: c0 :: (wrt w0 false ++ [sep] ++ tail) := by rw [hX']; simp [wrt]
          refine ci_step O R B0 F1 X0 N1 T0 rfl (by k_ne) (by k_ne) (by k_ne) (by k_ne) (by k_ne) (by k_ne) h1 (rm2 hd rfl) (rm2 hu rfl) hX2 ?_
          intro tkl2 tkp2 tk2 h2 tks2 F2 N2
          dsimp only
          refine wpAny_assign_Name ?_
          simp only [CiLed, List.cons_append, List.nil_append] at N2
          have hin := not_in_ws (c := 92) (by decide)
          have hdq : ((⟨#[92]⟩ : Str) == Str.ofString "\"") = false := by rw [dq_is, one_eq]; decide
          have hbs : ((⟨#[92]⟩ : Str) == Str.ofString "\\") = true := by rw [bs_is, one_eq]; decide
          have hch := chAt_cons (drop_one hX2)
          have hchl : (chAt text (p' + 1 : Nat)).length ≤ 1 := by rw [hch]; exact Nat.le_refl _
          (k_steps; repeat' ((with_reducible show Hold _); (first | ((with_reducible show Hold (codeAny _ _ (Code.call (Value.ref 62) _) _ _)); k_dflt (refine Hold.of ?_; refine rc_use (by assumption) (by assumption) (by k_asm) (by k_asm) (by k_asm) (by k_asm) (by k_asm) (by first | exact rfl | assumption) (by k_mem) (by k_all) (by ktr_room) (by ktr_units) ?_; intro t9u t8u t7u h'u tk'u F'u N'u; simp only [List.cons_append, List.nil_append] at N'u; (try dsimp only)))); k_steps))
          rotate_left
          · exact Bool.noConfusion (hin.symm.trans (by assumption))
          refine wpAny_For ?_
          (k_steps; repeat' ((with_reducible show Hold _); (first | ((with_reducible show Hold (codeAny _ _ (Code.call (Value.ref 62) _) _ _)); k_dflt (refine Hold.of ?_; refine rc_use (by assumption) (by assumption) (by k_asm) (by k_asm) (by k_asm) (by k_asm) (by k_asm) (by first | exact rfl | assumption) (by k_mem) (by k_all) (by ktr_room) (by ktr_units) ?_; intro t9u t8u t7u h'u tk'u F'u N'u; simp only [List.cons_append, List.nil_append] at N'u; (try dsimp only)))); k_steps))
          refine wpAny_pyIter_ci (News.get (by k_asm) (by k_mem)) ?_
          rename Fr _ _ _ _ => F3
          rename News _ _ _ _ => N3
          rw [hch] at F3
          simp only [hch, nl_is, one_eq, decide_eq_true_eq, no_92, if_false] at N3
          have hrem : wrt (c0 :: w0) false = 92 :: c0 :: wrt w0 false := by simp [wrt]
          refine forLoop_of (L2Inv w P text (fun w2 => wrt w2 false ++ [sep]) (c0 :: w0) tail (p' + 2 + (wrt w0 false ++ [sep]).length) (ln' + nls (92 :: c0 :: (wrt w0 false ++ [sep]))) ne rest _ _ _ _ _ s) ?turn3 w0.length (l2_init (tt := Str.ofString "" ++ ⟨#[c0]⟩) (p := p' + 1 + 1) (ln := if c0 = 10 then ln' + 1 else ln') F3 (News.perm (by simp only [CiLed, List.cons_append, List.nil_append]; k_allIn) N3) (by rw [no_is]; rfl) (drop_one (drop_one hX2)) rfl nls92 hself rfl hfit)
          case turn3 =>
            rintro n2 s2 ⟨w2, tt, p2, ln2, tkl3, tkp3, tkt3, h3, tk3, m3, rfl, rfl, htt, hX3, hp3, hln3, F4, N4, hself4, htok4, hfit4⟩
            have httl := tt_le htt hwd
            cases w2 with
            | nil =>
              refine ci_step (c := sep) (rt := tail) O R B0 F4 X0 N4 T0 rfl (by k_ne) (by k_ne) (by k_ne) (by k_ne) (by k_ne) (by k_ne) h1 (rm2 hd rfl) (rm2 hu rfl) hX3 ?_
              intro tkl5 tkp5 tk5 h5 tks5 F5 N5
              have hin := in_ws sep
              rw [decide_eq_true hsep] at hin
              dsimp only
              refine wpAny_assign_Name ?_
              simp only [CiLed, List.cons_append, List.nil_append] at N5
              (k_steps; repeat' ((with_reducible show Hold _); (first | ((with_reducible show Hold (codeAny _ _ (Code.call (Value.ref 62) _) _ _)); k_dflt (refine Hold.of ?_; refine rc_use (by assumption) (by assumption) (by k_asm) (by k_asm) (by k_asm) (by k_asm) (by k_asm) (by first | exact rfl | assumption) (by k_mem) (by k_all) (by ktr_room) (by ktr_units) ?_; intro t9u t8u t7u h'u tk'u F'u N'u; simp only [List.cons_append, List.nil_append] at N'u; (try dsimp only)))); k_steps))
              rename Fr _ _ _ _ => F6
              rename News _ _ _ _ => N6
              have e1 : tt = ⟨(c0 :: w0).toArray⟩ := by
                rw [List.append_nil] at htt
                rw [← htt]
              subst e1
              refine hret _ _ _ _ ⟨tkl5, tkp5, tkt3, rfl, rfl⟩ F6 ?_
              refine News.perm ?_ N6
              have e2 : (if sep = 10 then ln2 + 1 else ln2) = ln + nls ws + nls (wrt (c0 :: w0) false ++ [sep]) := by
                have q0 : ln2 + nls [sep] = ln' + nls (92 :: c0 :: (wrt w0 false ++ [sep])) := hln3
                rw [hrem, ← hln']
                exact nls_sep.trans q0
              have e3 : ((p2 + 1 : Nat) : Int) = (p + ws.length + (wrt (c0 :: w0) false ++ [sep]).length + 0 : Nat) := by
                have q0 : p2 + 1 = p' + 2 + (wrt w0 false ++ [sep]).length := hp3
                rw [hrem, q0, ← hp']
                exact congrArg Nat.cast padd2
              rw [← e2, ← e3]
              simp only [List.cons_append, List.nil_append]
              k_allIn
            | cons c w3 =>
              have hX3 : text.cps.toList.drop p2 = 92 :: c :: (wrt w3 false ++ [sep] ++ tail) := by rw [hX3]; simp [wrt]
              refine ci_step (c := 92) (rt := c :: (wrt w3 false ++ [sep] ++ tail)) O R B0 F4 X0 N4 T0 rfl (by k_ne) (by k_ne) (by k_ne) (by k_ne) (by k_ne) (by k_ne) h1 (rm2 hd rfl) (rm2 hu rfl) hX3 ?_
              intro tkl5 tkp5 tk5 h5 tks5 F5 N5
              dsimp only
              refine wpAny_assign_Name ?_
              simp only [CiLed, List.cons_append, List.nil_append] at N5
              have hin := not_in_ws (c := 92) (by decide)
              have hbs : ((⟨#[92]⟩ : Str) == Str.ofString "\\") = true := by rw [bs_is, one_eq]; decide
              have hch := chAt_cons (drop_one hX3)
              have hchl : (chAt text (p2 + 1 : Nat)).length ≤ 1 := by rw [hch]; exact Nat.le_refl _
              (k_steps; repeat' ((with_reducible show Hold _); (first | ((with_reducible show Hold (codeAny _ _ (Code.call (Value.ref 62) _) _ _)); k_dflt (refine Hold.of ?_; refine rc_use (by assumption) (by assumption) (by k_asm) (by k_asm) (by k_asm) (by k_asm) (by k_asm) (by first | exact rfl | assumption) (by k_mem) (by k_all) (by ktr_room) (by ktr_units) ?_; intro t9u t8u t7u h'u tk'u F'u N'u; simp only [List.cons_append, List.nil_append] at N'u; (try dsimp only)))); k_steps))
              rotate_left
              · exact Bool.noConfusion (hin.symm.trans (by assumption))
              rename Fr _ _ _ _ => F6
              rename News _ _ _ _ => N6
              rw [hch] at F6
              simp only [hch, nl_is, one_eq, decide_eq_true_eq, no_92, if_false] at N6
              have hrem3 : wrt (c :: w3) false = 92 :: c :: wrt w3 false := by simp [wrt]
              refine l2_again (w2 := w3) (tt := tt ++ ⟨#[c]⟩) (p := p2 + 1 + 1) (ln := if c = 10 then ln2 + 1 else ln2) ?_ F6 (News.perm (by simp only [CiLed, List.cons_append, List.nil_append]; k_allIn) N6) ?_ ?_ ?_ ?_ hself4 rfl hfit4
              · exact Nat.lt_succ_self _
              · rw [← htt]; show (tt.cps ++ #[c]).toList ++ w3 = _; simp
              · exact drop_one (drop_one hX3)
              · rw [hrem3] at hp3
                exact padd2.trans hp3
              · rw [hrem3] at hln3
                exact nls92.trans hln3
      · refine ci_end O R B0 F1 X0 N1 T0 rfl (by k_ne) (by k_ne) (by k_ne) (by k_ne) (by k_ne) (by k_ne) h1 ?_ (rm2 hd rfl) (rm2 hu rfl) hX' ?_
        · intro tkl9 tkp9
          simp only [List.cons_append, List.nil_append]
          k_all
        intro tkl2 tkp2 h2 tks2 F2 N2
        dsimp only
        simp only [List.cons_append, List.nil_append] at N2
        (k_steps; repeat' ((with_reducible show Hold _); (first | ((with_reducible show Hold (codeAny _ _ (Code.call (Value.ref 62) _) _ _)); k_dflt (refine Hold.of ?_; refine rc_use (by assumption) (by assumption) (by k_asm) (by k_asm) (by k_asm) (by k_asm) (by k_asm) (by first | exact rfl | assumption) (by k_mem) (by k_all) (by ktr_room) (by ktr_units) ?_; intro t9u t8u t7u h'u tk'u F'u N'u; simp only [List.cons_append, List.nil_append] at N'u; (try dsimp only)))); k_steps))
        rename Fr _ _ _ _ => F6
        rename News _ _ _ _ => N6
        refine hret _ _ _ _ ⟨tkl2, tkp2, _, congrArg (fun z => Value.str z _) no_is, rfl⟩ F6 ?_
        · refine News.perm ?_ N6
          have e2 : ln' = ln + nls ws + nls [] := by rw [nls_nil, Int.add_zero]; exact hln'
          have e3 : ((p' + 1 : Nat) : Int) = (p + ws.length + ([] : List Nat).length + 1 : Nat) := by rw [hp']; rfl
          rw [← e2, ← e3]
          simp only [List.cons_append, List.nil_append]
          k_allIn

end
section
set_option maxHeartbeats 4000000 in
theorem c_push_token (prog : Program) (w : World) (P : LexP) (rest : List (Addr × Obj)) (ln p : Int) (tkl tkp : Tok) (vs : List Value) (ne : Nat) (O : LexOrd P) (tok : Str) (tt : Tok) (hvs : vs.length ≤ 100)
    (h1 : OwnOff rest [P.l, P.d, P.pl]) :
    Calls prog w (.ref 76) [.ref P.x, .str tok tt] [] 10 50 (LexLed w P ln tkl p tkp vs.toArray ne ++ rest) (fun v n' => ∃ ne',
      n' = LexLed w P ln tkl p tkp (vs ++ [Value.str tok tt]).toArray ne' ++ rest) := by
  intro dp un gd cn cs a ccd cl outer A₀ base h₀ L m s Rk pp loose mean mg mb B F X N T hk hd hu hret
  obtain ⟨h1', h2', h3', h4', h5', h6', h7', h8', h9', h10'⟩ := O
  simp only [List.cons_append, List.nil_append] at N
  k_dflt k_enter
  k_steps
  rename Fr _ _ _ _ => F6
  rename News _ _ _ _ => N6
  rw [List.push_toArray] at N6
  exact hret _ _ _ _ ⟨ne + 1, rfl⟩ F6 N6
set_option maxHeartbeats 4000000 in
theorem c_get_pushed (prog : Program) (w : World) (P : LexP) (rest : List (Addr × Obj)) (ln p : Int) (tkl tkp : Tok) (v : Value) (vs : List Value) (ne : Nat) (O : LexOrd P) (hvs : vs.length ≤ 100)
    (h1 : OwnOff rest [P.l, P.d, P.pl]) :
    Calls prog w (.ref 69) [.ref P.x] [] 10 50 (LexLed w P ln tkl p tkp (v :: vs).toArray ne ++ rest) (fun r n' => ∃ ne',
      r = v ∧ n' = LexLed w P ln tkl p tkp vs.toArray ne' ++ rest) := by
  intro dp un gd cn cs a ccd cl outer A₀ base h₀ L m s Rk pp loose mean mg mb B F X N T hk hd hu hret
  obtain ⟨h1', h2', h3', h4', h5', h6', h7', h8', h9', h10'⟩ := O
  simp only [List.cons_append, List.nil_append] at N
  k_dflt k_enter
  k_steps
  have hk0 : seqIndex? 0 (v :: vs).toArray.size = some 0 := by
    unfold seqIndex?
    simp
  k_dflt (refine' kl_popAt (k := 0) (p := []) (q := vs) (y := v) ?zF ?zN rfl hk0 rfl ?zU ?zz ?_; (case zF => k_asm); (case zN => k_asm); (case zU => k_upd); (case zz => rw [sizeLine_eq]; simp; omega))
  intro h9 F9 N9
  k_steps
  rename Fr _ _ _ _ => F6
  rename News _ _ _ _ => N6
  exact hret _ _ _ _ ⟨_, rfl, rfl⟩ F6 N6

end
section
local macro_rules | `(tactic| walk_at "mine-nothing") => `(tactic| skip)
section
variable (prog : Program) (w : World)
noncomputable abbrev IntOp (f : Addr) (args : List Value) (z : Int) : Prop := ∀ rest, Calls prog w (.ref f) args [] 3 20 rest (fun v n' => (∃ t, v = .int z t) ∧ n' = rest)
theorem c_add (a b : Int) (ta tb : Tok) : IntOp prog w 97 [.int a ta, .int b tb] (a + b) := by
  intro rest dp un gd cn cs a ccd cl outer A₀ base h₀ L m s Rk pp loose mean mg mb B F X N T hk hd hu hret
  k_dflt k_enter
  k_steps
  rename Fr _ _ _ _ => F6
  rename News _ _ _ _ => N6
  exact hret _ _ _ _ ⟨⟨_, rfl⟩, rfl⟩ F6 N6
theorem c_sub (a b : Int) (ta tb : Tok) : IntOp prog w 118 [.int a ta, .int b tb] (a - b) := by
  intro rest dp un gd cn cs a ccd cl outer A₀ base h₀ L m s Rk pp loose mean mg mb B F X N T hk hd hu hret
  k_dflt k_enter
  k_steps
  rename Fr _ _ _ _ => F6
  rename News _ _ _ _ => N6
  exact hret _ _ _ _ ⟨⟨_, rfl⟩, rfl⟩ F6 N6
theorem c_floordiv (a b : Int) (ta tb : Tok) (hb : b ≠ 0) (hb0 : 0 ≤ b) (hb1 : b ≤ 200) : IntOp prog w 104 [.int a ta, .int b tb] (Int.fdiv a b) := by
  intro rest dp un gd cn cs a ccd cl outer A₀ base h₀ L m s Rk pp loose mean mg mb B F X N T hk hd hu hret
  k_dflt k_enter
  k_steps
  rename Fr _ _ _ _ => F6
  rename News _ _ _ _ => N6
  exact hret _ _ _ _ ⟨⟨_, rfl⟩, rfl⟩ F6 N6
theorem c_mul (a b : Int) (ta tb : Tok) (ha : 0 ≤ a) (ha2 : a ≤ 200) : IntOp prog w 111 [.int a ta, .int b tb] (a * b) := by
  intro rest dp un gd cn cs a ccd cl outer A₀ base h₀ L m s Rk pp loose mean mg mb B F X N T hk hd hu hret
  k_dflt k_enter
  k_steps
  rename Fr _ _ _ _ => F6
  rename News _ _ _ _ => N6
  exact hret _ _ _ _ ⟨⟨_, rfl⟩, rfl⟩ F6 N6
theorem c_le (a b : Int) (ta tb : Tok) (q : Bool) (hq : decide (a ≤ b) = q) : ∀ rest, Calls prog w (.ref 90) [.int a ta, .int b tb] [] 3 20 rest (fun v n' => v = .bool q ∧ n' = rest) := by
  intro rest dp un gd cn cs a ccd cl outer A₀ base h₀ L m s Rk pp loose mean mg mb B F X N T hk hd hu hret
  subst hq
  k_dflt k_enter
  k_steps
  rename Fr _ _ _ _ => F6
  rename News _ _ _ _ => N6
  exact hret _ _ _ _ ⟨rfl, rfl⟩ F6 N6
end
theorem int_use {prog : Program} {w : World} {dp un : Nat} {gd : Option (List Code)} {cn : Str} {cs : Scope} {a : Addr} {ccd : Value} {cl : List (Str × Addr)} {outer : List Env} {A₀ : Around} {base h₀ : Heap} {L : Addr} {m : Str → Option Value} {s : Shared} {Rk : Result → Shared → Prop}
    {pp : Program} {loose : List Str} {mean : ExcName → Option Value} {mg mb : Str → Option Value} {news : List (Addr × Obj)} {f : Addr} {args : List Value} {z : Int} (C : IntOp prog w f args z)
    (B : Below A₀ base outer h₀) (F : Fr h₀ L s.heap m) (X : (Mine.hd.heap_39 w.params).In h₀) (N : News h₀ L s.heap news) (T : Top pp loose mean mg mb h₀) (hk : cs.kind = .function)
    (hd : dp + 3 < recursionLimit) (hu : un + 20 < cLine)
    (h : ∀ t h' tks, Fr h₀ L h' m → News h₀ L h' news → Rk (.ok (.ret (.int z t))) { s with heap := h', toks := tks }) :
    codeAny (model prog w) (ktrTop dp un gd cn cs L a ccd cl outer) (.call (.ref f) ⟨args, []⟩) Rk s := by
  refine C news dp un gd cn cs a ccd cl outer A₀ base h₀ L m s Rk pp loose mean mg mb B F X N T hk hd hu ?_
  rintro v news' h' tk' ⟨⟨t, rfl⟩, rfl⟩ F' N'
  exact h t h' tk' F' N'
theorem le_use {prog : Program} {w : World} {dp un : Nat} {gd : Option (List Code)} {cn : Str} {cs : Scope} {a : Addr} {ccd : Value} {cl : List (Str × Addr)} {outer : List Env} {A₀ : Around} {base h₀ : Heap} {L : Addr} {m : Str → Option Value} {s : Shared} {Rk : Result → Shared → Prop}
    {pp : Program} {loose : List Str} {mean : ExcName → Option Value} {mg mb : Str → Option Value} {news : List (Addr × Obj)} {x y : Int} {tx ty : Tok} {q : Bool} (hq : decide (x ≤ y) = q)
    (B : Below A₀ base outer h₀) (F : Fr h₀ L s.heap m) (X : (Mine.hd.heap_39 w.params).In h₀) (N : News h₀ L s.heap news) (T : Top pp loose mean mg mb h₀) (hk : cs.kind = .function)
    (hd : dp + 3 < recursionLimit) (hu : un + 20 < cLine)
    (h : ∀ h' tks, Fr h₀ L h' m → News h₀ L h' news → Rk (.ok (.ret (.bool q))) { s with heap := h', toks := tks }) :
    codeAny (model prog w) (ktrTop dp un gd cn cs L a ccd cl outer) (.call (.ref 90) ⟨[.int x tx, .int y ty], []⟩) Rk s := by
  refine c_le prog w x y tx ty q hq news dp un gd cn cs a ccd cl outer A₀ base h₀ L m s Rk pp loose mean mg mb B F X N T hk hd hu ?_
  rintro v news' h' tk' ⟨rfl, rfl⟩ F' N'
  exact h h' tk' F' N'

end
section
noncomputable def shareI (c h top : Int) : Int := (if h < Int.fdiv c 2 then h else Int.fdiv c 2) + (if h + Int.fdiv c 2 - top > 0 then h + Int.fdiv c 2 - top else 0)
structure RowI where
  (a : Addr) (nm : Str) (tn : Tok) (c : Int) (tc : Tok) (ne : Nat)
noncomputable abbrev rowObj (r : RowI) : Obj := { cls := .type "tuple", data := .seq #[.str r.nm r.tn, .int r.c r.tc] r.ne }
noncomputable abbrev rowVals (rs : List RowI) : List Value := rs.map fun r => .ref r.a
theorem item_last_K {prog : Program} {w : World} {A : Around} {E : Value → Shared → Prop} {s : Shared} {h₀ : Heap} {L l : Addr} {news : List (Addr × Obj)} {value slice : PySem.Expr} {vs : List Value} {u : Tok} {n : Nat} {v : Value} {Q : Value → Shared → Prop}
    (N : News h₀ L s.heap news) (hm : (l, W.listOf vs.toArray n) ∈ news) (hx : vs.getLast? = some v) (h : Q v s)
    (hs : subscripted slice false (.ref l) (.int (-1) u) = operate [.ref l, .int (-1) u] (getItem (.ref l) (.int (-1) u)) := by with_unfolding_all rfl) :
    wpAny (model prog w) A (subscriptTail value slice (.ref l) (.int (-1) u)) Q E s := by
  have hne : vs ≠ [] := by rintro rfl; cases hx
  have hpos : 0 < vs.length := List.length_pos_iff.mpr hne
  refine kde_neg (j := vs.length - 1) ⟨_, N.get hm, rfl, _, rfl⟩ (by decide) (by decide) ?_ ?_ h hs
  · unfold seqIndex?
    have e1 : ((-1 : Int) < 0) = True := by simp
    simp only [e1, if_true]
    rw [if_pos (by simp; omega)]
    congr 1
    omega
  · rw [← List.getLast?_eq_getElem?]
    exact hx
local macro_rules | `(tactic| walk_at "subscriptTail") => `(tactic| (k_here; (with_reducible show wpAny _ _ (subscriptTail _ (PySem.Expr.UnaryOp _ _ _) (Value.ref _) (Value.int _ _)) _ _ _); k_dflt (refine' item_last_K ?N ?m ?x ?_; (case N => k_asm); (case m => k_mem); (case x => assumption); k_whole)))
theorem all2_ints {α : Type} {f : α → Int} {rs : List α} {ys : List Value} (h : All2 (fun r y => ∃ t, y = Value.int (f r) t) rs ys) : IntsAre ys (rs.map f) := by
  induction h with
  | nil => exact .nil
  | cons h _ ih =>
    obtain ⟨t, rfl⟩ := h
    exact .cons _ _ ih
section
variable {prog : Program} {w : World} {A : Around} {s : Shared} {h₀ : Heap} {L : Addr} {m : Str → Option Value} {env : Env}
theorem rowRest {elt : Expr} {x x₂ : Str} {scope : Scope} {cl : List (Str × Addr)} {S : List (Addr × Obj) → Prop} {Fin : List Value → List (Addr × Obj) → Prop} {news : List (Addr × Obj)} (rs : List RowI) (g : RowI → Value → Prop)
    (hmem : ∀ r ∈ rs, (r.a, rowObj r) ∈ news)
    (turn : ∀ r ∈ rs, ∀ ys I oI C oC D m₂ h tk (E' : Value → Shared → Prop) (K : Value → List (Addr × Obj) → Prop), LCg.NsObj oC m₂ → m₂ x = some (.str r.nm r.tn) → m₂ x₂ = some (.int r.c r.tc) → Fr h₀ L h m → News h₀ L h ((I, oI) :: (C, oC) :: (D, LCg.lst ys) :: news) → LCg.Off3 I C D news → ((@Ne Nat I C) ∧ (@Ne Nat I D) ∧ (@Ne Nat C D)) → (∀ y, g r y → K y news) →
      wpAny (model prog w) A (eval elt (compEnvC scope cl C env)) (LCg.CompEnd h₀ L m { s with heap := h, toks := tk } I oI C oC D (LCg.lst ys) S K) E' { s with heap := h, toks := tk })
    (fin : ∀ ys, All2 g rs ys → Fin ys news) :
    LCp.CompRestP prog w A h₀ L m env elt x x₂ scope cl s S (fun i v => (rowVals rs).toArray[i]? = some v) Fin (rowVals rs).toArray.size 0 [] news := by
  have key : ∀ k i ys, i + k = rs.length → All2 g (rs.take i) ys → LCp.CompRestP prog w A h₀ L m env elt x x₂ scope cl s S (fun i v => (rowVals rs).toArray[i]? = some v) Fin k i ys news := by
    intro k
    induction k with
    | zero =>
      intro i ys hi hf
      have : rs.take i = rs := List.take_of_length_le (by omega)
      rw [this] at hf
      exact LCp.CompRestP.zero (fin ys hf)
    | succ k ih =>
      intro i ys hi hf
      refine LCp.CompRestP.succ ?_
      intro v hv
      have hlt : i < rs.length := by omega
      have hv2 : v = .ref rs[i].a := by
        have : (rowVals rs).toArray[i]? = some (.ref rs[i].a) := by simp [rowVals, hlt]
        have h2 := hv.symm.trans this
        exact Option.some.inj h2
      subst hv2
      refine ⟨rs[i].a, rowObj rs[i], _, _, _, rfl, hmem _ (List.getElem_mem hlt), rfl, rfl, ?_⟩
      intro I oI C oC D m₂ h tk E' h1 h2 h3 h4 h5 h6 h7
      refine turn rs[i] (List.getElem_mem hlt) ys I oI C oC D m₂ h tk E' _ h1 h2 h3 h4 h5 h6 h7 ?_
      intro y hy
      refine ih (i + 1) (ys ++ [y]) (by omega) ?_
      rw [List.take_add_one, List.getElem?_eq_getElem hlt]
      exact All2.append hf (.cons hy .nil)
  have hs : (rowVals rs).toArray.size = rs.length := by simp [rowVals]
  rw [hs]
  exact key rs.length 0 [] (by omega) .nil
end
local macro_rules | `(tactic| walk_at "SrcLP") => `(tactic| (k_here; k_dflt (refine LCp.SrcLP.ledger (by rfl) (by k_asm) (by k_asm) (by k_mem) ?zsz ?zre)))
set_option maxHeartbeats 1000000 in
theorem c_law_held (prog : Program) (w : World) (rest : List (Addr × Obj)) (rw_ : Addr) (rs : List RowI) (ne : Nat) (top : RowI) (h : Int) (th : Tok) (hrs : ∀ r ∈ rs, (r.a, rowObj r) ∈ rest) (hlen : rs.length ≤ 100) (hlast : rs.getLast? = some top) :
    Calls prog w (.ref 170) [.ref rw_, .int h th] [] 10 50 ((rw_, W.listOf (rowVals rs).toArray ne) :: rest) (fun v n' => ∃ t, v = .int (rs.map fun r => shareI r.c h top.c).sum t ∧ n' = (rw_, W.listOf (rowVals rs).toArray ne) :: rest) := by
  intro dp un gd cn cs a ccd cl outer A₀ base h₀ L m s Rk pp loose mean mg mb B F X N T hk hd hu hret
  have hl : (rowVals rs).getLast? = some (.ref top.a) := by rw [List.getLast?_map, hlast]; rfl
  have htop : (top.a, rowObj top) ∈ rest := hrs top (List.mem_of_getLast? hlast)
  k_dflt k_enter
  k_steps
  · simp [rowVals, sizeLine_eq]; omega
  · refine rowRest rs (fun r y => ∃ t, y = .int (shareI r.c h top.c) t) (fun r hr => .tail _ (.tail _ (.tail _ (hrs r hr)))) ?_ ?_
    · intro r hr ys I oI C oC D m₂ h9 tk E' K hC hx hx2 F9 N9 off9 ne9 hK
      k_steps
      exact LCg.CompEnd.intro (by k_asm) (by k_asm) _ (by k_allIn) off9 (.inr ⟨_, .tail _ (.tail _ (.head _)), rfl, _, rfl⟩) (hK _ ⟨_, rfl⟩)
    · intro ys hys
      have hi := all2_ints hys
      unfold LCg.FinE
      intro D h9 tk9 F9 N9 o9
      k_steps
      rename Fr _ _ _ _ => F6
      rename News _ _ _ _ => N6
      exact hret _ _ _ _ ⟨_, rfl, rfl⟩ F6 fun p hp => N6 p (.tail _ (.tail _ (.tail _ hp)))

end
section
/-- the rows are in the order of their claims -/
noncomputable def Rising (rs : List RowI) : Prop := rs.Pairwise fun a b => a.c ≤ b.c
inductive BisInv (w : World) (rs : List RowI) (x : Int) (tx : Tok) (rest : List (Addr × Obj)) (rw_ : Addr) (ne : Nat) (g : Heap) (L : Addr) (s : Shared) (n : Nat) (s' : Shared) : Prop
  | mk (lo hi : Nat) (tl th : Tok) (h : Heap) (tk : Nat) (m : Str → Option Value) : (s' = { s with heap := h, toks := tk }) → (hi - lo = n) → (lo ≤ hi) → (hi ≤ rs.length) → ((∀ r ∈ rs.take lo, r.c ≤ x)) → ((∀ r ∈ rs.drop hi, x < r.c)) → (Fr g L h m) → (News g L h ((rw_, W.listOf (rowVals rs).toArray ne) :: rest)) → (m (Str.ofString "a") = some (.ref rw_)) → (m (Str.ofString "x") = some (.int x tx)) → (m (Str.ofString "lo") = some (.int lo tl)) → (m (Str.ofString "hi") = some (.int hi th)) → (m (Str.ofString "key") = some (.ref 158)) → BisInv w rs x tx rest rw_ ne g L s n s'
theorem bis_init {w : World} {rs : List RowI} {x : Int} {tx : Tok} {rest : List (Addr × Obj)} {rw_ : Addr} {ne : Nat} {g h : Heap} {L : Addr} {s : Shared} {lo hi tk : Nat} {tl th : Tok} {m : Str → Option Value}
    (F : Fr g L h m) (N : News g L h ((rw_, W.listOf (rowVals rs).toArray ne) :: rest)) (h1 : m (Str.ofString "a") = some (.ref rw_)) (h2 : m (Str.ofString "x") = some (.int x tx)) (h3 : m (Str.ofString "lo") = some (.int lo tl)) (h4 : m (Str.ofString "hi") = some (.int hi th)) (h5 : m (Str.ofString "key") = some (.ref 158))
    (a1 : lo ≤ hi) (a2 : hi ≤ rs.length) (a3 : ∀ r ∈ rs.take lo, r.c ≤ x) (a4 : ∀ r ∈ rs.drop hi, x < r.c) : BisInv w rs x tx rest rw_ ne g L s (hi - lo) { s with heap := h, toks := tk } :=
  ⟨lo, hi, tl, th, h, tk, m, rfl, rfl, a1, a2, a3, a4, F, N, h1, h2, h3, h4, h5⟩
theorem rising_le {rs : List RowI} (h : Rising rs) {i j : Nat} (hi : i < rs.length) (hj : j < rs.length) (hij : i ≤ j) : rs[i].c ≤ rs[j].c := by
  rcases Nat.lt_or_ge i j with h1 | h1
  · exact List.pairwise_iff_getElem.mp h i j hi hj h1
  · have : i = j := Nat.le_antisymm hij h1
    subst this
    exact Int.le_refl _
theorem drop_gt {rs : List RowI} {md : Nat} {x : Int} (hs : Rising rs) (hml : md < rs.length) (h : x < rs[md].c) : ∀ r ∈ rs.drop md, x < r.c := by
  intro r hr
  obtain ⟨i, hi, rfl⟩ := List.mem_iff_getElem.mp hr
  rw [List.getElem_drop]
  have hl : md + i < rs.length := Nat.add_lt_of_lt_sub' (List.length_drop ▸ hi)
  exact Int.lt_of_lt_of_le h (rising_le hs hml hl (Nat.le_add_right _ _))
theorem take_le {rs : List RowI} {md : Nat} {x : Int} (hs : Rising rs) (hml : md < rs.length) (h : ¬ x < rs[md].c) : ∀ r ∈ rs.take (md + 1), r.c ≤ x := by
  intro r hr
  obtain ⟨i, hi, rfl⟩ := List.mem_iff_getElem.mp hr
  rw [List.getElem_take]
  have hl : i < md + 1 := Nat.lt_of_lt_of_le (List.length_take ▸ hi) (Nat.min_le_left _ _)
  exact Int.le_trans (rising_le hs (i := i) (j := md) (Nat.lt_of_lt_of_le hl hml) hml (Nat.le_of_lt_succ hl)) (Int.not_lt.mp h)
set_option maxHeartbeats 2000000 in
theorem c_bisect_right (prog : Program) (w : World) (rest : List (Addr × Obj)) (rw_ : Addr) (rs : List RowI) (ne : Nat) (x : Int) (tx tl : Tok) (hrs : ∀ r ∈ rs, (r.a, rowObj r) ∈ rest) (hlen : rs.length ≤ 100) (hs : Rising rs) :
    Calls prog w (.ref 32) [.ref rw_, .int x tx, .int 0 tl, .none] [(Str.ofString "key", .ref 158)] 10 50 ((rw_, W.listOf (rowVals rs).toArray ne) :: rest)
      (fun v n' => ∃ (t : Tok) (k : Nat), k ≤ rs.length ∧ v = .int k t ∧ (∀ r ∈ rs.take k, r.c ≤ x) ∧ (∀ r ∈ rs.drop k, x < r.c) ∧ n' = (rw_, W.listOf (rowVals rs).toArray ne) :: rest) := by
  intro dp un gd cn cs a ccd cl outer A₀ base h₀ L m s Rk pp loose mean mg mb B F X N T hk hd hu hret
  have hsz : (rowVals rs).toArray.size = rs.length := by simp [rowVals]
  k_dflt k_enter
  k_steps
  rename Fr _ _ _ _ => F0
  rename News _ _ _ _ => N0
  rename Below _ _ _ _ => B0
  rename Frag.In _ _ => X0
  rename Top _ _ _ _ _ _ => T0
  refine whileLoop_of (BisInv w rs x tx rest rw_ ne _ _ s) ?turn (rs.length - 0) (bis_init (lo := 0) (hi := rs.length) F0 N0 rfl rfl rfl rfl rfl (Nat.zero_le _) (Nat.le_refl _) (by simp) (by simp))
  rintro n s' ⟨lo, hi, tl', th', h, tk, m', rfl, rfl, hlo, hhi, hbel, habv, F1, N1, ha, hx, hl, hh, hky⟩
  by_cases hlt : lo < hi
  · have hlti : (lo : Int) < (hi : Int) := Int.ofNat_lt.mpr hlt
    have hmid := mid_is (lo := lo) (hi := hi)
    have hg := mid_ge hlt
    have hh2 := mid_lt hlt
    generalize (lo + hi) / 2 = md at hmid hg hh2
    have hml : md < rs.length := Nat.lt_of_lt_of_le hh2 hhi
    have hm0 := mid0 hmid
    have hm1 : Int.fdiv ((lo : Int) + (hi : Int)) 2 ≤ 100000 := midB hmid (Nat.le_trans (Nat.le_of_lt hml) (fits hlen rfl))
    have hx9 : (rowVals rs)[(Int.fdiv ((lo : Int) + (hi : Int)) 2).toNat]? = some (.ref rs[md].a) := by
      rw [hmid, Int.toNat_natCast]
      simp [rowVals, hml]
    have hm9 : (rs[md].a, rowObj rs[md]) ∈ rest := hrs _ (List.getElem_mem hml)
    k_steps
    · rename Fr _ _ _ _ => F6
      rename News _ _ _ _ => N6
      rw [hmid] at F6
      exact ⟨md - lo, Nat.sub_lt_sub_right hg hh2, bis_init (lo := lo) (hi := md) F6 N6 ha hx hl rfl hky hg (Nat.le_of_lt hml) hbel (drop_gt hs hml (by assumption))⟩
    · rename Fr _ _ _ _ => F6
      rename News _ _ _ _ => N6
      rw [hmid] at F6
      exact ⟨hi - (md + 1), Nat.sub_lt_sub_left hlt (Nat.lt_succ_of_le hg), bis_init (lo := md + 1) (hi := hi) F6 N6 ha hx rfl hh hky hh2 hhi (take_le hs hml (by assumption)) habv⟩
  · have hlti : ¬ (lo : Int) < (hi : Int) := fun e => hlt (Int.ofNat_lt.mp e)
    k_steps
    rename Fr _ _ _ _ => F6
    rename News _ _ _ _ => N6
    have hlh : lo = hi := Nat.le_antisymm hlo (Nat.le_of_not_lt hlt)
    exact hret _ _ _ _ ⟨tl', lo, Nat.le_trans hlo hhi, rfl, hbel, by rw [hlh]; exact habv, rfl⟩ F6 N6
theorem br_use {prog : Program} {w : World} {dp un : Nat} {gd : Option (List Code)} {cn : Str} {cs : Scope} {a : Addr} {ccd : Value} {cl : List (Str × Addr)} {outer : List Env} {A₀ : Around} {base h₀ : Heap} {L : Addr} {m : Str → Option Value} {s : Shared} {Rk : Result → Shared → Prop}
    {pp : Program} {loose : List Str} {mean : ExcName → Option Value} {mg mb : Str → Option Value} {news r : List (Addr × Obj)} {rw_ : Addr} {rs : List RowI} {ne : Nat} {x : Int} {tx tl : Tok}
    (B : Below A₀ base outer h₀) (F : Fr h₀ L s.heap m) (X : (Mine.hd.heap_39 w.params).In h₀) (N : News h₀ L s.heap news) (T : Top pp loose mean mg mb h₀) (hk : cs.kind = .function)
    (u : Pull (rw_, W.listOf (rowVals rs).toArray ne) news r) (hrs : ∀ q ∈ rs, (q.a, rowObj q) ∈ r) (hlen : rs.length ≤ 100) (hs : Rising rs)
    (hd : dp + 10 < recursionLimit) (hu : un + 50 < cLine)
    (h : ∀ (t : Tok) (k : Nat) h' tks, k ≤ rs.length → (∀ q ∈ rs.take k, q.c ≤ x) → (∀ q ∈ rs.drop k, x < q.c) → Fr h₀ L h' m → News h₀ L h' ((rw_, W.listOf (rowVals rs).toArray ne) :: r) → Rk (.ok (.ret (.int k t))) { s with heap := h', toks := tks }) :
    codeAny (model prog w) (ktrTop dp un gd cn cs L a ccd cl outer) (.call (.ref 32) ⟨[.ref rw_, .int x tx, .int 0 tl, .none], [(Str.ofString "key", .ref 158)]⟩) Rk s := by
  refine c_bisect_right prog w r rw_ rs ne x tx tl hrs hlen hs dp un gd cn cs a ccd cl outer A₀ base h₀ L m s Rk pp loose mean mg mb B F X (News.perm u.mem N) T hk hd hu ?_
  rintro v news' h' tk' ⟨t, k, hk, rfl, h1, h2, rfl⟩ F' N'
  exact h t k h' tk' hk h1 h2 F' N'
theorem ins_eq {rs : List RowI} {r0 : RowI} {k : Nat} (hk : k ≤ rs.length) : kl_ins (rowVals rs).toArray.toList (k : Int) (.ref r0.a) = rowVals (rs.take k ++ r0 :: rs.drop k) := by
  unfold kl_ins
  rw [if_neg (by omega), Int.toNat_natCast]
  have e1 : min k ((rowVals rs).toArray.toList).length = k := by simp [rowVals]; omega
  rw [e1]
  simp [rowVals]
theorem ins_fits {k n : Nat} (hk : k ≤ n) (hn : n ≤ 100) : Builtin.List.listFitsIndex (k : Int) = true := by
  unfold Builtin.List.listFitsIndex
  rw [Bool.and_eq_true]
  exact ⟨decide_eq_true (by omega), decide_eq_true (by omega)⟩
set_option maxHeartbeats 2000000 in
theorem c_insort (prog : Program) (w : World) (rest : List (Addr × Obj)) (rw_ : Addr) (rs : List RowI) (ne : Nat) (r0 : RowI) (hrs : ∀ r ∈ rs, (r.a, rowObj r) ∈ rest) (hr0 : (r0.a, rowObj r0) ∈ rest) (hlen : rs.length ≤ 100) (hs : Rising rs) (ho : OwnOff rest [rw_]) :
    Calls prog w (.ref 23) [.ref rw_, .ref r0.a] [(Str.ofString "key", .ref 158)] 15 80 ((rw_, W.listOf (rowVals rs).toArray ne) :: rest)
      (fun v n' => ∃ (l1 l2 : List RowI) (ne' : Nat), rs = l1 ++ l2 ∧ (∀ r ∈ l1, r.c ≤ r0.c) ∧ (∀ r ∈ l2, r0.c < r.c) ∧ n' = (rw_, W.listOf (rowVals (l1 ++ r0 :: l2)).toArray ne') :: rest) := by
  intro dp un gd cn cs a ccd cl outer A₀ base h₀ L m s Rk pp loose mean mg mb B F X N T hk hd hu hret
  k_dflt k_enter
  (k_steps; repeat' ((with_reducible show Hold _); (first | ((with_reducible show Hold (codeAny _ _ (Code.call (Value.ref 32) _) _ _)); k_dflt (refine Hold.of ?_; refine br_use (by k_asm) (by k_asm) (by k_asm) (by k_asm) (by k_asm) (by first | exact rfl | assumption) (by k_mem) (by assumption) (by assumption) (by assumption) (by ktr_room) (by ktr_units) ?_; intro t9u k9u h'u tk'u hk9u hb9u ha9u F'u N'u; (try dsimp only)))); k_steps))
  rename _ ≤ rs.length => hk9
  rename ∀ q ∈ rs.take _, _ => hb9
  rename ∀ q ∈ rs.drop _, _ => ha9
  k_dflt (refine' kl_insert ?zF ?zN (ins_fits hk9 hlen) (ins_eq (r0 := r0) hk9) ?zU ?zz ?_; (case zF => k_asm); (case zN => k_asm); (case zU => k_upd); (case zz => rw [sizeLine_eq]; simp [rowVals]; omega))
  intro h9 F9 N9
  (k_steps; repeat' ((with_reducible show Hold _); (first | ((with_reducible show Hold (codeAny _ _ (Code.call (Value.ref 32) _) _ _)); k_dflt (refine Hold.of ?_; refine br_use (by k_asm) (by k_asm) (by k_asm) (by k_asm) (by k_asm) (by first | exact rfl | assumption) (by k_mem) (by assumption) (by assumption) (by assumption) (by ktr_room) (by ktr_units) ?_; intro t9u k9u h'u tk'u hk9u hb9u ha9u F'u N'u; (try dsimp only)))); k_steps))
  rename Fr _ _ _ _ => F6
  rename News _ _ _ _ => N6
  exact hret _ _ _ _ ⟨_, _, _, (List.take_append_drop _ _).symm, hb9, ha9, rfl⟩ F6 N6

end
section
theorem rangeSize_up {b : Int} (h : 0 ≤ b) : Builtin.Range.rangeSize 0 b 1 = b := by
  unfold Builtin.Range.rangeSize
  rw [if_pos (by decide)]
  split <;> omega
section
variable {prog : Program} {w : World} {A : Around} {E : Value → Shared → Prop} {s : Shared}
theorem call_range_item {r : Addr} {b k : Int} {t u v tk9 : Tok} {Q : Value → Shared → Prop} (hr : IsRange s.heap r 0 b 1 t u v) (h0 : 0 ≤ k) (hk : k < b) (h : ∀ t' tk, Q (.int k t') { s with toks := tk }) :
    wpAny (model prog w) A (call (.builtin "range.__getitem__") [.ref r, .int k tk9]) Q E s := by
  have hT : s.TypeIs (.ref r) "range" := ⟨_, hr, rfl⟩
  refine wpAny_call_entry F.slot_range_getitem hT F.entry_range_getitem ?_ (F.args_range_getitem_2 _ _)
  obtain ⟨hp, g, d, tk, os⟩ := s
  have e1 : Builtin.Range.rangeSize 0 b 1 = b := rangeSize_up (by omega)
  have f1 := PySem.AutoSeq1.idx_int
  wp_walk using wpAny_loadPart' hr
  have n1 : ¬ k < 0 := by omega
  have e2 : (0 : Int) + k * 1 = k := by omega
  rw [e1, if_neg n1, e2]
  rw [if_neg (by simp; omega)]
  wp_walk
  exact ⟨_, rfl, h _ _⟩
theorem getItem_range {r : Addr} {b k : Int} {t u v tk9 : Tok} {Q : Value → Shared → Prop} (hr : IsRange s.heap r 0 b 1 t u v) (h0 : 0 ≤ k) (hk : k < b) (h : ∀ t' tk, Q (.int k t') { s with toks := tk }) :
    wpAny (model prog w) A (getItem (.ref r) (.int k tk9)) Q E s := by
  have hT : s.TypeIs (.ref r) "range" := ⟨_, hr, rfl⟩
  unfold getItem
  try with_reducible refine wpAny_holding ?_
  first | refine wpAny_bind (wpAny_pure ?_) | skip
  refine wpAny_bind (wpAny_sequenceKey hT (by decide) ?_)
  refine wpAny_bind (wpAny_callSpecial?_slot (name := Str.ofString "__getitem__") hT F.slot_range_getitem ?_)
  exact call_range_item hr h0 hk fun t' tk => wpAny_pure (h t' tk)
noncomputable abbrev rangeObj (b : Int) (t u v : Tok) : Obj := { cls := .type "range", dict := none, data := .fields #[.int 0 t, .int b u, .int 1 v], slots := #[] }
theorem item_range {h₀ : Heap} {L r : Addr} {news : List (Addr × Obj)} {value slice : PySem.Expr} {b k : Int} {t u v tk9 : Tok} {Q : Value → Shared → Prop}
    (N : News h₀ L s.heap news) (hm : (r, rangeObj b t u v) ∈ news) (h0 : 0 ≤ k) (hk : k < b) (h : ∀ t' tk, Q (.int k t') { s with toks := tk })
    (hs : subscripted slice false (.ref r) (.int k tk9) = operate [.ref r, .int k tk9] (getItem (.ref r) (.int k tk9)) := by with_unfolding_all rfl) :
    wpAny (model prog w) A (subscriptTail value slice (.ref r) (.int k tk9)) Q E s :=
  tail_any (T := "range") ⟨_, N.get hm, rfl⟩ F.slot_range_getitem.lookup (getItem_range (N.get hm) h0 hk h) hs
theorem len_rangeK {h₀ : Heap} {L r : Addr} {news : List (Addr × Obj)} {b : Int} {t u v : Tok} {Q : Value → Shared → Prop}
    (N : News h₀ L s.heap news) (hm : (r, rangeObj b t u v) ∈ news) (h0 : 0 ≤ b) (hb : b ≤ 1000000) (h : ∀ t' tk, Q (.int b t') { s with toks := tk }) :
    wpAny (model prog w) A (call (.builtin "len") [.ref r]) Q E s := by
  obtain ⟨n, rfl⟩ := Int.eq_ofNat_of_zero_le h0
  exact call_len_range (N.get hm) (rangeSize_up h0) (by omega) (h _ _)
end
inductive BlInv (w : World) (f : Int → Int) (E : Int) (te : Tok) (b : Int) (led : List (Addr × Obj)) (rg lam : Addr) (g : Heap) (L : Addr) (s : Shared) (n : Nat) (s' : Shared) : Prop
  | mk (lo hi : Nat) (tl th : Tok) (h : Heap) (tk : Nat) (m : Str → Option Value) : (s' = { s with heap := h, toks := tk }) → (hi - lo = n) → (lo ≤ hi) → ((hi : Int) ≤ b) → ((∀ j : Nat, j < lo → f j < E)) → ((∀ j : Nat, hi ≤ j → (j : Int) < b → E ≤ f j)) → (Fr g L h m) → (News g L h led) → (m (Str.ofString "a") = some (.ref rg)) → (m (Str.ofString "x") = some (.int E te)) → (m (Str.ofString "lo") = some (.int lo tl)) → (m (Str.ofString "hi") = some (.int hi th)) → (m (Str.ofString "key") = some (.ref lam)) → BlInv w f E te b led rg lam g L s n s'
theorem bl_init {w : World} {f : Int → Int} {E : Int} {te : Tok} {b : Int} {led : List (Addr × Obj)} {rg lam : Addr} {g h : Heap} {L : Addr} {s : Shared} {lo hi tk : Nat} {tl th : Tok} {m : Str → Option Value}
    (F : Fr g L h m) (N : News g L h led) (h1 : m (Str.ofString "a") = some (.ref rg)) (h2 : m (Str.ofString "x") = some (.int E te)) (h3 : m (Str.ofString "lo") = some (.int lo tl)) (h4 : m (Str.ofString "hi") = some (.int hi th)) (h5 : m (Str.ofString "key") = some (.ref lam))
    (a1 : lo ≤ hi) (a2 : (hi : Int) ≤ b) (a3 : ∀ j : Nat, j < lo → f j < E) (a4 : ∀ j : Nat, hi ≤ j → (j : Int) < b → E ≤ f j) : BlInv w f E te b led rg lam g L s (hi - lo) { s with heap := h, toks := tk } :=
  ⟨lo, hi, tl, th, h, tk, m, rfl, rfl, a1, a2, a3, a4, F, N, h1, h2, h3, h4, h5⟩
local macro_rules | `(tactic| walk_at "call builtin:len") => `(tactic| (k_here; (with_reducible show wpAny _ _ (call (Value.builtin "len") [Value.ref _]) _ _ _); k_dflt (refine' len_rangeK ?N ?m ?z ?b ?_; (case N => k_asm); (case m => k_mem); (case z => omega); (case b => omega); k_whole); intro t9 tk9))
local macro_rules | `(tactic| walk_at "subscriptTail") => `(tactic| (k_here; (with_reducible show wpAny _ _ (subscriptTail _ _ (Value.ref _) (Value.int _ _)) _ _ _); k_dflt (refine' item_range ?N ?m ?z ?b ?_; (case N => k_asm); (case m => k_mem); (case z => with_reducible assumption); (case b => with_reducible assumption); k_whole); intro t9 tk9))
theorem key_use {prog : Program} {w : World} {dp un : Nat} {gd : Option (List Code)} {cn : Str} {cs : Scope} {a : Addr} {ccd : Value} {cl : List (Str × Addr)} {outer : List Env} {A₀ : Around} {base h₀ : Heap} {L : Addr} {m : Str → Option Value} {s : Shared} {Rk : Result → Shared → Prop}
    {pp : Program} {loose : List Str} {mean : ExcName → Option Value} {mg mb : Str → Option Value} {led : List (Addr × Obj)} {lam : Addr} {b : Nat} {f : Int → Int} {k : Int} {tk : Tok}
    (hkey : ∀ (k : Int) (tk : Tok), 0 ≤ k → k < b → Calls prog w (.ref lam) [.int k tk] [] 20 200 led (fun r n' => ∃ t', r = .int (f k) t' ∧ n' = led))
    (B : Below A₀ base outer h₀) (F : Fr h₀ L s.heap m) (X : (Mine.hd.heap_39 w.params).In h₀) (N : News h₀ L s.heap led) (T : Top pp loose mean mg mb h₀) (hk : cs.kind = .function)
    (h0 : 0 ≤ k) (hb : k < b) (hd : dp + 20 < recursionLimit) (hu : un + 200 < cLine)
    (h : ∀ (t : Tok) h' tks, Fr h₀ L h' m → News h₀ L h' led → Rk (.ok (.ret (.int (f k) t))) { s with heap := h', toks := tks }) :
    codeAny (model prog w) (ktrTop dp un gd cn cs L a ccd cl outer) (.call (.ref lam) ⟨[.int k tk], []⟩) Rk s := by
  refine hkey k tk h0 hb dp un gd cn cs a ccd cl outer A₀ base h₀ L m s Rk pp loose mean mg mb B F X N T hk hd hu ?_
  rintro v news' h' tk' ⟨t, rfl, rfl⟩ F' N'
  exact h t h' tk' F' N'
local macro_rules | `(tactic| walk_at "FnAt") => `(tactic| (k_dflt (exact FnAt.of (by k_asm) (by k_mem))))
local macro_rules | `(tactic| walk_at "callWith ref") => `(tactic| (k_here; k_dflt (refine' callWith_F ?k1 ?_; (case k1 => exact FnAt.of (by k_asm) (by k_mem)); k_whole)))
local macro_rules | `(tactic| walk_at "call ref") => `(tactic| (k_here; k_dflt (refine wpAny_call ?_; refine' key_use ?H ?B ?F ?X ?N ?T ?K ?z ?b ?d ?u ?_; (case H => assumption); (case B => k_asm); (case F => k_asm); (case X => k_asm); (case N => k_asm); (case T => k_asm); (case K => first | exact rfl | assumption); (case z => assumption); (case b => assumption); (case d => ktr_room); (case u => ktr_units); k_whole; intro t9 h' tk' F' N'; (try dsimp only))))
set_option maxHeartbeats 2000000 in
theorem c_bisect_left (prog : Program) (w : World) (rest : List (Addr × Obj)) (rg lam : Addr) (b : Nat) (t u v : Tok) (E : Int) (te : Tok) (f : Int → Int) (oc : Value) (od : Option Addr) (fd : FuncData) (sl : Array (Option Value))
    (hlam : (lam, (⟨oc, od, .func fd, sl⟩ : Obj)) ∈ rest) (hb : b ≤ 200000)
    (hmono : ∀ i j : Nat, i ≤ j → j < b → f i ≤ f j)
    (hkey : ∀ (k : Int) (tk : Tok), 0 ≤ k → k < b → Calls prog w (.ref lam) [.int k tk] [] 20 200 ((rg, rangeObj b t u v) :: rest) (fun r n' => ∃ t', r = .int (f k) t' ∧ n' = (rg, rangeObj b t u v) :: rest)) :
    Calls prog w (.ref 41) [.ref rg, .int E te] [(Str.ofString "key", .ref lam)] 30 300 ((rg, rangeObj b t u v) :: rest)
      (fun r n' => ∃ (t' : Tok) (k : Nat), k ≤ b ∧ r = .int k t' ∧ (∀ j : Nat, j < k → f j < E) ∧ (∀ j : Nat, k ≤ j → j < b → E ≤ f j) ∧ n' = (rg, rangeObj b t u v) :: rest) := by
  intro dp un gd cn cs a ccd cl outer A₀ base h₀ L m s Rk pp loose mean mg mb B F X N T hk hd hu hret
  k_dflt k_enter
  k_steps
  rename Fr _ _ _ _ => F0
  rename News _ _ _ _ => N0
  rename Below _ _ _ _ => B0
  rename Frag.In _ _ => X0
  rename Top _ _ _ _ _ _ => T0
  refine whileLoop_of (BlInv w f E te b ((rg, rangeObj b t u v) :: rest) rg lam _ _ s) ?turn (b - 0) (bl_init (lo := 0) (hi := b) F0 N0 rfl rfl rfl rfl rfl (Nat.zero_le _) (Int.le_refl _) (fun j hj => absurd hj (Nat.not_lt_zero _)) (fun j h1 h2 => by omega))
  rintro n s' ⟨lo, hi, tl', th', h, tk, m', rfl, rfl, hlo, hhi, hbel, habv, F1, N1, ha, hx, hl, hh, hky⟩
  by_cases hlt : lo < hi
  · have hlti : (lo : Int) < (hi : Int) := Int.ofNat_lt.mpr hlt
    have hmid := mid_is (lo := lo) (hi := hi)
    have hg := mid_ge hlt
    have hh2 := mid_lt hlt
    generalize (lo + hi) / 2 = md at hmid hg hh2
    have hml : md < b := Nat.lt_of_lt_of_le hh2 (Int.ofNat_le.mp hhi)
    have hm0 := mid0 hmid
    have hm1 : Int.fdiv ((lo : Int) + (hi : Int)) 2 < b := midL hmid hml
    k_steps
    · rename Fr _ _ _ _ => F6
      rename News _ _ _ _ => N6
      rw [hmid] at F6
      have hc : f md < E := by rw [← hmid]; assumption
      exact ⟨hi - (md + 1), Nat.sub_lt_sub_left hlt (Nat.lt_succ_of_le hg), bl_init (lo := md + 1) (hi := hi) F6 N6 ha hx rfl hh hky hh2 hhi (fun j hj => Int.lt_of_le_of_lt (hmono j md (Nat.le_of_lt_succ hj) hml) hc) habv⟩
    · rename Fr _ _ _ _ => F6
      rename News _ _ _ _ => N6
      rw [hmid] at F6
      have hc : ¬ f md < E := by rw [← hmid]; assumption
      exact ⟨md - lo, Nat.sub_lt_sub_right hg hh2, bl_init (lo := lo) (hi := md) F6 N6 ha hx hl rfl hky hg (Int.ofNat_le.mpr (Nat.le_of_lt hml)) hbel (fun j h1 h2 => Int.le_trans (Int.not_lt.mp hc) (hmono md j h1 (Int.ofNat_lt.mp h2)))⟩
  · have hlti : ¬ (lo : Int) < (hi : Int) := fun e => hlt (Int.ofNat_lt.mp e)
    k_steps
    rename Fr _ _ _ _ => F6
    rename News _ _ _ _ => N6
    exact hret _ _ _ _ ⟨tl', lo, Int.ofNat_le.mp (Int.le_trans (Int.ofNat_le.mpr hlo) hhi), rfl, hbel, fun j h1 h2 => habv j (Nat.le_trans (Nat.le_of_not_lt hlt) h1) (Int.ofNat_lt.mpr h2), rfl⟩ F6 N6

end
section
section
variable {prog : Program} {w : World} {A : Around} {E : Value → Shared → Prop} {s : Shared} {h₀ : Heap} {L : Addr} {m : Str → Option Value} {env : Env}
noncomputable def SrcS (prog : Program) (w : World) (A : Around) (h₀ : Heap) (L : Addr) (m : Str → Option Value) (env : Env) (elt : Expr) (x : Str) (scope : Scope) (cl : List (Str × Addr)) (Fin : Shared → List Value → List (Addr × Obj) → Prop) (xv : Value) (s₁ : Shared) : Prop :=
  ∃ (tx : Str) (t : Tok) (news : List (Addr × Obj)), xv = .str tx t ∧ tx.cps.all (· < 128) = true ∧ A.handled = none ∧ Fr h₀ L s₁.heap m ∧ News h₀ L s₁.heap news ∧ tx.cps.size ≤ sizeLine ∧
    ∀ s₂ : Shared, (∃ h, s₂ = { s₁ with heap := h }) → LCg.CompRest prog w A h₀ L m env elt x scope cl s₂ (fun _ => True) (SignAt tx) (Fin s₂) tx.cps.size 0 [] news
theorem str_st {I : Addr} {tx : Str} {t : Tok} : ∀ i (h h' : Heap) (o : Obj) (nw : List (Addr × Obj)), h.IsStrIter I "str_ascii_iterator" tx t i → h.get? I = some o → h'.get? I = some o → (∀ b o, h₀.get? b = some o → h'.get? b = some o) → News h₀ L h' nw → True → h'.IsStrIter I "str_ascii_iterator" tx t i := by
  intro i h h' o nw st e e' _ _ _
  obtain ⟨o', ho', r⟩ := st
  rw [e] at ho'
  cases ho'
  exact ⟨o, e', r⟩
theorem ListComp_S {elt iter : Expr} {x : Str} {px : Pos} {scope : Scope} {cl : List (Str × Addr)} {pos : Pos} {Q : Value → Shared → Prop} (F₀ : Fr h₀ L s.heap m)
    (hclos : closureFor scope env = pure cl) (hcell : ∀ y ∈ scope.names, y.2 ≠ .cell) (hkind : scope.kind = .function)
    (hnames : ∀ y ∈ scope.names, y.2 = .local → scope.names.lookup y.1 = some .local) (hx : scope.names.lookup x = some .local)
    (h : wpAny (model prog w) A (eval iter env) (SrcS prog w A h₀ L m env elt x scope cl (fun s₂ => LCg.FinE h₀ L m s₂ Q)) E s)
    (hs : ∀ x, foldedSetIterable iter env x = pure x := by intro _; rfl) :
    wpAny (model prog w) A (eval (.ListComp elt [⟨.Name x px, iter, [], 0⟩] scope pos) env) Q E s := by
  rw [eval_ListComp]
  refine wpAny_comprehension_free (use := none) rfl hs hclos hkind hnames (wpAny_mono h (fun xv s₁ h₁ => ?_) fun _ _ e => e)
  obtain ⟨tx, t, news, rfl, ha, hh, F, N, hsz, R⟩ := h₁
  refine wpAny_pyIter_ascii ha ?_
  refine LCg.block_U (Walks.strAscii hh s₁.heap.objs.size tx t) hsz (fun i h st => let ⟨o, e, _⟩ := st; ⟨o, e⟩) str_st hcell hkind hx ⟨_, Heap.get?_push_size _ rfl, rfl, rfl⟩ (fun b hb => ?_)
    (F.keeps fun _ _ e => Heap.get?_push_of_some _ e) (N.grown fun _ _ e => Heap.get?_push_of_some _ e) (Nat.ne_of_lt F.ns.lt) (next_is_new F) (fun p hp => Nat.ne_of_lt (Heap.lt_size (N p hp).1)) trivial (R _ ⟨_, rfl⟩) ?_
  · rw [List.mem_singleton.mp hb]
    show s₁.heap.objs.size < (s₁.heap.push _).objs.size
    rw [Heap.size_push]; exact Nat.lt_succ_self _
  · intro D C h tk m' ys news' F' N' o1 hn hC₀ hD₀ hCL hDL hCD offC fin
    refine ⟨m', hn, fun h'' hs'' => fin D h'' tk (F'.change hs'' hCL hC₀) (fun p hp => ?_) o1⟩
    refine ⟨hs''.extBut _ _ ?_ (N' p hp).1, (N' p hp).2⟩
    rcases List.mem_cons.mp hp with rfl | hp
    · exact Ne.symm hCD
    · exact offC p hp
theorem signRest {elt : Expr} {x : Str} {scope : Scope} {cl : List (Str × Addr)} {S : List (Addr × Obj) → Prop} {Fin : List Value → List (Addr × Obj) → Prop} {news : List (Addr × Obj)} (tx : Str) (g : Nat → Value → Prop)
    (turn : ∀ c ∈ tx.cps.toList, ∀ u ys I oI C oC D m₂ h tk (E' : Value → Shared → Prop) (K : Value → List (Addr × Obj) → Prop), LCg.NsObj oC m₂ → m₂ x = some (.str ⟨#[c]⟩ u) → Fr h₀ L h m → News h₀ L h ((I, oI) :: (C, oC) :: (D, LCg.lst ys) :: news) → LCg.Off3 I C D news → ((@Ne Nat I C) ∧ (@Ne Nat I D) ∧ (@Ne Nat C D)) → (∀ y, g c y → K y news) →
      wpAny (model prog w) A (eval elt (compEnvC scope cl C env)) (LCg.CompEnd h₀ L m { s with heap := h, toks := tk } I oI C oC D (LCg.lst ys) S K) E' { s with heap := h, toks := tk })
    (fin : ∀ ys, All2 g tx.cps.toList ys → Fin ys news) :
    LCg.CompRest prog w A h₀ L m env elt x scope cl s S (SignAt tx) Fin tx.cps.size 0 [] news := by
  have key : ∀ k i ys, i + k = tx.cps.toList.length → All2 g (tx.cps.toList.take i) ys → LCg.CompRest prog w A h₀ L m env elt x scope cl s S (SignAt tx) Fin k i ys news := by
    intro k
    induction k with
    | zero =>
      intro i ys hi hf
      have : tx.cps.toList.take i = tx.cps.toList := List.take_of_length_le (by omega)
      rw [this] at hf
      exact LCg.CompRest.zero (fin ys hf)
    | succ k ih =>
      intro i ys hi hf
      refine LCg.CompRest.succ ?_
      intro v I oI C oC D m₂ h tk E' hv h1 h2 h4 h5 h6 h7
      have hlt : i < tx.cps.toList.length := by omega
      obtain ⟨c, u, hc, rfl⟩ := hv
      have hc2 : tx.cps.toList[i] = c := by
        have e : tx.cps.toList[i]? = some c := by rw [Array.getElem?_toList]; exact hc
        rw [List.getElem?_eq_getElem hlt] at e
        exact Option.some.inj e
      refine turn c (hc2 ▸ List.getElem_mem hlt) u ys I oI C oC D m₂ h tk E' _ h1 h2 h4 h5 h6 h7 ?_
      intro y hy
      refine ih (i + 1) (ys ++ [y]) (by omega) ?_
      rw [List.take_add_one, List.getElem?_eq_getElem hlt, hc2]
      exact All2.append hf (.cons hy .nil)
  have hs : tx.cps.size = tx.cps.toList.length := by simp
  rw [hs]
  exact key tx.cps.toList.length 0 [] (by omega) .nil
end
theorem all2_strs {α : Type} {f : α → Str} {rs : List α} {ys : List Value} (h : All2 (fun r y => ∃ t, y = Value.str (f r) t) rs ys) : StrsAre ys (rs.map f) := by
  induction h with
  | nil => exact .nil
  | cons h _ ih =>
    obtain ⟨t, rfl⟩ := h
    exact .cons _ _ ih
theorem join_bare : ∀ l : List Str, Txt.join ⟨#[]⟩ l = ⟨(l.flatMap fun x => x.cps.toList).toArray⟩ := by
  intro l
  unfold Txt.join
  rw [StrLaws.glued_eq_join]
  induction l with
  | nil => rfl
  | cons x r ih =>
    cases r with
    | nil =>
      show x = _
      cases x with
      | mk cps => simp
    | cons y r =>
      show x ++ ⟨#[]⟩ ++ Str.join ⟨#[]⟩ (y :: r) = _
      rw [ih]
      cases x with
      | mk cps =>
        show (⟨(cps ++ #[]) ++ _⟩ : Str) = _
        simp
theorem flat_map_str (f : Nat → List Nat) : ∀ l : List Nat, ((l.map fun c => (⟨(f c).toArray⟩ : Str)).flatMap fun x => x.cps.toList) = l.flatMap f := by
  intro l
  induction l with
  | nil => rfl
  | cons c r ih => simp only [List.map_cons, List.flatMap_cons, ih]
theorem sum_len_le (f : Nat → List Nat) (hf : ∀ c, (f c).length ≤ 2) : ∀ l : List Nat, ((l.map fun c => (⟨(f c).toArray⟩ : Str)).map (·.length)).sum ≤ 2 * l.length := by
  intro l
  induction l with
  | nil => exact Nat.le_refl _
  | cons c r ih =>
    simp only [List.map_cons, List.sum_cons, List.length_cons]
    have h1 : (⟨(f c).toArray⟩ : Str).length = (f c).length := by show (f c).toArray.size = _; simp
    have := hf c
    omega
theorem esc_len (c : Nat) : (esc c).length ≤ 2 := by
  unfold esc
  split <;> simp
theorem esc_in (c : Nat) : (!(Builtin.Str.occurrences (Str.ofString "\"\\") ⟨#[c]⟩ 0 (Str.ofString "\"\\").length 1).isEmpty) = decide (c ∈ ([34, 92] : List Nat)) := by
  rw [StrLaws.found_one, show (Str.ofString "\"\\").cps.toList = [34, 92] from by decide +kernel]
theorem esc_one {c : Nat} (h : (Builtin.Str.occurrences (Str.ofString "\"\\") ⟨#[c]⟩ 0 (Str.ofString "\"\\").length 1).isEmpty = true) : (⟨#[c]⟩ : Str) = ⟨(esc c).toArray⟩ := by
  have h2 := esc_in c
  rw [h] at h2
  have h3 : ¬ c ∈ ([34, 92] : List Nat) := by simpa using h2
  have h4 : ¬ (c = 34 ∨ c = 92) := by simpa using h3
  unfold esc
  rw [if_neg h4]
theorem esc_two {c : Nat} (h : (Builtin.Str.occurrences (Str.ofString "\"\\") ⟨#[c]⟩ 0 (Str.ofString "\"\\").length 1).isEmpty = false) : Str.ofString "\\" ++ ⟨#[c]⟩ = ⟨(esc c).toArray⟩ := by
  have h2 := esc_in c
  rw [h] at h2
  have h3 : c ∈ ([34, 92] : List Nat) := by simpa using h2
  have h4 : c = 34 ∨ c = 92 := by simpa using h3
  rw [bs_is]
  unfold esc
  rw [if_pos h4]
  rfl
theorem joined_len (f : Nat → List Nat) (hf : ∀ c, (f c).length ≤ 2) (l : List Nat) (hl : l.length ≤ 100) : (Txt.join (Str.ofString "") (l.map fun c => (⟨(f c).toArray⟩ : Str))).length ≤ 200 := by
  rw [no_is, join_bare, flat_map_str f]
  show (l.flatMap f).toArray.size ≤ 200
  have : ∀ l : List Nat, (l.flatMap f).length ≤ 2 * l.length := by
    intro l
    induction l with
    | nil => exact Nat.le_refl _
    | cons c r ih =>
      have := hf c
      simp only [List.flatMap_cons, List.length_append, List.length_cons]
      omega
  have := this l
  simp only [List.size_toArray]
  omega
theorem join_ok (f : Nat → List Nat) (hf : ∀ c, (f c).length ≤ 2) (l : List Nat) (hl : l.length ≤ 100) : ((l.map fun c => (⟨(f c).toArray⟩ : Str)).map (·.length)).sum + (l.map fun c => (⟨(f c).toArray⟩ : Str)).length * (Str.ofString "").length ≤ 16777216 := by
  have h1 := sum_len_le f hf l
  have h2 : (Str.ofString "").length = 0 := by decide
  rw [h2]
  omega
theorem wrt_bare (tx : Str) : Txt.join ⟨#[]⟩ (tx.cps.toList.map fun c => (⟨([92, c] : List Nat).toArray⟩ : Str)) = ⟨(wrt tx.cps.toList false).toArray⟩ := by
  rw [join_bare, flat_map_str (fun c => [92, c])]
  rfl
theorem wrt_quot (tx : Str) : (⟨#[34]⟩ : Str) ++ Txt.join ⟨#[]⟩ (tx.cps.toList.map fun c => (⟨(esc c).toArray⟩ : Str)) ++ ⟨#[34]⟩ = ⟨(wrt tx.cps.toList true).toArray⟩ := by
  rw [join_bare, flat_map_str esc]
  show (⟨(#[34] ++ (tx.cps.toList.flatMap esc).toArray) ++ #[34]⟩ : Str) = _
  congr 1
  unfold wrt
  simp
local macro_rules | `(tactic| walk_at "eval ListComp") => `(tactic| (k_here; k_dflt (refine ListComp_S (F₀ := by k_asm) (by with_unfolding_all rfl) (by decide) (by rfl) (by decide) (by rfl) ?_)))
set_option maxHeartbeats 2000000 in
theorem c_law_written (prog : Program) (w : World) (rest : List (Addr × Obj)) (tx : Str) (tt : Tok) (q : Bool) (hlen : tx.length ≤ 100) (hasc : tx.cps.all (· < 128) = true) :
    Calls prog w (.ref 144) [.str tx tt, .bool q] [] 10 50 rest (fun v n' => ∃ t, v = .str ⟨(wrt tx.cps.toList q).toArray⟩ t ∧ n' = rest) := by
  intro dp un gd cn cs a ccd cl outer A₀ base h₀ L m s Rk pp loose mean mg mb B F X N T hk hd hu hret
  have h2 : tx.cps.toList.length ≤ 100 := by rw [Array.length_toList]; exact hlen
  have hsl : tx.cps.size ≤ sizeLine := by
    have : tx.cps.size ≤ 100 := hlen
    rw [sizeLine_eq]; omega
  cases q
  · k_dflt k_enter
    k_steps
    refine ⟨tx, tt, rest, rfl, hasc, rfl, by k_asm, by k_asm, hsl, ?_⟩
    rintro s2 ⟨g2, rfl⟩
    refine signRest tx (fun c y => ∃ t, y = .str (Str.ofString "\\" ++ ⟨#[c]⟩) t) ?_ ?_
    · intro c hc u ys I oI C oC D m₂ h9 tk E' K hC hx F9 N9 off9 ne9 hK
      have hcl : (⟨#[c]⟩ : Str).length ≤ 1 := Nat.le_refl _
      k_steps
      exact LCg.CompEnd.intro (by k_asm) (by k_asm) _ (by k_allIn) off9 trivial (hK _ ⟨_, rfl⟩)
    · intro ys hys
      have hi := all2_strs (f := fun c => (⟨([92, c] : List Nat).toArray⟩ : Str)) hys
      unfold LCg.FinE
      intro D h9 tk9 F9 N9 o9
      k_steps
      refine join_list (N9.isList (.head _)) hi ?_ ?_
      · exact join_ok (fun c => [92, c]) (fun _ => Nat.le_refl _) tx.cps.toList h2
      · intro t5 k5
        k_steps
        rename Fr _ _ _ _ => F6
        rename News _ _ _ _ => N6
        exact hret _ _ _ _ ⟨t5, by rw [no_is, wrt_bare], rfl⟩ F6 (N6.perm (by k_allIn))
  · k_dflt k_enter
    k_steps
    refine ⟨tx, tt, rest, rfl, hasc, rfl, by k_asm, by k_asm, hsl, ?_⟩
    rintro s2 ⟨g2, rfl⟩
    refine signRest tx (fun c y => ∃ t, y = .str ⟨(esc c).toArray⟩ t) ?_ ?_
    · intro c hc u ys I oI C oC D m₂ h9 tk E' K hC hx F9 N9 off9 ne9 hK
      have hcl : (⟨#[c]⟩ : Str).length ≤ 1 := Nat.le_refl _
      k_steps
      · rename List.isEmpty _ = true => hin
        exact LCg.CompEnd.intro (by k_asm) (by k_asm) _ (by k_allIn) off9 trivial (hK _ ⟨_, by rw [esc_one hin]⟩)
      · rename List.isEmpty _ = false => hin
        exact LCg.CompEnd.intro (by k_asm) (by k_asm) _ (by k_allIn) off9 trivial (hK _ ⟨_, by rw [esc_two hin]⟩)
    · intro ys hys
      have hi := all2_strs (f := fun c => (⟨(esc c).toArray⟩ : Str)) hys
      unfold LCg.FinE
      intro D h9 tk9 F9 N9 o9
      k_steps
      refine join_list (N9.isList (.head _)) hi ?_ ?_
      · exact join_ok esc esc_len tx.cps.toList h2
      · intro t5 k5
        have hJ := joined_len esc esc_len tx.cps.toList h2
        have hE := wrt_quot tx
        rw [← no_is] at hE
        generalize Txt.join (Str.ofString "") (tx.cps.toList.map fun c => (⟨(esc c).toArray⟩ : Str)) = J at hJ hE ⊢
        k_steps
        rename Fr _ _ _ _ => F6
        rename News _ _ _ _ => N6
        exact hret _ _ _ _ ⟨_, by rw [dq_is, hE], rfl⟩ F6 (N6.perm (by k_allIn))

end
section
/-- the object of enumerate(list) -/
noncomputable abbrev enumObj (it : Addr) (i : Int) (old : Value) : Obj := { cls := .type "enumerate", dict := none, data := .fields #[.none, .bool false, .ref it, rawInt i, .none, old], slots := #[] }
noncomputable abbrev itObj (l : Addr) : Obj := { cls := .type "list_iterator", data := .fields #[.ref l, .int 0 0] }
section
variable {prog : Program} {w : World} {A : Around} {E : Value → Shared → Prop} {s : Shared} {h₀ : Heap} {L : Addr} {m : Str → Option Value} {news : List (Addr × Obj)}
theorem grow_Fr {h h' : Heap} (F : Fr h₀ L h m) (hk : ∀ b o, h.get? b = some o → h'.get? b = some o) : Fr h₀ L h' m := F.keeps fun b o e => hk b o e
theorem enum_call {l : Addr} {vs : Array Value} {n : Nat} {Q : Value → Shared → Prop} (F : Fr h₀ L s.heap m) (N : News h₀ L s.heap news) (hm : (l, W.listOf vs n) ∈ news)
    (h : ∀ (d : Addr) oI h', oI.cls = .type "list_iterator" → oI.data = .fields #[.ref l, .int 0 0] → (∀ p ∈ news, p.1 < d) → Fr h₀ L h' m → News h₀ L h' ((d + 1, enumObj d 0 .none) :: (d, oI) :: news) → Q (.ref (d + 1)) { s with heap := h' }) :
    wpAny (model prog w) A (call (.type "enumerate") [.ref l]) Q E s := by
  have hls : s.heap.IsList l vs := ⟨_, N.get hm, rfl, _, rfl⟩
  refine call_enumerate_list hls fun h' he hit hsz hk => ?_
  obtain ⟨oI, hoI, hc, hd⟩ := hit
  have hLs : L < s.heap.objs.size := F.ns.lt
  have hab : h₀.objs.size ≤ L := F.above
  have hno : ∀ k, h₀.get? (s.heap.objs.size + k) = none := fun k => Heap.get?_none_of_le (Nat.le_trans hab (Nat.le_trans (Nat.le_of_lt hLs) (Nat.le_add_right _ _)))
  refine h _ oI h' hc hd (fun p hp => Heap.lt_size (N p hp).1) (grow_Fr F hk) ?_
  intro p hp
  rcases List.mem_cons.mp hp with rfl | hp
  · exact ⟨he, Nat.ne_of_gt (Nat.lt_succ_of_lt hLs), hno 1⟩
  · rcases List.mem_cons.mp hp with rfl | hp
    · exact ⟨hoI, Nat.ne_of_gt hLs, hno 0⟩
    · exact ⟨hk _ _ (N p hp).1, (N p hp).2⟩
theorem enum_iter {e it : Addr} {i : Int} {old : Value} {Q : Value → Shared → Prop} (N : News h₀ L s.heap news) (hm : (e, enumObj it i old) ∈ news) (h : Q (.ref e) s) : wpAny (model prog w) A (pyIter (.ref e)) Q E s :=
  wpAny_pyIter_enum (N.get hm) h
/-- a new iterator object at the end of the heap -/
theorem fresh_one {o : Obj} (ho : o.isFreed = false) {Q : Value → Shared → Prop} (F : Fr h₀ L s.heap m) (N : News h₀ L s.heap news)
    (h : ∀ (d : Addr) h', h'.get? d = some o → (∀ p ∈ news, p.1 < d) → Fr h₀ L h' m → News h₀ L h' ((d, o) :: news) → Q (.ref d) { s with heap := h' }) :
    Q (.ref s.heap.objs.size) { s with heap := s.heap.push o } := by
  have hLs : L < s.heap.objs.size := F.ns.lt
  have hk : ∀ b o', s.heap.get? b = some o' → (s.heap.push o).get? b = some o' := fun _ _ e => Heap.get?_push_of_some _ e
  refine h _ _ (Heap.get?_push_size _ ho) (fun p hp => Heap.lt_size (N p hp).1) (grow_Fr F hk) ?_
  intro p hp
  rcases List.mem_cons.mp hp with rfl | hp
  · exact ⟨Heap.get?_push_size _ ho, Nat.ne_of_gt hLs, Heap.get?_none_of_le (Nat.le_trans F.above (Nat.le_of_lt hLs))⟩
  · exact ⟨hk _ _ (N p hp).1, (N p hp).2⟩
theorem list_iter_my {l : Addr} {vs : Array Value} {n : Nat} {Q : Value → Shared → Prop} (F : Fr h₀ L s.heap m) (N : News h₀ L s.heap news) (hm : (l, W.listOf vs n) ∈ news)
    (h : ∀ (d : Addr) h', h'.get? d = some (itObj l) → (∀ p ∈ news, p.1 < d) → Fr h₀ L h' m → News h₀ L h' ((d, itObj l) :: news) → Q (.ref d) { s with heap := h' }) :
    wpAny (model prog w) A (pyIter (.ref l)) Q E s :=
  wpAny_pyIter_list ⟨_, N.get hm, rfl, _, rfl⟩ (fresh_one rfl F N h)
theorem str_iter_my {x : Str} {t : Tok} {Q : Value → Shared → Prop} (ha : x.cps.all (· < 128) = true) (F : Fr h₀ L s.heap m) (N : News h₀ L s.heap news)
    (h : ∀ (d : Addr) h', h'.IsStrIter d "str_ascii_iterator" x t 0 → (∀ p ∈ news, p.1 < d) → Fr h₀ L h' m → (∃ o, News h₀ L h' ((d, o) :: news)) → Q (.ref d) { s with heap := h' }) :
    wpAny (model prog w) A (pyIter (.str x t)) Q E s :=
  wpAny_pyIter_ascii ha (fresh_one rfl F N fun d h' e1 e2 F' N' => h d h' ⟨_, e1, rfl, rfl⟩ e2 F' ⟨_, N'⟩)
end
inductive WalkEnd (h₀ : Heap) (L : Addr) (s : Shared) (I : Addr) (oI : Obj) (lo : List (Addr × Obj)) (J : (Str → Option Value) → List (Addr × Obj) → Prop) (s₃ : Shared) : Prop
  | mk (h tk m r) : (s₃ = { s with heap := h, toks := tk }) → (Fr h₀ L h m) → (News h₀ L h ((I, oI) :: r)) → (OwnOff r [I]) → ((∀ p ∈ lo, p ∈ r)) → (J m r) → WalkEnd h₀ L s I oI lo J s₃
theorem forWalk_of {prog : Program} {w : World} {A : Around} {s : Shared} {R : Result → Shared → Prop} {target : Expr} {body orelse : List Stmt} {env : Env} {h₀ : Heap} {L I : Addr} {fp : List Addr} {n : Nat} {P : Nat → Value → Prop} {St : Nat → Heap → Prop}
    (W : Walks prog w A I fp [I] n P St) (lo : List (Addr × Obj)) (J : Nat → (Str → Option Value) → List (Addr × Obj) → Prop)
    (hfp : ∀ b ∈ fp, b = I ∨ ∃ o, (b, o) ∈ lo) (live : ∀ i h, St i h → ∃ o, h.get? I = some o)
    (hgo : ∀ i v (s : Shared) (Q : Unit → Shared → Prop) (E : Value → Shared → Prop), St (i + 1) s.heap → P i v → Q () s → wpAny (model prog w) A (letOwnedTupleGo target (.ref I) v) Q E s)
    {m₀ : Str → Option Value} {r₀ : List (Addr × Obj)} {o₀ : Obj} (F₀ : Fr h₀ L s.heap m₀) (N₀ : News h₀ L s.heap ((I, o₀) :: r₀)) (S₀ : St 0 s.heap) (O₀ : OwnOff r₀ [I]) (l₀ : ∀ p ∈ lo, p ∈ r₀) (J₀ : J 0 m₀ r₀)
    (turn : ∀ i v h tk m r oI, i < n → P i v → J i m r → (∀ p ∈ lo, p ∈ r) → Fr h₀ L h m → News h₀ L h ((I, oI) :: r) → OwnOff r [I] →
      wpAny (model prog w) A (assign target env v) (fun _ s₂ => wpAny (model prog w) A (execs body env) (fun f s₃ => match f with
        | .next | .cont => WalkEnd h₀ L s I oI lo (J (i + 1)) s₃
        | .brk => R (.ok .next) s₃
        | .ret v => R (.ok (.ret v)) s₃) (notedBy (model prog w) A env fun e s' => R (.error e) s') s₂) (notedBy (model prog w) A env fun e s' => R (.error e) s') { s with heap := h, toks := tk })
    (fin : ∀ h tk m r, J n m r → Fr h₀ L h m → News h₀ L h r → wpAny (model prog w) A (execs orelse env) (fun f s₃ => R (.ok f) s₃) (notedBy (model prog w) A env fun e s' => R (.error e) s') { s with heap := h, toks := tk }) :
    codeAny (model prog w) A (.forLoop target (.ref I) body orelse env) R s := by
  refine codeAny_forLoop_any (fun k s' => ∃ i h tk m r oI, s' = { s with heap := h, toks := tk } ∧ i ≤ n ∧ k = n - i ∧ St i h ∧ Fr h₀ L h m ∧ News h₀ L h ((I, oI) :: r) ∧ OwnOff r [I] ∧ (∀ p ∈ lo, p ∈ r) ∧ J i m r) ?_ n
    ⟨0, _, _, m₀, r₀, o₀, rfl, Nat.zero_le _, rfl, S₀, F₀, N₀, O₀, l₀, J₀⟩
  rintro k s' ⟨i, h, tk, m, r, oI, rfl, hi, rfl, S, F, N, O, hl, hJ⟩
  have hIL : I ≠ L := (N _ (.head _)).2.1
  have hI0 : h₀.get? I = none := (N _ (.head _)).2.2
  have keepF : ∀ h', (∀ b o, b ∉ [I] → h.get? b = some o → h'.get? b = some o) → Fr h₀ L h' m := by
    intro h' hk
    refine ⟨F.ns.at fun o e => hk _ o (fun hm => hIL (List.mem_singleton.mp hm).symm) e, fun b o e => hk b o ?_ (F.keep b o e), F.above⟩
    intro hm
    rw [List.mem_singleton.mp hm, hI0] at e
    cases e
  have keepN : ∀ h', (∀ b o, b ∉ [I] → h.get? b = some o → h'.get? b = some o) → News h₀ L h' r := by
    intro h' hk p hp
    have := N p (.tail _ hp)
    refine ⟨hk _ _ (fun hm => O p hp I (.head _) (List.mem_singleton.mp hm)) this.1, this.2⟩
  rcases Nat.lt_or_ge i n with hlt | hge
  · refine W.item i _ _ _ hlt S fun v h' tk' hP S' hk => ?_
    dsimp only at hk ⊢
    refine hgo i v _ _ _ S' hP ?_
    obtain ⟨oI', hoI'⟩ := live _ _ S'
    have N' : News h₀ L h' ((I, oI') :: r) := by
      intro p hp
      rcases List.mem_cons.mp hp with rfl | hp
      · exact ⟨hoI', hIL, hI0⟩
      · exact keepN h' hk p hp
    refine wpAny_mono (turn i v h' tk' m r oI' hlt hP hJ hl (keepF h' hk) N' O) (fun _ s₂ h₂ => wpAny_mono h₂ (fun f s₃ h₃ => ?_) fun _ _ x => x) fun _ _ x => x
    have goal : ∀ s₃, WalkEnd h₀ L s I oI' lo (J (i + 1)) s₃ → ∃ m_1, m_1 < n - i ∧ ∃ i h tk m r oI, s₃ = { s with heap := h, toks := tk } ∧ i ≤ n ∧ m_1 = n - i ∧ St i h ∧ Fr h₀ L h m ∧ News h₀ L h ((I, oI) :: r) ∧ OwnOff r [I] ∧ (∀ p ∈ lo, p ∈ r) ∧ J i m r := by
      rintro s₃ ⟨h3, tk3, m3, r3, rfl, F3, N3, O3, l3, J3⟩
      refine ⟨n - (i + 1), by omega, i + 1, h3, tk3, m3, r3, oI', rfl, hlt, rfl, W.frame _ _ _ S' ?_, F3, N3, O3, l3, J3⟩
      intro b hb o hbo
      rcases hfp b hb with rfl | ⟨o', ho'⟩
      · rw [hoI'] at hbo
        cases hbo
        exact (N3 _ (.head _)).1
      · have e1 := (N' _ (.tail _ (hl _ ho'))).1
        rw [hbo] at e1
        cases e1
        exact (N3 _ (.tail _ (l3 _ ho'))).1
    cases f with
    | next => exact goal _ h₃
    | cont => exact goal _ h₃
    | brk => exact h₃
    | ret v => exact h₃
  · have : i = n := by omega
    subst this
    refine W.done _ _ _ S fun h' tk' hk => ?_
    exact fin h' tk' m r hJ (keepF h' hk) (keepN h' hk)
inductive EnumEnd (h₀ : Heap) (L : Addr) (s : Shared) (d : Addr) (oE oI : Obj) (lo : List (Addr × Obj)) (J : (Str → Option Value) → List (Addr × Obj) → Prop) (s₃ : Shared) : Prop
  | mk (h tk m r) : (s₃ = { s with heap := h, toks := tk }) → (Fr h₀ L h m) → (News h₀ L h ((d + 1, oE) :: (d, oI) :: r)) → (OwnOff r [d, d + 1]) → ((∀ p ∈ lo, p ∈ r)) → (J m r) → EnumEnd h₀ L s d oE oI lo J s₃
theorem forEnum_of {prog : Program} {w : World} {A : Around} {s : Shared} {R : Result → Shared → Prop} {xi xc : Str} {pk pv pt : Pos} {x1 : Nat} {body orelse : List Stmt} {env : Env} {h₀ : Heap} {d : Addr} {vs : Array Value} {n : Nat} {l : Addr}
    (hh : A.handled = none) (J : Nat → (Str → Option Value) → List (Addr × Obj) → Prop)
    (hxi : env.kindOf xi = some .local) (hxc : env.kindOf xc = some .local)
    (hp : (env.scope.kind == .class || (env.scope.kind == .module && env.locals != env.globals)) = false)
    {m₀ : Str → Option Value} {r₀ : List (Addr × Obj)} {o₀ : Obj} (hc₀ : o₀.cls = .type "list_iterator") (hd₀ : o₀.data = .fields #[.ref l, .int 0 0])
    (F₀ : Fr h₀ env.locals s.heap m₀) (N₀ : News h₀ env.locals s.heap ((d + 1, enumObj d 0 .none) :: (d, o₀) :: r₀)) (O₀ : OwnOff r₀ [d, d + 1]) (l₀ : (l, W.listOf vs n) ∈ r₀) (J₀ : J 0 m₀ r₀)
    (turn : ∀ i v t h tk m r oI, i < vs.size → vs[i]? = some v → J i m r → (l, W.listOf vs n) ∈ r → Fr h₀ env.locals h (fun y => if y = xc then some v else if y = xi then some (.int (i : Nat) t) else m y) → News h₀ env.locals h ((d + 1, enumObj d ((i : Int) + 1) v) :: (d, oI) :: r) → OwnOff r [d, d + 1] →
      wpAny (model prog w) A (execs body env) (fun f s₃ => match f with
        | .next | .cont => EnumEnd h₀ env.locals s d (enumObj d ((i : Int) + 1) v) oI [(l, W.listOf vs n)] (J (i + 1)) s₃
        | .brk => R (.ok .next) s₃
        | .ret v => R (.ok (.ret v)) s₃) (notedBy (model prog w) A env fun e s' => R (.error e) s') { s with heap := h, toks := tk })
    (fin : ∀ h tk m r, J vs.size m r → Fr h₀ env.locals h m → News h₀ env.locals h r → wpAny (model prog w) A (execs orelse env) (fun f s₃ => R (.ok f) s₃) (notedBy (model prog w) A env fun e s' => R (.error e) s') { s with heap := h, toks := tk }) :
    codeAny (model prog w) A (.forLoop (.Tuple [.Name xi pk, .Name xc pv] x1 pt) (.ref (d + 1)) body orelse env) R s := by
  refine codeAny_forLoop_any (fun k s' => ∃ i h tk m r oI old, s' = { s with heap := h, toks := tk } ∧ i ≤ vs.size ∧ k = vs.size - i ∧ oI.cls = .type "list_iterator" ∧ oI.data = .fields #[.ref l, .int (i : Nat) 0] ∧ Fr h₀ env.locals h m ∧ News h₀ env.locals h ((d + 1, enumObj d (i : Nat) old) :: (d, oI) :: r) ∧ OwnOff r [d, d + 1] ∧ (l, W.listOf vs n) ∈ r ∧ J i m r) ?_ vs.size
    ⟨0, _, _, m₀, r₀, o₀, .none, rfl, Nat.zero_le _, rfl, hc₀, hd₀, F₀, N₀, O₀, l₀, J₀⟩
  rintro k s' ⟨i, h, tk, m, r, oI, old, rfl, hi, rfl, hc, hd, F, N, O, hl, hJ⟩
  have N1 := N _ (.head _)
  have N2 := N _ (.tail _ (.head _))
  have hne : d + 1 ≠ d := Nat.succ_ne_self _
  have hit : h.IsListIter d l i := ⟨oI, N2.1, hc, hd⟩
  have hL : h.IsList l vs := ⟨_, (N _ (.tail _ (.tail _ hl))).1, rfl, _, rfl⟩
  have hld : l ≠ d := O _ hl d (.head _)
  have hle : l ≠ d + 1 := O _ hl (d + 1) (.tail _ (.head _))
  have hLd : env.locals ≠ d := Ne.symm N2.2.1
  have hLe : env.locals ≠ d + 1 := Ne.symm N1.2.1
  have h0d : ∀ b o, h₀.get? b = some o → b ≠ d := by
    intro b o e hb
    subst hb
    have := N2.2.2
    rw [e] at this
    cases this
  have h0e : ∀ b o, h₀.get? b = some o → b ≠ d + 1 := by
    intro b o e hb
    subst hb
    have := N1.2.2
    rw [e] at this
    cases this
  have keepF : ∀ h', (∀ b o, b ≠ d → b ≠ d + 1 → h.get? b = some o → h'.get? b = some o) → Fr h₀ env.locals h' m := fun h' hk =>
    ⟨F.ns.at fun o e => hk _ o hLd hLe e, fun b o e => hk b o (h0d b o e) (h0e b o e) (F.keep b o e), F.above⟩
  have keepN : ∀ h', (∀ b o, b ≠ d → b ≠ d + 1 → h.get? b = some o → h'.get? b = some o) → News h₀ env.locals h' r := by
    intro h' hk p hp
    have := N p (.tail _ (.tail _ hp))
    exact ⟨hk _ _ (O p hp d (.head _)) (O p hp (d + 1) (.tail _ (.head _))) this.1, this.2⟩
  rcases Nat.lt_or_ge i vs.size with hlt | hge
  · have hv : vs[i]? = some vs[i] := Array.getElem?_eq_getElem hlt
    generalize vs[i] = v at hv
    have heH : d + 1 < h.objs.size := Heap.lt_size N1.1
    have hdH : d < h.objs.size := Heap.lt_size N2.1
    have hLH : env.locals < h.objs.size := F.ns.lt
    refine wpAny_pyNext_enum_item N1.1 hit hL hv hne fun h₁ heo hit₁ ht₁ hz₁ hk₁ => ?_
    refine wpAny_letOwnedTupleGo_enum heo fun h₂ he₂ hs₂ => ?_
    replace hs₂ : Heap.SameBut (d + 1) h₁ h₂ := hs₂
    have ht₂ : h₂.IsTuple h.objs.size #[.int i tk, v] := ⟨_, (hs₂.2 _ (Nat.ne_of_gt heH)).trans ht₁, rfl, _, rfl⟩
    have hz₂ : h₂.objs.size = h.objs.size + 1 := hs₂.1.trans hz₁
    refine wpAny_assign_Tuple hh ht₂ rfl rfl fun h₃ hx₃ => ?_
    replace hx₃ : Heap.ExtBut h₂.objs.size h₂ h₃ := hx₃
    have old₃ : ∀ b o, b < h.objs.size → h₂.get? b = some o → h₃.get? b = some o := fun b o hb x => hx₃ b o (by rw [hz₂]; exact Nat.ne_of_lt (Nat.lt_succ_of_lt hb)) x
    have F₂ : Fr h₀ env.locals h₂ m := keepF h₂ fun b o hb1 hb2 e => hs₂.extBut b o hb2 (hk₁ b o hb2 hb1 e)
    have N₂ : News h₀ env.locals h₂ r := keepN h₂ fun b o hb1 hb2 e => hs₂.extBut b o hb2 (hk₁ b o hb2 hb1 e)
    obtain ⟨oI', hoI', hc', hd'⟩ := hit₁
    have hI₂ : h₂.get? d = some oI' := hs₂.extBut d _ (Ne.symm hne) hoI'
    have N₂' : News h₀ env.locals h₂ ((d + 1, enumObj d ((i : Int) + 1) v) :: (d, oI') :: r) := by
      intro p hp
      rcases List.mem_cons.mp hp with rfl | hp
      · exact ⟨he₂, N1.2⟩
      · rcases List.mem_cons.mp hp with rfl | hp
        · exact ⟨hI₂, N2.2⟩
        · exact N₂ p hp
    have hlt' : ∀ p ∈ ((d + 1, enumObj d ((i : Int) + 1) v) :: (d, oI') :: r), p.1 < h.objs.size := by
      intro p hp
      rcases List.mem_cons.mp hp with rfl | hp
      · exact heH
      · rcases List.mem_cons.mp hp with rfl | hp
        · exact hdH
        · exact Heap.lt_size (N p (.tail _ (.tail _ hp))).1
    have hn₃ : h₃.Ns env.locals m := F₂.ns.at fun o x => old₃ _ o hLH x
    show wpAny _ A (do holding [v] (assign (.Name xi pk) env (.int i tk)); do holding [] (assign (.Name xc pv) env v); pure ()) _ _ _
    refine wpAny_bind (wpAny_holding (wpAny_assign_Name (wpAny_storeName_local hxi hn₃ (fun h₄ hn₄ hs₄ => ?_) hp)))
    replace hs₄ : Heap.SameBut env.locals h₃ h₄ := hs₄
    refine wpAny_bind (wpAny_holding (wpAny_assign_Name (wpAny_storeName_local hxc hn₄ (fun h₅ hn₅ hs₅ => wpAny_pure ?_) hp)))
    replace hs₅ : Heap.SameBut env.locals h₄ h₅ := hs₅
    have up : ∀ b o, b ≠ env.locals → b < h.objs.size → h₂.get? b = some o → h₅.get? b = some o := fun b o hbL hb x => hs₅.extBut b o hbL (hs₄.extBut b o hbL (old₃ b o hb x))
    have F₅ : Fr h₀ env.locals h₅ (fun y => if y = xc then some v else if y = xi then some (.int (i : Nat) tk) else m y) :=
      ⟨hn₅, fun b o e => up b o (Nat.ne_of_lt (Nat.lt_of_lt_of_le (Heap.lt_size e) F.above)) (Nat.lt_trans (Nat.lt_of_lt_of_le (Heap.lt_size e) F.above) hLH) (F₂.keep b o e), F.above⟩
    have N₅ : News h₀ env.locals h₅ ((d + 1, enumObj d ((i : Int) + 1) v) :: (d, oI') :: r) := fun p hp => ⟨up _ _ (N₂' p hp).2.1 (hlt' p hp) (N₂' p hp).1, (N₂' p hp).2⟩
    refine wpAny_mono (turn i v tk h₅ _ m r oI' hlt hv hJ hl F₅ N₅ O) (fun f s₃ h₃ => ?_) fun _ _ x => x
    have goal : ∀ s₃, EnumEnd h₀ env.locals s d (enumObj d ((i : Int) + 1) v) oI' [(l, W.listOf vs n)] (J (i + 1)) s₃ → ∃ m_1, m_1 < vs.size - i ∧ ∃ i h tk m r oI old, s₃ = { s with heap := h, toks := tk } ∧ i ≤ vs.size ∧ m_1 = vs.size - i ∧ oI.cls = .type "list_iterator" ∧ oI.data = .fields #[.ref l, .int (i : Nat) 0] ∧ Fr h₀ env.locals h m ∧ News h₀ env.locals h ((d + 1, enumObj d (i : Nat) old) :: (d, oI) :: r) ∧ OwnOff r [d, d + 1] ∧ (l, W.listOf vs n) ∈ r ∧ J i m r := by
      rintro s₃ ⟨h3, tk3, m3, r3, rfl, F3, N3, O3, l3, J3⟩
      have e1 : ((i + 1 : Nat) : Int) = (i : Int) + 1 := by push_cast; rfl
      refine ⟨vs.size - (i + 1), by omega, i + 1, h3, tk3, m3, r3, oI', v, rfl, hlt, rfl, hc', ?_, F3, ?_, O3, l3 _ (.head _), J3⟩
      · exact hd'
      · rw [e1]; exact N3
    cases f with
    | next => exact goal _ h₃
    | cont => exact goal _ h₃
    | brk => exact h₃
    | ret v => exact h₃
  · have : i = vs.size := by omega
    subst this
    refine wpAny_pyNext_enum_end hh N1.1 hit hL (Array.getElem?_eq_none (Nat.le_refl _)) fun h' hx => ?_
    exact fin h' _ m r hJ (keepF h' fun b o hb1 _ e => hx b o hb1 e) (keepN h' fun b o hb1 _ e => hx b o hb1 e)

end
section
theorem is_str_my {M : Model} {A : Around} {E : Value → Shared → Prop} {s : Shared} {y z : Str} {u v : Tok} {Q : Value → Shared → Prop}
    (h0 : u ≠ 0) (h1 : v ≠ 0) (h2 : u ≠ v) (hb : NoneBooked s.heap) (hq : ∀ b, (b = true → y = z) → Q (.bool b) s) : wpAny M A (compareOp .Is (.str y u) (.str z v)) Q E s := by
  show wpAny M A (do return .bool (← isSame (.str y u) (.str z v))) Q E s
  refine wpAny_bind ?_
  by_cases e : y = z
  · exact wpAny_isSame_str (by simp [h0, h1]) hb fun b => wpAny_pure (hq b fun _ => e)
  · rw [isSame_str_other y z u v (by simp [h0, h1]) (by simp [h2]) (by simp [e])]
    exact wpAny_pure (wpAny_pure (hq false fun h => by cases h))
theorem NoneBooked.keeps {h h' : Heap} (x : NoneBooked h) (k : ∀ b o, h.get? b = some o → h'.get? b = some o) : NoneBooked h' :=
  let ⟨mc, hn, e⟩ := x; ⟨mc, hn.at fun o => k _ o, e⟩
noncomputable def bookedOff (o : Obj) : Bool := match o.data with
  | .dict es _ => es.all (fun e => match e.key with | .str .. => true | _ => false) && (nsFind es sharingNotToldKey).isNone
  | _ => false
theorem none_of_off {h : Heap} {o : Obj} (e : h.get? cStatics = some o) (b : bookedOff o = true) : NoneBooked h := by
  unfold bookedOff at b
  split at b
  · rename_i es ep hd
    rw [Bool.and_eq_true] at b
    refine ⟨_, ⟨o, es, ep, e, hd, ?_, fun _ => rfl⟩, Option.isNone_iff_eq_none.mp b.2⟩
    intro x hx
    have := (Array.all_eq_true_iff_forall_mem.mp b.1) x hx
    split at this
    · exact ⟨_, _, by assumption⟩
    · cases this
  · cases b
theorem none_booked_K {w : World} {h₀ : Heap} (X : (Mine.hd.heap_39 w.params).In h₀) : NoneBooked h₀ := by
  have e : ∃ o, (Mine.hd.heap_39 w.params).lookup cStatics = some o ∧ bookedOff o = true := by
    refine ⟨_, rfl, ?_⟩
    decide +kernel
  obtain ⟨o, e1, e2⟩ := e
  exact none_of_off (X _ _ e1) e2
inductive StrEnd (h₀ : Heap) (L : Addr) (s : Shared) (I : Addr) (oI : Obj) (T0 : Nat) (J : (Str → Option Value) → List (Addr × Obj) → Prop) (s₃ : Shared) : Prop
  | mk (h) (tk : Nat) (m r) : (s₃ = { s with heap := h, toks := tk }) → (T0 ≤ tk) → (Fr h₀ L h m) → (News h₀ L h ((I, oI) :: r)) → (OwnOff r [I]) → (J m r) → StrEnd h₀ L s I oI T0 J s₃
theorem forStr_of {prog : Program} {w : World} {A : Around} {s : Shared} {R : Result → Shared → Prop} {target : Expr} {body orelse : List Stmt} {env : Env} {h₀ : Heap} {L I : Addr} {tx : Str} {tt : Tok} {T0 : Nat}
    (hh : A.handled = none) (J : Nat → (Str → Option Value) → List (Addr × Obj) → Prop)
    (hgo : ∀ v, letOwnedTupleGo target (.ref I) v = pure ())
    {m₀ : Str → Option Value} {r₀ : List (Addr × Obj)} {o₀ : Obj} (F₀ : Fr h₀ L s.heap m₀) (N₀ : News h₀ L s.heap ((I, o₀) :: r₀)) (S₀ : s.heap.IsStrIter I "str_ascii_iterator" tx tt 0) (O₀ : OwnOff r₀ [I]) (T₀ : T0 ≤ s.toks) (J₀ : J 0 m₀ r₀)
    (turn : ∀ i c h (tk : Nat) m r oI, i < tx.cps.size → tx.cps[i]? = some c → T0 ≤ tk → J i m r → Fr h₀ L h m → News h₀ L h ((I, oI) :: r) → OwnOff r [I] →
      wpAny (model prog w) A (assign target env (.str ⟨#[c]⟩ tk)) (fun _ s₂ => wpAny (model prog w) A (execs body env) (fun f s₃ => match f with
        | .next | .cont => StrEnd h₀ L s I oI T0 (J (i + 1)) s₃
        | .brk => R (.ok .next) s₃
        | .ret v => R (.ok (.ret v)) s₃) (notedBy (model prog w) A env fun e s' => R (.error e) s') s₂) (notedBy (model prog w) A env fun e s' => R (.error e) s') { s with heap := h, toks := tk + 1 })
    (fin : ∀ h tk m r, J tx.cps.size m r → Fr h₀ L h m → News h₀ L h r → wpAny (model prog w) A (execs orelse env) (fun f s₃ => R (.ok f) s₃) (notedBy (model prog w) A env fun e s' => R (.error e) s') { s with heap := h, toks := tk }) :
    codeAny (model prog w) A (.forLoop target (.ref I) body orelse env) R s := by
  refine codeAny_forLoop_any (fun k s' => ∃ i h tk m r oI, s' = { s with heap := h, toks := tk } ∧ i ≤ tx.cps.size ∧ k = tx.cps.size - i ∧ T0 ≤ tk ∧ h.IsStrIter I "str_ascii_iterator" tx tt i ∧ Fr h₀ L h m ∧ News h₀ L h ((I, oI) :: r) ∧ OwnOff r [I] ∧ J i m r) ?_ tx.cps.size
    ⟨0, _, _, m₀, r₀, o₀, rfl, Nat.zero_le _, rfl, T₀, S₀, F₀, N₀, O₀, J₀⟩
  rintro k s' ⟨i, h, tk, m, r, oI, rfl, hi, rfl, hT, S, F, N, O, hJ⟩
  have hIL : I ≠ L := (N _ (.head _)).2.1
  have hI0 : h₀.get? I = none := (N _ (.head _)).2.2
  have keepF : ∀ h', (∀ b o, b ≠ I → h.get? b = some o → h'.get? b = some o) → Fr h₀ L h' m := by
    intro h' hk
    refine ⟨F.ns.at fun o e => hk _ o (Ne.symm hIL) e, fun b o e => hk b o ?_ (F.keep b o e), F.above⟩
    rintro rfl
    rw [hI0] at e
    cases e
  have keepN : ∀ h', (∀ b o, b ≠ I → h.get? b = some o → h'.get? b = some o) → News h₀ L h' r := by
    intro h' hk p hp
    have := N p (.tail _ hp)
    exact ⟨hk _ _ (O p hp I (.head _)) this.1, this.2⟩
  rcases Nat.lt_or_ge i tx.cps.size with hlt | hge
  · have hc : tx.cps[i]? = some tx.cps[i] := Array.getElem?_eq_getElem hlt
    generalize tx.cps[i] = c at hc
    refine wpAny_pyNext_ascii_item S hc fun h' S' hs => ?_
    replace hs : Heap.SameBut I h h' := hs
    dsimp only
    rw [hgo]
    refine wpAny_pure ?_
    obtain ⟨oI', hoI', hcl, hda⟩ := S'
    have hk : ∀ b o, b ≠ I → h.get? b = some o → h'.get? b = some o := fun b o hb e => hs.extBut b o hb e
    have N' : News h₀ L h' ((I, oI') :: r) := by
      intro p hp
      rcases List.mem_cons.mp hp with rfl | hp
      · exact ⟨hoI', hIL, hI0⟩
      · exact keepN h' hk p hp
    refine wpAny_mono (turn i c h' tk m r oI' hlt hc hT hJ (keepF h' hk) N' O) (fun _ s₂ h₂ => wpAny_mono h₂ (fun f s₃ h₃ => ?_) fun _ _ x => x) fun _ _ x => x
    have goal : ∀ s₃, StrEnd h₀ L s I oI' T0 (J (i + 1)) s₃ → ∃ m_1, m_1 < tx.cps.size - i ∧ ∃ i h tk m r oI, s₃ = { s with heap := h, toks := tk } ∧ i ≤ tx.cps.size ∧ m_1 = tx.cps.size - i ∧ T0 ≤ tk ∧ h.IsStrIter I "str_ascii_iterator" tx tt i ∧ Fr h₀ L h m ∧ News h₀ L h ((I, oI) :: r) ∧ OwnOff r [I] ∧ J i m r := by
      rintro s₃ ⟨h3, tk3, m3, r3, rfl, T3, F3, N3, O3, J3⟩
      exact ⟨tx.cps.size - (i + 1), by omega, i + 1, h3, tk3, m3, r3, oI', rfl, hlt, rfl, T3, ⟨oI', (N3 _ (.head _)).1, hcl, hda⟩, F3, N3, O3, J3⟩
    cases f with
    | next => exact goal _ h₃
    | cont => exact goal _ h₃
    | brk => exact h₃
    | ret v => exact h₃
  · have : i = tx.cps.size := by omega
    subst this
    refine wpAny_pyNext_ascii_end hh S (by simp) fun h' hs => ?_
    have hk : ∀ b o, b ≠ I → h.get? b = some o → h'.get? b = some o := fun b o hb e => hs b o hb e
    exact fin h' _ m r hJ (keepF h' hk) (keepN h' hk)
theorem store_tk {prog : Program} {w : World} {A : Around} {E : Value → Shared → Prop} {s : Shared} {h₀ : Heap} {L : Addr} {m : Str → Option Value} {news : List (Addr × Obj)} {env : Env} {name : Str} {v : Value} {Q : Unit → Shared → Prop}
    (hl : env.kindOf name = some .local) (hL : env.locals = L) (F : Fr h₀ L s.heap m) (N : News h₀ L s.heap news) (hp : (env.scope.kind == .class || (env.scope.kind == .module && env.locals != env.globals)) = false)
    (h : ∀ h', Fr h₀ L h' (fun x => if x = name then some v else m x) → News h₀ L h' news → Q () { s with heap := h', toks := s.toks + 1 }) : wpAny (model prog w) A (storeName env name v) Q E s := by
  subst hL
  exact wpAny_storeName_local hl F.ns (fun h' hn hs => h h' (F.set hn hs) (N.set hs)) hp
local macro_rules | `(tactic| walk_at "storeName") => `(tactic| (k_here; k_dflt (refine store_tk rfl rfl (by k_asm) (by k_asm) rfl ?_); intro h' F' N'))
local macro_rules | `(tactic| walk_at "execs cons") => `(tactic| (k_here; (with_reducible refine wpAny_execs_cons ?_); try dsimp only))
local macro_rules | `(tactic| walk_at "execs nil") => `(tactic| (k_here; (with_reducible refine wpAny_execs_nil ?_); try dsimp only))
local macro_rules | `(tactic| walk_at "eval Constant int") => `(tactic| (k_here; k_dflt (refine wpAny_Constant_int ?_)))
local macro_rules | `(tactic| walk_at "inplaceOp Add int int") => `(tactic| (k_here; k_dflt (refine iadd_int ?_)))
inductive CntJ (tx : Str) (tb : Tok) (rest : List (Addr × Obj)) (i : Nat) (m : Str → Option Value) (r : List (Addr × Obj)) : Prop
  | mk (tc) : (r = rest) → (m (Str.ofString "b") = some (.str ⟨#[10]⟩ tb)) → (m (Str.ofString "count") = some (.int (nls (tx.cps.toList.take i)) tc)) → CntJ tx tb rest i m r
theorem nls_take {tx : Str} {i c : Nat} (h : tx.cps[i]? = some c) : nls (tx.cps.toList.take (i + 1)) = nls (tx.cps.toList.take i) + (if c = 10 then 1 else 0) := by
  have e : tx.cps.toList[i]? = some c := by rw [Array.getElem?_toList]; exact h
  rw [List.take_add_one, e]
  unfold nls
  rw [List.count_append]
  by_cases hc : c = 10
  · subst hc; simp
  · simp [hc]
local macro_rules | `(tactic| walk_at "exec For") => `(tactic| (k_here; k_dflt (refine wpAny_For ?_)))
set_option maxHeartbeats 2000000 in
theorem c_count (prog : Program) (w : World) (rest : List (Addr × Obj)) (tx : Str) (tt : Tok) (tb : Nat) (hasc : tx.cps.all (· < 128) = true) (htb : tb ≠ 0) :
    ∀ (dp un : Nat) (gd : Option (List Code)) (cn : Str) (cs : Scope) (a : Addr) (ccd : Value) (cl : List (Str × Addr)) (outer : List Env) (A₀ : Around) (base h₀ : Heap) (L : Addr) (m : Str → Option Value) (s : Shared) (Rk : Result → Shared → Prop)
    (p : Program) (loose : List Str) (mean : ExcName → Option Value) (mg mb : Str → Option Value), (@LT.lt Nat _ tb s.toks) →
    Below A₀ base outer h₀ → Fr h₀ L s.heap m → (Mine.hd.heap_39 w.params).In h₀ → News h₀ L s.heap rest → Top p loose mean mg mb h₀ → cs.kind = .function → dp + 10 < recursionLimit → un + 50 < cLine →
    (∀ t h' tk', Fr h₀ L h' m → News h₀ L h' rest → Rk (.ok (.ret (.int (nls tx.cps.toList) t))) { s with heap := h', toks := tk' }) →
    codeAny (model prog w) (ktrTop dp un gd cn cs L a ccd cl outer) (.call (.ref 125) ⟨[.str tx tt, .str ⟨#[10]⟩ tb], []⟩) Rk s := by
  intro dp un gd cn cs a ccd cl outer A₀ base h₀ L m s Rk pp loose mean mg mb hlt B F X N T hk hd hu hret
  k_dflt k_enter
  k_steps
  rename Fr _ _ _ _ => F0
  rename News _ _ _ _ => N0
  rename Frag.In _ _ => X0
  have hnb := none_booked_K X0
  refine str_iter_my hasc F0 N0 ?_
  rintro dI hI hit ho F1 ⟨oI, N1⟩
  refine forStr_of (T0 := tb + 1) rfl (CntJ tx tb rest) (by intro _; rfl) F1 N1 hit (OwnOff.one fun p hp => Nat.ne_of_lt (ho p hp)) (by simp +decide only; omega) ⟨_, rfl, rfl, rfl⟩ ?zturn ?zfin
  case zturn =>
    rintro i c h9 tk9 m9 r9 oI9 hi hc hT ⟨tc9, rfl, hb9, hc9⟩ F9 N9 O9
    have hne : tk9 ≠ tb := by omega
    have hz : tk9 ≠ 0 := by omega
    have htk := nls_take hc
    k_steps
    refine is_str_my hz htb hne (NoneBooked.keeps hnb (Fr.keep (by k_asm))) ?_
    intro q hq
    cases q
    · k_steps
      · have hc10 : c = 10 := by
          rename (_ == _) = true => he
          have := eq_of_beq he
          cases this
          rfl
        rename Fr _ _ _ _ => F6
        rename News _ _ _ _ => N6
        rw [if_pos hc10] at htk
        exact ⟨_, _, _, _, rfl, by first | omega | (dsimp only; omega), F6, N6, O9, _, rfl, hb9, by rw [htk]; rfl⟩
      · have hc10 : c ≠ 10 := by
          rename (_ == _) = false => he
          rintro rfl
          simp at he
        rename Fr _ _ _ _ => F6
        rename News _ _ _ _ => N6
        rw [if_neg hc10, Int.add_zero] at htk
        refine ⟨_, _, _, _, rfl, ?_, F6, N6, O9, _, rfl, hb9, by rw [htk]; exact hc9⟩
        first | omega | (show tb + 1 ≤ tk9 + 1 + 1; omega)
    · have hc10 : c = 10 := by cases hq rfl; rfl
      rw [if_pos hc10] at htk
      k_steps
      rename Fr _ _ _ _ => F6
      rename News _ _ _ _ => N6
      exact ⟨_, _, _, _, rfl, by first | omega | (dsimp only; omega), F6, N6, O9, _, rfl, hb9, by rw [htk]; rfl⟩
  case zfin =>
    rintro h9 tk9 m9 r9 ⟨tc9, rfl, hb9, hc9⟩ F9 N9
    have hfull : tx.cps.toList.take tx.cps.size = tx.cps.toList := List.take_of_length_le (by simp)
    rw [hfull] at hc9
    k_steps
    rename Fr _ _ _ _ => F6
    rename News _ _ _ _ => N6
    exact hret _ _ _ F6 N6

end
section
local macro_rules | `(tactic| walk_at "exec For") => `(tactic| (k_here; k_dflt (refine wpAny_For ?_)))
local macro_rules | `(tactic| walk_at "exec For Tuple Call") => `(tactic| (k_here; k_dflt (refine wpAny_For ?_)))
/-- the seven totals: whole numbers, not below nought, bounded -/
noncomputable def SevenJ (b : Int) (xs : List Int) : Prop := xs.length = 7 ∧ ∀ x ∈ xs, 0 ≤ x ∧ x ≤ b
inductive TotJ (w : World) (D tl : Addr) (us : List Value) (rest : List (Addr × Obj)) (i : Nat) (m : Str → Option Value) (r : List (Addr × Obj)) : Prop
  | mk (ts xs) : (IntsAre ts xs) → (SevenJ (400 + 1000003 * (i : Int)) xs) → (r = (D, W.listOf us.toArray 0) :: (tl, W.listOf ts.toArray 0) :: rest) → (m (Str.ofString "totals") = some (.ref tl)) → TotJ w D tl us rest i m r
theorem ints_at {vs : List Value} {ns : List Int} (h : IntsAre vs ns) : ∀ {i : Nat} {v : Value}, vs[i]? = some v → ∃ x t, v = .int x t ∧ ns[i]? = some x := by
  induction h with
  | nil => intro i v e; simp at e
  | cons a t _ ih =>
    intro i v e
    cases i with
    | zero => simp at e; subst e; exact ⟨_, _, rfl, by simp⟩
    | succ i => simp at e; obtain ⟨x, t, h1, h2⟩ := ih e; exact ⟨x, t, h1, by simpa using h2⟩
theorem ints_set {vs : List Value} {ns : List Int} (h : IntsAre vs ns) {x : Int} {t : Tok} : ∀ {k : Nat}, IntsAre (vs.set k (.int x t)) (ns.set k x) := by
  induction h with
  | nil => exact .nil
  | cons a u h ih =>
    intro k
    cases k with
    | zero => exact .cons _ _ h
    | succ k => exact .cons _ _ ih
theorem set_my {prog : Program} {w : World} {A : Around} {E : Value → Shared → Prop} {s : Shared} {h₀ : Heap} {L D : Addr} {m : Str → Option Value} {news news' : List (Addr × Obj)} {vs : List Value} {n : Nat} {k : Int} {t : Tok} {v : Value} {Q : Unit → Shared → Prop}
    (F : Fr h₀ L s.heap m) (Nw : News h₀ L s.heap news) (U : Upd D (W.listOf vs.toArray n) (W.listOf (vs.set k.toNat v).toArray n) news news') (h0 : 0 ≤ k) (h1 : k.toNat < vs.length) (hb : k ≤ 100000)
    (h : ∀ h', Fr h₀ L h' m → News h₀ L h' news' → Q () { s with heap := h' }) : wpAny (model prog w) A (setItem (.ref D) (.int k t) v) Q E s := by
  obtain ⟨pre, post, rfl, rfl, a, b⟩ := U.split
  have z := Nw (D, W.listOf vs.toArray n) (List.mem_append.mpr (.inr (.head _)))
  refine ki_setAt z.1 h0 (by omega) (by simp; omega) (h _ (F.change (Heap.SameBut.update ..) z.2.1 z.2.2) (ki_turn _ Nw a b ?_ ?_))
  · show vs.toArray.setIfInBounds k.toNat v = (vs.set k.toNat v).toArray
    apply Array.toList_inj.mp
    simp
  · rw [if_pos (by simp)]
theorem pick_take (vs : List Value) (n : Nat) : kms_pick vs.toArray.toList none (some (n : Int)) = vs.take n := by
  unfold kms_pick kms_lo kms_hi
  dsimp only
  rw [if_neg (by omega), Int.toNat_natCast, List.drop_zero, Nat.sub_zero]
  rcases Nat.le_total n vs.length with h | h
  · rw [Nat.min_eq_left (by simpa using h)]
  · rw [Nat.min_eq_right (by simpa using h), List.take_of_length_le (Nat.le_refl _), List.take_of_length_le h]
set_option maxHeartbeats 2000000 in
theorem c_totals (prog : Program) (w : World) (rest : List (Addr × Obj)) (sc : Addr) (vs : List Value) (ws : List Int) (hI : IntsAre vs ws) (hsz : vs.length ≤ sizeLine) :
    ∀ (dp un : Nat) (gd : Option (List Code)) (cn : Str) (cs : Scope) (a : Addr) (ccd : Value) (cl : List (Str × Addr)) (outer : List Env) (A₀ : Around) (base h₀ : Heap) (L : Addr) (m : Str → Option Value) (s : Shared) (Rk : Result → Shared → Prop)
    (p : Program) (loose : List Str) (mean : ExcName → Option Value) (mg mb : Str → Option Value), base.IsList sc vs.toArray →
    Below A₀ base outer h₀ → Fr h₀ L s.heap m → (Mine.hd.heap_39 w.params).In h₀ → News h₀ L s.heap rest → Top p loose mean mg mb h₀ → cs.kind = .function → dp + 10 < recursionLimit → un + 50 < cLine →
    (∀ (tl : Addr) (ts : List Value) (xs : List Int) h' tk', IntsAre ts xs → SevenJ 100000000 xs → (∀ p ∈ rest, p.1 < tl) → Fr h₀ L h' m → News h₀ L h' ((tl, W.listOf ts.toArray 0) :: rest) → Rk (.ok (.ret (.ref tl))) { s with heap := h', toks := tk' }) →
    codeAny (model prog w) (ktrTop dp un gd cn cs L a ccd cl outer) (.call (.ref 139) ⟨[.ref sc], []⟩) Rk s := by
  intro dp un gd cn cs a ccd cl outer A₀ base h₀ L m s Rk pp loose mean mg mb hsc B F X N T hk hd hu hret
  k_dflt k_enter
  k_steps
  rename AllLt _ rest => lD
  rename IntsAre _ (List.take 63 ws) => hI5
  rename List Value => us
  rename Fr _ _ _ _ => F5
  rename News _ _ _ _ => N5
  refine enum_call F5 N5 (.head _) ?_
  intro d oI h5 hc5 hd5 hlt5 F6 N6
  refine enum_iter N6 (.head _) ?_
  refine forEnum_of rfl (TotJ w _ _ _ rest) rfl rfl rfl hc5 hd5 F6 N6 ?zO (.head _) ⟨_, _, .cons _ _ (.cons _ _ (.cons _ _ (.cons _ _ (.cons _ _ (.cons _ _ (.cons _ _ .nil)))))), ⟨rfl, ?zb⟩, rfl, rfl⟩ ?zturn ?zfin
  case zO => exact OwnOff.more (fun p hp => Nat.ne_of_lt (hlt5 p hp)) (OwnOff.one fun p hp => Nat.ne_of_lt (Nat.lt_succ_of_lt (hlt5 p hp)))
  case zb => decide
  case zturn =>
    rintro i v t h9 tk9 m9 r9 oI9 hi hv ⟨ts, xs, hts, hx, rfl, hm⟩ hD9 F9 N9 O9
    obtain ⟨x, tx, rfl, hx5⟩ := ints_at hI5 (i := i) (v := v) (by simpa using hv)
    have hmod : Int.fmod (i : Int) 7 = ((i % 7 : Nat) : Int) := by
      rw [Int.fmod_eq_emod_of_nonneg _ (by decide)]
      omega
    have hlt7 : i % 7 < 7 := Nat.mod_lt _ (by decide)
    have hlen : ts.length = 7 := by rw [hts.length, hx.1]
    have hg : ∃ y, ts[i % 7]? = some y := ⟨_, List.getElem?_eq_getElem (by omega)⟩
    obtain ⟨y, hy⟩ := hg
    obtain ⟨yi, yt, rfl, hyi⟩ := ints_at hts hy
    have hlt9 : (Int.fmod (i : Int) 7).toNat < ts.length := by rw [hmod, Int.toNat_natCast, hlen]; exact hlt7
    have hm0 : 0 ≤ Int.fmod (i : Int) 7 := by omega
    have hm1 : Int.fmod (i : Int) 7 ≤ 100000 := by omega
    have hy9 : ts[(Int.fmod (i : Int) 7).toNat]? = some (.int yi yt) := by rw [hmod, Int.toNat_natCast]; exact hy
    k_steps
    k_lt hlt5
    k_dflt (refine' set_my (v := .int _ _) ?zF2 ?zN2 ?zU2 hm0 ?zb2 hm1 ?_; (case zF2 => k_asm); (case zN2 => k_asm); (case zU2 => k_upd); (case zb2 => exact hlt9))
    intro h6 F6 N6
    k_steps
    rename Fr _ _ _ _ => F7
    rename News _ _ _ _ => N7
    have hx7 := hx.2 yi (List.mem_of_getElem? hyi)
    have hxm0 : 0 ≤ Int.fmod x 1000003 := Int.fmod_nonneg_of_pos _ (by decide)
    have hxm1 : Int.fmod x 1000003 < 1000003 := Int.fmod_lt_of_pos _ (by decide)
    have hyd : xs.getD (Int.fmod (i : Int) 7).toNat 0 = yi := by rw [hmod, Int.toNat_natCast, List.getD_eq_getElem?_getD, hyi]; rfl
    refine ⟨_, _, _, _, rfl, F7, N7, ?zO2, ?zl2, _, xs.set (Int.fmod (i : Int) 7).toNat (yi + Int.fmod x 1000003), ?zi2, ⟨by rw [List.length_set]; exact hx.1, ?zs2⟩, rfl, hm⟩
    case zO2 => exact OwnOff.more (by k_all) (OwnOff.one (by k_all))
    case zl2 => intro p hp; rw [List.mem_singleton.mp hp]; exact .head _
    case zi2 => rw [hyd]; exact ints_set hts
    case zs2 =>
      intro z hz
      have e1 : ((i + 1 : Nat) : Int) = (i : Int) + 1 := by push_cast; rfl
      rw [e1]
      rcases List.mem_or_eq_of_mem_set hz with h | rfl
      · have := hx.2 z h
        omega
      · omega
  case zfin =>
    rintro h9 tk9 m9 r9 ⟨ts, xs, hts, hx, rfl, hm⟩ F9 N9
    k_steps
    rename Fr _ _ _ _ => F7
    rename News _ _ _ _ => N7
    have hi63 : ((List.toArray us).size : Int) ≤ 63 := by
      rw [List.size_toArray, IntsAre.length hI5, List.length_take]
      omega
    refine hret _ ts xs _ _ hts ⟨hx.1, fun z hz => ?_⟩ (ktn_ltOf (by assumption)) F7 (N7.perm (by k_allIn))
    have := hx.2 z hz
    omega

end
section
/-- the state of the walk along the line -/
structure LSt where
  (left lack waiting manner part : Int)
noncomputable def lineStep (c : Int) (s : LSt) : LSt × Int :=
  let half := Int.fdiv c 2
  let s1 : LSt := if s.manner = 0 ∧ s.left ≤ s.waiting * half then { s with manner := 1, part := Int.fdiv s.left s.waiting }
    else if s.manner = 0 ∧ s.lack ≤ s.waiting * half then { s with manner := 2, part := Int.fdiv s.lack s.waiting } else s
  if s1.manner = 1 then (s1, s1.part)
  else if s1.manner = 2 then (s1, c - s1.part)
  else ({ s1 with left := s1.left - half, lack := s1.lack - half, waiting := s1.waiting - 1 }, half)
noncomputable def lineRun : LSt → List Int → List Int
  | _, [] => []
  | s, c :: r => (lineStep c s).2 :: lineRun (lineStep c s).1 r
theorem lineRun_m1 : ∀ (l : List Int) (s : LSt), s.manner = 1 → lineRun s l = l.map fun _ => s.part
  | [], _, _ => rfl
  | c :: r, s, h => by
    have e : lineStep c s = (s, s.part) := by unfold lineStep; simp [h]
    show (lineStep c s).2 :: lineRun (lineStep c s).1 r = _
    rw [e, lineRun_m1 r s h]
    rfl
theorem lineRun_m2 : ∀ (l : List Int) (s : LSt), s.manner = 2 → lineRun s l = l.map fun c => c - s.part
  | [], _, _ => rfl
  | c :: r, s, h => by
    have e : lineStep c s = (s, c - s.part) := by unfold lineStep; simp [h]
    show (lineStep c s).2 :: lineRun (lineStep c s).1 r = _
    rw [e, lineRun_m2 r s h]
    rfl
theorem lineRun_len : ∀ (l : List Int) (s : LSt), (lineRun s l).length = l.length
  | [], _ => rfl
  | c :: r, s => by show (lineRun _ r).length + 1 = r.length + 1; rw [lineRun_len]
theorem half_of {c k : Int} (h : c = 120 * k) : Int.fdiv c 2 = 60 * k := by
  rw [Int.fdiv_eq_ediv_of_nonneg _ (by decide)]; omega
theorem share_low {c h top k : Int} (hc : c = 120 * k) (h1 : h ≤ 60 * k) (h2 : h + 60 * k ≤ top) : shareI c h top = h := by
  unfold shareI
  rw [half_of hc]
  split <;> split <;> omega
theorem share_mid {c h top k : Int} (hc : c = 120 * k) (h1 : 60 * k ≤ h) (h2 : h + 60 * k ≤ top) : shareI c h top = 60 * k := by
  unfold shareI
  rw [half_of hc]
  split <;> split <;> omega
theorem share_high {c h top k : Int} (hc : c = 120 * k) (h1 : 60 * k ≤ h) (h2 : top ≤ h + 60 * k) : shareI c h top = c - (top - h) := by
  unfold shareI
  rw [half_of hc]
  split <;> split <;> omega
theorem share_top {h top k : Int} (hc : top = 120 * k) (h0 : 0 ≤ h) (h1 : h ≤ top) : shareI top h top = h := by
  unfold shareI
  rw [half_of hc]
  split <;> split <;> omega
theorem share_mono {c h h' top : Int} (hh : h ≤ h') : shareI c h top ≤ shareI c h' top := by
  unfold shareI
  split <;> split <;> split <;> split <;> omega
theorem share_full {c top k : Int} (hc : c = 120 * k) (h0 : 0 ≤ k) (h1 : c ≤ top) : shareI c top top = c := by
  unfold shareI
  rw [half_of hc]
  split <;> split <;> omega
/-- two of them part what they get as two alone part a garment -/
theorem share_alone {a b h top i j : Int} (ha : a = 120 * i) (hb : b = 120 * j) (i0 : 0 ≤ i) (j0 : 0 ≤ j) (ht : a ≤ top) (ht' : b ≤ top) (h0 : 0 ≤ h) (h1 : h ≤ top) :
    2 * (shareI a h top - (if shareI a h top + shareI b h top - b > 0 then shareI a h top + shareI b h top - b else 0)) = shareI a h top + shareI b h top - (if shareI a h top + shareI b h top - b > 0 then shareI a h top + shareI b h top - b else 0) - (if shareI a h top + shareI b h top - a > 0 then shareI a h top + shareI b h top - a else 0) := by
  have ea : shareI a h top = (if h < 60 * i then h else 60 * i) + (if h + 60 * i - top > 0 then h + 60 * i - top else 0) := by unfold shareI; rw [half_of ha]
  have eb : shareI b h top = (if h < 60 * j then h else 60 * j) + (if h + 60 * j - top > 0 then h + 60 * j - top else 0) := by unfold shareI; rw [half_of hb]
  generalize shareI a h top = x at *
  generalize shareI b h top = y at *
  subst ha hb
  have : x = h ∧ h ≤ 60 * i ∧ h + 60 * i ≤ top ∨ x = 60 * i ∧ 60 * i ≤ h ∧ h + 60 * i ≤ top ∨ x = 120 * i - (top - h) ∧ 60 * i ≤ h ∧ top ≤ h + 60 * i := by
    split at ea <;> split at ea <;> omega
  have : y = h ∧ h ≤ 60 * j ∧ h + 60 * j ≤ top ∨ y = 60 * j ∧ 60 * j ≤ h ∧ h + 60 * j ≤ top ∨ y = 120 * j - (top - h) ∧ 60 * j ≤ h ∧ top ≤ h + 60 * j := by
    split at eb <;> split at eb <;> omega
  clear ea eb
  split <;> split <;> omega
theorem sum_const (p : Int) : ∀ l : List Int, (l.map fun _ => p).sum = (l.length : Int) * p
  | [] => by simp
  | c :: r => by
    rw [List.map_cons, List.sum_cons, sum_const p r, List.length_cons]
    rw [show ((r.length + 1 : Nat) : Int) = (r.length : Int) + 1 from by push_cast; rfl, Int.add_mul]
    omega
theorem sum_less (p : Int) : ∀ l : List Int, (l.map fun c => c - p).sum = l.sum - (l.length : Int) * p
  | [] => by simp
  | c :: r => by
    rw [List.map_cons, List.sum_cons, sum_less p r, List.length_cons, List.sum_cons]
    rw [show ((r.length + 1 : Nat) : Int) = (r.length : Int) + 1 from by push_cast; rfl, Int.add_mul]
    omega
theorem fdiv_exact {w k : Int} (h1 : 1 ≤ w) (h5 : w ≤ 5) : w * Int.fdiv (60 * k) w = 60 * k := by
  rw [Int.fdiv_eq_ediv_of_nonneg _ (by omega)]
  have : w = 1 ∨ w = 2 ∨ w = 3 ∨ w = 4 ∨ w = 5 := by omega
  rcases this with rfl | rfl | rfl | rfl | rfl <;> omega
theorem le_of_w {w a b : Int} (h1 : 1 ≤ w) (h : w * a ≤ w * b) : a ≤ b := Int.le_of_mul_le_mul_left h (by omega)
theorem le_last {l : List Int} {top : Int} (hs : l.Pairwise (· ≤ ·)) (ht : l.getLast? = some top) : ∀ c ∈ l, c ≤ top := by
  induction l with
  | nil => intro c hc; cases hc
  | cons a r ih =>
    intro c hc
    cases r with
    | nil => simp at ht hc; omega
    | cons b r =>
      have h2 : (b :: r).getLast? = some top := by simpa [List.getLast?_cons_cons] using ht
      rcases List.mem_cons.mp hc with rfl | hc
      · exact (List.pairwise_cons.mp hs).1 _ (List.mem_of_getLast? h2)
      · exact ih (List.pairwise_cons.mp hs).2 h2 c hc
theorem line_law (top : Int) : ∀ (l : List Int) (lo : Int) (s : LSt), s.manner = 0 → l ≠ [] → l.length ≤ 5 → s.waiting = l.length → 0 ≤ lo → (∀ c ∈ l, ∃ k, c = 120 * k) → l.Pairwise (· ≤ ·) → (∀ c ∈ l, 2 * lo ≤ c) → l.getLast? = some top →
    (∃ k, s.left = 60 * k) → (∃ k, s.lack = 60 * k) → s.left + s.lack = l.sum → s.waiting * lo ≤ s.left → s.waiting * lo ≤ s.lack →
    ∃ h, lo ≤ h ∧ h ≤ top - lo ∧ lineRun s l = l.map (fun c => shareI c h top) ∧ (l.map fun c => shareI c h top).sum = s.left
  | [], _, _, _, hne, _, _, _, _, _, _, _, _, _, _, _, _ => absurd rfl hne
  | c :: r, lo, s, hm, hne, hlen, hw, hlo, hk, hs, h2, ht, ⟨kl, hl⟩, ⟨ka, ha⟩, hsum, hw1, hw2 => by
    obtain ⟨k, hc⟩ := hk c (.head _)
    have hh := half_of hc
    have hlast := le_last hs ht
    have hw0 : 1 ≤ s.waiting := by rw [hw, List.length_cons]; omega
    have hw5 : s.waiting ≤ 5 := by rw [hw]; omega
    have hge : ∀ d ∈ c :: r, c ≤ d := by
      intro d hd
      rcases List.mem_cons.mp hd with rfl | hd
      · exact Int.le_refl _
      · exact (List.pairwise_cons.mp hs).1 d hd
    have htc : c ≤ top := hlast c (.head _)
    have hloc := h2 c (.head _)
    by_cases c1 : s.left ≤ s.waiting * Int.fdiv c 2
    · have e : lineStep c s = ({ s with manner := 1, part := Int.fdiv s.left s.waiting }, Int.fdiv s.left s.waiting) := by
        unfold lineStep; simp [hm, c1]
      have hx := fdiv_exact (k := kl) hw0 hw5
      rw [← hl] at hx
      rw [hh] at c1
      have p1 : Int.fdiv s.left s.waiting ≤ 60 * k := le_of_w hw0 (by rw [hx]; exact c1)
      have p2 : lo ≤ Int.fdiv s.left s.waiting := le_of_w hw0 (by rw [hx]; exact hw1)
      generalize Int.fdiv s.left s.waiting = part at *
      have hsh : (c :: r).map (fun d => shareI d part top) = (c :: r).map fun _ => part := by
        refine List.map_congr_left fun d hd => ?_
        obtain ⟨kd, hkd⟩ := hk d hd
        have := hge d hd
        have := hlast d hd
        exact share_low hkd (by omega) (by omega)
      refine ⟨part, p2, by omega, ?_, ?_⟩
      · rw [hsh]
        show (lineStep c s).2 :: lineRun (lineStep c s).1 r = _
        rw [e, lineRun_m1 r _ rfl]
        rfl
      · rw [hsh, sum_const, ← hw, hx]
    · by_cases c2 : s.lack ≤ s.waiting * Int.fdiv c 2
      · have e : lineStep c s = ({ s with manner := 2, part := Int.fdiv s.lack s.waiting }, c - Int.fdiv s.lack s.waiting) := by
          unfold lineStep; simp [hm, c1, c2]
        have hx := fdiv_exact (k := ka) hw0 hw5
        rw [← ha] at hx
        rw [hh] at c2
        have p1 : Int.fdiv s.lack s.waiting ≤ 60 * k := le_of_w hw0 (by rw [hx]; exact c2)
        have p2 : lo ≤ Int.fdiv s.lack s.waiting := le_of_w hw0 (by rw [hx]; exact hw2)
        generalize Int.fdiv s.lack s.waiting = part at *
        have hsh : (c :: r).map (fun d => shareI d (top - part) top) = (c :: r).map fun d => d - part := by
          refine List.map_congr_left fun d hd => ?_
          obtain ⟨kd, hkd⟩ := hk d hd
          have := hge d hd
          have := hlast d hd
          rw [share_high hkd (by omega) (by omega)]
          omega
        refine ⟨top - part, by omega, by omega, ?_, ?_⟩
        · rw [hsh]
          show (lineStep c s).2 :: lineRun (lineStep c s).1 r = _
          rw [e, lineRun_m2 r _ rfl]
          rfl
        · rw [hsh, sum_less, ← hw, hx]
          omega
      · have e : lineStep c s = ({ s with left := s.left - 60 * k, lack := s.lack - 60 * k, waiting := s.waiting - 1 }, 60 * k) := by
          rw [hh] at c1 c2
          unfold lineStep
          simp only [hm, hh, c1, c2, and_false, if_false]
          rfl
        rw [hh] at c1 c2
        rw [List.sum_cons] at hsum
        have hr : r ≠ [] := by
          rintro rfl
          have : s.waiting = 1 := by rw [hw]; rfl
          rw [this] at c1 c2
          simp at hsum
          omega
        have hlr : r.getLast? = some top := by
          cases r with
          | nil => exact absurd rfl hr
          | cons b r => simpa [List.getLast?_cons_cons] using ht
        have hwr : s.waiting - 1 = (r.length : Int) := by rw [hw, List.length_cons]; push_cast; omega
        have hmul : (s.waiting - 1) * (60 * k) = s.waiting * (60 * k) - 60 * k := by rw [Int.sub_mul]; omega
        obtain ⟨h, a1, a2, a3, a4⟩ := line_law top r (60 * k) { s with left := s.left - 60 * k, lack := s.lack - 60 * k, waiting := s.waiting - 1 } hm hr (by simp at hlen; omega) hwr (by omega)
          (fun d hd => hk d (.tail _ hd)) (List.pairwise_cons.mp hs).2 (fun d hd => by have := hge d (.tail _ hd); omega) hlr ⟨kl - k, by dsimp only; omega⟩ ⟨ka - k, by dsimp only; omega⟩ (by dsimp only; omega) (by dsimp only; rw [hmul]; omega) (by dsimp only; rw [hmul]; omega)
        have hsc : shareI c h top = 60 * k := share_mid hc a1 (by omega)
        refine ⟨h, by omega, by omega, ?_, ?_⟩
        · show (lineStep c s).2 :: lineRun (lineStep c s).1 r = _
          rw [e, List.map_cons, hsc]
          exact congrArg _ a3
        · rw [List.map_cons, List.sum_cons, hsc, a4]
          dsimp only
          omega
theorem held_mono (l : List Int) (top : Int) {h h' : Int} (hh : h ≤ h') : (l.map fun c => shareI c h top).sum ≤ (l.map fun c => shareI c h' top).sum := by
  induction l with
  | nil => exact Int.le_refl _
  | cons c r ih =>
    have := share_mono (c := c) (top := top) hh
    simp only [List.map_cons, List.sum_cons]
    omega
theorem held_strict : ∀ (l : List Int) (top : Int) {k h h' : Int}, l.getLast? = some top → top = 120 * k → 0 ≤ h → h < h' → h' ≤ top → (l.map fun c => shareI c h top).sum < (l.map fun c => shareI c h' top).sum
  | [], _, _, _, _, ht, _, _, _, _ => by cases ht
  | [c], top, k, h, h', ht, hk, h0, hh, h1 => by
    have e : c = top := by simpa using ht
    subst e
    simp only [List.map_cons, List.sum_cons, List.map_nil, List.sum_nil]
    rw [share_top hk h0 (by omega), share_top hk (by omega) h1]
    omega
  | c :: b :: r, top, k, h, h', ht, hk, h0, hh, h1 => by
    have h2 : (b :: r).getLast? = some top := by simpa [List.getLast?_cons_cons] using ht
    have ih := held_strict (b :: r) top h2 hk h0 hh h1
    have := share_mono (c := c) (top := top) (Int.le_of_lt hh)
    rw [List.map_cons (l := b :: r), List.sum_cons, List.map_cons (l := b :: r), List.sum_cons]
    omega
/-- the whole: the level that bisect_left finds parts the estate as the line does -/
theorem level_law {l : List Int} {top E : Int} {level : Nat} (hne : l ≠ []) (hlen : l.length ≤ 5) (hk : ∀ c ∈ l, ∃ k, 0 ≤ k ∧ c = 120 * k) (hs : l.Pairwise (· ≤ ·)) (ht : l.getLast? = some top)
    (hE : ∃ e, E = 60 * e) (h0 : 0 ≤ E) (h1 : E ≤ l.sum) (hb : (level : Int) ≤ top + 1)
    (hlow : ∀ j : Nat, j < level → (l.map fun c => shareI c j top).sum < E) (hhigh : ∀ j : Nat, level ≤ j → (j : Int) < top + 1 → E ≤ (l.map fun c => shareI c j top).sum) :
    (level : Int) ≤ top ∧ lineRun ⟨E, l.sum - E, l.length, 0, 0⟩ l = l.map (fun c => shareI c level top) ∧ (l.map fun c => shareI c level top).sum = E := by
  obtain ⟨e, he⟩ := hE
  have hsumk : ∃ k, l.sum = 60 * k := by
    clear hs ht hb hlow hhigh h1 hne hlen
    induction l with
    | nil => exact ⟨0, rfl⟩
    | cons c r ih =>
      obtain ⟨k, hk'⟩ := ih fun d hd => hk d (.tail _ hd)
      obtain ⟨k2, _, hk2⟩ := hk c (.head _)
      exact ⟨k + 2 * k2, by rw [List.sum_cons]; omega⟩
  obtain ⟨ks, hks⟩ := hsumk
  obtain ⟨kt, hkt0, hkt⟩ := hk top (List.mem_of_getLast? ht)
  obtain ⟨h, a1, a2, a3, a4⟩ := line_law top l 0 ⟨E, l.sum - E, l.length, 0, 0⟩ rfl hne hlen rfl (Int.le_refl _) (fun c hc => (hk c hc).imp fun _ x => x.2) hs (fun c hc => by obtain ⟨k, _, _⟩ := hk c hc; omega) ht ⟨e, he⟩ ⟨ks - e, by dsimp only; omega⟩ (by dsimp only; omega) (by simpa using h0) (by dsimp only; omega)
  dsimp only at a4
  obtain ⟨hn, rfl⟩ := Int.eq_ofNat_of_zero_le a1
  have hl1 : level ≤ hn := by
    rcases Nat.lt_or_ge hn level with x | x
    · have := hlow hn x
      omega
    · exact x
  have hl2 : hn ≤ level := by
    rcases Nat.lt_or_ge level hn with x | x
    · have y := hhigh level (Nat.le_refl _) (by omega)
      have z := held_strict l top (h := level) (h' := hn) ht hkt (by omega) (by omega) (by omega)
      omega
    · exact x
  have : level = hn := by omega
  subst this
  exact ⟨by omega, a3, a4⟩

end
section
theorem forRow_of {prog : Program} {w : World} {A : Around} {s : Shared} {R : Result → Shared → Prop} {elts : List Expr} {x1 : Nat} {pt : Pos} {body orelse : List Stmt} {env : Env} {h₀ : Heap} {L d rw_ : Addr} {rs : List RowI} {nr : Nat}
    (hh : A.handled = none) (J : Nat → (Str → Option Value) → List (Addr × Obj) → Prop)
    {m₀ : Str → Option Value} {r₀ : List (Addr × Obj)} (F₀ : Fr h₀ L s.heap m₀) (N₀ : News h₀ L s.heap ((d, itObj rw_) :: r₀)) (hlt : ∀ p ∈ r₀, p.1 < d) (l₀ : (rw_, W.listOf (rowVals rs).toArray nr) ∈ r₀) (J₀ : J 0 m₀ r₀)
    (turn : ∀ i (hi : i < rs.length) h tk m r oI, J i m r → (rw_, W.listOf (rowVals rs).toArray nr) ∈ r → Fr h₀ L h m → News h₀ L h ((d, oI) :: r) → OwnOff r [d] →
      wpAny (model prog w) A (assign (.Tuple elts x1 pt) env (.ref rs[i].a)) (fun _ s₂ => wpAny (model prog w) A (execs body env) (fun f s₃ => match f with
        | .next | .cont => WalkEnd h₀ L s d oI [(rw_, W.listOf (rowVals rs).toArray nr)] (J (i + 1)) s₃
        | .brk => R (.ok .next) s₃
        | .ret v => R (.ok (.ret v)) s₃) (notedBy (model prog w) A env fun e s' => R (.error e) s') s₂) (notedBy (model prog w) A env fun e s' => R (.error e) s') { s with heap := h, toks := tk })
    (fin : ∀ h tk m r, J rs.length m r → Fr h₀ L h m → News h₀ L h r → wpAny (model prog w) A (execs orelse env) (fun f s₃ => R (.ok f) s₃) (notedBy (model prog w) A env fun e s' => R (.error e) s') { s with heap := h, toks := tk }) :
    codeAny (model prog w) A (.forLoop (.Tuple elts x1 pt) (.ref d) body orelse env) R s := by
  have hsz : (rowVals rs).toArray.size = rs.length := by simp [rowVals]
  refine forWalk_of (Walks.list hh d rw_ (Nat.ne_of_lt (hlt _ l₀)) (rowVals rs).toArray) [(rw_, W.listOf (rowVals rs).toArray nr)] J ?_ ?_ ?_ F₀ N₀ ⟨⟨_, N₀.get (.head _), rfl, rfl⟩, ⟨_, N₀.get (.tail _ l₀), rfl, _, rfl⟩⟩ (OwnOff.one fun p hp => Nat.ne_of_lt (hlt p hp)) ?_ J₀ ?_ ?_
  · intro b hb
    rcases List.mem_cons.mp hb with rfl | hb
    · exact .inl rfl
    · rw [List.mem_singleton.mp hb]; exact .inr ⟨_, .head _⟩
  · rintro i h ⟨⟨o, ho, _⟩, _⟩
    exact ⟨o, ho⟩
  · intro i v s Q E st hv hQ
    have : ∃ r : RowI, v = .ref r.a := by
      simp [rowVals] at hv
      obtain ⟨r, _, rfl⟩ := hv
      exact ⟨r, rfl⟩
    obtain ⟨r, rfl⟩ := this
    exact wpAny_letOwnedTupleGo_listiter st.1 hQ
  · intro p hp
    rw [List.mem_singleton.mp hp]
    exact l₀
  · intro i v h tk m r oI hi hv hJ hl F N O
    rw [hsz] at hi
    have hv2 : v = .ref rs[i].a := by
      have : (rowVals rs).toArray[i]? = some (.ref rs[i].a) := by simp [rowVals, hi]
      exact Option.some.inj (hv.symm.trans this)
    subst hv2
    exact turn i hi h tk m r oI hJ (hl _ (.head _)) F N O
  · rw [hsz]
    exact fin
/-- a pair taken apart into two local names -/
theorem assign_pair {prog : Program} {w : World} {A : Around} {E : Value → Shared → Prop} {s : Shared} {env : Env} {h₀ : Heap} {L t : Addr} {m : Str → Option Value} {news : List (Addr × Obj)} {x y : Str} {px py pt : Pos} {x1 n : Nat} {u v : Value} {Q : Unit → Shared → Prop}
    (hh : A.handled = none) (hL : env.locals = L) (hx : env.kindOf x = some .local) (hy : env.kindOf y = some .local) (hp : (env.scope.kind == .class || (env.scope.kind == .module && env.locals != env.globals)) = false)
    (F : Fr h₀ L s.heap m) (N : News h₀ L s.heap news) (ht : (t, ({ cls := .type "tuple", data := .seq #[u, v] n } : Obj)) ∈ news)
    (h : ∀ h' tk, Fr h₀ L h' (fun z => if z = y then some v else if z = x then some u else m z) → News h₀ L h' news → Q () { s with heap := h', toks := tk }) :
    wpAny (model prog w) A (assign (.Tuple [.Name x px, .Name y py] x1 pt) env (.ref t)) Q E s := by
  subst hL
  have hT : s.heap.IsTuple t #[u, v] := ⟨_, N.get ht, rfl, _, rfl⟩
  refine wpAny_assign_Tuple hh hT rfl rfl fun h₃ hx₃ => ?_
  have hLs : env.locals < s.heap.objs.size := F.ns.lt
  have old₃ : ∀ b o, s.heap.get? b = some o → h₃.get? b = some o := fun b o e => hx₃ b o (Nat.ne_of_lt (Heap.lt_size e)) e
  have F₃ : Fr h₀ env.locals h₃ m := grow_Fr F old₃
  have N₃ : News h₀ env.locals h₃ news := fun p hp => ⟨old₃ _ _ (N p hp).1, (N p hp).2⟩
  show wpAny _ A (do holding [v] (assign (.Name x px) env u); do holding [] (assign (.Name y py) env v); pure ()) _ _ _
  refine wpAny_bind (wpAny_holding (wpAny_assign_Name (wpAny_storeName_local hx F₃.ns (fun h₄ hn₄ hs₄ => ?_) hp)))
  refine wpAny_bind (wpAny_holding (wpAny_assign_Name (wpAny_storeName_local hy hn₄ (fun h₅ hn₅ hs₅ => wpAny_pure ?_) hp)))
  exact h h₅ _ ((F₃.set hn₄ hs₄).set hn₅ hs₅) ((N₃.set hs₄).set hs₅)

end
section
/-- names and numbers -/
noncomputable abbrev rowC (rs : List RowI) : List (Str × Int) := rs.map fun r => (r.nm, r.c)
local macro_rules | `(tactic| walk_at "exec For") => `(tactic| (k_here; k_dflt (refine wpAny_For ?_)))
noncomputable abbrev nmVals (rs : List RowI) : List Value := rs.map fun q => Value.str q.nm q.tn
noncomputable def headNm : List RowI → Str
  | [] => Str.ofString ""
  | r :: _ => r.nm
theorem Calls.mono {prog : Program} {w : World} {f : Value} {pos : List Value} {kw : List (Str × Value)} {D U : Nat} {news : List (Addr × Obj)} {post post' : Value → List (Addr × Obj) → Prop} (h : ∀ v n, post v n → post' v n) (c : Calls prog w f pos kw D U news post) : Calls prog w f pos kw D U news post' := by
  intro dp un gd cn cs a ccd cl outer A₀ base h₀ L m s Rk pp loose mean mg mb B F X N T hk hd hu hret
  exact c dp un gd cn cs a ccd cl outer A₀ base h₀ L m s Rk pp loose mean mg mb B F X N T hk hd hu fun v n h' tk' hp => hret v n h' tk' (h v n hp)
theorem c_get_line (prog : Program) (w : World) (text : Str) (P : LexP) (rest : List (Addr × Obj)) (ln : Int) (p : Nat) (tkl tkp : Tok) (ne : Nat) (O : LexOrd P)
    (R : ReadOk prog w text P.f P.c P.pl P.cp P.ct P.fo P.oc P.ocp P.oct) (h1 : OwnOff rest [P.l, P.d, P.pl]) (ht : text.length ≤ 100000) (hend : text.cps.toList.drop p = []) (todo : List RowI) (hlen : todo.length ≤ 100) :
    Calls prog w (.ref 69) [.ref P.x] [] 10 50 (LexLed w P ln tkl p tkp (nmVals todo).toArray ne ++ rest) (fun v n' => ∃ (ln' : Int) (tkl' : Tok) (p' : Nat) (tkp' : Tok) (ne' : Nat) (tk : Tok),
      v = .str (headNm todo) tk ∧ text.cps.toList.drop p' = [] ∧ n' = LexLed w P ln' tkl' p' tkp' (nmVals todo.tail).toArray ne' ++ rest) := by
  cases todo with
  | nil =>
    refine Calls.mono ?_ (c_get_token prog w text P rest ln p tkl tkp ne O R h1 ht [] [] [] [] [] 1 (by simp) (by simp) hend (.inr (.inr ⟨rfl, rfl, rfl, rfl⟩)))
    rintro v n ⟨tkl', tkp', tk, rfl, rfl⟩
    refine ⟨_, _, _, _, _, tk, congrArg (fun z => Value.str z tk) no_is.symm, ?_, rfl⟩
    rw [List.drop_eq_nil_iff] at hend ⊢
    omega
  | cons r todo =>
    refine Calls.mono ?_ (c_get_pushed prog w P rest ln p tkl tkp (.str r.nm r.tn) (nmVals todo) ne O (by simpa using Nat.le_of_succ_le hlen) h1)
    rintro v n ⟨ne', rfl, rfl⟩
    exact ⟨_, _, _, _, _, _, rfl, hend, rfl⟩
noncomputable abbrev lexX (P : LexP) : Addr × Obj := (P.x, instObj 79 P.d)
noncomputable abbrev lexD (w : World) (P : LexP) (ln : Int) (tkl : Tok) : Addr × Obj := (P.d, lexDict w P ln tkl)
noncomputable abbrev LexR (w : World) (P : LexP) (p : Int) (tkp : Tok) (pb : Array Value) (ne : Nat) : List (Addr × Obj) :=
  [(P.l, W.listOf pb ne), (P.l1, W.listOf #[] 0), (P.x1, instObj 79 P.d1), (P.d1, lexDict1 w P), (P.f, P.fo), (P.c, P.oc), (P.pl, W.listOf #[.int p tkp] 0), (P.cp, P.ocp), (P.ct, P.oct)]
theorem mix_in {α : Type} {l x d : α} {R1 pre rest : List α} : ∀ q ∈ (l :: x :: d :: R1) ++ (pre ++ rest), q ∈ pre ++ (x :: d :: ((l :: R1) ++ rest)) := by
  intro q hq
  simp only [List.cons_append, List.mem_cons, List.mem_append] at hq ⊢
  rcases hq with h | h | h | h | h | h
  · exact .inr (.inr (.inr (.inl h)))
  · exact .inr (.inl h)
  · exact .inr (.inr (.inl h))
  · exact .inr (.inr (.inr (.inr (.inl h))))
  · exact .inl h
  · exact .inr (.inr (.inr (.inr (.inr h))))
theorem mix_out {α : Type} {l x d : α} {R1 pre rest : List α} : ∀ q ∈ pre ++ (x :: d :: ((l :: R1) ++ rest)), q ∈ (l :: x :: d :: R1) ++ (pre ++ rest) := by
  intro q hq
  simp only [List.cons_append, List.mem_cons, List.mem_append] at hq ⊢
  rcases hq with h | h | h | h | h | h
  · exact .inr (.inr (.inr (.inr (.inl h))))
  · exact .inr (.inl h)
  · exact .inr (.inr (.inl h))
  · exact .inl h
  · exact .inr (.inr (.inr (.inl h)))
  · exact .inr (.inr (.inr (.inr (.inr h))))
theorem lex_in {w : World} {P : LexP} {ln p : Int} {tkl tkp : Tok} {pb : Array Value} {ne : Nat} {pre rest : List (Addr × Obj)} : ∀ q ∈ LexLed w P ln tkl p tkp pb ne ++ (pre ++ rest), q ∈ pre ++ (lexX P :: lexD w P ln tkl :: (LexR w P p tkp pb ne ++ rest)) := mix_in
theorem lex_out {w : World} {P : LexP} {ln p : Int} {tkl tkp : Tok} {pb : Array Value} {ne : Nat} {pre rest : List (Addr × Obj)} : ∀ q ∈ pre ++ (lexX P :: lexD w P ln tkl :: (LexR w P p tkp pb ne ++ rest)), q ∈ LexLed w P ln tkl p tkp pb ne ++ (pre ++ rest) := mix_out
/-- the lexer's ledger, unseen but for two entries, with what lies beside it -/
inductive LexT (w : World) (P : LexP) (text : Str) (vs : List Value) (rest T : List (Addr × Obj)) : Prop
  | mk (p : Nat) (tkp : Tok) (ne : Nat) : (text.cps.toList.drop p = []) → (T = LexR w P p tkp vs.toArray ne ++ rest) → LexT w P text vs rest T
theorem LexT.sub {w : World} {P : LexP} {text : Str} {vs : List Value} {rest T : List (Addr × Obj)} (h : LexT w P text vs rest T) : ∀ q ∈ rest, q ∈ T := by
  obtain ⟨_, _, _, _, rfl⟩ := h
  exact fun q hq => List.mem_append.mpr (.inr hq)
theorem LexT.adr {w : World} {P : LexP} {text : Str} {vs : List Value} {rest T : List (Addr × Obj)} (h : LexT w P text vs rest T) : T.map (·.1) = [P.l, P.l1, P.x1, P.d1, P.f, P.c, P.pl, P.cp, P.ct] ++ rest.map (·.1) := by
  obtain ⟨_, _, _, _, rfl⟩ := h
  rw [List.map_append]
  rfl
theorem LexT.own {w : World} {P : LexP} {text : Str} {vs vs' : List Value} {rest T T' : List (Addr × Obj)} (h : LexT w P text vs rest T) (h' : LexT w P text vs' rest T') {as : List Addr} (ho : OwnOff T as) : OwnOff T' as := by
  intro q hq b hb
  have h1 : q.1 ∈ T'.map (·.1) := List.mem_map.mpr ⟨q, hq, rfl⟩
  rw [h'.adr, ← h.adr] at h1
  obtain ⟨q', hq', e⟩ := List.mem_map.mp h1
  rw [← e]
  exact ho q' hq' b hb
theorem LexT.lt' {w : World} {P : LexP} {text : Str} {vs : List Value} {rest T : List (Addr × Obj)} {x : Addr} (h : LexT w P text vs rest T) (ha : ∀ p ∈ T, p.1 < x) : @LT.lt Nat _ P.l x := by
  obtain ⟨_, _, _, _, rfl⟩ := h
  exact ha _ (.head _)
theorem LexT.lt {w : World} {P : LexP} {text : Str} {vs : List Value} {rest T : List (Addr × Obj)} {x : Addr} (ha : AllLt x T) (h : LexT w P text vs rest T) : @LT.lt Nat _ P.l x := h.lt' (ktn_ltOf ha)
inductive Tl (x d : Addr × Obj) (T : List (Addr × Obj)) : List (Addr × Obj) → List (Addr × Obj) → Prop
  | nil : Tl x d T [] (x :: d :: T)
  | cons {q pre news} : Tl x d T pre news → Tl x d T (q :: pre) (q :: news)
theorem Tl.eq {x d : Addr × Obj} {T pre news : List (Addr × Obj)} (h : Tl x d T pre news) : news = pre ++ (x :: d :: T) := by
  induction h with
  | nil => rfl
  | cons _ ih => rw [ih]; rfl
inductive OffP (P : LexP) : List (Addr × Obj) → Prop
  | nil : OffP P []
  | cons {q pre} : @LT.lt Nat _ P.l q.1 → OffP P pre → OffP P (q :: pre)
theorem OffP.own {P : LexP} {pre : List (Addr × Obj)} (O : LexOrd P) (h : OffP P pre) : OwnOff pre [P.l, P.d, P.pl] := by
  obtain ⟨h1', h2', h3', h4', h5', h6', h7', h8', h9', h10'⟩ := O
  induction h with
  | nil => intro q hq; cases hq
  | @cons q pre hq _ ih =>
    intro q' hq' b hb
    rcases List.mem_cons.mp hq' with rfl | hq'
    · simp only [List.mem_cons, List.not_mem_nil, or_false] at hb
      intro e
      have e' : @Eq Nat q'.1 b := e
      rcases hb with rfl | rfl | rfl <;> omega
    · exact ih q' hq' b hb
theorem OwnOff.app {a b : List (Addr × Obj)} {as : List Addr} (h : OwnOff a as) (k : OwnOff b as) : OwnOff (a ++ b) as := by
  intro q hq
  rcases List.mem_append.mp hq with hq | hq
  · exact h q hq
  · exact k q hq
theorem pt_use {prog : Program} {w : World} {P : LexP} {text : Str} {dp un : Nat} {gd : Option (List Code)} {cn : Str} {cs : Scope} {a : Addr} {ccd : Value} {cl : List (Str × Addr)} {outer : List Env} {A₀ : Around} {base h₀ : Heap} {L : Addr} {m : Str → Option Value} {s : Shared} {Rk : Result → Shared → Prop}
    {pp : Program} {loose : List Str} {mean : ExcName → Option Value} {mg mb : Str → Option Value} {news pre rest T9 : List (Addr × Obj)} {vs : List Value} {tok : Str} {tt : Tok} {ln : Int} {tkl : Tok}
    (O : LexOrd P) (B : Below A₀ base outer h₀) (F : Fr h₀ L s.heap m) (X : (Mine.hd.heap_39 w.params).In h₀) (N : News h₀ L s.heap news) (T : Top pp loose mean mg mb h₀) (hk : cs.kind = .function)
    (u : Tl (lexX P) (lexD w P ln tkl) T9 pre news) (hT : LexT w P text vs rest T9) (hv : vs.length ≤ 100) (hp : OffP P pre) (h1 : OwnOff rest [P.l, P.d, P.pl])
    (hd : dp + 10 < recursionLimit) (hu : un + 50 < cLine)
    (h : ∀ v h' tks T', LexT w P text (vs ++ [Value.str tok tt]) rest T' → (∀ as, OwnOff T9 as → OwnOff T' as) → Fr h₀ L h' m → News h₀ L h' (pre ++ (lexX P :: lexD w P ln tkl :: T')) → Rk (.ok (.ret v)) { s with heap := h', toks := tks }) :
    codeAny (model prog w) (ktrTop dp un gd cn cs L a ccd cl outer) (.call (.ref 76) ⟨[.ref P.x, .str tok tt], []⟩) Rk s := by
  have hT0 := hT
  obtain ⟨p, tkp, ne, hdp, rfl⟩ := hT
  rw [u.eq] at N
  refine c_push_token prog w P (pre ++ rest) ln p tkl tkp vs ne O tok tt hv (OwnOff.app (hp.own O) h1) dp un gd cn cs a ccd cl outer A₀ base h₀ L m s Rk pp loose mean mg mb B F X (News.perm lex_in N) T hk hd hu ?_
  rintro v news' h' tk' ⟨ne', rfl⟩ F' N'
  have hT1 : LexT w P text (vs ++ [Value.str tok tt]) rest (LexR w P p tkp (vs ++ [Value.str tok tt]).toArray ne' ++ rest) := ⟨p, tkp, ne', hdp, rfl⟩
  exact h v h' tk' _ hT1 (fun as => LexT.own hT0 hT1) F' (News.perm lex_out N')
theorem gl_use {prog : Program} {w : World} {P : LexP} {text : Str} {dp un : Nat} {gd : Option (List Code)} {cn : Str} {cs : Scope} {a : Addr} {ccd : Value} {cl : List (Str × Addr)} {outer : List Env} {A₀ : Around} {base h₀ : Heap} {L : Addr} {m : Str → Option Value} {s : Shared} {Rk : Result → Shared → Prop}
    {pp : Program} {loose : List Str} {mean : ExcName → Option Value} {mg mb : Str → Option Value} {news pre rest T9 : List (Addr × Obj)} {todo : List RowI} {ln : Int} {tkl : Tok}
    (O : LexOrd P) (R : ReadOk prog w text P.f P.c P.pl P.cp P.ct P.fo P.oc P.ocp P.oct) (ht : text.length ≤ 100000) (B : Below A₀ base outer h₀) (F : Fr h₀ L s.heap m) (X : (Mine.hd.heap_39 w.params).In h₀) (N : News h₀ L s.heap news) (T : Top pp loose mean mg mb h₀) (hk : cs.kind = .function)
    (u : Tl (lexX P) (lexD w P ln tkl) T9 pre news) (hT : LexT w P text (nmVals todo) rest T9) (hv : todo.length ≤ 100) (hp : OffP P pre) (h1 : OwnOff rest [P.l, P.d, P.pl])
    (hd : dp + 10 < recursionLimit) (hu : un + 50 < cLine)
    (h : ∀ tk h' tks T' ln' tkl', LexT w P text (nmVals todo.tail) rest T' → (∀ as, OwnOff T9 as → OwnOff T' as) → Fr h₀ L h' m → News h₀ L h' (pre ++ (lexX P :: lexD w P ln' tkl' :: T')) → Rk (.ok (.ret (.str (headNm todo) tk))) { s with heap := h', toks := tks }) :
    codeAny (model prog w) (ktrTop dp un gd cn cs L a ccd cl outer) (.call (.ref 69) ⟨[.ref P.x], []⟩) Rk s := by
  have hT0 := hT
  obtain ⟨p, tkp, ne, hdp, rfl⟩ := hT
  rw [u.eq] at N
  refine c_get_line prog w text P (pre ++ rest) ln p tkl tkp ne O R (OwnOff.app (hp.own O) h1) ht hdp todo hv dp un gd cn cs a ccd cl outer A₀ base h₀ L m s Rk pp loose mean mg mb B F X (News.perm lex_in N) T hk hd hu ?_
  rintro v news' h' tk' ⟨ln', tkl', p', tkp', ne', tk, rfl, hp', rfl⟩ F' N'
  have hT1 : LexT w P text (nmVals todo.tail) rest (LexR w P p' tkp' (nmVals todo.tail).toArray ne' ++ rest) := ⟨p', tkp', ne', hp', rfl⟩
  exact h tk h' tk' _ ln' tkl' hT1 (fun as => LexT.own hT0 hT1) F' (News.perm lex_out N')
theorem kdpPut_new {c : List (Str × Int)} {k : Str} {v : Int} (h : kdpHas c k = false) : kdpPut c k v = c ++ [(k, v)] := by
  unfold kdpHas at h
  unfold kdpPut
  rw [h, if_neg (by simp)]
theorem has_off {ps : List (Str × Int)} {k : Str} (h : k ∉ ps.map (·.1)) : kdpHas ps k = false := by
  unfold kdpHas
  rw [List.any_eq_false]
  intro q hq
  simp only [decide_eq_true_eq]
  intro e
  exact h (List.mem_map.mpr ⟨q, hq, e⟩)
theorem has_on {ps : List (Str × Int)} {k : Str} (h : k ∈ ps.map (·.1)) : kdpHas ps k = true := by
  obtain ⟨q, hq, e⟩ := List.mem_map.mp h
  unfold kdpHas
  rw [List.any_eq_true]
  exact ⟨q, hq, by simp [e]⟩
theorem rowC_fst (rs : List RowI) : (rowC rs).map (·.1) = rs.map (·.nm) := by
  unfold rowC
  rw [List.map_map]
  rfl
theorem look_row {rs : List RowI} {f : RowI → Int} (hn : (rs.map (·.nm)).Nodup) {r : RowI} (hr : r ∈ rs) : kdpLook (rs.map fun r => (r.nm, f r)) r.nm 0 = f r := by
  induction rs with
  | nil => cases hr
  | cons a rs ih =>
    rw [List.map_cons, List.nodup_cons] at hn
    unfold kdpLook
    rw [List.map_cons, List.find?_cons]
    rcases List.mem_cons.mp hr with rfl | hr
    · simp
    · have hne : a.nm ≠ r.nm := fun e => hn.1 (e ▸ List.mem_map.mpr ⟨r, hr, rfl⟩)
      simp only [hne, decide_false]
      exact ih hn.2 hr
theorem tot_row (f : RowI → Int) : ∀ rs : List RowI, kduTot (kdpD (rs.map fun r => (r.nm, f r))) = (rs.map f).sum
  | [] => rfl
  | r :: rs => by
    show f r + kduTot (kdpD (rs.map fun r => (r.nm, f r))) = (f r :: rs.map f).sum
    rw [tot_row f rs, List.sum_cons]
theorem two_maps : ∀ {ps qs : List (Str × Int)}, ps.map (·.1) = qs.map (·.1) → ps.map (·.2) = qs.map (·.2) → ps = qs
  | [], [], _, _ => rfl
  | [], _ :: _, h, _ => by cases h
  | _ :: _, [], h, _ => by cases h
  | (a, b) :: ps, (c, d) :: qs, h, k => by
    simp only [List.map_cons, List.cons.injEq] at h k
    rw [two_maps h.2 k.2, h.1, k.1]
inductive LineJ (prog : Program) (w : World) (text : Str) (P : LexP) (cd : Addr) (co : Obj) (rs : List RowI) (rest : List (Addr × Obj)) (s0 : LSt) (pd : Addr) (g : Heap) (L : Addr) (s : Shared) (n : Nat) (s' : Shared) : Prop
  | mk (ps : List (Str × Int)) (todo : List RowI) (st : LSt) (T : List (Addr × Obj)) (ln : Int) (tkl : Tok) (po : Obj) (kvs : List (Str × Value)) (t1 t2 t3 t4 t5 t6 : Tok) (h : Heap) (tk : Nat) (m : Str → Option Value) : (s' = { s with heap := h, toks := tk }) → (n = todo.length) → ((∃ done, rs = done ++ todo ∧ ps.map (·.1) = done.map (·.nm))) → (lineRun s0 (rs.map (·.c)) = ps.map (·.2) ++ lineRun st (todo.map (·.c))) → (((st.manner = 0 → st.waiting = todo.length) ∧ 0 ≤ st.manner ∧ st.manner ≤ 2)) → ((LexT w P text (nmVals todo.tail) rest T ∧ OwnOff T [pd])) → (po.IsDictOf (PySem.strKind prog w) kvs) → (PyProof.V.FlatPairs PyData.str kvs (kdpD ps)) → (Fr g L h m) → (News g L h ((pd, po) :: (cd, co) :: lexX P :: lexD w P ln tkl :: T)) → (m (Str.ofString "lexer") = some (.ref P.x)) → (m (Str.ofString "claims") = some (.ref cd)) → (m (Str.ofString "left") = some (.int st.left t1)) → (m (Str.ofString "lack") = some (.int st.lack t2)) → (m (Str.ofString "waiting") = some (.int st.waiting t3)) → (m (Str.ofString "manner") = some (.int st.manner t4)) → (m (Str.ofString "part") = some (.int st.part t5)) → (m (Str.ofString "paid") = some (.ref pd)) → (m (Str.ofString "taken") = some (.str (headNm todo) t6)) → LineJ prog w text P cd co rs rest s0 pd g L s n s'
theorem line_next {prog : Program} {w : World} {text : Str} {P : LexP} {cd : Addr} {co : Obj} {rs : List RowI} {rest T : List (Addr × Obj)} {s0 : LSt} {pd : Addr} {g : Heap} {L : Addr} {s : Shared} {r : RowI} {todo : List RowI} {ps : List (Str × Int)} {done : List RowI} {st : LSt} (st' : LSt) {v : Int}
    {ln : Int} {tkl : Tok} {po : Obj} {kvs : List (Str × Value)} {t1 t2 t3 t4 t5 t6 : Tok} {h : Heap} {tk : Nat} {m : Str → Option Value}
    (hn : (rs.map (·.nm)).Nodup) (e1 : rs = done ++ r :: todo) (e2 : ps.map (·.1) = done.map (·.nm)) (e3 : lineRun s0 (rs.map (·.c)) = ps.map (·.2) ++ lineRun st ((r :: todo).map (·.c))) {c : Int} (hc : c = r.c) (hs : lineStep c st = (st', v)) (hw : (st'.manner = 0 → st'.waiting = todo.length) ∧ 0 ≤ st'.manner ∧ st'.manner ≤ 2)
    (hT : LexT w P text (nmVals todo.tail) rest T) (hof : OwnOff T [pd])
    (hd : po.IsDictOf (PySem.strKind prog w) kvs) (hf : PyProof.V.FlatPairs PyData.str kvs (kdpD (kdpPut ps r.nm v))) (F : Fr g L h m) (N : News g L h ((pd, po) :: (cd, co) :: lexX P :: lexD w P ln tkl :: T))
    (m1 : m (Str.ofString "lexer") = some (.ref P.x)) (m2 : m (Str.ofString "claims") = some (.ref cd)) (m3 : m (Str.ofString "left") = some (.int st'.left t1)) (m4 : m (Str.ofString "lack") = some (.int st'.lack t2)) (m5 : m (Str.ofString "waiting") = some (.int st'.waiting t3))
    (m6 : m (Str.ofString "manner") = some (.int st'.manner t4)) (m7 : m (Str.ofString "part") = some (.int st'.part t5)) (m8 : m (Str.ofString "paid") = some (.ref pd)) (m9 : m (Str.ofString "taken") = some (.str (headNm todo) t6)) :
    Again (LineJ prog w text P cd co rs rest s0 pd g L s) (r :: todo).length { s with heap := h, toks := tk } := by
  subst hc
  have hoff : kdpHas ps r.nm = false := by
    refine has_off ?_
    rw [e2]
    rw [e1, List.map_append, List.map_cons] at hn
    intro hx
    exact (List.nodup_append.mp hn).2.2 _ hx _ (.head _) rfl
  rw [kdpPut_new hoff] at hf
  refine ⟨todo.length, Nat.lt_succ_self _, ps ++ [(r.nm, v)], todo, st', T, ln, tkl, po, kvs, t1, t2, t3, t4, t5, t6, h, tk, m, rfl, rfl, ⟨done ++ [r], by rw [e1]; simp, by rw [List.map_append, List.map_append, e2]; rfl⟩, ?_, hw, ⟨hT, hof⟩, hd, hf, F, N, m1, m2, m3, m4, m5, m6, m7, m8, m9⟩
  rw [e3, List.map_append, List.append_assoc]
  show _ = _ ++ (v :: lineRun st' (todo.map (·.c)))
  show _ ++ ((lineStep r.c st).2 :: lineRun (lineStep r.c st).1 (todo.map (·.c))) = _
  rw [hs]
/-- the first half of a step: which manner, which part -/
noncomputable def lineMid (c : Int) (s : LSt) : LSt := if s.manner = 0 ∧ s.left ≤ s.waiting * Int.fdiv c 2 then { s with manner := 1, part := Int.fdiv s.left s.waiting }
    else if s.manner = 0 ∧ s.lack ≤ s.waiting * Int.fdiv c 2 then { s with manner := 2, part := Int.fdiv s.lack s.waiting } else s
theorem mid_step (c : Int) (s : LSt) : lineStep c s = if (lineMid c s).manner = 1 then (lineMid c s, (lineMid c s).part) else if (lineMid c s).manner = 2 then (lineMid c s, c - (lineMid c s).part)
    else ({ lineMid c s with left := (lineMid c s).left - Int.fdiv c 2, lack := (lineMid c s).lack - Int.fdiv c 2, waiting := (lineMid c s).waiting - 1 }, Int.fdiv c 2) := rfl
/-- what the first half leaves behind -/
inductive MidJ (P : LexP) (led : List (Addr × Obj)) (cd pd : Addr) (nm : Str) (hf : Int) (sl sk sw mn pt : Int) (t1 t2 t3 t6 : Tok) (g : Heap) (L : Addr) (s : Shared) (s' : Shared) : Prop
  | mk (h tk m t4 t5 t7) : (s' = { s with heap := h, toks := tk }) → (Fr g L h m) → (News g L h led) → (m (Str.ofString "lexer") = some (.ref P.x)) → (m (Str.ofString "claims") = some (.ref cd)) → (m (Str.ofString "left") = some (.int sl t1)) → (m (Str.ofString "lack") = some (.int sk t2)) → (m (Str.ofString "waiting") = some (.int sw t3)) → (m (Str.ofString "manner") = some (.int mn t4)) → (m (Str.ofString "part") = some (.int pt t5)) → (m (Str.ofString "paid") = some (.ref pd)) → (m (Str.ofString "taken") = some (.str nm t6)) → (m (Str.ofString "half") = some (.int hf t7)) → MidJ P led cd pd nm hf sl sk sw mn pt t1 t2 t3 t6 g L s s'
theorem exec_cutM {M : PySem.Model} {A : Around} {st : Stmt} {env : PySem.Env} {Q : Flow → Shared → Prop} {E : Value → Shared → Prop} {s : Shared} {g h : Heap} {L cd pd : Addr} {m : Str → Option Value} {led : List (Addr × Obj)} {hf : Int} {th : Tok} {tk : Nat} (F : Fr g L h m) (N : News g L h led)
    (hc : m (Str.ofString "claims") = some (.ref cd)) (hp : m (Str.ofString "paid") = some (.ref pd)) (hh : m (Str.ofString "half") = some (.int hf th)) (P : LexP) (nm : Str) (sl sk sw mn pt : Int) (t1 t2 t3 t6 : Tok)
    (h1 : wpAny M A (exec st env) (fun f s' => f = .next ∧ MidJ P led cd pd nm hf sl sk sw mn pt t1 t2 t3 t6 g L s s') E { s with heap := h, toks := tk }) (h2 : ∀ s', MidJ P led cd pd nm hf sl sk sw mn pt t1 t2 t3 t6 g L s s' → Q .next s') : wpAny M A (exec st env) Q E { s with heap := h, toks := tk } := by
  refine wpAny_mono h1 (fun f s' hq => ?_) fun _ _ e => e
  obtain ⟨rfl, hj⟩ := hq
  exact h2 s' hj
theorem mid_cases (c sl sk sw sm sp : Int) :
    (sm = 0 ∧ sl ≤ sw * Int.fdiv c 2 ∧ lineMid c ⟨sl, sk, sw, sm, sp⟩ = ⟨sl, sk, sw, 1, Int.fdiv sl sw⟩) ∨
    (sm = 0 ∧ ¬ sl ≤ sw * Int.fdiv c 2 ∧ sk ≤ sw * Int.fdiv c 2 ∧ lineMid c ⟨sl, sk, sw, sm, sp⟩ = ⟨sl, sk, sw, 2, Int.fdiv sk sw⟩) ∨
    (sm = 0 ∧ ¬ sl ≤ sw * Int.fdiv c 2 ∧ ¬ sk ≤ sw * Int.fdiv c 2 ∧ lineMid c ⟨sl, sk, sw, sm, sp⟩ = ⟨sl, sk, sw, 0, sp⟩) ∨
    (¬ sm = 0 ∧ lineMid c ⟨sl, sk, sw, sm, sp⟩ = ⟨sl, sk, sw, sm, sp⟩) := by
  by_cases h0 : sm = 0
  · subst h0
    by_cases h1 : sl ≤ sw * Int.fdiv c 2
    · exact .inl ⟨rfl, h1, by simp [lineMid, h1]⟩
    · by_cases h2 : sk ≤ sw * Int.fdiv c 2
      · exact .inr (.inl ⟨rfl, h1, h2, by simp [lineMid, h1, h2]⟩)
      · exact .inr (.inr (.inl ⟨rfl, h1, h2, by simp [lineMid, h1, h2]⟩))
  · exact .inr (.inr (.inr ⟨h0, by simp [lineMid, h0]⟩))
theorem mid_shape {c sl sk sw sm sp : Int} (h0 : 0 ≤ sm) (h2 : sm ≤ 2) : ∃ mm mp, lineMid c ⟨sl, sk, sw, sm, sp⟩ = ⟨sl, sk, sw, mm, mp⟩ ∧ (mm = 1 ∨ mm = 2 ∨ (mm = 0 ∧ sm = 0)) := by
  rcases mid_cases c sl sk sw sm sp with ⟨b0, b1, e⟩ | ⟨b0, b1, b2, e⟩ | ⟨b0, b1, b2, e⟩ | ⟨b0, e⟩
  · exact ⟨_, _, e, .inl rfl⟩
  · exact ⟨_, _, e, .inr (.inl rfl)⟩
  · exact ⟨_, _, e, .inr (.inr ⟨rfl, b0⟩)⟩
  · exact ⟨_, _, e, by omega⟩
theorem line_init {prog : Program} {w : World} {text : Str} {P : LexP} {cd : Addr} {co : Obj} {vd : Addr} {vo : Obj} {rs : List RowI} {rest T : List (Addr × Obj)} {s0 : LSt} {pd : Addr} {g : Heap} {L : Addr} {s : Shared}
    {ln : Int} {tkl : Tok} {po : Obj} {kvs : List (Str × Value)} {t1 t2 t3 t4 t5 t6 : Tok} {h : Heap} {tk : Nat} {m : Str → Option Value}
    (hw : s0.waiting = rs.length) (hm : 0 ≤ s0.manner ∧ s0.manner ≤ 2) (hT : LexT w P text (nmVals rs.tail) rest T) (hof : OwnOff T [pd])
    (hd : po.IsDictOf (PySem.strKind prog w) kvs) (hf : PyProof.V.FlatPairs PyData.str kvs []) (F : Fr g L h m) (N : News g L h ((pd, po) :: (vd, vo) :: (cd, co) :: lexX P :: lexD w P ln tkl :: T))
    (m1 : m (Str.ofString "lexer") = some (.ref P.x)) (m2 : m (Str.ofString "claims") = some (.ref cd)) (m3 : m (Str.ofString "left") = some (.int s0.left t1)) (m4 : m (Str.ofString "lack") = some (.int s0.lack t2)) (m5 : m (Str.ofString "waiting") = some (.int s0.waiting t3))
    (m6 : m (Str.ofString "manner") = some (.int s0.manner t4)) (m7 : m (Str.ofString "part") = some (.int s0.part t5)) (m8 : m (Str.ofString "paid") = some (.ref pd)) (m9 : m (Str.ofString "taken") = some (.str (headNm rs) t6)) :
    LineJ prog w text P cd co rs rest s0 pd g L s rs.length { s with heap := h, toks := tk } := by
  have hN : News g L h ((pd, po) :: (cd, co) :: lexX P :: lexD w P ln tkl :: T) := by
    refine N.perm ?_
    intro q hq
    simp only [List.mem_cons] at hq ⊢
    rcases hq with h | h | h
    · exact .inl h
    · exact .inr (.inr (.inl h))
    · exact .inr (.inr (.inr h))
  exact ⟨[], rs, s0, T, ln, tkl, po, kvs, t1, t2, t3, t4, t5, t6, h, tk, m, rfl, rfl, ⟨[], rfl, rfl⟩, rfl, ⟨fun _ => hw, hm⟩, ⟨hT, hof⟩, hd, hf, F, hN, m1, m2, m3, m4, m5, m6, m7, m8, m9⟩
inductive PushJ (prog : Program) (w : World) (P : LexP) (text : Str) (cd : Addr) (rs : List RowI) (rest : List (Addr × Obj)) (lx rw_ : Value) (est : Int) (te : Tok) (ln : Int) (tkl : Tok) (i : Nat) (m : Str → Option Value) (r : List (Addr × Obj)) : Prop
  | mk (co kvs T) : (co.IsDictOf (PySem.strKind prog w) kvs) → (PyProof.V.FlatPairs PyData.str kvs (kdpD (rowC (rs.take i)))) → (r = (cd, co) :: lexX P :: lexD w P ln tkl :: T) → (LexT w P text (nmVals (rs.take i)) rest T) → (OwnOff T [cd]) → (m (Str.ofString "lexer") = some lx) → (m (Str.ofString "row") = some rw_) → (m (Str.ofString "estate") = some (.int est te)) → (m (Str.ofString "claims") = some (.ref cd)) → PushJ prog w P text cd rs rest lx rw_ est te ln tkl i m r
theorem push_next {prog : Program} {w : World} {P : LexP} {text : Str} {cd rw_ d L : Addr} {rs : List RowI} {rest T : List (Addr × Obj)} {lx rv : Value} {est : Int} {te : Tok} {ln : Int} {tkl : Tok} {i nr : Nat} {g h : Heap} {s : Shared} {tk : Nat} {m : Str → Option Value} {oI co : Obj} {kvs : List (Str × Value)}
    (hi : i < rs.length) (hoff : rs[i].nm ∉ (rowC (rs.take i)).map (·.1)) (F : Fr g L h m) (N : News g L h ((d, oI) :: (cd, co) :: lexX P :: lexD w P ln tkl :: T)) (hT : LexT w P text (nmVals (rs.take i) ++ [Value.str rs[i].nm rs[i].tn]) rest T) (hof : OwnOff T [cd, d]) (hcd : cd ≠ d) (hxd : P.x ≠ d) (hdd : P.d ≠ d)
    (hd : co.IsDictOf (PySem.strKind prog w) kvs) (hf : PyProof.V.FlatPairs PyData.str kvs (kdpD (kdpPut (rowC (rs.take i)) rs[i].nm rs[i].c)))
    (m1 : m (Str.ofString "lexer") = some lx) (m2 : m (Str.ofString "row") = some rv) (m3 : m (Str.ofString "estate") = some (.int est te)) (m4 : m (Str.ofString "claims") = some (.ref cd))
    (hl : (rw_, W.listOf (rowVals rs).toArray nr) ∈ rest) :
    WalkEnd g L s d oI [(rw_, W.listOf (rowVals rs).toArray nr)] (PushJ prog w P text cd rs rest lx rv est te ln tkl (i + 1)) { s with heap := h, toks := tk } := by
  have htk : rs.take (i + 1) = rs.take i ++ [rs[i]] := by rw [List.take_add_one, List.getElem?_eq_getElem hi]; rfl
  rw [kdpPut_new (has_off hoff)] at hf
  refine ⟨h, tk, m, (cd, co) :: lexX P :: lexD w P ln tkl :: T, rfl, F, N, ?_, ?_, co, kvs, T, hd, ?_, rfl, ?_, ?_, m1, m2, m3, m4⟩
  · intro q hq b hb
    rw [List.mem_singleton.mp hb]
    rcases List.mem_cons.mp hq with rfl | hq
    · exact hcd
    rcases List.mem_cons.mp hq with rfl | hq
    · exact hxd
    rcases List.mem_cons.mp hq with rfl | hq
    · exact hdd
    · exact hof q hq d (.tail _ (.head _))
  · intro q hq
    rw [List.mem_singleton.mp hq]
    exact .tail _ (.tail _ (.tail _ (hT.sub _ hl)))
  · rw [htk]; show PyProof.V.FlatPairs PyData.str _ (kdpD (List.map _ _)); rw [List.map_append]; exact hf
  · rw [htk]; show LexT w P text (List.map _ _) rest T; rw [List.map_append]; exact hT
  · intro q hq b hb
    rw [List.mem_singleton.mp hb]
    exact hof q hq cd (.head _)
local macro_rules | `(tactic| walk_at "exec If") => `(tactic| (k_here; (with_reducible show wpAny _ _ (exec (PySem.Stmt.If (PySem.Expr.BoolOp _ _ _) _ _ _) _) _ _ _); refine Hold.go ?_))
local macro_rules | `(tactic| walk_at "call ref") => `(tactic| (k_here; k_dflt (refine wpAny_call ?_; refine stopO (by decide) ?_)))
set_option maxHeartbeats 4000000 in
theorem c_line (prog : Program) (w : World) (text : Str) (P : LexP) (rest : List (Addr × Obj)) (ln : Int) (p : Nat) (tkl tkp : Tok) (ne : Nat) (O : LexOrd P)
    (R : ReadOk prog w text P.f P.c P.pl P.cp P.ct P.fo P.oc P.ocp P.oct) (h1 : OwnOff rest [P.l, P.d, P.pl]) (ht : text.length ≤ 100000) (hend : text.cps.toList.drop p = [])
    (rw_ : Addr) (rs : List RowI) (nr : Nat) (hrw : (rw_, W.listOf (rowVals rs).toArray nr) ∈ rest) (hrs : ∀ r ∈ rs, (r.a, rowObj r) ∈ rest) (hlen : rs.length ≤ 100) (hcb : ∀ r ∈ rs, 0 ≤ r.c ∧ r.c ≤ 1000000) (hnm : (rs.map (·.nm)).Nodup) (hne : ∀ r ∈ rs, r.nm ≠ Str.ofString "") (est : Int) (te : Tok) :
    Calls prog w (.ref 177) [.ref P.x, .ref rw_, .int est te] [] 20 100 (LexLed w P ln tkl p tkp #[] ne ++ rest)
      (fun v n' => ∃ (pd : Addr) (po : Obj) (kvs : List (Str × Value)) (ps : List (Str × Int)), v = .ref pd ∧ n' = (pd, po) :: rest ∧ (pd == sysModules) = false ∧ po.IsDictOf (PySem.strKind prog w) kvs ∧ PyProof.V.FlatPairs PyData.str kvs (kdpD ps) ∧
        ps.map (·.1) = rs.map (·.nm) ∧ ps.map (·.2) = lineRun ⟨est, (rs.map (·.c)).sum - est, rs.length, 0, 0⟩ (rs.map (·.c))) := by
  intro dp un gd cn cs a ccd cl outer A₀ base h₀ L m s Rk pp loose mean mg mb B F X N T hk hd hu hret
  obtain ⟨T0, hT0⟩ : ∃ T, T = LexR w P p tkp #[] ne ++ rest := ⟨_, rfl⟩
  have N0 : News h₀ L s.heap (lexX P :: lexD w P ln tkl :: T0) := by rw [hT0]; exact News.perm (lex_out (pre := [])) N
  clear N
  have hT : LexT w P text [] rest T0 := ⟨p, tkp, ne, hend, hT0⟩
  clear hT0 hend
  have hrwT := hT.sub _ hrw
  k_dflt k_enter
  (k_steps; repeat' ((with_reducible show Hold _); (first | ((with_reducible show Hold (codeAny _ _ (Code.call (Value.ref 76) _) _ _)); k_dflt (refine Hold.of ?_; refine pt_use (by with_reducible assumption) (by k_asm) (by k_asm) (by k_asm) (by k_asm) (by k_asm) (by first | exact rfl | assumption) (by first | exact Tl.cons (Tl.cons Tl.nil) | exact Tl.cons (Tl.cons (Tl.cons Tl.nil))) (by with_reducible assumption) (by with_reducible assumption) (by (repeat' (first | exact OffP.nil | (refine' OffP.cons ?_ ?_) | assumption | exact LexT.lt (by assumption) (by assumption)))) (by with_reducible assumption) (by ktr_room) (by ktr_units) ?_; intro v9u h'u tk'u T9u hT9u hp9u F'u N'u; have ho9 := hp9u _ (by with_reducible assumption); (try simp only [List.cons_append, List.nil_append] at N'u); (try dsimp only))) | ((with_reducible show Hold (codeAny _ _ (Code.call (Value.ref 69) _) _ _)); k_dflt (refine Hold.of ?_; refine gl_use (by with_reducible assumption) (by with_reducible assumption) (by with_reducible assumption) (by k_asm) (by k_asm) (by k_asm) (by k_asm) (by k_asm) (by first | exact rfl | assumption) (by first | exact Tl.cons (Tl.cons Tl.nil) | exact Tl.cons (Tl.cons (Tl.cons Tl.nil))) (by with_reducible assumption) (by with_reducible assumption) (by (repeat' (first | exact OffP.nil | (refine' OffP.cons ?_ ?_) | assumption | exact LexT.lt (by assumption) (by assumption)))) (by with_reducible assumption) (by ktr_room) (by ktr_units) ?_; intro tk9u h'u tk'u T9u ln9u tkl9u hT9u hp9u F'u N'u; have ho9 := hp9u _ (by with_reducible assumption); (try simp only [List.cons_append, List.nil_append] at N'u); (try dsimp only))) | ((with_reducible show Hold (codeAny _ _ (Code.call (Value.ref 90) _) _ _)); k_dflt (refine Hold.of ?_; refine le_use (by first | exact decide_eq_true (by assumption) | exact decide_eq_false (by assumption)) (by k_asm) (by k_asm) (by k_asm) (by k_asm) (by k_asm) (by first | exact rfl | assumption) (by ktr_room) (by ktr_units) ?_; intro h'u tk'u F'u N'u; (try dsimp only))) | (k_dflt (refine Hold.of ?_; refine int_use (by first | exact c_sub _ _ _ _ _ _ | exact c_floordiv _ _ _ _ _ _ (by first | decide | assumption) (by first | decide | assumption) (by first | decide | assumption) | exact c_mul _ _ _ _ _ _ (by assumption) (by assumption)) (by k_asm) (by k_asm) (by k_asm) (by k_asm) (by k_asm) (by first | exact rfl | assumption) (by ktr_room) (by ktr_units) ?_; intro t9u h'u tk'u F'u N'u; (try dsimp only)))); k_steps))
  rename AllLt _ T0 => lD
  rename Obj.IsDictOf (PySem.strKind prog w) _ [] => hd5
  rename PyProof.V.FlatPairs PyData.str [] [] => hf5
  rename Fr _ _ _ _ => F5
  rename News _ _ _ _ => N5
  have hcdP := LexT.lt lD hT
  refine list_iter_my F5 N5 (.tail _ (.tail _ (.tail _ hrwT))) ?_
  intro d h5 hd5' hlt5 F6 N6
  have hdP := hT.lt' fun p hp => hlt5 p (.tail _ (.tail _ (.tail _ hp)))
  refine forRow_of rfl (PushJ prog w P text _ rs rest (.ref P.x) (.ref rw_) est te ln tkl) F6 N6 hlt5 (.tail _ (.tail _ (.tail _ hrwT))) ⟨_, _, T0, hd5, hf5, rfl, hT, OwnOff.one (allLt_ne0 lD), rfl, rfl, rfl, rfl⟩ ?zturn ?zfin
  case zturn =>
    rintro i hi h9 tk9 m9 r9 oI9 ⟨co9, kvs9, T9, hd9, hf9, rfl, hT9, hcT9, hm1, hm2, hm3, hm4⟩ hl9 F9 N9 O9
    clear hd5 hf5 N5 N6 F5 F6 hlt5 hd5' hrwT lD hT
    have hmem := hT9.sub _ (hrs _ (List.getElem_mem hi))
    have hvl : (nmVals (rs.take i)).length ≤ 100 := by simp; omega
    have hnx : rs[i].nm ∉ (rowC (rs.take i)).map (·.1) := by
      rw [rowC_fst]
      have hx := hnm
      rw [← List.take_append_drop i rs, List.map_append] at hx
      rw [List.drop_eq_getElem_cons hi, List.map_cons] at hx
      intro hx2
      exact (List.nodup_append.mp hx).2.2 _ hx2 _ (.head _) rfl
    have hcl : (rowC (rs.take i)).length ≤ 100 := by simp [rowC]; omega
    have hcne := O9 _ (.head _) d (.head _)
    have hdne := Ne.symm hcne
    have hxd := O9 _ (.tail _ (.head _)) d (.head _)
    have hdd := O9 _ (.tail _ (.tail _ (.head _))) d (.head _)
    dsimp only at hcne hdne hxd hdd
    have hof9 := OwnOff.more (fun p hp => hcT9 p hp _ (.head _)) (OwnOff.one fun p hp => O9 p (.tail _ (.tail _ (.tail _ hp))) d (.head _))
    clear hcT9 O9
    refine assign_pair rfl rfl rfl rfl rfl F9 N9 (.tail _ (.tail _ (.tail _ (.tail _ hmem)))) ?_
    intro h10 tk10 F10 N10
    (k_steps; repeat' ((with_reducible show Hold _); (first | ((with_reducible show Hold (codeAny _ _ (Code.call (Value.ref 76) _) _ _)); k_dflt (refine Hold.of ?_; refine pt_use (by with_reducible assumption) (by k_asm) (by k_asm) (by k_asm) (by k_asm) (by k_asm) (by first | exact rfl | assumption) (by first | exact Tl.cons (Tl.cons Tl.nil) | exact Tl.cons (Tl.cons (Tl.cons Tl.nil))) (by with_reducible assumption) (by with_reducible assumption) (by (repeat' (first | exact OffP.nil | (refine' OffP.cons ?_ ?_) | assumption | exact LexT.lt (by assumption) (by assumption)))) (by with_reducible assumption) (by ktr_room) (by ktr_units) ?_; intro v9u h'u tk'u T9u hT9u hp9u F'u N'u; have ho9 := hp9u _ (by with_reducible assumption); (try simp only [List.cons_append, List.nil_append] at N'u); (try dsimp only))) | ((with_reducible show Hold (codeAny _ _ (Code.call (Value.ref 69) _) _ _)); k_dflt (refine Hold.of ?_; refine gl_use (by with_reducible assumption) (by with_reducible assumption) (by with_reducible assumption) (by k_asm) (by k_asm) (by k_asm) (by k_asm) (by k_asm) (by first | exact rfl | assumption) (by first | exact Tl.cons (Tl.cons Tl.nil) | exact Tl.cons (Tl.cons (Tl.cons Tl.nil))) (by with_reducible assumption) (by with_reducible assumption) (by (repeat' (first | exact OffP.nil | (refine' OffP.cons ?_ ?_) | assumption | exact LexT.lt (by assumption) (by assumption)))) (by with_reducible assumption) (by ktr_room) (by ktr_units) ?_; intro tk9u h'u tk'u T9u ln9u tkl9u hT9u hp9u F'u N'u; have ho9 := hp9u _ (by with_reducible assumption); (try simp only [List.cons_append, List.nil_append] at N'u); (try dsimp only))) | ((with_reducible show Hold (codeAny _ _ (Code.call (Value.ref 90) _) _ _)); k_dflt (refine Hold.of ?_; refine le_use (by first | exact decide_eq_true (by assumption) | exact decide_eq_false (by assumption)) (by k_asm) (by k_asm) (by k_asm) (by k_asm) (by k_asm) (by first | exact rfl | assumption) (by ktr_room) (by ktr_units) ?_; intro h'u tk'u F'u N'u; (try dsimp only))) | (k_dflt (refine Hold.of ?_; refine int_use (by first | exact c_sub _ _ _ _ _ _ | exact c_floordiv _ _ _ _ _ _ (by first | decide | assumption) (by first | decide | assumption) (by first | decide | assumption) | exact c_mul _ _ _ _ _ _ (by assumption) (by assumption)) (by k_asm) (by k_asm) (by k_asm) (by k_asm) (by k_asm) (by first | exact rfl | assumption) (by ktr_room) (by ktr_units) ?_; intro t9u h'u tk'u F'u N'u; (try dsimp only)))); k_steps))
    rename Fr _ _ _ _ => F7
    rename News _ _ _ _ => N7
    exact push_next hi hnx F7 N7 (by assumption) (by assumption) hcne hxd hdd (by assumption) (by assumption) hm1 hm2 hm3 hm4 hrw
  case zfin =>
    rintro h9 tk9 m9 r9 ⟨co9, kvs9, T9, hd9, hf9, rfl, hT9, hcT9, hm1, hm2, hm3, hm4⟩ F9 N9
    clear hd5 hf5 N5 N6 F5 F6 hlt5 hd5' hrwT lD hT
    have hz9 : (rowVals rs).toArray.size = rs.length := by simp [rowVals]
    rw [List.take_of_length_le (Nat.le_refl _)] at hf9 hT9
    have hrwT9 := hT9.sub _ hrw
    (k_steps; repeat' ((with_reducible show Hold _); (first | ((with_reducible show Hold (codeAny _ _ (Code.call (Value.ref 76) _) _ _)); k_dflt (refine Hold.of ?_; refine pt_use (by with_reducible assumption) (by k_asm) (by k_asm) (by k_asm) (by k_asm) (by k_asm) (by first | exact rfl | assumption) (by first | exact Tl.cons (Tl.cons Tl.nil) | exact Tl.cons (Tl.cons (Tl.cons Tl.nil))) (by with_reducible assumption) (by with_reducible assumption) (by (repeat' (first | exact OffP.nil | (refine' OffP.cons ?_ ?_) | assumption | exact LexT.lt (by assumption) (by assumption)))) (by with_reducible assumption) (by ktr_room) (by ktr_units) ?_; intro v9u h'u tk'u T9u hT9u hp9u F'u N'u; have ho9 := hp9u _ (by with_reducible assumption); (try simp only [List.cons_append, List.nil_append] at N'u); (try dsimp only))) | ((with_reducible show Hold (codeAny _ _ (Code.call (Value.ref 69) _) _ _)); k_dflt (refine Hold.of ?_; refine gl_use (by with_reducible assumption) (by with_reducible assumption) (by with_reducible assumption) (by k_asm) (by k_asm) (by k_asm) (by k_asm) (by k_asm) (by first | exact rfl | assumption) (by first | exact Tl.cons (Tl.cons Tl.nil) | exact Tl.cons (Tl.cons (Tl.cons Tl.nil))) (by with_reducible assumption) (by with_reducible assumption) (by (repeat' (first | exact OffP.nil | (refine' OffP.cons ?_ ?_) | assumption | exact LexT.lt (by assumption) (by assumption)))) (by with_reducible assumption) (by ktr_room) (by ktr_units) ?_; intro tk9u h'u tk'u T9u ln9u tkl9u hT9u hp9u F'u N'u; have ho9 := hp9u _ (by with_reducible assumption); (try simp only [List.cons_append, List.nil_append] at N'u); (try dsimp only))) | ((with_reducible show Hold (codeAny _ _ (Code.call (Value.ref 90) _) _ _)); k_dflt (refine Hold.of ?_; refine le_use (by first | exact decide_eq_true (by assumption) | exact decide_eq_false (by assumption)) (by k_asm) (by k_asm) (by k_asm) (by k_asm) (by k_asm) (by first | exact rfl | assumption) (by ktr_room) (by ktr_units) ?_; intro h'u tk'u F'u N'u; (try dsimp only))) | (k_dflt (refine Hold.of ?_; refine int_use (by first | exact c_sub _ _ _ _ _ _ | exact c_floordiv _ _ _ _ _ _ (by first | decide | assumption) (by first | decide | assumption) (by first | decide | assumption) | exact c_mul _ _ _ _ _ _ (by assumption) (by assumption)) (by k_asm) (by k_asm) (by k_asm) (by k_asm) (by k_asm) (by first | exact rfl | assumption) (by ktr_room) (by ktr_units) ?_; intro t9u h'u tk'u F'u N'u; (try dsimp only)))); k_steps))
    rename Fr _ _ _ _ => F7
    rename News _ _ _ _ => N7
    rename AllLt _ T9 => lP
    have hT9 := hT9
    rename LexT _ _ _ (nmVals (List.tail _)) _ _ => hT7
    have hsm : ((rowC rs).map (·.2)).sum = (rs.map (·.c)).sum := by rw [rowC, List.map_map]; rfl
    refine whileLoop_of (LineJ prog w text P _ _ rs rest ⟨est, (rs.map (·.c)).sum - est, rs.length, 0, 0⟩ _ _ _ _) ?wturn rs.length (line_init rfl (And.intro (Int.le_refl (0 : Int)) (show (0 : Int) ≤ 2 by decide)) hT7 (LexT.own hT9 hT7 (OwnOff.one (allLt_ne0 lP))) (by assumption) (by assumption) F7 N7 hm1 hm4 rfl (by rw [← hsm]; rfl) rfl rfl rfl rfl rfl)
    rintro n s' ⟨ps, todo, st, T6, ln6, tkl6, po6, kvs6, t1, t2, t3, t4, t5, t6, h6, tk6, m6, rfl, rfl, ⟨done, e1, e2⟩, e3, ⟨hw6, hm6, hm7⟩, ⟨hT6, hof6⟩, hd6, hf6, F6, N6, a1, a2, a3, a4, a5, a6, a7, a8, a9⟩
    have hpP := LexT.lt lP hT9
    clear F7 N7 lP hT7 hT9 hcT9 hrwT9
    rcases todo with _ | ⟨r, todo⟩
    · simp only [headNm] at a9
      (k_steps; repeat' ((with_reducible show Hold _); (first | ((with_reducible show Hold (codeAny _ _ (Code.call (Value.ref 76) _) _ _)); k_dflt (refine Hold.of ?_; refine pt_use (by with_reducible assumption) (by k_asm) (by k_asm) (by k_asm) (by k_asm) (by k_asm) (by first | exact rfl | assumption) (by first | exact Tl.cons (Tl.cons Tl.nil) | exact Tl.cons (Tl.cons (Tl.cons Tl.nil))) (by with_reducible assumption) (by with_reducible assumption) (by (repeat' (first | exact OffP.nil | (refine' OffP.cons ?_ ?_) | assumption | exact LexT.lt (by assumption) (by assumption)))) (by with_reducible assumption) (by ktr_room) (by ktr_units) ?_; intro v9u h'u tk'u T9u hT9u hp9u F'u N'u; have ho9 := hp9u _ (by with_reducible assumption); (try simp only [List.cons_append, List.nil_append] at N'u); (try dsimp only))) | ((with_reducible show Hold (codeAny _ _ (Code.call (Value.ref 69) _) _ _)); k_dflt (refine Hold.of ?_; refine gl_use (by with_reducible assumption) (by with_reducible assumption) (by with_reducible assumption) (by k_asm) (by k_asm) (by k_asm) (by k_asm) (by k_asm) (by first | exact rfl | assumption) (by first | exact Tl.cons (Tl.cons Tl.nil) | exact Tl.cons (Tl.cons (Tl.cons Tl.nil))) (by with_reducible assumption) (by with_reducible assumption) (by (repeat' (first | exact OffP.nil | (refine' OffP.cons ?_ ?_) | assumption | exact LexT.lt (by assumption) (by assumption)))) (by with_reducible assumption) (by ktr_room) (by ktr_units) ?_; intro tk9u h'u tk'u T9u ln9u tkl9u hT9u hp9u F'u N'u; have ho9 := hp9u _ (by with_reducible assumption); (try simp only [List.cons_append, List.nil_append] at N'u); (try dsimp only))) | ((with_reducible show Hold (codeAny _ _ (Code.call (Value.ref 90) _) _ _)); k_dflt (refine Hold.of ?_; refine le_use (by first | exact decide_eq_true (by assumption) | exact decide_eq_false (by assumption)) (by k_asm) (by k_asm) (by k_asm) (by k_asm) (by k_asm) (by first | exact rfl | assumption) (by ktr_room) (by ktr_units) ?_; intro h'u tk'u F'u N'u; (try dsimp only))) | (k_dflt (refine Hold.of ?_; refine int_use (by first | exact c_sub _ _ _ _ _ _ | exact c_floordiv _ _ _ _ _ _ (by first | decide | assumption) (by first | decide | assumption) (by first | decide | assumption) | exact c_mul _ _ _ _ _ _ (by assumption) (by assumption)) (by k_asm) (by k_asm) (by k_asm) (by k_asm) (by k_asm) (by first | exact rfl | assumption) (by ktr_room) (by ktr_units) ?_; intro t9u h'u tk'u F'u N'u; (try dsimp only)))); k_steps))
      rw [List.append_nil] at e1
      rename Fr _ _ _ _ => F8
      rename News _ _ _ _ => N8
      refine hret _ _ _ _ ⟨_, _, _, ps, rfl, rfl, by assumption, hd6, hf6, by rw [e1]; exact e2, by rw [e3]; exact (List.append_nil _).symm⟩ F8 (N8.perm ?_)
      intro q hq
      rcases List.mem_cons.mp hq with rfl | hq
      · exact .head _
      · exact .tail _ (.tail _ (.tail _ (.tail _ (hT6.sub q hq))))
    · have hr : r ∈ rs := by rw [e1]; exact List.mem_append.mpr (.inr (.head _))
      have hnr := hne r hr
      have hnb : (r.nm != Str.ofString "") = true := by simp [hnr]
      have hck : kdpLook (rowC rs) r.nm 0 = r.c := look_row hnm hr
      have hhas : kdpHas (rowC rs) r.nm = true := has_on (by rw [rowC_fst]; exact List.mem_map.mpr ⟨r, hr, rfl⟩)
      have htl : todo.length ≤ 100 := by rw [e1] at hlen; simp at hlen; omega
      have hpl : ps.length ≤ 100 := by
        have := congrArg List.length e2
        rw [e1] at hlen
        simp at hlen this
        omega
      simp only [headNm] at a9
      simp only [List.tail_cons] at hT6
      obtain ⟨sl, sk, sw, sm, sp⟩ := st
      dsimp only at a3 a4 a5 a6 a7 hw6 hm6 hm7
      clear hnr hr hrw hrs hcb hz9 hsm hm1 hm2 hm3 hm4
      (k_steps; repeat' ((with_reducible show Hold _); (first | ((with_reducible show Hold (codeAny _ _ (Code.call (Value.ref 76) _) _ _)); k_dflt (refine Hold.of ?_; refine pt_use (by with_reducible assumption) (by k_asm) (by k_asm) (by k_asm) (by k_asm) (by k_asm) (by first | exact rfl | assumption) (by first | exact Tl.cons (Tl.cons Tl.nil) | exact Tl.cons (Tl.cons (Tl.cons Tl.nil))) (by with_reducible assumption) (by with_reducible assumption) (by (repeat' (first | exact OffP.nil | (refine' OffP.cons ?_ ?_) | assumption | exact LexT.lt (by assumption) (by assumption)))) (by with_reducible assumption) (by ktr_room) (by ktr_units) ?_; intro v9u h'u tk'u T9u hT9u hp9u F'u N'u; have ho9 := hp9u _ (by with_reducible assumption); (try simp only [List.cons_append, List.nil_append] at N'u); (try dsimp only))) | ((with_reducible show Hold (codeAny _ _ (Code.call (Value.ref 69) _) _ _)); k_dflt (refine Hold.of ?_; refine gl_use (by with_reducible assumption) (by with_reducible assumption) (by with_reducible assumption) (by k_asm) (by k_asm) (by k_asm) (by k_asm) (by k_asm) (by first | exact rfl | assumption) (by first | exact Tl.cons (Tl.cons Tl.nil) | exact Tl.cons (Tl.cons (Tl.cons Tl.nil))) (by with_reducible assumption) (by with_reducible assumption) (by (repeat' (first | exact OffP.nil | (refine' OffP.cons ?_ ?_) | assumption | exact LexT.lt (by assumption) (by assumption)))) (by with_reducible assumption) (by ktr_room) (by ktr_units) ?_; intro tk9u h'u tk'u T9u ln9u tkl9u hT9u hp9u F'u N'u; have ho9 := hp9u _ (by with_reducible assumption); (try simp only [List.cons_append, List.nil_append] at N'u); (try dsimp only))) | ((with_reducible show Hold (codeAny _ _ (Code.call (Value.ref 90) _) _ _)); k_dflt (refine Hold.of ?_; refine le_use (by first | exact decide_eq_true (by assumption) | exact decide_eq_false (by assumption)) (by k_asm) (by k_asm) (by k_asm) (by k_asm) (by k_asm) (by first | exact rfl | assumption) (by ktr_room) (by ktr_units) ?_; intro h'u tk'u F'u N'u; (try dsimp only))) | (k_dflt (refine Hold.of ?_; refine int_use (by first | exact c_sub _ _ _ _ _ _ | exact c_floordiv _ _ _ _ _ _ (by first | decide | assumption) (by first | decide | assumption) (by first | decide | assumption) | exact c_mul _ _ _ _ _ _ (by assumption) (by assumption)) (by k_asm) (by k_asm) (by k_asm) (by k_asm) (by k_asm) (by first | exact rfl | assumption) (by ktr_room) (by ktr_units) ?_; intro t9u h'u tk'u F'u N'u; (try dsimp only)))); k_steps))
      rename Fr _ _ _ _ => FA
      rename News _ _ _ _ => NA
      refine exec_cutM FA NA a2 a8 rfl P r.nm sl sk sw (lineMid (kdpLook (rowC rs) r.nm 0) ⟨sl, sk, sw, sm, sp⟩).manner (lineMid (kdpLook (rowC rs) r.nm 0) ⟨sl, sk, sw, sm, sp⟩).part t1 t2 t3 t6 ?mid ?mrest
      case mid =>
        clear hT6 e1 e2 e3 hck hf6 hd6 hhas
        rcases mid_cases (kdpLook (rowC rs) r.nm 0) sl sk sw sm sp with ⟨b0, b1, e⟩ | ⟨b0, b1, b2, e⟩ | ⟨b0, b1, b2, e⟩ | ⟨b0, e⟩
        · have hwn := hw6 b0
          rw [List.length_cons] at hwn
          have hw0 : sw ≠ 0 := by omega
          have hw1 : 0 ≤ sw := by omega
          have hw2 : sw ≤ 200 := by omega
          subst b0
          clear hw6 hwn
          rw [e]
          refine wpAny_If ?_
          (k_steps; repeat' ((with_reducible show Hold _); (first | ((with_reducible show Hold (codeAny _ _ (Code.call (Value.ref 76) _) _ _)); k_dflt (refine Hold.of ?_; refine pt_use (by with_reducible assumption) (by k_asm) (by k_asm) (by k_asm) (by k_asm) (by k_asm) (by first | exact rfl | assumption) (by first | exact Tl.cons (Tl.cons Tl.nil) | exact Tl.cons (Tl.cons (Tl.cons Tl.nil))) (by with_reducible assumption) (by with_reducible assumption) (by (repeat' (first | exact OffP.nil | (refine' OffP.cons ?_ ?_) | assumption | exact LexT.lt (by assumption) (by assumption)))) (by with_reducible assumption) (by ktr_room) (by ktr_units) ?_; intro v9u h'u tk'u T9u hT9u hp9u F'u N'u; have ho9 := hp9u _ (by with_reducible assumption); (try simp only [List.cons_append, List.nil_append] at N'u); (try dsimp only))) | ((with_reducible show Hold (codeAny _ _ (Code.call (Value.ref 69) _) _ _)); k_dflt (refine Hold.of ?_; refine gl_use (by with_reducible assumption) (by with_reducible assumption) (by with_reducible assumption) (by k_asm) (by k_asm) (by k_asm) (by k_asm) (by k_asm) (by first | exact rfl | assumption) (by first | exact Tl.cons (Tl.cons Tl.nil) | exact Tl.cons (Tl.cons (Tl.cons Tl.nil))) (by with_reducible assumption) (by with_reducible assumption) (by (repeat' (first | exact OffP.nil | (refine' OffP.cons ?_ ?_) | assumption | exact LexT.lt (by assumption) (by assumption)))) (by with_reducible assumption) (by ktr_room) (by ktr_units) ?_; intro tk9u h'u tk'u T9u ln9u tkl9u hT9u hp9u F'u N'u; have ho9 := hp9u _ (by with_reducible assumption); (try simp only [List.cons_append, List.nil_append] at N'u); (try dsimp only))) | ((with_reducible show Hold (codeAny _ _ (Code.call (Value.ref 90) _) _ _)); k_dflt (refine Hold.of ?_; refine le_use (by first | exact decide_eq_true (by assumption) | exact decide_eq_false (by assumption)) (by k_asm) (by k_asm) (by k_asm) (by k_asm) (by k_asm) (by first | exact rfl | assumption) (by ktr_room) (by ktr_units) ?_; intro h'u tk'u F'u N'u; (try dsimp only))) | (k_dflt (refine Hold.of ?_; refine int_use (by first | exact c_sub _ _ _ _ _ _ | exact c_floordiv _ _ _ _ _ _ (by first | decide | assumption) (by first | decide | assumption) (by first | decide | assumption) | exact c_mul _ _ _ _ _ _ (by assumption) (by assumption)) (by k_asm) (by k_asm) (by k_asm) (by k_asm) (by k_asm) (by first | exact rfl | assumption) (by ktr_room) (by ktr_units) ?_; intro t9u h'u tk'u F'u N'u; (try dsimp only)))); k_steps))
          rename Fr _ _ _ _ => FB
          rename News _ _ _ _ => NB
          exact ⟨_, _, _, _, _, _, rfl, FB, NB, a1, a2, a3, a4, a5, rfl, rfl, a8, a9, rfl⟩
        · have hwn := hw6 b0
          rw [List.length_cons] at hwn
          have hw0 : sw ≠ 0 := by omega
          have hw1 : 0 ≤ sw := by omega
          have hw2 : sw ≤ 200 := by omega
          subst b0
          clear hw6 hwn
          rw [e]
          refine wpAny_If ?_
          (k_steps; repeat' ((with_reducible show Hold _); (first | ((with_reducible show Hold (codeAny _ _ (Code.call (Value.ref 76) _) _ _)); k_dflt (refine Hold.of ?_; refine pt_use (by with_reducible assumption) (by k_asm) (by k_asm) (by k_asm) (by k_asm) (by k_asm) (by first | exact rfl | assumption) (by first | exact Tl.cons (Tl.cons Tl.nil) | exact Tl.cons (Tl.cons (Tl.cons Tl.nil))) (by with_reducible assumption) (by with_reducible assumption) (by (repeat' (first | exact OffP.nil | (refine' OffP.cons ?_ ?_) | assumption | exact LexT.lt (by assumption) (by assumption)))) (by with_reducible assumption) (by ktr_room) (by ktr_units) ?_; intro v9u h'u tk'u T9u hT9u hp9u F'u N'u; have ho9 := hp9u _ (by with_reducible assumption); (try simp only [List.cons_append, List.nil_append] at N'u); (try dsimp only))) | ((with_reducible show Hold (codeAny _ _ (Code.call (Value.ref 69) _) _ _)); k_dflt (refine Hold.of ?_; refine gl_use (by with_reducible assumption) (by with_reducible assumption) (by with_reducible assumption) (by k_asm) (by k_asm) (by k_asm) (by k_asm) (by k_asm) (by first | exact rfl | assumption) (by first | exact Tl.cons (Tl.cons Tl.nil) | exact Tl.cons (Tl.cons (Tl.cons Tl.nil))) (by with_reducible assumption) (by with_reducible assumption) (by (repeat' (first | exact OffP.nil | (refine' OffP.cons ?_ ?_) | assumption | exact LexT.lt (by assumption) (by assumption)))) (by with_reducible assumption) (by ktr_room) (by ktr_units) ?_; intro tk9u h'u tk'u T9u ln9u tkl9u hT9u hp9u F'u N'u; have ho9 := hp9u _ (by with_reducible assumption); (try simp only [List.cons_append, List.nil_append] at N'u); (try dsimp only))) | ((with_reducible show Hold (codeAny _ _ (Code.call (Value.ref 90) _) _ _)); k_dflt (refine Hold.of ?_; refine le_use (by first | exact decide_eq_true (by assumption) | exact decide_eq_false (by assumption)) (by k_asm) (by k_asm) (by k_asm) (by k_asm) (by k_asm) (by first | exact rfl | assumption) (by ktr_room) (by ktr_units) ?_; intro h'u tk'u F'u N'u; (try dsimp only))) | (k_dflt (refine Hold.of ?_; refine int_use (by first | exact c_sub _ _ _ _ _ _ | exact c_floordiv _ _ _ _ _ _ (by first | decide | assumption) (by first | decide | assumption) (by first | decide | assumption) | exact c_mul _ _ _ _ _ _ (by assumption) (by assumption)) (by k_asm) (by k_asm) (by k_asm) (by k_asm) (by k_asm) (by first | exact rfl | assumption) (by ktr_room) (by ktr_units) ?_; intro t9u h'u tk'u F'u N'u; (try dsimp only)))); k_steps))
          refine wpAny_If ?_
          (k_steps; repeat' ((with_reducible show Hold _); (first | ((with_reducible show Hold (codeAny _ _ (Code.call (Value.ref 76) _) _ _)); k_dflt (refine Hold.of ?_; refine pt_use (by with_reducible assumption) (by k_asm) (by k_asm) (by k_asm) (by k_asm) (by k_asm) (by first | exact rfl | assumption) (by first | exact Tl.cons (Tl.cons Tl.nil) | exact Tl.cons (Tl.cons (Tl.cons Tl.nil))) (by with_reducible assumption) (by with_reducible assumption) (by (repeat' (first | exact OffP.nil | (refine' OffP.cons ?_ ?_) | assumption | exact LexT.lt (by assumption) (by assumption)))) (by with_reducible assumption) (by ktr_room) (by ktr_units) ?_; intro v9u h'u tk'u T9u hT9u hp9u F'u N'u; have ho9 := hp9u _ (by with_reducible assumption); (try simp only [List.cons_append, List.nil_append] at N'u); (try dsimp only))) | ((with_reducible show Hold (codeAny _ _ (Code.call (Value.ref 69) _) _ _)); k_dflt (refine Hold.of ?_; refine gl_use (by with_reducible assumption) (by with_reducible assumption) (by with_reducible assumption) (by k_asm) (by k_asm) (by k_asm) (by k_asm) (by k_asm) (by first | exact rfl | assumption) (by first | exact Tl.cons (Tl.cons Tl.nil) | exact Tl.cons (Tl.cons (Tl.cons Tl.nil))) (by with_reducible assumption) (by with_reducible assumption) (by (repeat' (first | exact OffP.nil | (refine' OffP.cons ?_ ?_) | assumption | exact LexT.lt (by assumption) (by assumption)))) (by with_reducible assumption) (by ktr_room) (by ktr_units) ?_; intro tk9u h'u tk'u T9u ln9u tkl9u hT9u hp9u F'u N'u; have ho9 := hp9u _ (by with_reducible assumption); (try simp only [List.cons_append, List.nil_append] at N'u); (try dsimp only))) | ((with_reducible show Hold (codeAny _ _ (Code.call (Value.ref 90) _) _ _)); k_dflt (refine Hold.of ?_; refine le_use (by first | exact decide_eq_true (by assumption) | exact decide_eq_false (by assumption)) (by k_asm) (by k_asm) (by k_asm) (by k_asm) (by k_asm) (by first | exact rfl | assumption) (by ktr_room) (by ktr_units) ?_; intro h'u tk'u F'u N'u; (try dsimp only))) | (k_dflt (refine Hold.of ?_; refine int_use (by first | exact c_sub _ _ _ _ _ _ | exact c_floordiv _ _ _ _ _ _ (by first | decide | assumption) (by first | decide | assumption) (by first | decide | assumption) | exact c_mul _ _ _ _ _ _ (by assumption) (by assumption)) (by k_asm) (by k_asm) (by k_asm) (by k_asm) (by k_asm) (by first | exact rfl | assumption) (by ktr_room) (by ktr_units) ?_; intro t9u h'u tk'u F'u N'u; (try dsimp only)))); k_steps))
          rename Fr _ _ _ _ => FB
          rename News _ _ _ _ => NB
          exact ⟨_, _, _, _, _, _, rfl, FB, NB, a1, a2, a3, a4, a5, rfl, rfl, a8, a9, rfl⟩
        · have hwn := hw6 b0
          rw [List.length_cons] at hwn
          have hw1 : 0 ≤ sw := by omega
          have hw2 : sw ≤ 200 := by omega
          subst b0
          clear hw6 hwn
          rw [e]
          refine wpAny_If ?_
          (k_steps; repeat' ((with_reducible show Hold _); (first | ((with_reducible show Hold (codeAny _ _ (Code.call (Value.ref 76) _) _ _)); k_dflt (refine Hold.of ?_; refine pt_use (by with_reducible assumption) (by k_asm) (by k_asm) (by k_asm) (by k_asm) (by k_asm) (by first | exact rfl | assumption) (by first | exact Tl.cons (Tl.cons Tl.nil) | exact Tl.cons (Tl.cons (Tl.cons Tl.nil))) (by with_reducible assumption) (by with_reducible assumption) (by (repeat' (first | exact OffP.nil | (refine' OffP.cons ?_ ?_) | assumption | exact LexT.lt (by assumption) (by assumption)))) (by with_reducible assumption) (by ktr_room) (by ktr_units) ?_; intro v9u h'u tk'u T9u hT9u hp9u F'u N'u; have ho9 := hp9u _ (by with_reducible assumption); (try simp only [List.cons_append, List.nil_append] at N'u); (try dsimp only))) | ((with_reducible show Hold (codeAny _ _ (Code.call (Value.ref 69) _) _ _)); k_dflt (refine Hold.of ?_; refine gl_use (by with_reducible assumption) (by with_reducible assumption) (by with_reducible assumption) (by k_asm) (by k_asm) (by k_asm) (by k_asm) (by k_asm) (by first | exact rfl | assumption) (by first | exact Tl.cons (Tl.cons Tl.nil) | exact Tl.cons (Tl.cons (Tl.cons Tl.nil))) (by with_reducible assumption) (by with_reducible assumption) (by (repeat' (first | exact OffP.nil | (refine' OffP.cons ?_ ?_) | assumption | exact LexT.lt (by assumption) (by assumption)))) (by with_reducible assumption) (by ktr_room) (by ktr_units) ?_; intro tk9u h'u tk'u T9u ln9u tkl9u hT9u hp9u F'u N'u; have ho9 := hp9u _ (by with_reducible assumption); (try simp only [List.cons_append, List.nil_append] at N'u); (try dsimp only))) | ((with_reducible show Hold (codeAny _ _ (Code.call (Value.ref 90) _) _ _)); k_dflt (refine Hold.of ?_; refine le_use (by first | exact decide_eq_true (by assumption) | exact decide_eq_false (by assumption)) (by k_asm) (by k_asm) (by k_asm) (by k_asm) (by k_asm) (by first | exact rfl | assumption) (by ktr_room) (by ktr_units) ?_; intro h'u tk'u F'u N'u; (try dsimp only))) | (k_dflt (refine Hold.of ?_; refine int_use (by first | exact c_sub _ _ _ _ _ _ | exact c_floordiv _ _ _ _ _ _ (by first | decide | assumption) (by first | decide | assumption) (by first | decide | assumption) | exact c_mul _ _ _ _ _ _ (by assumption) (by assumption)) (by k_asm) (by k_asm) (by k_asm) (by k_asm) (by k_asm) (by first | exact rfl | assumption) (by ktr_room) (by ktr_units) ?_; intro t9u h'u tk'u F'u N'u; (try dsimp only)))); k_steps))
          refine wpAny_If ?_
          (k_steps; repeat' ((with_reducible show Hold _); (first | ((with_reducible show Hold (codeAny _ _ (Code.call (Value.ref 76) _) _ _)); k_dflt (refine Hold.of ?_; refine pt_use (by with_reducible assumption) (by k_asm) (by k_asm) (by k_asm) (by k_asm) (by k_asm) (by first | exact rfl | assumption) (by first | exact Tl.cons (Tl.cons Tl.nil) | exact Tl.cons (Tl.cons (Tl.cons Tl.nil))) (by with_reducible assumption) (by with_reducible assumption) (by (repeat' (first | exact OffP.nil | (refine' OffP.cons ?_ ?_) | assumption | exact LexT.lt (by assumption) (by assumption)))) (by with_reducible assumption) (by ktr_room) (by ktr_units) ?_; intro v9u h'u tk'u T9u hT9u hp9u F'u N'u; have ho9 := hp9u _ (by with_reducible assumption); (try simp only [List.cons_append, List.nil_append] at N'u); (try dsimp only))) | ((with_reducible show Hold (codeAny _ _ (Code.call (Value.ref 69) _) _ _)); k_dflt (refine Hold.of ?_; refine gl_use (by with_reducible assumption) (by with_reducible assumption) (by with_reducible assumption) (by k_asm) (by k_asm) (by k_asm) (by k_asm) (by k_asm) (by first | exact rfl | assumption) (by first | exact Tl.cons (Tl.cons Tl.nil) | exact Tl.cons (Tl.cons (Tl.cons Tl.nil))) (by with_reducible assumption) (by with_reducible assumption) (by (repeat' (first | exact OffP.nil | (refine' OffP.cons ?_ ?_) | assumption | exact LexT.lt (by assumption) (by assumption)))) (by with_reducible assumption) (by ktr_room) (by ktr_units) ?_; intro tk9u h'u tk'u T9u ln9u tkl9u hT9u hp9u F'u N'u; have ho9 := hp9u _ (by with_reducible assumption); (try simp only [List.cons_append, List.nil_append] at N'u); (try dsimp only))) | ((with_reducible show Hold (codeAny _ _ (Code.call (Value.ref 90) _) _ _)); k_dflt (refine Hold.of ?_; refine le_use (by first | exact decide_eq_true (by assumption) | exact decide_eq_false (by assumption)) (by k_asm) (by k_asm) (by k_asm) (by k_asm) (by k_asm) (by first | exact rfl | assumption) (by ktr_room) (by ktr_units) ?_; intro h'u tk'u F'u N'u; (try dsimp only))) | (k_dflt (refine Hold.of ?_; refine int_use (by first | exact c_sub _ _ _ _ _ _ | exact c_floordiv _ _ _ _ _ _ (by first | decide | assumption) (by first | decide | assumption) (by first | decide | assumption) | exact c_mul _ _ _ _ _ _ (by assumption) (by assumption)) (by k_asm) (by k_asm) (by k_asm) (by k_asm) (by k_asm) (by first | exact rfl | assumption) (by ktr_room) (by ktr_units) ?_; intro t9u h'u tk'u F'u N'u; (try dsimp only)))); k_steps))
          rename Fr _ _ _ _ => FB
          rename News _ _ _ _ => NB
          exact ⟨_, _, _, _, _, _, rfl, FB, NB, a1, a2, a3, a4, a5, a6, a7, a8, a9, rfl⟩
        · clear hw6
          have hb0 : (sm == 0) = false := by simp [b0]
          rw [e]
          refine wpAny_If ?_
          (k_steps; repeat' ((with_reducible show Hold _); (first | ((with_reducible show Hold (codeAny _ _ (Code.call (Value.ref 76) _) _ _)); k_dflt (refine Hold.of ?_; refine pt_use (by with_reducible assumption) (by k_asm) (by k_asm) (by k_asm) (by k_asm) (by k_asm) (by first | exact rfl | assumption) (by first | exact Tl.cons (Tl.cons Tl.nil) | exact Tl.cons (Tl.cons (Tl.cons Tl.nil))) (by with_reducible assumption) (by with_reducible assumption) (by (repeat' (first | exact OffP.nil | (refine' OffP.cons ?_ ?_) | assumption | exact LexT.lt (by assumption) (by assumption)))) (by with_reducible assumption) (by ktr_room) (by ktr_units) ?_; intro v9u h'u tk'u T9u hT9u hp9u F'u N'u; have ho9 := hp9u _ (by with_reducible assumption); (try simp only [List.cons_append, List.nil_append] at N'u); (try dsimp only))) | ((with_reducible show Hold (codeAny _ _ (Code.call (Value.ref 69) _) _ _)); k_dflt (refine Hold.of ?_; refine gl_use (by with_reducible assumption) (by with_reducible assumption) (by with_reducible assumption) (by k_asm) (by k_asm) (by k_asm) (by k_asm) (by k_asm) (by first | exact rfl | assumption) (by first | exact Tl.cons (Tl.cons Tl.nil) | exact Tl.cons (Tl.cons (Tl.cons Tl.nil))) (by with_reducible assumption) (by with_reducible assumption) (by (repeat' (first | exact OffP.nil | (refine' OffP.cons ?_ ?_) | assumption | exact LexT.lt (by assumption) (by assumption)))) (by with_reducible assumption) (by ktr_room) (by ktr_units) ?_; intro tk9u h'u tk'u T9u ln9u tkl9u hT9u hp9u F'u N'u; have ho9 := hp9u _ (by with_reducible assumption); (try simp only [List.cons_append, List.nil_append] at N'u); (try dsimp only))) | ((with_reducible show Hold (codeAny _ _ (Code.call (Value.ref 90) _) _ _)); k_dflt (refine Hold.of ?_; refine le_use (by first | exact decide_eq_true (by assumption) | exact decide_eq_false (by assumption)) (by k_asm) (by k_asm) (by k_asm) (by k_asm) (by k_asm) (by first | exact rfl | assumption) (by ktr_room) (by ktr_units) ?_; intro h'u tk'u F'u N'u; (try dsimp only))) | (k_dflt (refine Hold.of ?_; refine int_use (by first | exact c_sub _ _ _ _ _ _ | exact c_floordiv _ _ _ _ _ _ (by first | decide | assumption) (by first | decide | assumption) (by first | decide | assumption) | exact c_mul _ _ _ _ _ _ (by assumption) (by assumption)) (by k_asm) (by k_asm) (by k_asm) (by k_asm) (by k_asm) (by first | exact rfl | assumption) (by ktr_room) (by ktr_units) ?_; intro t9u h'u tk'u F'u N'u; (try dsimp only)))); k_steps))
          refine wpAny_If ?_
          (k_steps; repeat' ((with_reducible show Hold _); (first | ((with_reducible show Hold (codeAny _ _ (Code.call (Value.ref 76) _) _ _)); k_dflt (refine Hold.of ?_; refine pt_use (by with_reducible assumption) (by k_asm) (by k_asm) (by k_asm) (by k_asm) (by k_asm) (by first | exact rfl | assumption) (by first | exact Tl.cons (Tl.cons Tl.nil) | exact Tl.cons (Tl.cons (Tl.cons Tl.nil))) (by with_reducible assumption) (by with_reducible assumption) (by (repeat' (first | exact OffP.nil | (refine' OffP.cons ?_ ?_) | assumption | exact LexT.lt (by assumption) (by assumption)))) (by with_reducible assumption) (by ktr_room) (by ktr_units) ?_; intro v9u h'u tk'u T9u hT9u hp9u F'u N'u; have ho9 := hp9u _ (by with_reducible assumption); (try simp only [List.cons_append, List.nil_append] at N'u); (try dsimp only))) | ((with_reducible show Hold (codeAny _ _ (Code.call (Value.ref 69) _) _ _)); k_dflt (refine Hold.of ?_; refine gl_use (by with_reducible assumption) (by with_reducible assumption) (by with_reducible assumption) (by k_asm) (by k_asm) (by k_asm) (by k_asm) (by k_asm) (by first | exact rfl | assumption) (by first | exact Tl.cons (Tl.cons Tl.nil) | exact Tl.cons (Tl.cons (Tl.cons Tl.nil))) (by with_reducible assumption) (by with_reducible assumption) (by (repeat' (first | exact OffP.nil | (refine' OffP.cons ?_ ?_) | assumption | exact LexT.lt (by assumption) (by assumption)))) (by with_reducible assumption) (by ktr_room) (by ktr_units) ?_; intro tk9u h'u tk'u T9u ln9u tkl9u hT9u hp9u F'u N'u; have ho9 := hp9u _ (by with_reducible assumption); (try simp only [List.cons_append, List.nil_append] at N'u); (try dsimp only))) | ((with_reducible show Hold (codeAny _ _ (Code.call (Value.ref 90) _) _ _)); k_dflt (refine Hold.of ?_; refine le_use (by first | exact decide_eq_true (by assumption) | exact decide_eq_false (by assumption)) (by k_asm) (by k_asm) (by k_asm) (by k_asm) (by k_asm) (by first | exact rfl | assumption) (by ktr_room) (by ktr_units) ?_; intro h'u tk'u F'u N'u; (try dsimp only))) | (k_dflt (refine Hold.of ?_; refine int_use (by first | exact c_sub _ _ _ _ _ _ | exact c_floordiv _ _ _ _ _ _ (by first | decide | assumption) (by first | decide | assumption) (by first | decide | assumption) | exact c_mul _ _ _ _ _ _ (by assumption) (by assumption)) (by k_asm) (by k_asm) (by k_asm) (by k_asm) (by k_asm) (by first | exact rfl | assumption) (by ktr_room) (by ktr_units) ?_; intro t9u h'u tk'u F'u N'u; (try dsimp only)))); k_steps))
          rename Fr _ _ _ _ => FB
          rename News _ _ _ _ => NB
          exact ⟨_, _, _, _, _, _, rfl, FB, NB, a1, a2, a3, a4, a5, a6, a7, a8, a9, rfl⟩
      case mrest =>
        have hms := mid_step (kdpLook (rowC rs) r.nm 0) ⟨sl, sk, sw, sm, sp⟩
        obtain ⟨mm, mp, hmE, hmm⟩ := mid_shape (c := kdpLook (rowC rs) r.nm 0) (sl := sl) (sk := sk) (sw := sw) (sp := sp) hm6 hm7
        rw [hmE] at hms ⊢
        clear FA NA a1 a2 a3 a4 a5 a6 a7 a8 a9 hmE
        rintro s' ⟨h7, tk7, m7, t4', t5', t7', rfl, F7, N7, c1, c2, c3, c4, c5, c6, c7, c8, c9, c10⟩
        dsimp only at c6 c7 hms
        rcases hmm with rfl | rfl | ⟨rfl, hs0⟩
        · rw [if_pos rfl] at hms
          (k_steps; repeat' ((with_reducible show Hold _); (first | ((with_reducible show Hold (codeAny _ _ (Code.call (Value.ref 76) _) _ _)); k_dflt (refine Hold.of ?_; refine pt_use (by with_reducible assumption) (by k_asm) (by k_asm) (by k_asm) (by k_asm) (by k_asm) (by first | exact rfl | assumption) (by first | exact Tl.cons (Tl.cons Tl.nil) | exact Tl.cons (Tl.cons (Tl.cons Tl.nil))) (by with_reducible assumption) (by with_reducible assumption) (by (repeat' (first | exact OffP.nil | (refine' OffP.cons ?_ ?_) | assumption | exact LexT.lt (by assumption) (by assumption)))) (by with_reducible assumption) (by ktr_room) (by ktr_units) ?_; intro v9u h'u tk'u T9u hT9u hp9u F'u N'u; have ho9 := hp9u _ (by with_reducible assumption); (try simp only [List.cons_append, List.nil_append] at N'u); (try dsimp only))) | ((with_reducible show Hold (codeAny _ _ (Code.call (Value.ref 69) _) _ _)); k_dflt (refine Hold.of ?_; refine gl_use (by with_reducible assumption) (by with_reducible assumption) (by with_reducible assumption) (by k_asm) (by k_asm) (by k_asm) (by k_asm) (by k_asm) (by first | exact rfl | assumption) (by first | exact Tl.cons (Tl.cons Tl.nil) | exact Tl.cons (Tl.cons (Tl.cons Tl.nil))) (by with_reducible assumption) (by with_reducible assumption) (by (repeat' (first | exact OffP.nil | (refine' OffP.cons ?_ ?_) | assumption | exact LexT.lt (by assumption) (by assumption)))) (by with_reducible assumption) (by ktr_room) (by ktr_units) ?_; intro tk9u h'u tk'u T9u ln9u tkl9u hT9u hp9u F'u N'u; have ho9 := hp9u _ (by with_reducible assumption); (try simp only [List.cons_append, List.nil_append] at N'u); (try dsimp only))) | ((with_reducible show Hold (codeAny _ _ (Code.call (Value.ref 90) _) _ _)); k_dflt (refine Hold.of ?_; refine le_use (by first | exact decide_eq_true (by assumption) | exact decide_eq_false (by assumption)) (by k_asm) (by k_asm) (by k_asm) (by k_asm) (by k_asm) (by first | exact rfl | assumption) (by ktr_room) (by ktr_units) ?_; intro h'u tk'u F'u N'u; (try dsimp only))) | (k_dflt (refine Hold.of ?_; refine int_use (by first | exact c_sub _ _ _ _ _ _ | exact c_floordiv _ _ _ _ _ _ (by first | decide | assumption) (by first | decide | assumption) (by first | decide | assumption) | exact c_mul _ _ _ _ _ _ (by assumption) (by assumption)) (by k_asm) (by k_asm) (by k_asm) (by k_asm) (by k_asm) (by first | exact rfl | assumption) (by ktr_room) (by ktr_units) ?_; intro t9u h'u tk'u F'u N'u; (try dsimp only)))); k_steps))
          rename Fr _ _ _ _ => F8
          rename News _ _ _ _ => N8
          exact line_next _ hnm e1 e2 e3 hck hms (by dsimp only; omega) (by assumption) (by assumption) (by assumption) (by assumption) F8 N8 c1 c2 c3 c4 c5 c6 c7 c8 rfl
        · rw [if_neg (by decide), if_pos rfl] at hms
          (k_steps; repeat' ((with_reducible show Hold _); (first | ((with_reducible show Hold (codeAny _ _ (Code.call (Value.ref 76) _) _ _)); k_dflt (refine Hold.of ?_; refine pt_use (by with_reducible assumption) (by k_asm) (by k_asm) (by k_asm) (by k_asm) (by k_asm) (by first | exact rfl | assumption) (by first | exact Tl.cons (Tl.cons Tl.nil) | exact Tl.cons (Tl.cons (Tl.cons Tl.nil))) (by with_reducible assumption) (by with_reducible assumption) (by (repeat' (first | exact OffP.nil | (refine' OffP.cons ?_ ?_) | assumption | exact LexT.lt (by assumption) (by assumption)))) (by with_reducible assumption) (by ktr_room) (by ktr_units) ?_; intro v9u h'u tk'u T9u hT9u hp9u F'u N'u; have ho9 := hp9u _ (by with_reducible assumption); (try simp only [List.cons_append, List.nil_append] at N'u); (try dsimp only))) | ((with_reducible show Hold (codeAny _ _ (Code.call (Value.ref 69) _) _ _)); k_dflt (refine Hold.of ?_; refine gl_use (by with_reducible assumption) (by with_reducible assumption) (by with_reducible assumption) (by k_asm) (by k_asm) (by k_asm) (by k_asm) (by k_asm) (by first | exact rfl | assumption) (by first | exact Tl.cons (Tl.cons Tl.nil) | exact Tl.cons (Tl.cons (Tl.cons Tl.nil))) (by with_reducible assumption) (by with_reducible assumption) (by (repeat' (first | exact OffP.nil | (refine' OffP.cons ?_ ?_) | assumption | exact LexT.lt (by assumption) (by assumption)))) (by with_reducible assumption) (by ktr_room) (by ktr_units) ?_; intro tk9u h'u tk'u T9u ln9u tkl9u hT9u hp9u F'u N'u; have ho9 := hp9u _ (by with_reducible assumption); (try simp only [List.cons_append, List.nil_append] at N'u); (try dsimp only))) | ((with_reducible show Hold (codeAny _ _ (Code.call (Value.ref 90) _) _ _)); k_dflt (refine Hold.of ?_; refine le_use (by first | exact decide_eq_true (by assumption) | exact decide_eq_false (by assumption)) (by k_asm) (by k_asm) (by k_asm) (by k_asm) (by k_asm) (by first | exact rfl | assumption) (by ktr_room) (by ktr_units) ?_; intro h'u tk'u F'u N'u; (try dsimp only))) | (k_dflt (refine Hold.of ?_; refine int_use (by first | exact c_sub _ _ _ _ _ _ | exact c_floordiv _ _ _ _ _ _ (by first | decide | assumption) (by first | decide | assumption) (by first | decide | assumption) | exact c_mul _ _ _ _ _ _ (by assumption) (by assumption)) (by k_asm) (by k_asm) (by k_asm) (by k_asm) (by k_asm) (by first | exact rfl | assumption) (by ktr_room) (by ktr_units) ?_; intro t9u h'u tk'u F'u N'u; (try dsimp only)))); k_steps))
          rename Fr _ _ _ _ => F8
          rename News _ _ _ _ => N8
          exact line_next _ hnm e1 e2 e3 hck hms (by dsimp only; omega) (by assumption) (by assumption) (by assumption) (by assumption) F8 N8 c1 c2 c3 c4 c5 c6 c7 c8 rfl
        · rw [if_neg (by decide), if_neg (by decide)] at hms
          have hwn := hw6 hs0
          rw [List.length_cons] at hwn
          (k_steps; repeat' ((with_reducible show Hold _); (first | ((with_reducible show Hold (codeAny _ _ (Code.call (Value.ref 76) _) _ _)); k_dflt (refine Hold.of ?_; refine pt_use (by with_reducible assumption) (by k_asm) (by k_asm) (by k_asm) (by k_asm) (by k_asm) (by first | exact rfl | assumption) (by first | exact Tl.cons (Tl.cons Tl.nil) | exact Tl.cons (Tl.cons (Tl.cons Tl.nil))) (by with_reducible assumption) (by with_reducible assumption) (by (repeat' (first | exact OffP.nil | (refine' OffP.cons ?_ ?_) | assumption | exact LexT.lt (by assumption) (by assumption)))) (by with_reducible assumption) (by ktr_room) (by ktr_units) ?_; intro v9u h'u tk'u T9u hT9u hp9u F'u N'u; have ho9 := hp9u _ (by with_reducible assumption); (try simp only [List.cons_append, List.nil_append] at N'u); (try dsimp only))) | ((with_reducible show Hold (codeAny _ _ (Code.call (Value.ref 69) _) _ _)); k_dflt (refine Hold.of ?_; refine gl_use (by with_reducible assumption) (by with_reducible assumption) (by with_reducible assumption) (by k_asm) (by k_asm) (by k_asm) (by k_asm) (by k_asm) (by first | exact rfl | assumption) (by first | exact Tl.cons (Tl.cons Tl.nil) | exact Tl.cons (Tl.cons (Tl.cons Tl.nil))) (by with_reducible assumption) (by with_reducible assumption) (by (repeat' (first | exact OffP.nil | (refine' OffP.cons ?_ ?_) | assumption | exact LexT.lt (by assumption) (by assumption)))) (by with_reducible assumption) (by ktr_room) (by ktr_units) ?_; intro tk9u h'u tk'u T9u ln9u tkl9u hT9u hp9u F'u N'u; have ho9 := hp9u _ (by with_reducible assumption); (try simp only [List.cons_append, List.nil_append] at N'u); (try dsimp only))) | ((with_reducible show Hold (codeAny _ _ (Code.call (Value.ref 90) _) _ _)); k_dflt (refine Hold.of ?_; refine le_use (by first | exact decide_eq_true (by assumption) | exact decide_eq_false (by assumption)) (by k_asm) (by k_asm) (by k_asm) (by k_asm) (by k_asm) (by first | exact rfl | assumption) (by ktr_room) (by ktr_units) ?_; intro h'u tk'u F'u N'u; (try dsimp only))) | (k_dflt (refine Hold.of ?_; refine int_use (by first | exact c_sub _ _ _ _ _ _ | exact c_floordiv _ _ _ _ _ _ (by first | decide | assumption) (by first | decide | assumption) (by first | decide | assumption) | exact c_mul _ _ _ _ _ _ (by assumption) (by assumption)) (by k_asm) (by k_asm) (by k_asm) (by k_asm) (by k_asm) (by first | exact rfl | assumption) (by ktr_room) (by ktr_units) ?_; intro t9u h'u tk'u F'u N'u; (try dsimp only)))); k_steps))
          rename Fr _ _ _ _ => F8
          rename News _ _ _ _ => N8
          exact line_next _ hnm e1 e2 e3 hck hms (by dsimp only; omega) (by assumption) (by assumption) (by assumption) (by assumption) F8 N8 c1 c2 rfl rfl rfl c6 c7 c8 rfl

end
section
theorem wp_execs_cut {M : PySem.Model} {Γ : PySem.Ctx} {env : PySem.Env} {E : Value → PySem.Pos → Shared → Prop} {Q : Flow → PySem.Pos → Shared → Prop} : ∀ (n : Nat) (l : List Stmt) (p : PySem.Pos) (s : Shared),
    Sem.wp M Γ (execs (l.take n) env) (fun f p' s' => match f with | .next => Sem.wp M Γ (execs (l.drop n) env) Q E p' s' | f => Q f p' s') E p s → Sem.wp M Γ (execs l env) Q E p s
  | 0, _, _, _, h => h
  | _ + 1, [], _, _, h => h
  | n + 1, st :: rest, p, s, h => by
    rw [List.take_succ_cons, execs_cons, Sem.wp_bind'] at h
    rw [execs_cons, Sem.wp_bind']
    refine Sem.wp_mono M Γ _ (fun f p' s' h' => ?_) (fun _ _ _ h' => h') _ _ h
    cases f with
    | next => exact wp_execs_cut n rest p' s' h'
    | cont => exact h'
    | brk => exact h'
    | ret v => exact h'
/-- a body cut after n statements: what stands between is said by J -/
theorem execs_cut {M : PySem.Model} {A : Around} {env : PySem.Env} {E : Value → Shared → Prop} {Q : Flow → Shared → Prop} {s : Shared} {l : List Stmt} {g : Heap} {L : Addr} {h : Heap} {m : Str → Option Value} (_F : Fr g L h m) (J : Heap → Addr → Shared → Shared → Prop) (n : Nat)
    (h1 : wpAny M A (execs (l.take n) env) (fun f s' => match f with | .next => J g L s s' | f => Q f s') E s) (h2 : ∀ s', J g L s s' → wpAny M A (execs (l.drop n) env) Q E s') : wpAny M A (execs l env) Q E s := by
  intro Γ p hΓ
  refine wp_execs_cut n l p s (Sem.wp_mono M Γ _ (fun f p' s' h' => ?_) (fun _ _ _ h' => h') _ _ (h1 Γ p hΓ))
  cases f with
  | next => exact h2 s' h' Γ p' hΓ
  | cont => exact h'
  | brk => exact h'
  | ret v => exact h'

end
section
noncomputable def lawDef : Option Stmt := PySem.Challenge.pw_sw0036_01.main.body.getLast?
noncomputable def lawBody : List Stmt := match lawDef with
  | some (.FunctionDef _ _ b _ _ _ _ _ _ _) => b
  | _ => []
noncomputable def lawScope : Scope := match lawDef with
  | some (.FunctionDef _ _ _ _ _ _ sc _ _ _) => sc
  | _ => { kind := .function, names := [], isGenerator := false, isCoroutine := false }
noncomputable abbrev lawE (sc : Scope) (L fa : Addr) : PySem.Env := envOfC (Str.ofString "law") sc L fa (.ref 188)
noncomputable abbrev lawA (sc : Scope) (L fa : Addr) : Around := Around.deeper callerA (lawE sc L fa)
inductive JEnd (g : Heap) (L : Addr) (s : Shared) (s' : Shared) : Prop
  | mk (h tk m ps qs) : (s' = { s with heap := h, toks := tk }) → (Fr g L h m) → (News g L h [(146, tabObj ps), (186, tabObj qs)]) → JEnd g L s s'
/-- what holds all along the law's walk -/
structure LawTop (w : World) (g : Heap) (L : Addr) (pp : Program) (loose : List Str) (mean : ExcName → Option Value) (mg mb : Str → Option Value) : Prop where
  X : (Mine.hd.heap_39 w.params).In g
  T : Top pp loose mean mg mb g
  B : Below callerA g [] g
  C1 : CodeHd g 150 146
  C2 : CodeHd g 188 186
  l1 : @LT.lt Nat _ 146 L
  l2 : @LT.lt Nat _ 186 L
noncomputable abbrev cellsL (L : Addr) (o1 o2 o3 : Obj) : List (Addr × Obj) := [(L + 1 + 1 + 1, o1), (L + 1 + 1, o2), (L + 1, o3), (146, tabObj #[]), (186, tabObj #[])]
inductive J1 (rest : List (Addr × Obj)) (g : Heap) (L : Addr) (s s' : Shared) : Prop
  | mk (h tk m ts xs ys cs tl cl dl tn nc) : (s' = { s with heap := h, toks := tk }) → (Fr g L h m) → (News g L h ((dl, W.listOf #[] 0) :: (cl, W.listOf ys.toArray nc) :: (tl, W.listOf ts.toArray 0) :: rest)) → (IntsAre ts xs) → ((xs.length = 7 ∧ ∀ x ∈ xs, 0 ≤ x)) → (IntsAre ys cs) → (cs.length = (3 + Int.fmod (xs.getD 6 0) 3).toNat) → ((∀ c ∈ cs, 0 ≤ c ∧ c < 1000)) → (OwnOff ((cl, W.listOf ys.toArray nc) :: (tl, W.listOf ts.toArray 0) :: rest) [dl]) → (AllLt dl rest) → (m (Str.ofString "totals") = some (.ref tl)) → (m (Str.ofString "coins") = some (.ref cl)) → (m (Str.ofString "due") = some (.ref dl)) → (m (Str.ofString "count") = some (.int (3 + Int.fmod (xs.getD 6 0) 3) tn)) → J1 rest g L s s'
/-- the words that are due -/
noncomputable def signsL : List Nat := [34, 92, 32, 10, 97]
noncomputable def numStr (n : Int) : Str := Str.ofString (toString n)
noncomputable def dueW : List Nat → List Int → List Str
  | g :: gs, c :: cs => ⟨#[g]⟩ :: numStr c :: dueW gs cs
  | _, _ => []
theorem dueW_snoc : ∀ (gs : List Nat) (cs : List Int) (i : Nat) (hg : i < gs.length) (hc : i < cs.length), dueW gs (cs.take (i + 1)) = dueW gs (cs.take i) ++ [⟨#[gs[i]]⟩, numStr cs[i]]
  | [], _, _, hg, _ => absurd hg (Nat.not_lt_zero _)
  | _ :: _, [], _, _, hc => absurd hc (Nat.not_lt_zero _)
  | g :: gs, c :: cs, 0, _, _ => by
    show dueW (g :: gs) [c] = [] ++ _
    cases gs <;> rfl
  | g :: gs, c :: cs, i + 1, hg, hc => by
    show ⟨#[g]⟩ :: numStr c :: dueW gs (cs.take (i + 1)) = (⟨#[g]⟩ :: numStr c :: dueW gs (cs.take i)) ++ _
    rw [dueW_snoc gs cs i (by simpa using hg) (by simpa using hc)]
    rfl
inductive J2 (rest : List (Addr × Obj)) (g : Heap) (L : Addr) (s s' : Shared) : Prop
  | mk (h tk m ts xs dv cs tl dl tn nd) : (s' = { s with heap := h, toks := tk }) → (Fr g L h m) → (News g L h ((dl, W.listOf dv.toArray nd) :: (tl, W.listOf ts.toArray 0) :: rest)) → (IntsAre ts xs) → ((xs.length = 7 ∧ ∀ x ∈ xs, 0 ≤ x)) → (StrsAre dv (dueW signsL cs ++ [numStr (Int.fmod (xs.getD 5 0) (2 * cs.sum + 1))])) → (AllLt dl rest) → (cs.length = (3 + Int.fmod (xs.getD 6 0) 3).toNat) → ((∀ c ∈ cs, 0 ≤ c ∧ c < 1000)) → (m (Str.ofString "totals") = some (.ref tl)) → (m (Str.ofString "due") = some (.ref dl)) → (m (Str.ofString "count") = some (.int (3 + Int.fmod (xs.getD 6 0) 3) tn)) → J2 rest g L s s'
theorem strs_snoc {vs : List Value} {ws : List Str} (h : StrsAre vs ws) (x : Str) (t : Tok) : StrsAre (vs ++ [Value.str x t]) (ws ++ [x]) := by
  induction h with
  | nil => exact .cons _ _ .nil
  | cons a t _ ih => exact .cons _ _ ih
theorem sign_item : ∀ (i : Nat) (h : i < signsL.length), Txt.item (Str.ofString "\"\\ \na") (i : Int) = ⟨#[signsL[i]]⟩
  | 0, _ => by
    show Txt.item _ ((0 : Nat) : Int) = ⟨#[34]⟩
    decide +kernel
  | 1, _ => by
    show Txt.item _ ((1 : Nat) : Int) = ⟨#[92]⟩
    decide +kernel
  | 2, _ => by
    show Txt.item _ ((2 : Nat) : Int) = ⟨#[32]⟩
    decide +kernel
  | 3, _ => by
    show Txt.item _ ((3 : Nat) : Int) = ⟨#[10]⟩
    decide +kernel
  | 4, _ => by
    show Txt.item _ ((4 : Nat) : Int) = ⟨#[97]⟩
    decide +kernel
  | _ + 5, h => absurd h (by simp [signsL])
theorem sum_bound {b : Int} : ∀ {cs : List Int}, (∀ c ∈ cs, 0 ≤ c ∧ c < b) → 0 ≤ cs.sum ∧ cs.sum ≤ b * cs.length
  | [], _ => by simp
  | c :: r, h => by
    have h1 := h c (.head _)
    have h2 := sum_bound fun d hd => h d (.tail _ hd)
    rw [List.sum_cons, List.length_cons, show ((r.length + 1 : Nat) : Int) = (r.length : Int) + 1 from by push_cast; rfl, Int.mul_add]
    omega

end
section
/-- the pieces of the words, as they are written -/
inductive Pcs : List Str → List Str → Prop
  | nil : Pcs [] []
  | cons {w : Str} {q : Bool} {sep : Nat} {ws ps : List Str} : sep ∈ wsl → Pcs ws ps → Pcs (w :: ws) (⟨(wrt w.cps.toList q).toArray⟩ :: ⟨#[sep]⟩ :: ps)
inductive Wr : List Str → List Nat → Prop
  | nil : Wr [] []
  | cons {w : Str} {q : Bool} {sep : Nat} {ws : List Str} {t : List Nat} : sep ∈ wsl → Wr ws t → Wr (w :: ws) (wrt w.cps.toList q ++ sep :: t)
theorem Pcs.snoc {ws ps : List Str} (h : Pcs ws ps) (w : Str) (q : Bool) {sep : Nat} (hs : sep ∈ wsl) : Pcs (ws ++ [w]) (ps ++ [⟨(wrt w.cps.toList q).toArray⟩, ⟨#[sep]⟩]) := by
  induction h with
  | nil => exact .cons hs .nil
  | cons h _ ih => exact .cons h ih
noncomputable def WordOk (w : Str) : Prop := w.length ≤ 100 ∧ w.cps.all (· < 128) = true ∧ w.cps.toList ≠ []
theorem escs_len : ∀ l : List Nat, (l.flatMap esc).length ≤ 2 * l.length
  | [] => by simp
  | c :: l => by
    have := escs_len l
    rw [List.flatMap_cons, List.length_append, List.length_cons]
    have h2 : (esc c).length ≤ 2 := by unfold esc; split <;> simp
    omega
theorem bsl_len : ∀ l : List Nat, (l.flatMap fun c => [92, c]).length = 2 * l.length
  | [] => by simp
  | c :: l => by
    have := bsl_len l
    rw [List.flatMap_cons, List.length_append, List.length_cons, this]
    simp
    omega
theorem wrt_len (l : List Nat) (q : Bool) : (wrt l q).length ≤ 2 * l.length + 2 := by
  unfold wrt
  cases q
  · have := bsl_len l
    simp only [Bool.false_eq_true, if_false]
    omega
  · have := escs_len l
    simp only [if_true, List.length_cons, List.length_append, List.length_nil]
    omega
theorem wrt_ascii {l : List Nat} (h : ∀ c ∈ l, c < 128) (q : Bool) : ∀ c ∈ wrt l q, c < 128 := by
  unfold wrt
  intro c hc
  cases q
  · simp only [Bool.false_eq_true, if_false, List.mem_flatMap] at hc
    obtain ⟨d, hd, hc⟩ := hc
    simp only [List.mem_cons, List.not_mem_nil, or_false] at hc
    rcases hc with rfl | rfl
    · decide
    · exact h _ hd
  · simp only [if_true, List.mem_cons, List.mem_append, List.mem_flatMap, List.not_mem_nil, or_false] at hc
    rcases hc with rfl | ⟨d, hd, hc⟩ | rfl
    · decide
    · have := h _ hd
      unfold esc at hc
      split at hc <;> simp at hc <;> omega
    · decide
theorem Pcs.lens {ws ps : List Str} (h : Pcs ws ps) (hw : ∀ w ∈ ws, WordOk w) : (ps.map (·.length)).sum ≤ 300 * ws.length ∧ ps.length = 2 * ws.length := by
  induction h with
  | nil => simp
  | @cons w q sep ws ps h _ ih =>
    have i := ih fun x hx => hw x (.tail _ hx)
    have hl := (hw w (.head _)).1
    have h2 := wrt_len w.cps.toList q
    have h6 : w.cps.toList.length = w.cps.size := Array.length_toList
    have h3 : (⟨(wrt w.cps.toList q).toArray⟩ : Str).length = (wrt w.cps.toList q).length := by show Array.size _ = _; simp
    have h4 : w.cps.size ≤ 100 := hl
    have h5 : (⟨#[sep]⟩ : Str).length = 1 := rfl
    simp only [List.map_cons, List.sum_cons, List.length_cons, h3, h5]
    omega
noncomputable def flatS (ps : List Str) : List Nat := ps.flatMap fun p => p.cps.toList
theorem Pcs.wr {ws ps : List Str} (h : Pcs ws ps) : Wr ws (flatS ps) := by
  induction h with
  | nil => exact .nil
  | @cons w q sep ws ps h _ ih =>
    have e : flatS (⟨(wrt w.cps.toList q).toArray⟩ :: ⟨#[sep]⟩ :: ps) = wrt w.cps.toList q ++ sep :: flatS ps := by
      unfold flatS
      rw [List.flatMap_cons, List.flatMap_cons]
      simp
    rw [e]
    exact .cons h ih
theorem Wr.ascii {ws : List Str} {t : List Nat} (h : Wr ws t) (hw : ∀ w ∈ ws, WordOk w) : ∀ c ∈ t, c < 128 := by
  induction h with
  | nil => intro c hc; cases hc
  | @cons w q sep ws t h _ ih =>
    intro c hc
    rcases List.mem_append.mp hc with hc | hc
    · refine wrt_ascii (fun d hd => ?_) q c hc
      have := (hw w (.head _)).2.1
      have := (Array.all_eq_true_iff_forall_mem.mp this) d (by simpa using hd)
      simpa using this
    · rcases List.mem_cons.mp hc with rfl | hc
      · simp only [wsl, List.mem_cons, List.not_mem_nil, or_false] at h
        omega
      · exact ih (fun x hx => hw x (.tail _ hx)) c hc
theorem Wr.len {ws : List Str} {t : List Nat} (h : Wr ws t) (hw : ∀ w ∈ ws, WordOk w) : t.length ≤ 300 * ws.length := by
  induction h with
  | nil => simp
  | @cons w q sep ws t h _ ih =>
    have i := ih fun x hx => hw x (.tail _ hx)
    have h2 := wrt_len w.cps.toList q
    have h6 : w.cps.toList.length = w.cps.size := Array.length_toList
    have h4 : w.cps.size ≤ 100 := (hw w (.head _)).1
    rw [List.length_append, List.length_cons, List.length_cons]
    omega
theorem glued_flat : ∀ ps : List Str, (Txt.join (Str.ofString "") ps).cps.toList = flatS ps := by
  intro ps
  show (Builtin.Str.glued (Str.ofString "") ps).cps.toList = _
  rw [StrLaws.glued_eq_join, no_is]
  induction ps with
  | nil => rfl
  | cons a r ih =>
    rw [join_nil_cons, PySem.Str.cps_append, Array.toList_append, ih]
    rfl
theorem numStr_ok {n : Int} (h0 : 0 ≤ n) (h1 : n < 10 ^ 10) : WordOk (numStr n) := by
  have hl := KT.len_num h0 h1
  obtain ⟨k, rfl⟩ := Int.eq_ofNat_of_zero_le h0
  have hs := KIN.signs_num k
  refine ⟨Nat.le_trans hl (by decide), ?_, ?_⟩
  · rw [Array.all_eq_true_iff_forall_mem]
    intro c hc
    have hc' : c ∈ (numStr k).cps.toList := by simpa using hc
    unfold numStr at hc'
    rw [hs] at hc'
    obtain ⟨ch, hch, e⟩ := List.mem_map.mp hc'
    have r := digit_range (Nat.isDigit_of_mem_toDigits (by decide) (by decide) hch)
    rw [e] at r
    simp only [decide_eq_true_eq]
    omega
  · unfold numStr
    rw [hs]
    intro e
    have h := toDigits_len_ge 10 k
    rw [List.map_eq_nil_iff.mp e] at h
    exact absurd h (by decide)
theorem sign_ok {g : Nat} (h : g < 128) : WordOk ⟨#[g]⟩ := ⟨by show 1 ≤ 100; decide, by simp [h], by simp⟩
theorem dueW_ok : ∀ {gs : List Nat} {cs : List Int}, (∀ g ∈ gs, g < 128) → (∀ c ∈ cs, 0 ≤ c ∧ c < 1000) → ∀ w ∈ dueW gs cs, WordOk w
  | [], _, _, _ => by intro w hw; cases hw
  | _ :: _, [], _, _ => by intro w hw; cases hw
  | g :: gs, c :: cs, hg, hc => by
    intro w hw
    rcases List.mem_cons.mp hw with rfl | hw
    · exact sign_ok (hg _ (.head _))
    · rcases List.mem_cons.mp hw with rfl | hw
      · have := hc _ (.head _)
        exact numStr_ok this.1 (by omega)
      · exact dueW_ok (fun x hx => hg x (.tail _ hx)) (fun x hx => hc x (.tail _ hx)) w hw
theorem dueW_len : ∀ {gs : List Nat} {cs : List Int}, cs.length ≤ gs.length → (dueW gs cs).length = 2 * cs.length
  | [], [], _ => rfl
  | [], _ :: _, h => absurd h (by simp)
  | _ :: _, [], _ => rfl
  | g :: gs, c :: cs, h => by
    show (dueW gs cs).length + 1 + 1 = 2 * (cs.length + 1)
    rw [dueW_len (by simpa using h)]
    omega
theorem strs_at {vs : List Value} {ws : List Str} (h : StrsAre vs ws) : ∀ {i : Nat} {v : Value}, vs[i]? = some v → ∃ x t, v = .str x t ∧ ws[i]? = some x := by
  induction h with
  | nil => intro i v e; simp at e
  | cons a t _ ih =>
    intro i v e
    cases i with
    | zero => simp at e; subst e; exact ⟨_, _, rfl, by simp⟩
    | succ i => simp at e; obtain ⟨x, t, h1, h2⟩ := ih e; exact ⟨x, t, h1, by simpa using h2⟩
theorem strs_len {vs : List Value} {ws : List Str} (h : StrsAre vs ws) : vs.length = ws.length := by
  induction h with
  | nil => rfl
  | cons a t _ ih => simp [ih]
noncomputable def wordsL (xs cs : List Int) : List Str := dueW signsL cs ++ [numStr (Int.fmod (xs.getD 5 0) (2 * cs.sum + 1))]
inductive J3 (rest : List (Addr × Obj)) (g : Heap) (L : Addr) (s s' : Shared) : Prop
  | mk (h tk m xs dv cs dl tn nd T tT) : (s' = { s with heap := h, toks := tk }) → (Fr g L h m) → (News g L h ((dl, W.listOf dv.toArray nd) :: rest)) → ((xs.length = 7 ∧ ∀ x ∈ xs, 0 ≤ x)) → (StrsAre dv (wordsL xs cs)) → (AllLt dl rest) → (cs.length = (3 + Int.fmod (xs.getD 6 0) 3).toNat) → ((∀ c ∈ cs, 0 ≤ c ∧ c < 1000)) → (Wr (wordsL xs cs) T.cps.toList) → (m (Str.ofString "text") = some (.str T tT)) → (m (Str.ofString "due") = some (.ref dl)) → (m (Str.ofString "count") = some (.int (3 + Int.fmod (xs.getD 6 0) 3) tn)) → J3 rest g L s s'
theorem count_bounds {xs : List Int} {cs : List Int} (h : cs.length = (3 + Int.fmod (xs.getD 6 0) 3).toNat) : 3 ≤ cs.length ∧ cs.length ≤ 5 := by
  have hf0 := Int.fmod_nonneg_of_pos (xs.getD 6 0) (show (0 : Int) < 3 by decide)
  have hf1 := Int.fmod_lt_of_pos (xs.getD 6 0) (show (0 : Int) < 3 by decide)
  omega
theorem estate_bounds {xs : List Int} {cs : List Int} (hcb : ∀ c ∈ cs, 0 ≤ c ∧ c < 1000) (h5 : cs.length ≤ 5) : 0 ≤ Int.fmod (xs.getD 5 0) (2 * cs.sum + 1) ∧ Int.fmod (xs.getD 5 0) (2 * cs.sum + 1) ≤ 2 * cs.sum ∧ 2 * cs.sum ≤ 10000 := by
  have hsb := sum_bound hcb
  have h1 := Int.fmod_nonneg_of_pos (xs.getD 5 0) (show 0 < 2 * cs.sum + 1 by omega)
  have h2 := Int.fmod_lt_of_pos (xs.getD 5 0) (show 0 < 2 * cs.sum + 1 by omega)
  omega
theorem wordsL_ok {xs cs : List Int} (hc : cs.length = (3 + Int.fmod (xs.getD 6 0) 3).toNat) (hcb : ∀ c ∈ cs, 0 ≤ c ∧ c < 1000) : ∀ w ∈ wordsL xs cs, WordOk w := by
  have h5 := (count_bounds hc).2
  have he := estate_bounds (xs := xs) hcb h5
  intro w hw
  rcases List.mem_append.mp hw with hw | hw
  · exact dueW_ok (by decide) hcb w hw
  · rw [List.mem_singleton.mp hw]
    exact numStr_ok he.1 (by omega)
theorem wordsL_len {xs cs : List Int} (hc : cs.length = (3 + Int.fmod (xs.getD 6 0) 3).toNat) : (wordsL xs cs).length = 2 * cs.length + 1 := by
  have h5 := (count_bounds hc).2
  unfold wordsL
  rw [List.length_append, dueW_len (by show cs.length ≤ 5; exact h5)]
  rfl
theorem blank_item (z : Int) : ∃ c ∈ wsl, Txt.item (Str.ofString " \n\t\r") (Int.fmod z 4) = ⟨#[c]⟩ := by
  have h0 := Int.fmod_nonneg_of_pos z (show (0 : Int) < 4 by decide)
  have h1 := Int.fmod_lt_of_pos z (show (0 : Int) < 4 by decide)
  have : Int.fmod z 4 = 0 ∨ Int.fmod z 4 = 1 ∨ Int.fmod z 4 = 2 ∨ Int.fmod z 4 = 3 := by omega
  rcases this with e | e | e | e <;> rw [e]
  · exact ⟨32, by decide, by decide +kernel⟩
  · exact ⟨10, by decide, by decide +kernel⟩
  · exact ⟨9, by decide, by decide +kernel⟩
  · exact ⟨13, by decide, by decide +kernel⟩

end
section
/-- the text that is left for the words that are left -/
noncomputable def Left (todo : List Str) (t : List Nat) : Prop := ∃ ws t', (∀ c ∈ ws, c ∈ wsl) ∧ t = ws ++ t' ∧ Wr todo t'
noncomputable def headS : List Str → Str
  | [] => Str.ofString ""
  | w :: _ => w
theorem c_get_word (prog : Program) (w : World) (text : Str) (P : LexP) (rest : List (Addr × Obj)) (ln : Int) (p : Nat) (tkl tkp : Tok) (ne : Nat) (O : LexOrd P)
    (R : ReadOk prog w text P.f P.c P.pl P.cp P.ct P.fo P.oc P.ocp P.oct) (h1 : OwnOff rest [P.l, P.d, P.pl]) (ht : text.length ≤ 100000) (todo : List Str) (hok : ∀ x ∈ todo, WordOk x) (hl : Left todo (text.cps.toList.drop p)) :
    Calls prog w (.ref 69) [.ref P.x] [] 10 50 (LexLed w P ln tkl p tkp #[] ne ++ rest) (fun v n' => ∃ (ln' : Int) (tkl' : Tok) (p' : Nat) (tkp' tk : Tok),
      v = .str (headS todo) tk ∧ Left todo.tail (text.cps.toList.drop p') ∧ (todo = [] → text.cps.toList.drop p' = []) ∧ ln' + nls (text.cps.toList.drop p') = ln + nls (text.cps.toList.drop p) ∧ n' = LexLed w P ln' tkl' p' tkp' #[] ne ++ rest) := by
  obtain ⟨ws, t', hws, ht', hwr⟩ := hl
  cases hwr with
  | nil =>
    refine Calls.mono ?_ (c_get_token prog w text P rest ln p tkl tkp ne O R h1 ht ws [] [] [] [] 1 (by simp) hws ht' (.inr (.inr ⟨rfl, rfl, rfl, rfl⟩)))
    rintro v n ⟨tkl', tkp', tk, rfl, rfl⟩
    have hd : text.cps.toList.drop (p + ws.length + ([] : List Nat).length + 1) = [] := by
      have := drop_more ht'
      rw [List.drop_eq_nil_iff] at this ⊢
      simp only [List.length_nil]
      omega
    refine ⟨_, _, _, _, tk, congrArg (fun z => Value.str z tk) no_is.symm, ?_, fun _ => hd, ?_, rfl⟩
    · rw [hd]
      exact ⟨[], [], by simp, rfl, .nil⟩
    · rw [hd, ht', nls_append, nls_nil]
      omega
  | @cons x q sep todo t'' hsep hwr =>
    have hx := hok x (.head _)
    have hlen : x.cps.toList.length ≤ 1000 := by
      have h4 : x.cps.size ≤ 100 := hx.1
      simp
      omega
    have hval : ∀ tk, Value.str ⟨x.cps.toList.toArray⟩ tk = Value.str x tk := by intro tk; cases x; simp
    have hd := drop_more ht'
    cases q with
    | true =>
      refine Calls.mono ?_ (c_get_token prog w text P rest ln p tkl tkp ne O R h1 ht ws x.cps.toList (sep :: t'') _ (wrt x.cps.toList true) 0 hlen hws ht' (.inl ⟨rfl, rfl, rfl⟩))
      rintro v n ⟨tkl', tkp', tk, rfl, rfl⟩
      have hd2 := drop_more hd
      refine ⟨_, _, _, _, tk, hval tk, ?_, fun x => (by cases x), ?_, rfl⟩
      · rw [Nat.add_zero, hd2]
        exact ⟨[sep], t'', by simpa using hsep, rfl, hwr⟩
      · rw [Nat.add_zero, hd2, ht', nls_append, nls_append]
        omega
    | false =>
      refine Calls.mono ?_ (c_get_token prog w text P rest ln p tkl tkp ne O R h1 ht ws x.cps.toList t'' _ (wrt x.cps.toList false ++ [sep]) 0 hlen hws ht' (.inr (.inl ⟨sep, hsep, hx.2.2, rfl, rfl, rfl⟩)))
      rintro v n ⟨tkl', tkp', tk, rfl, rfl⟩
      have hd2 : text.cps.toList.drop (p + ws.length + (wrt x.cps.toList false ++ [sep]).length) = t'' := by
        refine drop_more ?_
        rw [hd]
        simp
      refine ⟨_, _, _, _, tk, hval tk, ?_, fun x => (by cases x), ?_, rfl⟩
      · rw [Nat.add_zero, hd2]
        exact ⟨[], t'', by simp, rfl, hwr⟩
      · rw [Nat.add_zero, hd2, ht', nls_append, nls_append, nls_append, nls_cons, nls_cons, nls_nil]
        omega
theorem gw_use {prog : Program} {w : World} {P : LexP} {text : Str} {dp un : Nat} {gd : Option (List Code)} {cn : Str} {cs : Scope} {a : Addr} {ccd : Value} {cl : List (Str × Addr)} {outer : List Env} {A₀ : Around} {base h₀ : Heap} {L : Addr} {m : Str → Option Value} {s : Shared} {Rk : Result → Shared → Prop}
    {pp : Program} {loose : List Str} {mean : ExcName → Option Value} {mg mb : Str → Option Value} {news r : List (Addr × Obj)} {ln : Int} {p : Nat} {tkl tkp : Tok} {todo : List Str} {ne : Nat}
    (O : LexOrd P) (R : ReadOk prog w text P.f P.c P.pl P.cp P.ct P.fo P.oc P.ocp P.oct) (ht : text.length ≤ 100000) (hl : Left todo (text.cps.toList.drop p)) (hok : ∀ x ∈ todo, WordOk x) (B : Below A₀ base outer h₀) (F : Fr h₀ L s.heap m) (X : (Mine.hd.heap_39 w.params).In h₀) (N : News h₀ L s.heap news) (T : Top pp loose mean mg mb h₀) (hk : cs.kind = .function)
    (u : Pulls (LexLed w P ln tkl p tkp #[] ne) news r) (ho : OwnOff r [P.l, P.d, P.pl])
    (hd : dp + 10 < recursionLimit) (hu : un + 50 < cLine)
    (h : ∀ ln' tkl' (p' : Nat) tkp' tk h' tks, Left todo.tail (text.cps.toList.drop p') → (todo = [] → text.cps.toList.drop p' = []) → ln' + nls (text.cps.toList.drop p') = ln + nls (text.cps.toList.drop p) → Fr h₀ L h' m → News h₀ L h' (LexLed w P ln' tkl' p' tkp' #[] ne ++ r) → Rk (.ok (.ret (.str (headS todo) tk))) { s with heap := h', toks := tks }) :
    codeAny (model prog w) (ktrTop dp un gd cn cs L a ccd cl outer) (.call (.ref 69) ⟨[.ref P.x], []⟩) Rk s := by
  refine c_get_word prog w text P r ln p tkl tkp ne O R ho ht todo hok hl dp un gd cn cs a ccd cl outer A₀ base h₀ L m s Rk pp loose mean mg mb B F X (News.perm u.mem N) T hk hd hu ?_
  rintro v news' h' tk' ⟨ln', tkl', p', tkp', tk, rfl, hp', hz', hn', rfl⟩ F' N'
  exact h ln' tkl' p' tkp' tk h' tk' hp' hz' hn' F' N'
theorem ll_use {prog : Program} {w : World} {dp un : Nat} {gd : Option (List Code)} {cn : Str} {cs : Scope} {a : Addr} {ccd : Value} {cl : List (Str × Addr)} {outer : List Env} {A₀ : Around} {base h₀ : Heap} {L : Addr} {m : Str → Option Value} {s : Shared} {Rk : Result → Shared → Prop}
    {pp : Program} {loose : List Str} {mean : ExcName → Option Value} {mg mb : Str → Option Value} {news r : List (Addr × Obj)} {text : Str} {tt : Tok}
    (ht : text.length ≤ 100000) (B : Below A₀ base outer h₀) (F : Fr h₀ L s.heap m) (X : (Mine.hd.heap_39 w.params).In h₀) (N : News h₀ L s.heap news) (T : Top pp loose mean mg mb h₀) (hk : cs.kind = .function)
    (u : Pulls [(146, tabObj #[])] news r) (ho : OwnOff r [146])
    (hd : dp + 10 < recursionLimit) (hu : un + 100 < cLine)
    (h : ∀ P tkl tkp ps h' tks, LexOrd P → @LT.lt Nat _ 146 P.ct → AllLt P.ct r → ReadOk prog w text P.f P.c P.pl P.cp P.ct P.fo P.oc P.ocp P.oct → Fr h₀ L h' m → News h₀ L h' (LexLed w P 1 tkl (0 : Nat) tkp #[] 0 ++ (146, tabObj ps) :: r) → Rk (.ok (.ret (.ref P.x))) { s with heap := h', toks := tks }) :
    codeAny (model prog w) (ktrTop dp un gd cn cs L a ccd cl outer) (.call (.ref 151) ⟨[.str text tt], []⟩) Rk s := by
  refine c_law_lexer prog w r tt text ht ho dp un gd cn cs a ccd cl outer A₀ base h₀ L m s Rk pp loose mean mg mb B F X (News.perm u.mem N) T hk hd hu ?_
  rintro v news' h' tk' ⟨P, tkl, tkp, ps, rfl, rfl, q1, q2, q3, q4⟩ F' N'
  exact h P tkl tkp ps h' tk' q1 q2 q3 q4 F' N'
noncomputable abbrev cellsR (L : Addr) (o1 o2 o3 : Obj) : List (Addr × Obj) := [(L + 1 + 1 + 1, o1), (L + 1 + 1, o2), (L + 1, o3), (186, tabObj #[])]
inductive J4 (prog : Program) (w : World) (o1 o2 o3 : Obj) (g : Heap) (L : Addr) (s s' : Shared) : Prop
  | mk (h tk m xs cs dv dl nd tn T tT P ln tkl) (p : Nat) (tkp ps wl wv nw) : (s' = { s with heap := h, toks := tk }) → (Fr g L h m) → (News g L h (LexLed w P ln tkl p tkp #[] 0 ++ (wl, W.listOf wv.toArray nw) :: (146, tabObj ps) :: (dl, W.listOf dv.toArray nd) :: cellsR L o1 o2 o3)) → ((xs.length = 7 ∧ ∀ x ∈ xs, 0 ≤ x)) → (StrsAre dv (wordsL xs cs)) → (StrsAre wv (wordsL xs cs)) → (cs.length = (3 + Int.fmod (xs.getD 6 0) 3).toNat) → ((∀ c ∈ cs, 0 ≤ c ∧ c < 1000)) → (T.cps.all (· < 128) = true) → (T.length ≤ 100000) → (T.cps.toList.drop p = []) → (ln = 1 + nls T.cps.toList) → (LexOrd P) → (ReadOk prog w T P.f P.c P.pl P.cp P.ct P.fo P.oc P.ocp P.oct) → ((@LT.lt Nat _ P.l wl ∧ @LT.lt Nat _ 146 P.ct ∧ @LT.lt Nat _ dl P.ct ∧ @LT.lt Nat _ (L + 1 + 1 + 1) P.ct ∧ @LT.lt Nat _ (L + 1 + 1 + 1) dl)) → (m (Str.ofString "text") = some (.str T tT)) → (m (Str.ofString "due") = some (.ref dl)) → (m (Str.ofString "count") = some (.int (3 + Int.fmod (xs.getD 6 0) 3) tn)) → (m (Str.ofString "lexer") = some (.ref P.x)) → (m (Str.ofString "words") = some (.ref wl)) → J4 prog w o1 o2 o3 g L s s'

end
section
/-- the pairs that are put in a row -/
noncomputable def pairsL : List Nat → List Int → List (Str × Int)
  | g :: gs, c :: cs => (⟨#[g]⟩, 120 * c) :: pairsL gs cs
  | _, _ => []
theorem pairsL_snoc : ∀ (gs : List Nat) (cs : List Int) (i : Nat) (hg : i < gs.length) (hc : i < cs.length), pairsL gs (cs.take (i + 1)) = pairsL gs (cs.take i) ++ [(⟨#[gs[i]]⟩, 120 * cs[i])]
  | [], _, _, hg, _ => absurd hg (Nat.not_lt_zero _)
  | _ :: _, [], _, _, hc => absurd hc (Nat.not_lt_zero _)
  | g :: gs, c :: cs, 0, _, _ => by
    show pairsL (g :: gs) [c] = [] ++ _
    cases gs <;> rfl
  | g :: gs, c :: cs, i + 1, hg, hc => by
    show (⟨#[g]⟩, 120 * c) :: pairsL gs (cs.take (i + 1)) = ((⟨#[g]⟩, 120 * c) :: pairsL gs (cs.take i)) ++ _
    rw [pairsL_snoc gs cs i (by simpa using hg) (by simpa using hc)]
    rfl
theorem pairsL_mem : ∀ {gs : List Nat} {cs : List Int} {q : Str × Int}, q ∈ pairsL gs cs → (∃ g ∈ gs, q.1 = ⟨#[g]⟩) ∧ ∃ c ∈ cs, q.2 = 120 * c
  | [], _, _, h => by cases h
  | _ :: _, [], _, h => by cases h
  | g :: gs, c :: cs, q, h => by
    rcases List.mem_cons.mp h with rfl | h
    · exact ⟨⟨g, .head _, rfl⟩, c, .head _, rfl⟩
    · obtain ⟨⟨g', h1, h2⟩, c', h3, h4⟩ := pairsL_mem h
      exact ⟨⟨g', .tail _ h1, h2⟩, c', .tail _ h3, h4⟩
theorem pairsL_nodup : ∀ {gs : List Nat} {cs : List Int}, gs.Nodup → ((pairsL gs cs).map (·.1)).Nodup
  | [], _, _ => by simp [pairsL]
  | _ :: _, [], _ => by simp [pairsL]
  | g :: gs, c :: cs, h => by
    rw [List.nodup_cons] at h
    show ((⟨#[g]⟩ : Str) :: (pairsL gs cs).map (·.1)).Nodup
    rw [List.nodup_cons]
    refine ⟨fun hm => ?_, pairsL_nodup h.2⟩
    obtain ⟨q, hq, e⟩ := List.mem_map.mp hm
    obtain ⟨⟨g', h1, h2⟩, _⟩ := pairsL_mem hq
    rw [e] at h2
    have : g = g' := by
      have h3 := congrArg (fun z : Str => z.cps.toList) h2
      simpa using h3
    exact h.1 (this ▸ h1)
theorem pairsL_sum : ∀ {gs : List Nat} {cs : List Int}, cs.length ≤ gs.length → ((pairsL gs cs).map (·.2)).sum = 120 * cs.sum
  | [], [], _ => rfl
  | [], _ :: _, h => absurd h (by simp)
  | _ :: _, [], _ => rfl
  | g :: gs, c :: cs, h => by
    show (120 * c :: (pairsL gs cs).map (·.2)).sum = _
    rw [List.sum_cons, pairsL_sum (by simpa using h), List.sum_cons, Int.mul_add]
theorem pairsL_len : ∀ {gs : List Nat} {cs : List Int}, cs.length ≤ gs.length → (pairsL gs cs).length = cs.length
  | [], [], _ => rfl
  | [], _ :: _, h => absurd h (by simp)
  | _ :: _, [], _ => rfl
  | g :: gs, c :: cs, h => by
    show (pairsL gs cs).length + 1 = cs.length + 1
    rw [pairsL_len (by simpa using h)]
theorem perm_sum {l l' : List Int} (h : l.Perm l') : l.sum = l'.sum := by
  induction h with
  | nil => rfl
  | cons x _ ih => simp [ih]
  | swap x y l => simp only [List.sum_cons]; omega
  | trans _ _ h1 h2 => exact h1.trans h2
/-- the row as it stands: in order, and of the pairs -/
structure RowOk (rs : List RowI) (ps : List (Str × Int)) : Prop where
  rising : Rising rs
  perm : (rowC rs).Perm ps
theorem RowOk.put {l1 l2 : List RowI} {r0 : RowI} {ps : List (Str × Int)} (h : RowOk (l1 ++ l2) ps) (h1 : ∀ r ∈ l1, r.c ≤ r0.c) (h2 : ∀ r ∈ l2, r0.c < r.c) : RowOk (l1 ++ r0 :: l2) (ps ++ [(r0.nm, r0.c)]) := by
  obtain ⟨hr, hp⟩ := h
  refine ⟨?_, ?_⟩
  · unfold Rising at hr ⊢
    rw [List.pairwise_append] at hr ⊢
    obtain ⟨a, b, c⟩ := hr
    refine ⟨a, List.pairwise_cons.mpr ⟨fun r hr => Int.le_of_lt (h2 r hr), b⟩, ?_⟩
    intro x hx y hy
    rcases List.mem_cons.mp hy with rfl | hy
    · exact h1 x hx
    · exact c x hx y hy
  · unfold rowC at hp ⊢
    rw [List.map_append, List.map_cons]
    refine List.perm_middle.trans ?_
    rw [← List.map_append]
    exact (List.Perm.cons _ hp).trans (List.perm_append_singleton _ _).symm
theorem dueW_at : ∀ (gs : List Nat) (cs : List Int) (i : Nat) (hg : i < gs.length) (hc : i < cs.length) (z : List Str), (dueW gs cs ++ z)[2 * i]? = some ⟨#[gs[i]]⟩ ∧ (dueW gs cs ++ z)[2 * i + 1]? = some (numStr cs[i])
  | [], _, _, hg, _, _ => absurd hg (Nat.not_lt_zero _)
  | _ :: _, [], _, _, hc, _ => absurd hc (Nat.not_lt_zero _)
  | g :: gs, c :: cs, 0, _, _, _ => ⟨rfl, rfl⟩
  | g :: gs, c :: cs, i + 1, hg, hc, z => dueW_at gs cs i (by simpa using hg) (by simpa using hc) z
theorem strs_get {vs : List Value} {ws : List Str} (h : StrsAre vs ws) {k : Nat} {x : Str} (e : ws[k]? = some x) : ∃ t, vs[k]? = some (.str x t) := by
  have hl := strs_len h
  have hk : k < vs.length := by
    rw [hl]
    exact (List.getElem?_eq_some_iff.mp e).1
  obtain ⟨y, t, e1, e2⟩ := strs_at h (List.getElem?_eq_getElem hk)
  rw [e] at e2
  cases e2
  exact ⟨t, by rw [List.getElem?_eq_getElem hk, e1]⟩

end
section
section
variable {prog : Program} {w : World} {A : Around} {E : Value → Shared → Prop} {s : Shared} {h₀ : Heap} {L : Addr} {m : Str → Option Value} {env : PySem.Env}
theorem compLoop_pairD {kx vx iter : Expr} {elts : List Expr} {x1} {tp : PySem.Pos} {scope : Scope} {pos : PySem.Pos} {it : Value} {D : Addr} {env : PySem.Env} {R : Result → Shared → Prop} (I : Nat → Shared → Prop)
    (turn : ∀ n s, I n s → wpAny (model prog w) A (pyNext it) (fun r s₁ => match r with
      | none => R (.ok .next) s₁
      | some v => wpAny (model prog w) A (letOwnedTupleGo (.Tuple elts x1 tp) it v) (fun _ s₁' => wpAny (model prog w) A (assign (.Tuple elts x1 tp) env v) (fun _ s₂ =>
          wpAny (model prog w) A (eval kx env) (fun kv s₄ => wpAny (model prog w) A (eval vx env) (fun vv s₅ =>
              wpAny (model prog w) A (dictSet D kv vv) (fun _ s₆ => ∃ m, m < n ∧ I m s₆) (notedBy (model prog w) A env fun e s' => R (.error e) s') s₅) (notedBy (model prog w) A env fun e s' => R (.error e) s') s₄) (notedBy (model prog w) A env fun e s' => R (.error e) s') s₂)
          (notedBy (model prog w) A env fun e s' => R (.error e) s') s₁') (notedBy (model prog w) A env fun e s' => R (.error e) s') s₁) (notedBy (model prog w) A env fun e s' => R (.error e) s') s)
    (n : Nat) (h : I n s) : codeAny (model prog w) A (.compLoop (.DictComp kx vx [⟨.Tuple elts x1 tp, iter, [], 0⟩] scope pos) 0 it (.ref D) env) R s := by
  refine codeAny_loop rfl I (fun n s hI => ?_) n h
  show wpAny _ A ((compTurn (.DictComp kx vx [⟨.Tuple elts x1 tp, iter, [], 0⟩] scope pos) 0 it (.ref D) env).onRaise (fun x => do noteFrame x env; theTreesLotGoes x)) _ _ s
  refine wpAny_noted ?_
  rw [compTurn_dict]
  refine wpAny_bind (wpAny_standAt (wpAny_bind (wpAny_mono (turn n s hI) (fun r s₁ h₁ => ?_) fun _ _ h' => h')))
  cases r with
  | none => exact wpAny_pure h₁
  | some v =>
    refine wpAny_bind (wpAny_mono h₁ (fun _ s₁' h₁' => ?_) fun _ _ h' => h')
    refine wpAny_bind (wpAny_mono h₁' (fun _ s₂ h₂ => wpAny_bind (wpAny_mono (wpAny_tests_nil (Q := fun ok s₃ => ok = true ∧ s₃ = s₂) ⟨rfl, rfl⟩) (fun ok s₃ h₃ => ?_) fun _ _ h' => h')) fun _ _ h' => h')
    obtain ⟨rfl, rfl⟩ := h₃
    exact wpAny_bind (wpAny_bind (wpAny_mono h₂ (fun kv s₄ h₄ => wpAny_bind (wpAny_holding (wpAny_mono h₄ (fun vv s₅ h₅ => wpAny_bind (wpAny_standAt (wpAny_holding (wpAny_mono h₅ (fun _ s₆ h₆ => wpAny_pure ⟨rfl, h₆⟩) fun _ _ h' => h')))) fun _ _ h' => h'))) fun _ _ h' => h'))
inductive DEnd (h₀ : Heap) (L : Addr) (m : Str → Option Value) (s : Shared) (led : List (Addr × Obj)) (nm : Str) (tn : Tok) (z : Int) (kv vv : Value) (s₅ : Shared) : Prop
  | mk (t h' tk') : (kv = .str nm tn) → (vv = .int z t) → (s₅ = { s with heap := h', toks := tk' }) → (Fr h₀ L h' m) → (News h₀ L h' led) → DEnd h₀ L m s led nm tn z kv vv s₅
theorem rows_take {rs : List RowI} {f : RowI → Int} {i : Nat} (hi : i < rs.length) (hn : (rs.map (·.nm)).Nodup) : kdpPut ((rs.take i).map fun r => (r.nm, f r)) rs[i].nm (f rs[i]) = (rs.take (i + 1)).map fun r => (r.nm, f r) := by
  have hoff : rs[i].nm ∉ (((rs.take i).map fun r => (r.nm, f r)).map (·.1)) := by
    rw [List.map_map]
    intro hx
    rw [← List.take_append_drop i rs, List.map_append] at hn
    rw [List.drop_eq_getElem_cons hi, List.map_cons] at hn
    exact (List.nodup_append.mp hn).2.2 _ hx _ (.head _) rfl
  rw [kdpPut_new (has_off hoff), List.take_add_one, List.getElem?_eq_getElem hi, List.map_append]
  rfl
theorem block_D {kx vx iter : Expr} {x x₂ : Str} {px px₂ tp : PySem.Pos} {tk} {scope : Scope} {cl : List (Str × Addr)} {pos : PySem.Pos} {s₂ : Shared} {I ax : Addr} {rs : List RowI} {nr : Nat} {f : RowI → Int} {news : List (Addr × Obj)} {RR : Value → Addr → Result → Shared → Prop}
    (hsz : rs.length ≤ 100) (hnm : (rs.map (·.nm)).Nodup) (hmem : ∀ r ∈ rs, (r.a, rowObj r) ∈ news) (hax : (ax, W.listOf (rowVals rs).toArray nr) ∈ news)
    (hcell : ∀ y ∈ scope.names, y.2 ≠ .cell) (hkind : scope.kind = .function) (hx : scope.names.lookup x = some .local) (hx₂ : scope.names.lookup x₂ = some .local) (hxx : x ≠ x₂) (hh : A.handled = none)
    (hst : s₂.heap.IsListIter I ax 0) (F : Fr h₀ L s₂.heap m) (N : News h₀ L s₂.heap news) (hIL : L ≠ I) (hI₀ : h₀.get? I = none) (hIlt : I < s₂.heap.objs.size) (off : ∀ p ∈ news, p.1 ≠ I)
    (turn : ∀ r ∈ rs, ∀ I oI C oC D oD m₂ h tk (E' : Value → Shared → Prop), LCg.NsObj oC m₂ → m₂ x = some (.str r.nm r.tn) → m₂ x₂ = some (.int r.c r.tc) → Fr h₀ L h m → News h₀ L h ((I, oI) :: (C, oC) :: (D, oD) :: news) → LCg.Off3 I C D news → ((@Ne Nat I C) ∧ (@Ne Nat I D) ∧ (@Ne Nat C D)) →
      wpAny (model prog w) A (eval kx (compEnvC scope cl C env)) (fun kv s₄ => wpAny (model prog w) A (eval vx (compEnvC scope cl C env)) (fun vv s₅ => DEnd h₀ L m { s₂ with heap := h, toks := tk } ((I, oI) :: (C, oC) :: (D, oD) :: news) r.nm r.tn (f r) kv vv s₅) E' s₄) E' { s₂ with heap := h, toks := tk })
    (hRR : ∀ D C oD kvs h tk m', Fr h₀ L h m → News h₀ L h ((D, oD) :: news) → (∀ p ∈ news, p.1 < D) → L < D → oD.IsDictOf (PySem.strKind prog w) kvs → PyProof.V.FlatPairs PyData.str kvs (kdpD (rs.map fun r => (r.nm, f r))) → h.Ns C m' → h₀.get? C = none → C ≠ L → C ≠ D → (∀ p ∈ news, p.1 ≠ C) → RR (.ref D) C (.ok .next) { s₂ with heap := h, toks := tk }) :
    wpAny (model prog w) A newDict (fun acc s₃ => wpAny (model prog w) A (newFunctionEnv scope env.globals cl [] env.qual none .none (some env)) (fun cenv s₄ =>
      codeAny (model prog w) A (.compStart (.DictComp kx vx [⟨.Tuple [.Name x px, .Name x₂ px₂] tk tp, iter, [], 0⟩] scope pos) 0 (.ref I) acc { cenv with scope := relabel scope env }) (RR acc cenv.locals) s₄) E s₃) E s₂ := by
  have W : Walks prog w A I [I, ax] [I] (rowVals rs).toArray.size (fun i v => (rowVals rs).toArray[i]? = some v) (fun i h => h.IsListIter I ax i ∧ h.IsList ax (rowVals rs).toArray) := Walks.list hh I ax (off _ hax) (rowVals rs).toArray
  have hsz9 : (rowVals rs).toArray.size = rs.length := by simp [rowVals]
  refine wpAny_newObj_type (wpAny_newFunctionEnv hcell (by intro y hy; simp at hy) (fun h₁ hns₁ hsb₁ => ?_) hkind)
  dsimp only at hns₁ hsb₁ ⊢
  have hnew : (s₂.heap.push { cls := .type "dict", dict := none, data := .dict #[] }).DictOf (PySem.strKind prog w) s₂.heap.objs.size [] := Heap.DictOf.new s₂.heap
  generalize hH2 : s₂.heap.push { cls := .type "dict", dict := none, data := .dict #[] } = H2 at hns₁ hsb₁ hnew ⊢
  have hC : H2.objs.size = s₂.heap.objs.size + 1 := by rw [← hH2, Heap.size_push]
  have hDC : s₂.heap.objs.size ≠ H2.objs.size := by rw [hC]; exact Nat.ne_of_lt (Nat.lt_succ_self _)
  have below : ∀ b, b < s₂.heap.objs.size → b ≠ H2.objs.size ∧ b ≠ s₂.heap.objs.size := fun b hb => ⟨by rw [hC]; exact Nat.ne_of_lt (Nat.lt_succ_of_lt hb), Nat.ne_of_lt hb⟩
  have old : ∀ b o, s₂.heap.get? b = some o → h₁.get? b = some o := fun b o e => hsb₁.extBut b o (below b (Heap.lt_size e)).1 (Heap.get?_push_of_some _ (hH2 ▸ Heap.get?_push_of_some _ e))
  have hacc : h₁.DictOf (PySem.strKind prog w) s₂.heap.objs.size [] := hnew.at fun o e => hsb₁.extBut _ _ hDC (Heap.get?_push_of_some _ e)
  have hlt : ∀ p ∈ news, p.1 < s₂.heap.objs.size := fun p hp => Heap.lt_size (N p hp).1
  have hLlt : L < s₂.heap.objs.size := F.ns.lt
  have fresh₀ : ∀ a, s₂.heap.objs.size ≤ a → h₀.get? a = none := fun a ha => Heap.get?_none_of_le (Nat.le_trans F.above (Nat.le_trans (Nat.le_of_lt hLlt) ha))
  have hD₀ : h₀.get? s₂.heap.objs.size = none := fresh₀ _ (Nat.le_refl _)
  have hC₀ : h₀.get? H2.objs.size = none := fresh₀ _ (by rw [hC]; exact Nat.le_succ _)
  have hDL : s₂.heap.objs.size ≠ L := Ne.symm (below L hLlt).2
  have hCL : H2.objs.size ≠ L := Ne.symm (below L hLlt).1
  have hCI : I ≠ H2.objs.size := (below I hIlt).1
  have hDI : I ≠ s₂.heap.objs.size := (below I hIlt).2
  have off₀ : LCg.Off3 I H2.objs.size s₂.heap.objs.size news := LCg.Off3.of fun p hp => ⟨off p hp, (below _ (hlt p hp)).1, (below _ (hlt p hp)).2⟩
  have off3 := off₀.mem
  have loop : ∀ s₃ : Shared, s₃ = { s₂ with heap := h₁, toks := s₂.toks + ([] : List (Str × Value)).length } →
      codeAny (model prog w) A (.compLoop (.DictComp kx vx [⟨.Tuple [.Name x px, .Name x₂ px₂] tk tp, iter, [], 0⟩] scope pos) 0 (.ref I) (.ref s₂.heap.objs.size) (compEnvC scope cl H2.objs.size env))
        (RR (.ref s₂.heap.objs.size) H2.objs.size) s₃ := by
    rintro s₃ rfl
    obtain ⟨oD₀, hoD₀, hdD₀⟩ := Heap.dictOf_iff.mp hacc
    refine compLoop_pairD
      (fun k s' => ∃ h' tk i m' kvs oD, s' = { s₂ with heap := h', toks := tk } ∧ i ≤ rs.length ∧ k = rs.length + 1 - i ∧ h'.IsListIter I ax i ∧ Fr h₀ L h' m ∧ h'.Ns H2.objs.size m' ∧ News h₀ L h' ((s₂.heap.objs.size, oD) :: news) ∧
        oD.IsDictOf (PySem.strKind prog w) kvs ∧ PyProof.V.FlatPairs PyData.str kvs (kdpD ((rs.take i).map fun r => (r.nm, f r)))) ?_ (rs.length + 1)
      ⟨h₁, _, 0, _, [], oD₀, rfl, Nat.zero_le _, rfl, hst.at fun o e => old _ _ e, F.keeps old, hns₁, fun p hp => ?_, hdD₀, .nil⟩
    · rintro k s' ⟨h', tk, i, m', kvs, oD, rfl, hi, rfl, hst', F', hn', N', hdD, hfD⟩
      have hli : h'.IsList ax (rowVals rs).toArray := ⟨_, (N' _ (.tail _ hax)).1, rfl, _, rfl⟩
      by_cases hlt9 : i < rs.length
      · refine W.item i _ _ _ (by rw [hsz9]; exact hlt9) ⟨hst', hli⟩ fun v h₂ tk₂ hPv hst₂ hk₂ => ?_
        have hv : v = .ref rs[i].a := by
          have : (rowVals rs).toArray[i]? = some (.ref rs[i].a) := by simp [rowVals, hlt9]
          exact Option.some.inj (hPv.symm.trans this)
        subst hv
        have hri := List.getElem_mem hlt9
        have N₂ : News h₀ L h₂ ((s₂.heap.objs.size, oD) :: news) := LCg.news_but N' hk₂ fun p hp => by
          rcases List.mem_cons.mp hp with rfl | hp
          · exact Ne.symm hDI
          · exact off p hp
        have ht : IsTup h₂ rs[i].a #[.str rs[i].nm rs[i].tn, .int rs[i].c rs[i].tc] := ⟨_, (N₂ _ (List.mem_cons_of_mem _ (hmem _ hri))).1, rfl, _, rfl⟩
        refine wpAny_letOwnedTupleGo_listiter hst₂.1 ?_
        refine assign_Tuple_tuple hh ht rfl rfl fun h₅ he => ?_
        have he' : ∀ b o, h₂.get? b = some o → h₅.get? b = some o := fun b o e => he b o (Nat.ne_of_lt (Heap.lt_size e)) e
        refine assignInOrder_cons (wpAny_assign_Name (wpAny_storeName_local (lookup_relabel_local hx) ((hn'.at' fun o e => hk₂ _ o (by simpa using Ne.symm hCI) e).at' fun o e => he' _ o e) (fun h₆ hn₆ hs₆ => ?_) (by simp [compEnvC, relabel, hkind])))
        refine assignInOrder_cons (wpAny_assign_Name (wpAny_storeName_local (lookup_relabel_local hx₂) hn₆ (fun h₃ hn₃ hs₃ => ?_) (by simp [compEnvC, relabel, hkind])))
        refine assignInOrder_nil ?_
        have old3 : ∀ b o, b ≠ H2.objs.size → h₂.get? b = some o → h₃.get? b = some o := fun b o hb e => hs₃.extBut b o hb (hs₆.extBut b o hb (he' b o e))
        obtain ⟨oI, heI, hcI, hdI⟩ := hst₂.1
        have heI₃ := old3 _ _ hCI heI
        obtain ⟨oC, heC, hoC⟩ := LCg.ns_obj hn₃
        have F₃ : Fr h₀ L h₃ m := (((LCg.fr_but F' hk₂ hIL hI₀).keeps he').change hs₆ hCL hC₀).change hs₃ hCL hC₀
        have N₃ : News h₀ L h₃ ((I, oI) :: (H2.objs.size, oC) :: (s₂.heap.objs.size, oD) :: news) := fun p hp => by
          rcases List.mem_cons.mp hp with rfl | hp
          · exact ⟨heI₃, Ne.symm hIL, hI₀⟩
          · rcases List.mem_cons.mp hp with rfl | hp
            · exact ⟨heC, hCL, hC₀⟩
            · have z := N₂ p hp
              refine ⟨old3 _ _ ?_ z.1, z.2⟩
              rcases List.mem_cons.mp hp with rfl | hp
              · exact hDC
              · exact (off3 p hp).2.1
        refine wpAny_mono (turn rs[i] hri I oI H2.objs.size oC s₂.heap.objs.size oD _ h₃ _ _ hoC (by simp [hxx]) (by simp) F₃ N₃ off₀ ⟨hCI, hDI, Ne.symm hDC⟩) (fun kv s₄ h₄ => ?_) fun _ _ e => e
        refine wpAny_mono h₄ (fun vv s₅ h₅ => ?_) fun _ _ e => e
        obtain ⟨t, h₆, tk₆, rfl, rfl, rfl, F₆, N₆⟩ := h₅
        have zI := (N₆ (I, oI) List.mem_cons_self).1
        have zC := (N₆ (H2.objs.size, oC) (List.mem_cons_of_mem _ List.mem_cons_self)).1
        have zD := (N₆ (s₂.heap.objs.size, oD) (List.mem_cons_of_mem _ (List.mem_cons_of_mem _ List.mem_cons_self))).1
        have hkl : kvs.length ≤ sizeLine := by
          have h1 := hfD.length
          rw [kdpD_length, List.length_map, List.length_take] at h1
          have h2 := sizeLine_eq
          omega
        refine wpAny_dictSet_pairs (hsz := hkl) (strKind_is prog w rs[i].nm rs[i].tn) (Heap.dictOf_iff.mpr ⟨oD, zD, hdD⟩) fun h₇ hl₇ hs₇ => ?_
        obtain ⟨oD', heD', hdD'⟩ := Heap.dictOf_iff.mp hl₇
        have hfD' := PyProof.V.FlatPairs.stored PyProof.V.same_str hfD rs[i].nm (PyProof.V.Flat.int (f rs[i]) t)
        rw [kdpD_put, rows_take hlt9 hnm] at hfD'
        refine ⟨rs.length + 1 - (i + 1), by omega, h₇, _, i + 1, _, _, oD', rfl, hlt9, rfl, ⟨oI, hs₇.extBut _ _ hDI zI, hcI, hdI⟩, F₆.change hs₇ hDL hD₀, (hoC.ns zC).sameBut hs₇ (Ne.symm hDC), fun p hp => ?_, hdD', hfD'⟩
        rcases List.mem_cons.mp hp with rfl | hp
        · exact ⟨heD', hDL, hD₀⟩
        · have z := N₆ p (List.mem_cons_of_mem _ (List.mem_cons_of_mem _ (List.mem_cons_of_mem _ hp)))
          exact ⟨hs₇.extBut _ _ (off3 p hp).2.2 z.1, z.2⟩
      · obtain rfl : i = rs.length := Nat.le_antisymm hi (Nat.not_lt.mp hlt9)
        rw [List.take_of_length_le (Nat.le_refl _)] at hfD
        refine W.done _ _ _ ⟨by rw [hsz9]; exact hst', hli⟩ fun h₂ tk₂ hk₂ => ?_
        exact hRR _ _ oD kvs h₂ tk₂ _ (LCg.fr_but F' hk₂ hIL hI₀) (LCg.news_but N' hk₂ fun p hp => by
          rcases List.mem_cons.mp hp with rfl | hp
          · exact Ne.symm hDI
          · exact off p hp) hlt hLlt hdD hfD (hn'.at' fun o e => hk₂ _ o (by simpa using Ne.symm hCI) e) hC₀ hCL (Ne.symm hDC) fun p hp => (off3 p hp).2.1
    · rcases List.mem_cons.mp hp with rfl | hp
      · exact ⟨hoD₀, hDL, hD₀⟩
      · exact ⟨old _ _ (N p hp).1, (N p hp).2⟩
  exact codeAny_compStart_dict (loop _ rfl) (W.self 0 _ _ _ ⟨hst.at fun o e => old _ _ e, ⟨_, old _ _ (N _ hax).1, rfl, _, rfl⟩⟩ (loop _ rfl))
inductive RowSrc (prog : Program) (w : World) (A : Around) (h₀ : Heap) (L : Addr) (m : Str → Option Value) (env : PySem.Env) (kx vx : Expr) (x x₂ y : Str) (scope : Scope) (cl : List (Str × Addr)) (rs : List RowI) (nr : Nat) (f : RowI → Int) (Q : Flow → Shared → Prop) (xv : Value) (s₁ : Shared) : Prop
  | mk (ax news) : (xv = .ref ax) → (Fr h₀ L s₁.heap m) → (News h₀ L s₁.heap news) → ((ax, W.listOf (rowVals rs).toArray nr) ∈ news) → ((∀ r ∈ rs, (r.a, rowObj r) ∈ news)) → ((∀ r ∈ rs, ∀ I oI C oC D oD m₂ h tk (E' : Value → Shared → Prop), LCg.NsObj oC m₂ → m₂ x = some (.str r.nm r.tn) → m₂ x₂ = some (.int r.c r.tc) → Fr h₀ L h m → News h₀ L h ((I, oI) :: (C, oC) :: (D, oD) :: news) → LCg.Off3 I C D news → ((@Ne Nat I C) ∧ (@Ne Nat I D) ∧ (@Ne Nat C D)) → wpAny (model prog w) A (eval kx (compEnvC scope cl C env)) (fun kv s₄ => wpAny (model prog w) A (eval vx (compEnvC scope cl C env)) (fun vv s₅ => DEnd h₀ L m { s₁ with heap := h, toks := tk } ((I, oI) :: (C, oC) :: (D, oD) :: news) r.nm r.tn (f r) kv vv s₅) E' s₄) E' { s₁ with heap := h, toks := tk })) → ((∀ D oD kvs h tk, Fr h₀ L h (fun z => if z = y then some (.ref D) else m z) → News h₀ L h ((D, oD) :: news) → (∀ p ∈ news, p.1 < D) → L < D → oD.IsDictOf (PySem.strKind prog w) kvs → PyProof.V.FlatPairs PyData.str kvs (kdpD (rs.map fun r => (r.nm, f r))) → Q .next { s₁ with heap := h, toks := tk })) → RowSrc prog w A h₀ L m env kx vx x x₂ y scope cl rs nr f Q xv s₁
theorem Assign_DictComp_row {kx vx iter : Expr} {x x₂ y : Str} {px px₂ tp py : PySem.Pos} {tk} {scope : Scope} {cl : List (Str × Addr)} {pos spos : PySem.Pos} {Q : Flow → Shared → Prop} {rs : List RowI} {nr : Nat} (f : RowI → Int) (hLe : env.locals = L)
    (hsz : rs.length ≤ 100) (hnm : (rs.map (·.nm)).Nodup) (hh : A.handled = none)
    (hsw : swapsWith (.DictComp kx vx [⟨.Tuple [.Name x px, .Name x₂ px₂] tk tp, iter, [], 0⟩] scope pos) (some (.Name y py)) spos.line env = pure true)
    (hclos : closureFor scope env = pure cl) (hcell : ∀ z ∈ scope.names, z.2 ≠ .cell) (hkind : scope.kind = .function)
    (hnames : ∀ z ∈ scope.names, z.2 = .local → scope.names.lookup z.1 = some .local) (hx : scope.names.lookup x = some .local) (hx₂ : scope.names.lookup x₂ = some .local) (hxx : x ≠ x₂)
    (hy : env.kindOf y = some .local) (hp : (env.scope.kind == .class || (env.scope.kind == .module && env.locals != env.globals)) = false)
    (h : wpAny (model prog w) A (eval iter env) (RowSrc prog w A h₀ L m env kx vx x x₂ y scope cl rs nr f Q) E s)
    (hs : ∀ x, foldedSetIterable iter env x = pure x := by intro _; rfl) :
    wpAny (model prog w) A (exec (.Assign [.Name y py] (.DictComp kx vx [⟨.Tuple [.Name x px, .Name x₂ px₂] tk tp, iter, [], 0⟩] scope pos) spos) env) Q E s := by
  subst hLe
  rw [exec_Assign_Name_used _ _ _ _ hsw]
  refine wpAny_bind (wpAny_standAt (wpAny_bind ?_))
  show wpAny _ A (do let _ ← comprehension (.DictComp kx vx [⟨.Tuple [.Name x px, .Name x₂ px₂] tk tp, iter, [], 0⟩] scope pos) scope env _ newDict false (eval iter env) (some (assign (.Name y py) env))) _ _ s
  refine wpAny_bind (wpAny_mono (wpAny_comprehension_free (use := some (assign (.Name y py) env)) (Q := fun _ s' => Q .next s') rfl hs hclos hkind hnames
    (wpAny_mono h (fun xv s₁ h₁ => ?_) fun _ _ e => e)) (fun _ s' hq => wpAny_pure (wpAny_pure hq)) fun _ _ e => e)
  obtain ⟨ax, news, rfl, F, N, hax, hmem, turn, fin⟩ := h₁
  have hl : s₁.heap.IsList ax (rowVals rs).toArray := ⟨_, (N _ hax).1, rfl, _, rfl⟩
  refine wpAny_pyIter_list hl ?_
  have up : ∀ b o, s₁.heap.get? b = some o → (s₁.heap.push { cls := .type "list_iterator", data := .fields #[.ref ax, .int 0 0] }).get? b = some o := fun b o e => Heap.get?_push_of_some _ e
  refine block_D (f := f) hsz hnm hmem hax hcell hkind hx hx₂ hxx hh ⟨_, Heap.get?_push_size _ rfl, rfl, rfl⟩ (F.keeps up) (N.grown up) (Nat.ne_of_lt F.ns.lt) (next_is_new F) (by rw [Heap.size_push]; exact Nat.lt_succ_self _) (fun p hp => Nat.ne_of_lt (Heap.lt_size (N p hp).1)) turn ?_
  intro D C oD kvs h' tk m' F' N' hlt hLD hd hf hn hC₀ hCL hCD offC
  show wpAny _ A (assign (.Name y py) env (.ref D)) _ _ _
  refine wpAny_assign_Name (wpAny_storeName_local hy F'.ns (fun h₂ hn₂ hs₂ => ?_) hp)
  have hL₀ : h₀.get? env.locals = none := Heap.get?_none_of_le F'.above
  have F₂ : Fr h₀ env.locals h₂ (fun z => if z = y then some (.ref D) else m z) := ⟨hn₂, fun b o e => hs₂.extBut b o (fun q => by rw [q, hL₀] at e; cases e) (F'.keep b o e), F'.above⟩
  refine ⟨m', hn.sameBut hs₂ hCL, fun h'' hs'' => fin D oD kvs h'' _ (F₂.change hs'' hCL hC₀) (fun p hp => ?_) hlt hLD hd hf⟩
  have z : h₂.get? p.1 = some p.2 := hs₂.extBut _ _ (N' p hp).2.1 (N' p hp).1
  refine ⟨hs''.extBut _ _ ?_ z, (N' p hp).2⟩
  rcases List.mem_cons.mp hp with rfl | hp
  · exact Ne.symm hCD
  · exact offC p hp
end

end
section
noncomputable abbrev heldR (rs : List RowI) (top k : Int) : Int := (rs.map fun r => shareI r.c k top).sum
theorem heldR_eq (rs : List RowI) (top k : Int) : heldR rs top k = ((rs.map (·.c)).map fun c => shareI c k top).sum := by
  unfold heldR
  rw [List.map_map]
  rfl
theorem rows_eq {rs : List RowI} {f : RowI → Int} (hn : (rs.map (·.nm)).Nodup) : ∀ {rs' : List RowI}, (∀ r ∈ rs', r ∈ rs) → KeqRows (kdpD (rs.map fun r => (r.nm, f r))) (kdpD (rs'.map fun r => (r.nm, f r))) true
  | [], _ => .nil
  | r :: rs', h => by
    have hr := h r (.head _)
    have hhas : kdpHas (rs.map fun r => (r.nm, f r)) r.nm = true := has_on (by rw [List.map_map]; exact List.mem_map.mpr ⟨r, hr, rfl⟩)
    have hl := kdpD_item hhas
    rw [look_row hn hr] at hl
    have ih := rows_eq (f := f) hn fun q hq => h q (.tail _ hq)
    have e := KeqRows.hit (v := PyData.int (f r)) hl ih
    have e2 : (PyData.eqv (PyData.int (f r)) (PyData.int (f r)) && true) = true := by simp [PyData.eqv]
    rw [e2] at e
    exact e
/-- what is fair: the level parts the estate as the line does -/
structure Fair (rs : List RowI) (top : Int) (level : Nat) (est : Int) : Prop where
  nodup : (rs.map (·.nm)).Nodup
  named : ∀ r ∈ rs, r.nm ≠ Str.ofString ""
  bound : ∀ r ∈ rs, 0 ≤ r.c ∧ r.c ≤ 1000000
  short : rs.length ≤ 5
  lev : (level : Int) ≤ top
  line : lineRun ⟨est, (rs.map (·.c)).sum - est, rs.length, 0, 0⟩ (rs.map (·.c)) = rs.map fun r => shareI r.c level top
  sum : (rs.map fun r => shareI r.c level top).sum = est
  form : ∀ r ∈ rs, r.c ≤ top ∧ ∃ k, 0 ≤ k ∧ r.c = 120 * k
theorem fair_of {rs : List RowI} {cs : List Int} {rt : RowI} {Ee : Int} {level : Nat} (hrow : RowOk rs (pairsL signsL cs)) (hrl : rs.length = cs.length) (hrt : rs.getLast? = some rt) (he : 0 ≤ Ee ∧ Ee ≤ 2 * cs.sum)
    (hlev : (level : Int) ≤ rt.c + 1 ∧ (∀ j : Nat, j < level → heldR rs rt.c j < 60 * Ee) ∧ ∀ j : Nat, level ≤ j → (j : Int) < rt.c + 1 → 60 * Ee ≤ heldR rs rt.c j) (hc : 3 ≤ cs.length ∧ cs.length ≤ 5) (hcb : ∀ c ∈ cs, 0 ≤ c ∧ c < 1000) : Fair rs rt.c level (60 * Ee) := by
  have hm : ∀ r ∈ rs, (∃ g ∈ signsL, r.nm = ⟨#[g]⟩) ∧ ∃ c ∈ cs, r.c = 120 * c := fun r hr => pairsL_mem (hrow.perm.subset (List.mem_map.mpr ⟨r, hr, rfl⟩))
  have hk : ∀ c ∈ rs.map (·.c), ∃ k, 0 ≤ k ∧ c = 120 * k := by
    intro c hc'
    obtain ⟨r, hr, rfl⟩ := List.mem_map.mp hc'
    obtain ⟨_, c, h1, h2⟩ := hm r hr
    exact ⟨c, (hcb c h1).1, h2⟩
  have hsum : (rs.map (·.c)).sum = 120 * cs.sum := by
    have h1 := perm_sum (hrow.perm.map (·.2))
    rw [pairsL_sum (by show cs.length ≤ 5; exact hc.2)] at h1
    rw [← h1, List.map_map]
    rfl
  have hlast : (rs.map (·.c)).getLast? = some rt.c := by rw [List.getLast?_map, hrt]; rfl
  have hne : rs.map (·.c) ≠ [] := by
    intro e
    rw [e] at hlast
    cases hlast
  have hris : (rs.map (·.c)).Pairwise (· ≤ ·) := List.pairwise_map.mpr hrow.rising
  have hL := level_law (l := rs.map (·.c)) (top := rt.c) (E := 60 * Ee) (level := level) hne (by rw [List.length_map]; omega) hk hris hlast ⟨Ee, rfl⟩ (by omega) (by omega) hlev.1 (fun j hj => by rw [← heldR_eq]; exact hlev.2.1 j hj) (fun j h1 h2 => by rw [← heldR_eq]; exact hlev.2.2 j h1 h2)
  obtain ⟨a1, a2, a3⟩ := hL
  rw [List.map_map, List.length_map] at a2
  rw [List.map_map] at a3
  have hnm : (rs.map (·.nm)).Nodup := by
    have h1 := (hrow.perm.map (·.1)).nodup_iff.mpr (pairsL_nodup (by decide))
    rw [List.map_map] at h1
    exact h1
  refine ⟨hnm, ?_, ?_, by omega, a1, a2, a3, ?_⟩
  · intro r hr e
    obtain ⟨⟨g, _, h⟩, _⟩ := hm r hr
    rw [h] at e
    have := congrArg (fun z : Str => z.cps.size) e
    rw [no_is] at this
    simp at this
  · intro r hr
    obtain ⟨_, c, h1, h2⟩ := hm r hr
    have := hcb c h1
    omega
  · intro r hr
    refine ⟨le_last hris hlast r.c (List.mem_map.mpr ⟨r, hr, rfl⟩), hk r.c (List.mem_map.mpr ⟨r, hr, rfl⟩)⟩

end
section
local macro_rules | `(tactic| walk_at "mine-nothing") => `(tactic| skip)
local macro_rules | `(tactic| walk_at "eval Name") => `(tactic| (k_here; (with_reducible show wpAny _ _ (eval (PySem.Expr.Name _ _) (envOfC _ _ _ _ _)) _ _ _); k_dflt (refine ldLoc (by k_asm) (by ((fail_if_success exact rfl); assumption)) ?_)))
local macro_rules | `(tactic| walk_at "exec For") => `(tactic| (k_here; k_dflt (refine wpAny_For ?_)))
local macro_rules | `(tactic| walk_at "exec For Tuple Call") => `(tactic| (k_here; k_dflt (refine wpAny_For ?_)))
-- law macros
theorem tot_use {prog : Program} {w : World} {dp un : Nat} {gd : Option (List Code)} {cn : Str} {cs : Scope} {a : Addr} {ccd : Value} {cl : List (Str × Addr)} {outer : List Env} {A₀ : Around} {base h₀ : Heap} {L : Addr} {m : Str → Option Value} {s : Shared} {Rk : Result → Shared → Prop}
    {pp : Program} {loose : List Str} {mean : ExcName → Option Value} {mg mb : Str → Option Value} {news : List (Addr × Obj)} {sc : Addr} {vs : List Value} {ws : List Int}
    (B : Below A₀ base outer h₀) (F : Fr h₀ L s.heap m) (X : (Mine.hd.heap_39 w.params).In h₀) (N : News h₀ L s.heap news) (T : Top pp loose mean mg mb h₀) (hsc : base.IsList sc vs.toArray) (hI : IntsAre vs ws) (hsz : vs.length ≤ sizeLine) (hk : cs.kind = .function)
    (hd : dp + 10 < recursionLimit) (hu : un + 50 < cLine)
    (h : ∀ (tl : Addr) (ts : List Value) (xs : List Int) x5 t5 x6 t6 h' tk', IntsAre ts xs → (xs.length = 7 ∧ ∀ x ∈ xs, 0 ≤ x) → ts[(5 : Int).toNat]? = some (.int x5 t5) → ts[(6 : Int).toNat]? = some (.int x6 t6) → 0 ≤ x5 ∧ 0 ≤ x6 →  (∀ p ∈ news, p.1 < tl) → Fr h₀ L h' m → News h₀ L h' ((tl, W.listOf ts.toArray 0) :: news) → Rk (.ok (.ret (.ref tl))) { s with heap := h', toks := tk' }) :
    codeAny (model prog w) (ktrTop dp un gd cn cs L a ccd cl outer) (.call (.ref 139) ⟨[.ref sc], []⟩) Rk s := by
  refine c_totals prog w news sc vs ws hI hsz dp un gd cn cs a ccd cl outer A₀ base h₀ L m s Rk pp loose mean mg mb hsc B F X N T hk hd hu ?_
  intro tl ts xs h' tk' hts hxs
  have hl : ts.length = 7 := by rw [hts.length, hxs.1]
  obtain ⟨x5, t5, e5, g5⟩ := ints_at hts (List.getElem?_eq_getElem (show 5 < ts.length by omega))
  obtain ⟨x6, t6, e6, g6⟩ := ints_at hts (List.getElem?_eq_getElem (show 6 < ts.length by omega))
  exact h tl ts xs x5 t5 x6 t6 h' tk' hts ⟨hxs.1, fun x hx => (hxs.2 x hx).1⟩ (by rw [← e5]; exact List.getElem?_eq_getElem (show 5 < ts.length by omega)) (by rw [← e6]; exact List.getElem?_eq_getElem (show 6 < ts.length by omega))
    ⟨(hxs.2 _ (List.mem_of_getElem? g5)).1, (hxs.2 _ (List.mem_of_getElem? g6)).1⟩
set_option maxHeartbeats 0 in
theorem stage1 (prog : Program) (w : World) (g : Heap) (L fa : Addr) (pp : Program) (loose : List Str) (mean : ExcName → Option Value) (mg mb : Str → Option Value) (Lt : LawTop w g L pp loose mean mg mb) (s : Shared) (m : Str → Option Value) (F : Fr g L s.heap m)
    (E : Value → Shared → Prop) (sc : Scope) (hsc : sc = lawScope) (bd : List Stmt) (hbd : bd = (lawBody.drop 0).take 4) (o1 o2 o3 : Obj) (sc_ : Addr) (vs : List Value) (ws : List Int) (hI : IntsAre vs ws) (hsz : vs.length ≤ sizeLine) (hsl : g.IsList sc_ vs.toArray) (hm : m (Str.ofString "script") = some (.ref sc_))
    (c1 : o1.data = .cell .none) (N : News g L s.heap [(L + 1 + 1 + 1, o1), (L + 1 + 1, o2), (L + 1, o3), (146, tabObj #[]), (186, tabObj #[])]) :
    wpAny (model prog w) (lawA sc L fa) (execs bd (lawE sc L fa)) (fun f s' => f = .next ∧ J1 (cellsL L o1 o2 o3) g L s s') E s := by
  unfold lawScope at hsc
  conv at hsc => rhs; whnf
  unfold lawBody at hbd
  conv at hbd => rhs; arg 2; arg 2; whnf
  simp only [List.drop_zero, List.take_succ_cons, List.take_zero] at hbd
  subst hsc hbd
  obtain ⟨X, T, B, C1, C2, l1, l2⟩ := Lt
  (k_steps; repeat' ((with_reducible show Hold _); (first | ((with_reducible show Hold (codeAny _ _ (Code.call (Value.ref 139) _) _ _)); k_dflt (refine Hold.of ?_; refine tot_use (by k_asm) (by k_asm) (by k_asm) (by k_asm) (by k_asm) (by with_reducible assumption) (by with_reducible assumption) (by with_reducible assumption) (by exact rfl) (by decide +kernel) (by decide +kernel) ?_; intro tl9u ts9u xs9u x5u t5u x6u t6u h'u tk'u hts9u hxs9u hx5u hx6u hx56u hlt9u F'u N'u; replace hlt9u := allLt_of hlt9u; simp only [AllLt, and_true] at hlt9u; obtain ⟨hl1u, hl2u, hl3u, hl4u, hl5u⟩ := hlt9u; (try dsimp only)))); k_steps))
  rename Fr _ _ _ _ => F8
  rename News _ _ _ _ => N8
  rename IntsAre _ (List.map _ _) => hI8
  rename List.length _ = 7 ∧ _ => h7
  rename IntsAre _ (List.take _ _) => hI9
  refine ⟨_, _, _, _, _, _, _, _, _, _, _, _, rfl, F8, N8.perm (by k_allIn), by assumption, h7, hI8, ?_, ?_, ?_, ⟨by assumption, by assumption, by assumption, by assumption, by assumption, trivial⟩, rfl, rfl, rfl, rfl⟩
  · rw [List.length_map, List.length_take, h7.1]
    omega
  · intro c hc
    obtain ⟨x, _, rfl⟩ := List.mem_map.mp hc
    exact ⟨Int.fmod_nonneg_of_pos _ (by decide), Int.fmod_lt_of_pos _ (by decide)⟩
  · exact OwnOff.one (by k_all)

end
section
local macro_rules | `(tactic| walk_at "eval Name") => `(tactic| (k_here; (with_reducible show wpAny _ _ (eval (PySem.Expr.Name _ _) (envOfC _ _ _ _ _)) _ _ _); k_dflt (refine ldLoc (by k_asm) (by ((fail_if_success exact rfl); assumption)) ?_)))
local macro_rules | `(tactic| walk_at "exec For") => `(tactic| (k_here; k_dflt (refine wpAny_For ?_)))
local macro_rules | `(tactic| walk_at "exec For Tuple Call") => `(tactic| (k_here; k_dflt (refine wpAny_For ?_)))
-- law macros
inductive DueJ (rest : List (Addr × Obj)) (ts ys : List Value) (nc : Nat) (tl cl dl : Addr) (xs cs : List Int) (tn : Tok) (i : Nat) (m : Str → Option Value) (r : List (Addr × Obj)) : Prop
  | mk (dv nd) : (r = (dl, W.listOf dv.toArray nd) :: (cl, W.listOf ys.toArray nc) :: (tl, W.listOf ts.toArray 0) :: rest) → (StrsAre dv (dueW signsL (cs.take i))) → (dv.length = 2 * i) → (m (Str.ofString "totals") = some (.ref tl)) → (m (Str.ofString "coins") = some (.ref cl)) → (m (Str.ofString "due") = some (.ref dl)) → (m (Str.ofString "count") = some (.int (3 + Int.fmod (xs.getD 6 0) 3) tn)) → DueJ rest ts ys nc tl cl dl xs cs tn i m r
set_option maxHeartbeats 0 in
theorem stage2 (prog : Program) (w : World) (g : Heap) (L fa : Addr) (pp : Program) (loose : List Str) (mean : ExcName → Option Value) (mg mb : Str → Option Value) (Lt : LawTop w g L pp loose mean mg mb)
    (E : Value → Shared → Prop) (sc : Scope) (hsc : sc = lawScope) (bd : List Stmt) (hbd : bd = (lawBody.drop 4).take 2) (rest : List (Addr × Obj)) (s s' : Shared) (hJ : J1 rest g L s s') :
    wpAny (model prog w) (lawA sc L fa) (execs bd (lawE sc L fa)) (fun f s' => f = .next ∧ J2 rest g L s s') E s' := by
  unfold lawScope at hsc
  conv at hsc => rhs; whnf
  unfold lawBody at hbd
  conv at hbd => rhs; arg 2; arg 2; whnf
  simp only [List.drop_zero, List.take_succ_cons, List.take_zero, List.drop_succ_cons] at hbd
  subst hsc hbd
  obtain ⟨X, T, B, C1, C2, l1, l2⟩ := Lt
  obtain ⟨h, tk, m, ts, xs, ys, cs, tl, cl, dl, tn, nc, rfl, F, N, hts, hxs, hys, hcl, hcb, ho, hal, m1, m2, m3, m4⟩ := hJ
  have hf0 := Int.fmod_nonneg_of_pos (xs.getD 6 0) (show (0 : Int) < 3 by decide)
  have hf1 := Int.fmod_lt_of_pos (xs.getD 6 0) (show (0 : Int) < 3 by decide)
  have hc5 : cs.length ≤ 5 := by omega
  k_steps
  rename Fr _ _ _ _ => F5
  rename News _ _ _ _ => N5
  refine enum_call F5 N5 (by k_mem) ?_
  intro d oI h5 hc5' hd5 hlt5 F6 N6
  refine enum_iter N6 (.head _) ?_
  refine forEnum_of rfl (DueJ rest ts ys nc tl cl dl xs cs tn) rfl rfl rfl hc5' hd5 F6 N6 ?zO (by k_mem) ⟨[], 0, rfl, .nil, by simp, m1, m2, m3, m4⟩ ?zturn ?zfin
  case zO => exact OwnOff.more (fun p hp => Nat.ne_of_lt (hlt5 p hp)) (OwnOff.one fun p hp => Nat.ne_of_lt (Nat.lt_succ_of_lt (hlt5 p hp)))
  case zturn =>
    rintro i v t h9 tk9 m9 r9 oI9 hi hv ⟨dv, nd, rfl, hdv, hdl, a1, a2, a3, a4⟩ hD9 F9 N9 O9
    obtain ⟨x, tx, rfl, hx5⟩ := ints_at hys (i := i) (v := v) (by simpa using hv)
    have hi5 : i < cs.length := by
      have := hys.length
      simp at hi
      omega
    have hx := hcb x (List.mem_of_getElem? hx5)
    obtain ⟨hx0, hx1⟩ := hx
    have hd100 : dv.length ≤ 100 := by omega
    k_lt hlt5
    k_steps
    rename Fr _ _ _ _ => F7
    rename News _ _ _ _ => N7
    have hs5 : i < signsL.length := by show i < 5; omega
    have hxc : cs[i] = x := Option.some.inj ((List.getElem?_eq_getElem hi5).symm.trans hx5)
    have hsn := dueW_snoc signsL cs i hs5 hi5
    rw [hxc] at hsn
    rw [List.push_toArray, List.push_toArray, sign_item i hs5] at N7
    refine ⟨_, _, _, _, rfl, F7, N7, OwnOff.more (by k_all) (OwnOff.one (by k_all)), ?zl2, _, _, rfl, ?zs2, ?zn2, a1, a2, a3, a4⟩
    case zl2 => intro p hp; rw [List.mem_singleton.mp hp]; exact .tail _ (.head _)
    case zs2 =>
      rw [hsn, List.append_cons (dueW signsL (cs.take i))]
      show StrsAre (dv ++ [_] ++ [_]) _
      exact strs_snoc (strs_snoc hdv _ _) _ _
    case zn2 => simp; omega
  case zfin =>
    rintro h9 tk9 m9 r9 ⟨dv, nd, rfl, hdv, hdl, a1, a2, a3, a4⟩ F9 N9
    have hsb := sum_bound hcb
    have hE0 : 0 ≤ Int.fmod (xs.getD (Int.toNat 5) 0) (2 * cs.sum + 1) := Int.fmod_nonneg_of_pos _ (by omega)
    have hE1 : Int.fmod (xs.getD (Int.toNat 5) 0) (2 * cs.sum + 1) < 100000 := Int.lt_of_lt_of_le (Int.fmod_lt_of_pos _ (by omega)) (by omega)
    have hfull : cs.take ys.toArray.size = cs := List.take_of_length_le (by have := hys.length; simp; omega)
    rw [hfull] at hdv
    have hd100 : dv.length ≤ 100 := by have := hys.length; simp at hdl; omega
    k_steps
    rename Fr _ _ _ _ => F7
    rename News _ _ _ _ => N7
    rw [List.push_toArray] at N7
    exact ⟨_, _, _, _, _, _, _, _, _, _, _, rfl, F7, N7.perm (by k_allIn), hts, hxs, strs_snoc hdv _ _, hal, hcl, hcb, a1, a3, a4⟩

end
section
local macro_rules | `(tactic| walk_at "mine-nothing") => `(tactic| skip)
local macro_rules | `(tactic| walk_at "eval Name") => `(tactic| (k_here; (with_reducible show wpAny _ _ (eval (PySem.Expr.Name _ _) (envOfC _ _ _ _ _)) _ _ _); k_dflt (refine ldLoc (by k_asm) (by ((fail_if_success exact rfl); assumption)) ?_)))
local macro_rules | `(tactic| walk_at "exec For") => `(tactic| (k_here; k_dflt (refine wpAny_For ?_)))
local macro_rules | `(tactic| walk_at "exec For Tuple Call") => `(tactic| (k_here; k_dflt (refine wpAny_For ?_)))
-- law macros
theorem lw_use {prog : Program} {w : World} {dp un : Nat} {gd : Option (List Code)} {cn : Str} {cs : Scope} {a : Addr} {ccd : Value} {cl : List (Str × Addr)} {outer : List Env} {A₀ : Around} {base h₀ : Heap} {L : Addr} {m : Str → Option Value} {s : Shared} {Rk : Result → Shared → Prop}
    {pp : Program} {loose : List Str} {mean : ExcName → Option Value} {mg mb : Str → Option Value} {news : List (Addr × Obj)} {tx : Str} {tt : Tok} {q : Bool}
    (B : Below A₀ base outer h₀) (F : Fr h₀ L s.heap m) (X : (Mine.hd.heap_39 w.params).In h₀) (N : News h₀ L s.heap news) (T : Top pp loose mean mg mb h₀) (hlen : tx.length ≤ 100) (hasc : tx.cps.all (· < 128) = true) (hk : cs.kind = .function)
    (hd : dp + 10 < recursionLimit) (hu : un + 50 < cLine)
    (h : ∀ t h' tks, Fr h₀ L h' m → News h₀ L h' news → Rk (.ok (.ret (.str ⟨(wrt tx.cps.toList q).toArray⟩ t))) { s with heap := h', toks := tks }) :
    codeAny (model prog w) (ktrTop dp un gd cn cs L a ccd cl outer) (.call (.ref 144) ⟨[.str tx tt, .bool q], []⟩) Rk s := by
  refine c_law_written prog w news tx tt q hlen hasc dp un gd cn cs a ccd cl outer A₀ base h₀ L m s Rk pp loose mean mg mb B F X N T hk hd hu ?_
  rintro v news' h' tk' ⟨t, rfl, rfl⟩ F' N'
  exact h t h' tk' F' N'
inductive PieJ (rest : List (Addr × Obj)) (ts dv : List Value) (nd : Nat) (tl dl pl : Addr) (wd : List Str) (cv : Int) (tn : Tok) (i : Nat) (m : Str → Option Value) (r : List (Addr × Obj)) : Prop
  | mk (pv np ps) : (r = (pl, W.listOf pv.toArray np) :: (dl, W.listOf dv.toArray nd) :: (tl, W.listOf ts.toArray 0) :: rest) → (StrsAre pv ps) → (Pcs (wd.take i) ps) → (pv.length = 2 * i) → (m (Str.ofString "totals") = some (.ref tl)) → (m (Str.ofString "pieces") = some (.ref pl)) → (m (Str.ofString "due") = some (.ref dl)) → (m (Str.ofString "count") = some (.int cv tn)) → PieJ rest ts dv nd tl dl pl wd cv tn i m r
set_option maxHeartbeats 0 in
theorem stage3 (prog : Program) (w : World) (g : Heap) (L fa : Addr) (pp : Program) (loose : List Str) (mean : ExcName → Option Value) (mg mb : Str → Option Value) (Lt : LawTop w g L pp loose mean mg mb)
    (E : Value → Shared → Prop) (sc : Scope) (hsc : sc = lawScope) (bd : List Stmt) (hbd : bd = (lawBody.drop 6).take 3) (rest : List (Addr × Obj)) (s s' : Shared) (hJ : J2 rest g L s s') :
    wpAny (model prog w) (lawA sc L fa) (execs bd (lawE sc L fa)) (fun f s' => f = .next ∧ J3 rest g L s s') E s' := by
  unfold lawScope at hsc
  conv at hsc => rhs; whnf
  unfold lawBody at hbd
  conv at hbd => rhs; arg 2; arg 2; whnf
  simp only [List.drop_zero, List.take_succ_cons, List.take_zero, List.drop_succ_cons] at hbd
  subst hsc hbd
  obtain ⟨X, T, B, C1, C2, l1, l2⟩ := Lt
  obtain ⟨h, tk, m, ts, xs, dv, cs, tl, dl, tn, nd, rfl, F, N, hts, hxs, hdv, hal, hcl, hcb, m1, m2, m3⟩ := hJ
  have hc5 := count_bounds hcl
  have hok := wordsL_ok hcl hcb
  have hwl := wordsL_len hcl
  have hdl := strs_len hdv
  (k_steps; repeat' ((with_reducible show Hold _); (first | ((with_reducible show Hold (codeAny _ _ (Code.call (Value.ref 144) _) _ _)); k_dflt (refine Hold.of ?_; refine lw_use (by k_asm) (by k_asm) (by k_asm) (by k_asm) (by k_asm) (by with_reducible assumption) (by with_reducible assumption) (by exact rfl) (by decide +kernel) (by decide +kernel) ?_; intro t9u h'u tk'u F'u N'u; (try dsimp only)))); k_steps))
  rename Fr _ _ _ _ => F5
  rename News _ _ _ _ => N5
  refine enum_call F5 N5 (by k_mem) ?_
  intro d oI h5 hc5' hd5 hlt5 F6 N6
  refine enum_iter N6 (.head _) ?_
  refine forEnum_of rfl (PieJ rest ts dv nd tl dl _ (wordsL xs cs) (3 + Int.fmod (xs.getD 6 0) 3) tn) rfl rfl rfl hc5' hd5 F6 N6 ?zO (by k_mem) ⟨[], 0, [], rfl, .nil, .nil, by simp, m1, rfl, m2, m3⟩ ?zturn ?zfin
  case zO => exact OwnOff.more (fun p hp => Nat.ne_of_lt (hlt5 p hp)) (OwnOff.one fun p hp => Nat.ne_of_lt (Nat.lt_succ_of_lt (hlt5 p hp)))
  case zturn =>
    rintro i v t h9 tk9 m9 r9 oI9 hi hv ⟨pv, np, ps, rfl, hpv, hps, hpl, a1, a2, a3, a4⟩ hD9 F9 N9 O9
    obtain ⟨x, tx, rfl, hx5⟩ := strs_at hdv (i := i) (v := v) (by simpa using hv)
    have hi5 : i < 11 := by
      change _ = (wordsL xs cs).length at hdl
      simp at hi
      omega
    obtain ⟨hx1, hx2, hx3⟩ := hok x (List.mem_of_getElem? hx5)
    have hp100 : pv.length ≤ 100 := by omega
    k_lt hlt5
    (k_steps; repeat' ((with_reducible show Hold _); (first | ((with_reducible show Hold (codeAny _ _ (Code.call (Value.ref 144) _) _ _)); k_dflt (refine Hold.of ?_; refine lw_use (by k_asm) (by k_asm) (by k_asm) (by k_asm) (by k_asm) (by with_reducible assumption) (by with_reducible assumption) (by exact rfl) (by decide +kernel) (by decide +kernel) ?_; intro t9u h'u tk'u F'u N'u; (try dsimp only)))); k_steps))
    rename Fr _ _ _ _ => F7
    rename News _ _ _ _ => N7
    obtain ⟨sep, hsep, hitem⟩ := blank_item (xs.getD (Int.toNat 6) 0 + (i : Int))
    have hx6 : (wordsL xs cs)[i]? = some x := hx5
    have htk : (wordsL xs cs).take (i + 1) = (wordsL xs cs).take i ++ [x] := by rw [List.take_add_one, hx6]; rfl
    rw [List.push_toArray, List.push_toArray, hitem] at N7
    refine ⟨_, _, _, _, rfl, F7, N7, OwnOff.more (by k_all) (OwnOff.one (by k_all)), ?zl2, _, _, ps ++ [⟨(wrt x.cps.toList (Int.fmod (Int.fdiv (Int.fdiv (xs.getD (Int.toNat 6) 0) 3) (2 ^ Int.toNat (i : Int))) 2 == 1)).toArray⟩, ⟨#[sep]⟩], rfl, ?zs2, ?zp2, ?zn2, a1, a2, a3, a4⟩
    case zl2 => intro p hp; rw [List.mem_singleton.mp hp]; exact .tail _ (.head _)
    case zs2 =>
      rw [List.append_cons ps]
      show StrsAre (pv ++ [_] ++ [_]) _
      exact strs_snoc (strs_snoc hpv _ _) _ _
    case zp2 => rw [htk]; exact hps.snoc x _ hsep
    case zn2 => simp; omega
  case zfin =>
    rintro h9 tk9 m9 r9 ⟨pv, np, ps, rfl, hpv, hps, hpl, a1, a2, a3, a4⟩ F9 N9
    have hfull : (wordsL xs cs).take dv.toArray.size = wordsL xs cs := List.take_of_length_le (by
      change _ = (wordsL xs cs).length at hdl
      simp
      omega)
    rw [hfull] at hps
    have hlen := hps.lens hok
    (k_steps; repeat' ((with_reducible show Hold _); (first | ((with_reducible show Hold (codeAny _ _ (Code.call (Value.ref 144) _) _ _)); k_dflt (refine Hold.of ?_; refine lw_use (by k_asm) (by k_asm) (by k_asm) (by k_asm) (by k_asm) (by with_reducible assumption) (by with_reducible assumption) (by exact rfl) (by decide +kernel) (by decide +kernel) ?_; intro t9u h'u tk'u F'u N'u; (try dsimp only)))); k_steps))
    k_dflt (refine join_listW ⟨_, N9.get (.head _), rfl, _, rfl⟩ (by simpa using hpv) (by decide) (by omega) ?_)
    intro t8 k8
    (k_steps; repeat' ((with_reducible show Hold _); (first | ((with_reducible show Hold (codeAny _ _ (Code.call (Value.ref 144) _) _ _)); k_dflt (refine Hold.of ?_; refine lw_use (by k_asm) (by k_asm) (by k_asm) (by k_asm) (by k_asm) (by with_reducible assumption) (by with_reducible assumption) (by exact rfl) (by decide +kernel) (by decide +kernel) ?_; intro t9u h'u tk'u F'u N'u; (try dsimp only)))); k_steps))
    rename Fr _ _ _ _ => F7
    rename News _ _ _ _ => N7
    exact ⟨_, _, _, _, _, _, _, _, _, _, _, rfl, F7, N7.perm (by k_allIn), hxs, hdv, hal, hcl, hcb, by rw [glued_flat]; exact hps.wr, rfl, a3, a4⟩

end
section
local macro_rules | `(tactic| walk_at "eval Name") => `(tactic| (k_here; (with_reducible show wpAny _ _ (eval (PySem.Expr.Name _ _) (envOfC _ _ _ _ _)) _ _ _); k_dflt (refine ldLoc (by k_asm) (by ((fail_if_success exact rfl); assumption)) ?_)))
local macro_rules | `(tactic| walk_at "exec For") => `(tactic| (k_here; k_dflt (refine wpAny_For ?_)))
local macro_rules | `(tactic| walk_at "exec For Tuple Call") => `(tactic| (k_here; k_dflt (refine wpAny_For ?_)))
-- law macros
inductive WordJ (w : World) (tx : Str) (tT : Tok) (P : LexP) (wd : List Str) (wl dl : Addr) (cv : Int) (tn : Tok) (r0 : List (Addr × Obj)) (g : Heap) (L : Addr) (s : Shared) (n : Nat) (s' : Shared) : Prop
  | mk (done todo : List Str) (ln : Int) (tkl : Tok) (p : Nat) (tkp : Tok) (wv : List Value) (nw : Nat) (tw : Tok) (h : Heap) (tk : Nat) (m : Str → Option Value) : (s' = { s with heap := h, toks := tk }) → (n = todo.length) → (wd = done ++ todo) → (StrsAre wv done) → (Left todo.tail (tx.cps.toList.drop p)) → ((todo = [] → tx.cps.toList.drop p = [])) → (ln + nls (tx.cps.toList.drop p) = 1 + nls tx.cps.toList) → (Fr g L h m) → (News g L h (LexLed w P ln tkl p tkp #[] 0 ++ (wl, W.listOf wv.toArray nw) :: r0)) → (m (Str.ofString "word") = some (.str (headS todo) tw)) → (m (Str.ofString "words") = some (.ref wl)) → (m (Str.ofString "lexer") = some (.ref P.x)) → (m (Str.ofString "text") = some (.str tx tT)) → (m (Str.ofString "due") = some (.ref dl)) → (m (Str.ofString "count") = some (.int cv tn)) → WordJ w tx tT P wd wl dl cv tn r0 g L s n s'
theorem word_mk {w : World} {tx : Str} {tT : Tok} {P : LexP} {wd : List Str} {wl dl : Addr} {cv : Int} {tn : Tok} {r0 : List (Addr × Obj)} {g : Heap} {L : Addr} {s : Shared}
    {done todo : List Str} {ln : Int} {tkl : Tok} {p : Nat} {tkp : Tok} {wv : List Value} {nw : Nat} {tw : Tok} {h : Heap} {tk : Nat} {m : Str → Option Value} (e : wd = done ++ todo) (hv : StrsAre wv done)
    (a1 : Left todo.tail (tx.cps.toList.drop p)) (a2 : todo = [] → tx.cps.toList.drop p = []) (a3 : ln + nls (tx.cps.toList.drop p) = 1 + nls tx.cps.toList) (F : Fr g L h m) (N : News g L h (LexLed w P ln tkl p tkp #[] 0 ++ (wl, W.listOf wv.toArray nw) :: r0))
    (m1 : m (Str.ofString "word") = some (.str (headS todo) tw)) (m2 : m (Str.ofString "words") = some (.ref wl)) (m3 : m (Str.ofString "lexer") = some (.ref P.x)) (m4 : m (Str.ofString "text") = some (.str tx tT)) (m5 : m (Str.ofString "due") = some (.ref dl)) (m6 : m (Str.ofString "count") = some (.int cv tn)) :
    WordJ w tx tT P wd wl dl cv tn r0 g L s todo.length { s with heap := h, toks := tk } :=
  ⟨done, todo, ln, tkl, p, tkp, wv, nw, tw, h, tk, m, rfl, rfl, e, hv, a1, a2, a3, F, N, m1, m2, m3, m4, m5, m6⟩
set_option maxHeartbeats 0 in
theorem stage4 (prog : Program) (w : World) (g : Heap) (L fa : Addr) (pp : Program) (loose : List Str) (mean : ExcName → Option Value) (mg mb : Str → Option Value) (Lt : LawTop w g L pp loose mean mg mb)
    (E : Value → Shared → Prop) (sc : Scope) (hsc : sc = lawScope) (bd : List Stmt) (hbd : bd = (lawBody.drop 9).take 4) (o1 o2 o3 : Obj) (s s' : Shared) (hJ : J3 (cellsL L o1 o2 o3) g L s s') :
    wpAny (model prog w) (lawA sc L fa) (execs bd (lawE sc L fa)) (fun f s' => f = .next ∧ J4 prog w o1 o2 o3 g L s s') E s' := by
  unfold lawScope at hsc
  conv at hsc => rhs; whnf
  unfold lawBody at hbd
  conv at hbd => rhs; arg 2; arg 2; whnf
  simp only [List.drop_zero, List.take_succ_cons, List.take_zero, List.drop_succ_cons] at hbd
  subst hsc hbd
  obtain ⟨X, T, B, C1, C2, l1, l2⟩ := Lt
  obtain ⟨h, tk, m, xs, dv, cs, dl, tn, nd, tx, tT, rfl, F, N, hxs, hdv, ⟨q1, q2, q3, q4, q5, _⟩, hcl, hcb, hwr, m1, m2, m3⟩ := hJ
  have hc5 := count_bounds hcl
  have hok := wordsL_ok hcl hcb
  have hwl := wordsL_len hcl
  have hasc := hwr.ascii hok
  have hlen : tx.length ≤ 100000 := by
    have h1 := hwr.len hok
    have h2 : tx.cps.toList.length = tx.length := Array.length_toList
    omega
  have hl0 : Left (wordsL xs cs) (tx.cps.toList.drop 0) := ⟨[], _, by simp, rfl, hwr⟩
  with_reducible show wpAny _ _ _ _ _ _
  k_fold
  (k_steps; repeat' ((with_reducible show Hold _); (first | ((with_reducible show Hold (codeAny _ _ (Code.call (Value.ref 151) _) _ _)); k_dflt (refine Hold.of ?_; refine ll_use (by with_reducible assumption) (by k_asm) (by k_asm) (by k_asm) (by k_asm) (by k_asm) (by exact rfl) (by k_mem) (by k_all) (by decide +kernel) (by decide +kernel) ?_; intro P9u tkl9u tkp9u ps9u h'u tk'u hO9u hP9u hA9u hR9u F'u N'u; obtain ⟨ho1u, ho2u, ho3u, ho4u, ho5u, ho6u, ho7u, ho8u, ho9u, ho10u⟩ := id hO9u; (with_reducible first | refine bel6 hA9u ?_ | refine bel5 hA9u ?_ | refine bel4 hA9u ?_ | refine bel3 hA9u ?_ | refine bel2 hA9u ?_); clear hA9u; intros; (try simp only [List.cons_append, List.nil_append] at N'u); (try dsimp only))) | ((with_reducible show Hold (codeAny _ _ (Code.call (Value.ref 69) _) _ _)); k_dflt (refine Hold.of ?_; refine gw_use (by with_reducible assumption) (by with_reducible assumption) (by with_reducible assumption) (by with_reducible assumption) (by with_reducible assumption) (by k_asm) (by k_asm) (by k_asm) (by k_asm) (by k_asm) (by exact rfl) (by k_mem) (by k_all) (by decide +kernel) (by decide +kernel) ?_; intro ln9u tkl9u p9u tkp9u tk9u h'u tk'u hl9u hz9u hn9u F'u N'u; (try simp only [List.cons_append, List.nil_append] at N'u); (try dsimp only)))); k_steps))
  rename Fr _ _ _ _ => F5
  rename News _ _ _ _ => N5
  rename _ + nls _ = _ => hn5
  refine whileLoop_of (WordJ w tx tT _ (wordsL xs cs) _ dl (3 + Int.fmod (xs.getD 6 0) 3) tn [(146, _), (dl, W.listOf dv.toArray nd), (L + 1 + 1 + 1, o1), (L + 1 + 1, o2), (L + 1, o3), (186, tabObj #[])] _ _ _) ?wturn (wordsL xs cs).length
    (word_mk (done := []) (todo := wordsL xs cs) rfl .nil (by assumption) (by assumption) hn5 F5 N5 rfl rfl rfl m1 m2 m3)
  rintro n s' ⟨done, todo, ln, tkl, p, tkp, wv, nw, tw, h6, tk6, m6, rfl, rfl, e, hv, a1, a2, a3, F6, N6, b1, b2, b3, b4, b5, b6⟩
  simp only [List.cons_append, List.nil_append] at N6
  clear F5 N5
  k_fold
  rcases todo with _ | ⟨x, todo⟩
  · simp only [headS] at b1
    (k_steps; repeat' ((with_reducible show Hold _); (first | ((with_reducible show Hold (codeAny _ _ (Code.call (Value.ref 151) _) _ _)); k_dflt (refine Hold.of ?_; refine ll_use (by with_reducible assumption) (by k_asm) (by k_asm) (by k_asm) (by k_asm) (by k_asm) (by exact rfl) (by k_mem) (by k_all) (by decide +kernel) (by decide +kernel) ?_; intro P9u tkl9u tkp9u ps9u h'u tk'u hO9u hP9u hA9u hR9u F'u N'u; obtain ⟨ho1u, ho2u, ho3u, ho4u, ho5u, ho6u, ho7u, ho8u, ho9u, ho10u⟩ := id hO9u; (with_reducible first | refine bel6 hA9u ?_ | refine bel5 hA9u ?_ | refine bel4 hA9u ?_ | refine bel3 hA9u ?_ | refine bel2 hA9u ?_); clear hA9u; intros; (try simp only [List.cons_append, List.nil_append] at N'u); (try dsimp only))) | ((with_reducible show Hold (codeAny _ _ (Code.call (Value.ref 69) _) _ _)); k_dflt (refine Hold.of ?_; refine gw_use (by with_reducible assumption) (by with_reducible assumption) (by with_reducible assumption) (by with_reducible assumption) (by with_reducible assumption) (by k_asm) (by k_asm) (by k_asm) (by k_asm) (by k_asm) (by exact rfl) (by k_mem) (by k_all) (by decide +kernel) (by decide +kernel) ?_; intro ln9u tkl9u p9u tkp9u tk9u h'u tk'u hl9u hz9u hn9u F'u N'u; (try simp only [List.cons_append, List.nil_append] at N'u); (try dsimp only)))); k_steps))
    rename Fr _ _ _ _ => F7
    rename News _ _ _ _ => N7
    have hp0 := a2 rfl
    rw [hp0, nls_nil, Int.add_zero] at a3
    rw [List.append_nil] at e
    rw [e] at hdv hok
    refine ⟨_, _, _, xs, cs, dv, dl, nd, tn, tx, tT, _, ln, tkl, p, tkp, _, _, wv, nw, rfl, F7, N7, hxs, by rw [e]; exact hdv, by rw [e]; exact hv, hcl, hcb, ?_, hlen, hp0, a3, by assumption, by assumption, ⟨by assumption, by assumption, by assumption, by assumption, q1⟩, b4, b5, b6, b3, b2⟩
    rw [Array.all_eq_true_iff_forall_mem]
    intro c hc
    have := hasc c (by simpa using hc)
    simpa using this
  · simp only [headS] at b1
    simp only [List.tail_cons] at a1
    have hx := hok x (by rw [e]; exact List.mem_append.mpr (.inr (.head _)))
    have hok2 : ∀ y ∈ todo, WordOk y := fun y hy => hok y (by rw [e]; exact List.mem_append.mpr (.inr (.tail _ hy)))
    have hxn : (x != Str.ofString "") = true := by
      have : x ≠ Str.ofString "" := by
        rintro rfl
        exact hx.2.2 (by rw [no_is])
      simp [this]
    have hw100 : wv.length ≤ 100 := by
      have h1 := strs_len hv
      have h2 := congrArg List.length e
      rw [List.length_append, List.length_cons] at h2
      omega
    (k_steps; repeat' ((with_reducible show Hold _); (first | ((with_reducible show Hold (codeAny _ _ (Code.call (Value.ref 151) _) _ _)); k_dflt (refine Hold.of ?_; refine ll_use (by with_reducible assumption) (by k_asm) (by k_asm) (by k_asm) (by k_asm) (by k_asm) (by exact rfl) (by k_mem) (by k_all) (by decide +kernel) (by decide +kernel) ?_; intro P9u tkl9u tkp9u ps9u h'u tk'u hO9u hP9u hA9u hR9u F'u N'u; obtain ⟨ho1u, ho2u, ho3u, ho4u, ho5u, ho6u, ho7u, ho8u, ho9u, ho10u⟩ := id hO9u; (with_reducible first | refine bel6 hA9u ?_ | refine bel5 hA9u ?_ | refine bel4 hA9u ?_ | refine bel3 hA9u ?_ | refine bel2 hA9u ?_); clear hA9u; intros; (try simp only [List.cons_append, List.nil_append] at N'u); (try dsimp only))) | ((with_reducible show Hold (codeAny _ _ (Code.call (Value.ref 69) _) _ _)); k_dflt (refine Hold.of ?_; refine gw_use (by with_reducible assumption) (by with_reducible assumption) (by with_reducible assumption) (by with_reducible assumption) (by with_reducible assumption) (by k_asm) (by k_asm) (by k_asm) (by k_asm) (by k_asm) (by exact rfl) (by k_mem) (by k_all) (by decide +kernel) (by decide +kernel) ?_; intro ln9u tkl9u p9u tkp9u tk9u h'u tk'u hl9u hz9u hn9u F'u N'u; (try simp only [List.cons_append, List.nil_append] at N'u); (try dsimp only)))); k_steps))
    rename Fr _ _ _ _ => F7
    rename News _ _ _ _ => N7
    rename _ + nls _ = _ + nls _ => hn7
    rw [List.push_toArray] at N7
    exact ⟨todo.length, Nat.lt_succ_self _, word_mk (done := done ++ [x]) (by rw [e]; simp) (strs_snoc hv _ _) (by assumption) (by assumption) (hn7.trans a3) F7 N7 rfl b2 b3 b4 b5 b6⟩

end
section
local macro_rules | `(tactic| walk_at "mine-nothing") => `(tactic| skip)
local macro_rules | `(tactic| walk_at "eval Name") => `(tactic| (k_here; (with_reducible show wpAny _ _ (eval (PySem.Expr.Name _ _) (envOfC _ _ _ _ _)) _ _ _); k_dflt (refine ldLoc (by k_asm) (by ((fail_if_success exact rfl); assumption)) ?_)))
local macro_rules | `(tactic| walk_at "exec For") => `(tactic| (k_here; k_dflt (refine wpAny_For ?_)))
local macro_rules | `(tactic| walk_at "exec For Tuple Call") => `(tactic| (k_here; k_dflt (refine wpAny_For ?_)))
-- law macros
theorem datAll_of {vs : List Value} {ws : List Str} (h : StrsAre vs ws) : DatAll [] vs (ws.map Dat.str) := by
  induction h with
  | nil => exact .nil
  | cons a t _ ih => exact .cons (.str _ _) ih
theorem cnt_use {prog : Program} {w : World} {dp un : Nat} {gd : Option (List Code)} {cn : Str} {cs : Scope} {a : Addr} {ccd : Value} {cl : List (Str × Addr)} {outer : List Env} {A₀ : Around} {base h₀ : Heap} {L : Addr} {m : Str → Option Value} {s : Shared} {Rk : Result → Shared → Prop}
    {pp : Program} {loose : List Str} {mean : ExcName → Option Value} {mg mb : Str → Option Value} {news : List (Addr × Obj)} {tx : Str} {tt : Tok} {tb : Nat}
    (B : Below A₀ base outer h₀) (F : Fr h₀ L s.heap m) (X : (Mine.hd.heap_39 w.params).In h₀) (N : News h₀ L s.heap news) (T : Top pp loose mean mg mb h₀) (hasc : tx.cps.all (· < 128) = true) (htb : tb ≠ 0) (hlt : @LT.lt Nat _ tb s.toks) (hk : cs.kind = .function)
    (hd : dp + 10 < recursionLimit) (hu : un + 50 < cLine)
    (h : ∀ t h' tks, Fr h₀ L h' m → News h₀ L h' news → Rk (.ok (.ret (.int (nls tx.cps.toList) t))) { s with heap := h', toks := tks }) :
    codeAny (model prog w) (ktrTop dp un gd cn cs L a ccd cl outer) (.call (.ref 125) ⟨[.str tx tt, .str (Str.ofString "\n") tb], []⟩) Rk s := by
  rw [nl_is]
  exact c_count prog w news tx tt tb hasc htb dp un gd cn cs a ccd cl outer A₀ base h₀ L m s Rk pp loose mean mg mb hlt B F X N T hk hd hu h
set_option maxHeartbeats 0 in
theorem stage5 (prog : Program) (w : World) (g : Heap) (L fa : Addr) (pp : Program) (loose : List Str) (mean : ExcName → Option Value) (mg mb : Str → Option Value) (Lt : LawTop w g L pp loose mean mg mb)
    (E : Value → Shared → Prop) (sc : Scope) (hsc : sc = lawScope) (bd : List Stmt) (hbd : bd = (lawBody.drop 13).take 1) (o1 o2 o3 : Obj) (s s' : Shared) (hJ : J4 prog w o1 o2 o3 g L s s') :
    wpAny (model prog w) (lawA sc L fa) (execs bd (lawE sc L fa)) (fun f s' => f = .next ∧ J4 prog w o1 o2 o3 g L s s') E s' := by
  unfold lawScope at hsc
  conv at hsc => rhs; whnf
  unfold lawBody at hbd
  conv at hbd => rhs; arg 2; arg 2; whnf
  simp only [List.drop_zero, List.take_succ_cons, List.take_zero, List.drop_succ_cons] at hbd
  subst hsc hbd
  obtain ⟨X, T, B, C1, C2, l1, l2⟩ := Lt
  obtain ⟨h, tk, m, xs, cs, dv, dl, nd, tn, tx, tT, P, ln, tkl, p, tkp, ps, wl, wv, nw, rfl, F, N, hxs, hdv, hwv, hcl, hcb, hasc, hlen, hp0, rfl, hO, hR, ⟨q1, q2, q3, q4, q5⟩, m1, m2, m3, m4, m5⟩ := hJ
  simp only [List.cons_append, List.nil_append] at N
  have hok := wordsL_ok hcl hcb
  have hD1 := datAll_of hdv
  have hD2 := datAll_of hwv
  have hkq : ∀ d ∈ (wordsL xs cs).map Dat.str, kqdOk 8 d = true := by
    intro d hd
    obtain ⟨x, hx, rfl⟩ := List.mem_map.mp hd
    have := (hok x hx).2.1
    show PyData.strOk x = true
    unfold PyData.strOk
    rw [Array.all_eq_true_iff_forall_mem] at this ⊢
    intro c hc
    have := this c hc
    simp only [decide_eq_true_eq] at this ⊢
    omega
  have hbn : ((1 + nls tx.cps.toList) != (1 + nls tx.cps.toList)) = false := by simp
  obtain ⟨h1', h2', h3', h4', h5', h6', h7', h8', h9', h10'⟩ := id hO
  (k_steps; repeat' ((with_reducible show Hold _); (first | ((with_reducible show Hold (codeAny _ _ (Code.call (Value.ref 125) _) _ _)); k_dflt (refine Hold.of ?_; refine cnt_use (by k_asm) (by k_asm) (by k_asm) (by k_asm) (by k_asm) (by with_reducible assumption) (by exact Nat.succ_ne_zero _) (by exact Nat.lt_succ_self _) (by exact rfl) (by decide +kernel) (by decide +kernel) ?_; intro t9u h'u tk'u F'u N'u; (try dsimp only)))); k_steps))
  rename Fr _ _ _ _ => F7
  rename News _ _ _ _ => N7
  exact ⟨_, _, _, xs, cs, dv, dl, nd, tn, tx, tT, P, _, tkl, p, tkp, ps, wl, wv, nw, rfl, F7, N7, hxs, hdv, hwv, hcl, hcb, hasc, hlen, hp0, rfl, hO, hR, ⟨q1, q2, q3, q4, q5⟩, m1, m2, m3, m4, m5⟩

end
section
local macro_rules | `(tactic| walk_at "eval Name") => `(tactic| (k_here; (with_reducible show wpAny _ _ (eval (PySem.Expr.Name _ _) (envOfC _ _ _ _ _)) _ _ _); k_dflt (refine ldLoc (by k_asm) (by ((fail_if_success exact rfl); assumption)) ?_)))
local macro_rules | `(tactic| walk_at "exec For") => `(tactic| (k_here; k_dflt (refine wpAny_For ?_)))
local macro_rules | `(tactic| walk_at "exec For Tuple Call") => `(tactic| (k_here; k_dflt (refine wpAny_For ?_)))
-- law macros
theorem ins_use {prog : Program} {w : World} {dp un : Nat} {gd : Option (List Code)} {cn : Str} {cs : Scope} {a : Addr} {ccd : Value} {cl : List (Str × Addr)} {outer : List Env} {A₀ : Around} {base h₀ : Heap} {L : Addr} {m : Str → Option Value} {s : Shared} {Rk : Result → Shared → Prop}
    {pp : Program} {loose : List Str} {mean : ExcName → Option Value} {mg mb : Str → Option Value} {news r : List (Addr × Obj)} {rw_ : Addr} {rs : List RowI} {ne : Nat} {ra : Addr} {nm : Str} {tn : Tok} {c : Int} {tc : Tok} {n9 : Nat}
    (B : Below A₀ base outer h₀) (F : Fr h₀ L s.heap m) (X : (Mine.hd.heap_39 w.params).In h₀) (N : News h₀ L s.heap news) (T : Top pp loose mean mg mb h₀) (hk : cs.kind = .function)
    (u : Pull (rw_, W.listOf (rowVals rs).toArray ne) news r) {tq : List (Addr × Obj)} (hrs : ∀ q ∈ rs, (q.a, rowObj q) ∈ tq) (hsub : ∀ q ∈ tq, q ∈ r) (hr0 : (ra, ({ cls := .type "tuple", data := .seq #[.str nm tn, .int c tc] n9 } : Obj)) ∈ r) (hlen : rs.length ≤ 100) (hs : Rising rs) (ho : OwnOff r [rw_])
    (hd : dp + 15 < recursionLimit) (hu : un + 80 < cLine)
    (h : ∀ v (l1 l2 : List RowI) ne' h' tks, rs = l1 ++ l2 → (∀ q ∈ l1, q.c ≤ c) → (∀ q ∈ l2, c < q.c) → Fr h₀ L h' m → News h₀ L h' ((rw_, W.listOf (rowVals (l1 ++ (⟨ra, nm, tn, c, tc, n9⟩ : RowI) :: l2)).toArray ne') :: r) → Rk (.ok (.ret v)) { s with heap := h', toks := tks }) :
    codeAny (model prog w) (ktrTop dp un gd cn cs L a ccd cl outer) (.call (.ref 23) ⟨[.ref rw_, .ref ra], [(Str.ofString "key", .ref 158)]⟩) Rk s := by
  refine c_insort prog w r rw_ rs ne ⟨ra, nm, tn, c, tc, n9⟩ (fun q hq => hsub _ (hrs q hq)) hr0 hlen hs ho dp un gd cn cs a ccd cl outer A₀ base h₀ L m s Rk pp loose mean mg mb B F X (News.perm u.mem N) T hk hd hu ?_
  rintro v news' h' tk' ⟨l1, l2, ne', q1, q2, q3, rfl⟩ F' N'
  exact h v l1 l2 ne' h' tk' q1 q2 q3 F' N'
inductive J6 (prog : Program) (w : World) (o2 o3 : Obj) (g : Heap) (L : Addr) (s s' : Shared) : Prop
  | mk (h tk m xs cs T P ln tkl) (p : Nat) (tkp ps wl wv nw o1 rl rs nr tq) : (s' = { s with heap := h, toks := tk }) → (Fr g L h m) → (News g L h ((rl, W.listOf (rowVals rs).toArray nr) :: (L + 1 + 1 + 1, o1) :: (L + 1 + 1, o2) :: (L + 1, o3) :: (186, tabObj #[]) :: tq)) → ((o1.data = .cell (some (.ref rl)) ∧ RowOk rs (pairsL signsL cs) ∧ (∀ r ∈ rs, (r.a, rowObj r) ∈ tq ∧ @LT.lt Nat _ P.l r.a) ∧ @LT.lt Nat _ P.l rl ∧ OwnOff tq [rl, L + 1 + 1 + 1, L + 1 + 1, L + 1, 186])) → ((StrsAre wv (wordsL xs cs) ∧ (wl, W.listOf wv.toArray nw) ∈ tq ∧ (∀ q ∈ LexLed w P ln tkl p tkp #[] 0, q ∈ tq) ∧ (146, tabObj ps) ∈ tq)) → (cs.length = (3 + Int.fmod (xs.getD 6 0) 3).toNat) → ((∀ c ∈ cs, 0 ≤ c ∧ c < 1000)) → (T.length ≤ 100000) → (T.cps.toList.drop p = []) → (LexOrd P) → (ReadOk prog w T P.f P.c P.pl P.cp P.ct P.fo P.oc P.ocp P.oct) → ((@LT.lt Nat _ (L + 1 + 1 + 1) P.ct)) → (m (Str.ofString "lexer") = some (.ref P.x)) → (m (Str.ofString "words") = some (.ref wl)) → J6 prog w o2 o3 g L s s'
inductive RowJ (P : LexP) (rl : Addr) (cs : List Int) (c3 c2 c1 t1 : Addr × Obj) (Q : List (Addr × Obj)) (wl : Addr) (i : Nat) (m : Str → Option Value) (r : List (Addr × Obj)) : Prop
  | mk (rs nr tq) : (r = (rl, W.listOf (rowVals rs).toArray nr) :: c3 :: c2 :: c1 :: t1 :: tq) → (RowOk rs (pairsL signsL (cs.take i))) → ((∀ r ∈ rs, (r.a, rowObj r) ∈ tq ∧ @LT.lt Nat _ P.l r.a)) → (OwnOff tq [rl, c3.1, c2.1, c1.1, t1.1]) → ((∀ q ∈ Q, q ∈ tq)) → (rs.length = i) → (m (Str.ofString "lexer") = some (.ref P.x)) → (m (Str.ofString "words") = some (.ref wl)) → RowJ P rl cs c3 c2 c1 t1 Q wl i m r
theorem row_perm {α : Type} {a b d e f g r : α} {T : List α} : ∀ q ∈ d :: a :: e :: f :: g :: r :: b :: T, q ∈ a :: b :: d :: e :: f :: g :: r :: T := by
  intro q hq
  simp only [List.mem_cons] at hq ⊢
  rcases hq with h | h | h | h | h | h | h | h <;> simp [h]
theorem row_next {P : LexP} {rl wl d : Addr} {cs : List Int} {c3 c2 c1 t1 : Addr × Obj} {Q tq : List (Addr × Obj)} {g h : Heap} {L : Addr} {s : Shared} {m : Str → Option Value} {tk i ne nr : Nat} {oI : Obj} {rs l1 l2 : List RowI} {r0 : RowI}
    (F : Fr g L h m) (N : News g L h ((rl, W.listOf (rowVals (l1 ++ r0 :: l2)).toArray ne) :: (r0.a, rowObj r0) :: (d, oI) :: c3 :: c2 :: c1 :: t1 :: tq)) (hrow : RowOk rs (pairsL signsL (cs.take i))) (he : rs = l1 ++ l2) (hb : ∀ q ∈ l1, q.c ≤ r0.c) (ha : ∀ q ∈ l2, r0.c < q.c)
    (hps : pairsL signsL (cs.take (i + 1)) = pairsL signsL (cs.take i) ++ [(r0.nm, r0.c)]) (hrs : ∀ r ∈ rs, (r.a, rowObj r) ∈ tq ∧ @LT.lt Nat _ P.l r.a) (hof : OwnOff tq [rl, c3.1, c2.1, c1.1, t1.1]) (hD : OwnOff [(r0.a, rowObj r0)] [rl, c3.1, c2.1, c1.1, t1.1]) (hPr : @LT.lt Nat _ P.l r0.a) (hQq : ∀ q ∈ Q, q ∈ tq) (hl : rs.length = i)
    (m1 : m (Str.ofString "lexer") = some (.ref P.x)) (m2 : m (Str.ofString "words") = some (.ref wl)) (O9 : OwnOff ((rl, W.listOf (rowVals rs).toArray nr) :: c3 :: c2 :: c1 :: t1 :: tq) [d]) (hd : r0.a ≠ d) :
    WalkEnd g L s d oI [] (RowJ P rl cs c3 c2 c1 t1 Q wl (i + 1)) { s with heap := h, toks := tk } := by
  subst he
  have hap : ∀ r ∈ l1 ++ r0 :: l2, (r.a, rowObj r) ∈ (r0.a, rowObj r0) :: tq ∧ @LT.lt Nat _ P.l r.a := by
    intro r hr
    rcases List.mem_append.mp hr with hr | hr
    · exact ⟨.tail _ (hrs r (List.mem_append.mpr (.inl hr))).1, (hrs r (List.mem_append.mpr (.inl hr))).2⟩
    · rcases List.mem_cons.mp hr with rfl | hr
      · exact ⟨.head _, hPr⟩
      · exact ⟨.tail _ (hrs r (List.mem_append.mpr (.inr hr))).1, (hrs r (List.mem_append.mpr (.inr hr))).2⟩
  refine ⟨h, tk, m, (rl, W.listOf (rowVals (l1 ++ r0 :: l2)).toArray ne) :: c3 :: c2 :: c1 :: t1 :: (r0.a, rowObj r0) :: tq, rfl, F, N.perm ?_, ?_, by simp, l1 ++ r0 :: l2, ne, (r0.a, rowObj r0) :: tq, rfl, by rw [hps]; exact hrow.put hb ha, hap, ?_, fun q hq => .tail _ (hQq q hq), ?_, m1, m2⟩
  · exact row_perm
  · intro q hq b hb'
    rw [List.mem_singleton.mp hb']
    rcases List.mem_cons.mp hq with rfl | hq
    · exact O9 _ (.head _) d (.head _)
    rcases List.mem_cons.mp hq with rfl | hq
    · exact O9 _ (.tail _ (.head _)) d (.head _)
    rcases List.mem_cons.mp hq with rfl | hq
    · exact O9 _ (.tail _ (.tail _ (.head _))) d (.head _)
    rcases List.mem_cons.mp hq with rfl | hq
    · exact O9 _ (.tail _ (.tail _ (.tail _ (.head _)))) d (.head _)
    rcases List.mem_cons.mp hq with rfl | hq
    · exact O9 _ (.tail _ (.tail _ (.tail _ (.tail _ (.head _))))) d (.head _)
    rcases List.mem_cons.mp hq with rfl | hq
    · exact hd
    · exact O9 _ (.tail _ (.tail _ (.tail _ (.tail _ (.tail _ hq))))) d (.head _)
  · intro q hq
    rcases List.mem_cons.mp hq with rfl | hq
    · exact hD _ (.head _)
    · exact hof q hq
  · rw [List.length_append, List.length_cons]
    rw [List.length_append] at hl
    omega
theorem small_my {b : Int} (h0 : 0 ≤ b) (h1 : b ≤ 100) : Builtin.Range.small 0 b 2 = true := by
  have : Builtin.Range.rangeSize 0 b 2 ≤ 100 ∧ 0 ≤ Builtin.Range.rangeSize 0 b 2 := by
    unfold Builtin.Range.rangeSize
    rw [if_pos (by decide)]
    split <;> omega
  unfold Builtin.Range.small
  simp only [Builtin.Range.rangeFitsLong, Bool.and_eq_true, Bool.or_eq_true, decide_eq_true_eq, beq_iff_eq, show ((2 : Int) > 0) from by decide, if_true]
  generalize Builtin.Range.rangeSize 0 b 2 = z at *
  repeat (first | omega | constructor)
theorem range_iter_my {prog : Program} {w : World} {A : Around} {E : Value → Shared → Prop} {s : Shared} {h₀ : Heap} {L : Addr} {m : Str → Option Value} {news : List (Addr × Obj)} {r : Addr} {b n : Int} {t u v : Tok} {Q : Value → Shared → Prop} (hr : IsRange s.heap r 0 b 2 t u v) (hs : Builtin.Range.small 0 b 2 = true) (hn : Builtin.Range.rangeSize 0 b 2 = n)
    (F : Fr h₀ L s.heap m) (N : News h₀ L s.heap news)
    (h : ∀ (d : Addr) h', h'.get? d = some { cls := .type "range_iterator", data := .fields #[rawInt 0, rawInt n, rawInt 2] } → (∀ p ∈ news, p.1 < d) → Fr h₀ L h' m → News h₀ L h' ((d, { cls := .type "range_iterator", data := .fields #[rawInt 0, rawInt n, rawInt 2] }) :: news) → Q (.ref d) { s with heap := h' }) :
    wpAny (model prog w) A (pyIter (.ref r)) Q E s := by
  subst hn
  exact wpAny_pyIter_range hr hs (fresh_one rfl F N h)
theorem size_my {k : Int} (h0 : 0 ≤ k) : Builtin.Range.rangeSize 0 (2 * k) 2 = k := by
  unfold Builtin.Range.rangeSize
  rw [if_pos (by decide)]
  split <;> omega
set_option maxHeartbeats 0 in
theorem stage6 (prog : Program) (w : World) (g : Heap) (L fa : Addr) (pp : Program) (loose : List Str) (mean : ExcName → Option Value) (mg mb : Str → Option Value) (Lt : LawTop w g L pp loose mean mg mb)
    (E : Value → Shared → Prop) (sc : Scope) (hsc : sc = lawScope) (bd : List Stmt) (hbd : bd = (lawBody.drop 14).take 2) (o1 o2 o3 : Obj) (ho1 : o1.data = .cell .none) (s s' : Shared) (hJ : J4 prog w o1 o2 o3 g L s s') :
    wpAny (model prog w) (lawA sc L fa) (execs bd (lawE sc L fa)) (fun f s' => f = .next ∧ J6 prog w o2 o3 g L s s') E s' := by
  unfold lawScope at hsc
  conv at hsc => rhs; whnf
  unfold lawBody at hbd
  conv at hbd => rhs; arg 2; arg 2; whnf
  simp only [List.drop_zero, List.take_succ_cons, List.take_zero, List.drop_succ_cons] at hbd
  subst hsc hbd
  obtain ⟨X, T, B, C1, C2, l1, l2⟩ := Lt
  obtain ⟨h, tk, m, xs, cs, dv, dl, nd, tn, tx, tT, P, ln, tkl, p, tkp, ps, wl, wv, nw, rfl, F, N, hxs, hdv, hwv, hcl, hcb, hasc, hlen, hp0, rfl, hO, hR, ⟨q1, q2, q3, q4, q5⟩, m1, m2, m3, m4, m5⟩ := hJ
  have hc5 := count_bounds hcl
  obtain ⟨h1', h2', h3', h4', h5', h6', h7', h8', h9', h10'⟩ := id hO
  obtain ⟨Q, hQ⟩ : ∃ Q, Q = LexLed w P (1 + nls tx.cps.toList) tkl p tkp #[] 0 ++ [(wl, W.listOf wv.toArray nw), (146, tabObj ps), (dl, W.listOf dv.toArray nd)] := ⟨_, rfl⟩
  have hQm : ∀ q ∈ Q, @LT.lt Nat _ (L + 1 + 1 + 1) q.1 ∨ q.1 = 146 := by
    rw [hQ]
    simp only [List.cons_append, List.nil_append]
    repeat (refine List.forall_mem_cons.mpr ⟨?_, ?_⟩; (dsimp only; first | (left; with_reducible tb_rel) | (right; rfl)))
    exact List.forall_mem_nil _
  have hQo : OwnOff Q [L + 1 + 1 + 1, L + 1 + 1, L + 1, 186] := by
    have l2' : @LT.lt Nat _ 186 L := l2
    have l1' : @LT.lt Nat _ 146 L := l1
    have one : ∀ b : Nat, (∀ z : Nat, L + 1 + 1 + 1 < z → z ≠ b) → 146 ≠ b → ∀ p ∈ Q, p.1 ≠ b := fun b h1 h2 p hp => (hQm p hp).elim (h1 p.1) fun h e => h2 (h.symm.trans e)
    exact OwnOff.more (one _ (fun z h => by k_ne) (by k_ne)) (OwnOff.more (one _ (fun z h => by k_ne) (by k_ne)) (OwnOff.more (one _ (fun z h => by k_ne) (by k_ne)) (OwnOff.one (one _ (fun z h => by k_ne) (by k_ne)))))
  have NQ : News g L h ((L + 1 + 1 + 1, o1) :: (L + 1 + 1, o2) :: (L + 1, o3) :: (186, tabObj #[]) :: Q) := by
    rw [hQ]
    exact N.perm (perm3 (A := LexLed w P (1 + nls tx.cps.toList) tkl p tkp #[] 0) (C := cellsR L o1 o2 o3) (B := [(wl, W.listOf wv.toArray nw), (146, tabObj ps), (dl, W.listOf dv.toArray nd)]))
  clear N
  have hwq : (wl, W.listOf wv.toArray nw) ∈ Q := by rw [hQ]; simp
  (k_steps; repeat' ((with_reducible show Hold _); (first | ((with_reducible show Hold (codeAny _ _ (Code.call (Value.ref 23) _) _ _)); k_dflt (refine Hold.of ?_; refine ins_use (by k_asm) (by k_asm) (by k_asm) (by k_asm) (by k_asm) (by exact rfl) (by k_mem) (by with_reducible assumption) (by (intro q9u hq9u; k_mem)) (by k_mem) (by with_reducible assumption) (by with_reducible assumption) (by k_all) (by decide +kernel) (by decide +kernel) ?_; intro v9u l91u l92u ne9u h'u tk'u he9u hb9u ha9u F'u N'u; (try dsimp only)))); k_steps))
  have hPl : (P.l, W.listOf #[] 0) ∈ Q := by rw [hQ]; exact .head _
  have hQL : ∀ q ∈ LexLed w P (1 + nls tx.cps.toList) tkl p tkp #[] 0, q ∈ Q := by rw [hQ]; exact fun q hq => List.mem_append.mpr (.inl hq)
  have hQ1 : (146, tabObj ps) ∈ Q := by rw [hQ]; exact List.mem_append.mpr (.inr (.tail _ (.head _)))
  clear hQ
  rename IsRange _ _ _ _ _ _ _ _ => hrg
  rename Fr _ _ _ _ => F5
  rename News _ _ _ _ => N5
  rename AllLt _ Q => hAQ
  rename Obj.data _ = Data.cell _ => hdc
  have hcnt := cnt3_is hcl
  rw [hcnt] at hrg
  refine range_iter_my hrg (small_my (Int.natCast_nonneg (2 * cs.length)) (Int.ofNat_le.mpr (Nat.le_trans (Nat.mul_le_mul_left 2 hc5.2) (by decide)) : ((2 * cs.length : Nat) : Int) ≤ ((100 : Nat) : Int))) (size_my (Int.natCast_nonneg _)) F5 N5 ?_
  intro d h5 hd5 hlt5 F6 N6
  refine forWalk_of (Walks.range rfl d 0 2 cs.length) [] (RowJ P _ cs _ _ _ _ Q wl) ?hfp ?live ?hgo F6 N6 ?S0 (OwnOff.one fun p hp => Nat.ne_of_lt (hlt5 p hp)) (by simp) ⟨[], 0, Q, rfl, ⟨.nil, .nil⟩, by simp, ?hO0, fun _ h => h, rfl, m4, m5⟩ ?zturn ?zfin
  case hfp => exact fun b hb => .inl (List.mem_singleton.mp hb)
  case live => exact fun i h st => ⟨_, st⟩
  case hgo => intro i v s Q E _ _ hQ; exact wpAny_pure hQ
  case S0 => simpa [IsRangeIter] using hd5
  case hO0 => exact OwnOff.more (allLt_ne0 hAQ) hQo
  case zturn =>
    rintro i v h9 tk9 m9 r9 oI9 hi ⟨t, rfl⟩ ⟨rs, nr, tq, rfl, hrow, hrs, hof, hQq, hrl, a1, a2⟩ _ F9 N9 O9
    k_lt hlt5
    have hg5 : i < signsL.length := Nat.lt_of_lt_of_le hi hc5.2
    obtain ⟨hw1, hw2⟩ := dueW_at signsL cs i hg5 hi [numStr (Int.fmod (xs.getD 5 0) (2 * cs.sum + 1))]
    obtain ⟨t1, hv1⟩ := strs_get hwv hw1
    obtain ⟨t2, hv2⟩ := strs_get hwv hw2
    have hcx := hcb cs[i] (List.getElem_mem hi)
    have hps := pairsL_snoc signsL cs i hg5 hi
    generalize cs[i] = cx at hv2 hcx hps
    obtain ⟨hc0, hc1⟩ := hcx
    have hk0 := mid0 (twice (i := i))
    have hk1 : 0 + (i : Int) * 2 ≤ 100000 := midB twice (less5 (c := 0) hg5 rfl)
    have hk2 := mid0 (twice1 (i := i))
    have hk3 : 0 + (i : Int) * 2 + 1 ≤ 100000 := midB twice1 (less5 (c := 1) hg5 rfl)
    have hx1 : wv[(0 + (i : Int) * 2).toNat]? = some (.str ⟨#[signsL[i]]⟩ t1) := by rw [toNat_of twice]; exact hv1
    have hx2 : wv[(0 + (i : Int) * 2 + 1).toNat]? = some (.str (Str.ofString (toString cx)) t2) := by rw [toNat_of twice1]; exact hv2
    have hwt : (wl, W.listOf wv.toArray nw) ∈ tq := hQq _ hwq
    have hrs1 : ∀ q ∈ rs, (q.a, rowObj q) ∈ tq := fun q hq => (hrs q hq).1
    have hr100 : rs.length ≤ 100 := hrl ▸ fits (Nat.le_of_lt hg5) rfl
    have hris := hrow.rising
    (k_steps; repeat' ((with_reducible show Hold _); (first | ((with_reducible show Hold (codeAny _ _ (Code.call (Value.ref 23) _) _ _)); k_dflt (refine Hold.of ?_; refine ins_use (by k_asm) (by k_asm) (by k_asm) (by k_asm) (by k_asm) (by exact rfl) (by k_mem) (by with_reducible assumption) (by (intro q9u hq9u; k_mem)) (by k_mem) (by with_reducible assumption) (by with_reducible assumption) (by k_all) (by decide +kernel) (by decide +kernel) ?_; intro v9u l91u l92u ne9u h'u tk'u he9u hb9u ha9u F'u N'u; (try dsimp only)))); k_steps))
    rename Fr _ _ _ _ => F7
    rename News _ _ _ _ => N7
    rename rs = _ => he7
    rename AllLt _ tq => hA7
    rename ∀ q ∈ _, RowI.c q ≤ _ => hb7
    rename ∀ q ∈ _, _ < RowI.c q => ha7
    exact row_next F7 N7 hrow he7 hb7 ha7 hps hrs hof (OwnOff.more (by k_all) (OwnOff.more (by k_all) (OwnOff.more (by k_all) (OwnOff.more (by k_all) (OwnOff.one (by k_all)))))) (ktn_ltOf hA7 _ (hQq _ hPl)) hQq hrl a1 a2 O9 (by k_ne)
  case zfin =>
    rintro h9 tk9 m9 r9 ⟨rs, nr, tq, rfl, hrow, hrs, hof, hQq, hrl, a1, a2⟩ F9 N9
    rw [List.take_of_length_le (Nat.le_refl _)] at hrow
    (k_steps; repeat' ((with_reducible show Hold _); (first | ((with_reducible show Hold (codeAny _ _ (Code.call (Value.ref 23) _) _ _)); k_dflt (refine Hold.of ?_; refine ins_use (by k_asm) (by k_asm) (by k_asm) (by k_asm) (by k_asm) (by exact rfl) (by k_mem) (by with_reducible assumption) (by (intro q9u hq9u; k_mem)) (by k_mem) (by with_reducible assumption) (by with_reducible assumption) (by k_all) (by decide +kernel) (by decide +kernel) ?_; intro v9u l91u l92u ne9u h'u tk'u he9u hb9u ha9u F'u N'u; (try dsimp only)))); k_steps))
    exact ⟨_, _, _, xs, cs, tx, P, _, tkl, p, tkp, ps, wl, wv, nw, _, _, rs, nr, tq, rfl, F9, N9, ⟨hdc, hrow, hrs, ktn_ltOf hAQ _ hPl, hof⟩, ⟨hwv, hQq _ hwq, fun q hq => hQq _ (hQL q hq), hQq _ hQ1⟩, hcl, hcb, hlen, hp0, hO, hR, q4, a1, a2⟩

end
section
local macro_rules | `(tactic| walk_at "eval Name") => `(tactic| (k_here; (with_reducible show wpAny _ _ (eval (PySem.Expr.Name _ _) (envOfC _ _ _ _ _)) _ _ _); k_dflt (refine ldLoc (by k_asm) (by ((fail_if_success exact rfl); assumption)) ?_)))
local macro_rules | `(tactic| walk_at "exec For") => `(tactic| (k_here; k_dflt (refine wpAny_For ?_)))
local macro_rules | `(tactic| walk_at "exec For Tuple Call") => `(tactic| (k_here; k_dflt (refine wpAny_For ?_)))
-- law macros
theorem range_new_my {prog : Program} {w : World} {A : Around} {E : Value → Shared → Prop} {s : Shared} {h₀ : Heap} {L : Addr} {m : Str → Option Value} {news : List (Addr × Obj)} {n : Int} {t : Tok} {Q : Value → Shared → Prop} (F : Fr h₀ L s.heap m) (N : News h₀ L s.heap news)
    (h : ∀ (d : Addr) h' u v tk, (∀ p ∈ news, p.1 < d) → Fr h₀ L h' m → News h₀ L h' ((d, rangeObj n u t v) :: news) → Q (.ref d) { s with heap := h', toks := tk }) :
    wpAny (model prog w) A (call (.type "range") [.int n t]) Q E s :=
  call_range_1 (fresh_one (s := { s with toks := s.toks + 1 + 1 }) rfl F N fun d h' _ e2 F' N' => h d h' _ _ _ e2 F' N')
theorem stop41 {M : PySem.Model} {A : Around} {a : Args} {R : Result → Shared → Prop} {s : Shared} (h : codeAny M A (.call (.ref 41) a) R s) : codeAny M A (.call (.ref 41) a) R s := h
local macro_rules | `(tactic| walk_at "call ref") => `(tactic| (k_here; k_dflt (refine wpAny_call ?_; refine stop41 ?_)))
local macro_rules | `(tactic| walk_at "call type:range") => `(tactic| (k_here; k_dflt (refine' range_new_my ?F ?N ?_; (case F => k_asm); (case N => k_asm); k_whole; intro d9 h9 u9 v9 tk9 hr9 F9 N9; k_lt hr9; (try dsimp only))))
local macro_rules | `(tactic| walk_at "subscriptTail") => `(tactic| (k_here; (with_reducible show wpAny _ _ (subscriptTail _ (PySem.Expr.UnaryOp _ _ _) (Value.ref _) (Value.int _ _)) _ _ _); k_dflt (refine' item_last_K ?N ?m ?x ?_; (case N => k_asm); (case m => k_mem); (case x => assumption); k_whole)))
theorem held_use {prog : Program} {w : World} {dp un : Nat} {gd : Option (List Code)} {cn : Str} {cs : Scope} {a : Addr} {ccd : Value} {cl : List (Str × Addr)} {outer : List Env} {A₀ : Around} {base h₀ : Heap} {L : Addr} {m : Str → Option Value} {s : Shared} {Rk : Result → Shared → Prop}
    {pp : Program} {loose : List Str} {mean : ExcName → Option Value} {mg mb : Str → Option Value} {news r tq : List (Addr × Obj)} {rw_ : Addr} {rs : List RowI} {ne : Nat} {top : RowI} {k : Int} {tk : Tok}
    (B : Below A₀ base outer h₀) (F : Fr h₀ L s.heap m) (X : (Mine.hd.heap_39 w.params).In h₀) (N : News h₀ L s.heap news) (T : Top pp loose mean mg mb h₀) (hk : cs.kind = .function)
    (u : Pull (rw_, W.listOf (rowVals rs).toArray ne) news r) (hrs : ∀ q ∈ rs, (q.a, rowObj q) ∈ tq) (hsub : ∀ q ∈ tq, q ∈ r) (hlen : rs.length ≤ 100) (hlast : rs.getLast? = some top)
    (hd : dp + 10 < recursionLimit) (hu : un + 50 < cLine)
    (h : ∀ t h' tks, Fr h₀ L h' m → News h₀ L h' ((rw_, W.listOf (rowVals rs).toArray ne) :: r) → Rk (.ok (.ret (.int (rs.map fun r => shareI r.c k top.c).sum t))) { s with heap := h', toks := tks }) :
    codeAny (model prog w) (ktrTop dp un gd cn cs L a ccd cl outer) (.call (.ref 170) ⟨[.ref rw_, .int k tk], []⟩) Rk s := by
  refine c_law_held prog w r rw_ rs ne top k tk (fun q hq => hsub _ (hrs q hq)) hlen hlast dp un gd cn cs a ccd cl outer A₀ base h₀ L m s Rk pp loose mean mg mb B F X (News.perm u.mem N) T hk hd hu ?_
  rintro v news' h' tk' ⟨t, rfl, rfl⟩ F' N'
  exact h t h' tk' F' N'
local macro_rules | `(tactic| kla_enter) => `(tactic| (refine' kla_code ?k1 ?k2 ?k3 ?k4 ?k5 ?kA ?kF ?kK ?k6 ?k7 ?k8 ?k9 ?kB ?_ ?c2 ?c3 ?c4 ?c5; (case kA => exact rfl); (case kF => exact rfl); (case kK => assumption); (case k1 => k_asm); (case k2 => k_asm); (case k3 => k_asm); (case k4 => k_asm); (case k5 => k_asm); (case k6 => k_mem); (case k7 => exact codeRec_news (by k_asm) (by k_mem) (by assumption) (by assumption)); (case k8 => k_room); (case k9 => exact rfl); (case c5 => decide); (case kB => exact locs rfl); (case c2 => exact rfl); (case c3 => exact rfl); (case c4 => exact rfl); k_whole; intro g' L' h' FG' F' N' B' X' T'; (try dsimp only); (try k_lift B'); (try k_fold)))
theorem bl_use {prog : Program} {w : World} {dp un : Nat} {gd : Option (List Code)} {cn : Str} {cs : Scope} {a : Addr} {ccd : Value} {cl : List (Str × Addr)} {outer : List Env} {A₀ : Around} {base h₀ : Heap} {L : Addr} {m : Str → Option Value} {s : Shared} {Rk : Result → Shared → Prop}
    {pp : Program} {loose : List Str} {mean : ExcName → Option Value} {mg mb : Str → Option Value} {r2 : List (Addr × Obj)} {e2 : Addr × Obj} {rg lam : Addr} {b : Nat} {t u v : Tok} {E : Int} {te : Tok} {f : Int → Int} {oc : Value} {od : Option Addr} {fd : FuncData} {sl : Array (Option Value)}
    (B : Below A₀ base outer h₀) (F : Fr h₀ L s.heap m) (X : (Mine.hd.heap_39 w.params).In h₀) (N : News h₀ L s.heap ((lam, (⟨oc, od, .func fd, sl⟩ : Obj)) :: e2 :: (rg, rangeObj b t u v) :: r2)) (T : Top pp loose mean mg mb h₀) (hk : cs.kind = .function)
    (hb : b ≤ 200000) (hmono : ∀ i j : Nat, i ≤ j → j < b → f i ≤ f j)
    (hkey : ∀ (k : Int) (tk : Tok), 0 ≤ k → k < b → Calls prog w (.ref lam) [.int k tk] [] 20 200 ((rg, rangeObj b t u v) :: (lam, (⟨oc, od, .func fd, sl⟩ : Obj)) :: e2 :: r2) (fun r n' => ∃ t', r = .int (f k) t' ∧ n' = (rg, rangeObj b t u v) :: (lam, (⟨oc, od, .func fd, sl⟩ : Obj)) :: e2 :: r2))
    (hd : dp + 30 < recursionLimit) (hu : un + 300 < cLine)
    (h : ∀ (t' : Tok) (k : Nat) h' tks, k ≤ b → (∀ j : Nat, j < k → f j < E) → (∀ j : Nat, k ≤ j → j < b → E ≤ f j) → Fr h₀ L h' m → News h₀ L h' ((rg, rangeObj b t u v) :: (lam, (⟨oc, od, .func fd, sl⟩ : Obj)) :: e2 :: r2) → Rk (.ok (.ret (.int k t'))) { s with heap := h', toks := tks }) :
    codeAny (model prog w) (ktrTop dp un gd cn cs L a ccd cl outer) (.call (.ref 41) ⟨[.ref rg, .int E te], [(Str.ofString "key", .ref lam)]⟩) Rk s := by
  refine c_bisect_left prog w ((lam, (⟨oc, od, .func fd, sl⟩ : Obj)) :: e2 :: r2) rg lam b t u v E te f oc od fd sl (.head _) hb hmono hkey dp un gd cn cs a ccd cl outer A₀ base h₀ L m s Rk pp loose mean mg mb B F X (News.perm (fun q hq => by simp only [List.mem_cons] at hq ⊢; rcases hq with h | h | h | h <;> simp [h]) N) T hk hd hu ?_
  rintro v' news' h' tk' ⟨t', k, q1, rfl, q2, q3, rfl⟩ F' N'
  exact h t' k h' tk' q1 q2 q3 F' N'
inductive J7 (prog : Program) (w : World) (g : Heap) (L : Addr) (s s' : Shared) : Prop
  | mk (h tk m cs T P ln tkl) (p : Nat) (tkp ps qs o1 o2 o3 rl rs nr tq rt Ee) (level : Nat) (tlv ttp te) : (s' = { s with heap := h, toks := tk }) → (Fr g L h m) → (News g L h ((rl, W.listOf (rowVals rs).toArray nr) :: (L + 1 + 1 + 1, o1) :: (L + 1 + 1, o2) :: (L + 1, o3) :: (186, tabObj qs) :: tq)) → ((o1.data = .cell (some (.ref rl)) ∧ o2.data = .cell (some (.int level tlv)) ∧ o3.data = .cell (some (.int rt.c ttp)) ∧ RowOk rs (pairsL signsL cs) ∧ rs.length = cs.length ∧ rs.getLast? = some rt ∧ (∀ r ∈ rs, (r.a, rowObj r) ∈ tq ∧ @LT.lt Nat _ P.l r.a) ∧ @LT.lt Nat _ P.l rl ∧ OwnOff tq [rl, L + 1 + 1 + 1, L + 1 + 1, L + 1, 186])) → (((∀ q ∈ LexLed w P ln tkl p tkp #[] 0, q ∈ tq) ∧ (146, tabObj ps) ∈ tq)) → ((0 ≤ Ee ∧ Ee ≤ 2 * cs.sum)) → (((level : Int) ≤ rt.c + 1 ∧ (∀ j : Nat, j < level → heldR rs rt.c j < 60 * Ee) ∧ ∀ j : Nat, level ≤ j → (j : Int) < rt.c + 1 → 60 * Ee ≤ heldR rs rt.c j)) → ((3 ≤ cs.length ∧ cs.length ≤ 5)) → ((∀ c ∈ cs, 0 ≤ c ∧ c < 1000)) → (T.length ≤ 100000) → (T.cps.toList.drop p = []) → (LexOrd P) → (ReadOk prog w T P.f P.c P.pl P.cp P.ct P.fo P.oc P.ocp P.oct) → ((@LT.lt Nat _ (L + 1 + 1 + 1) P.ct)) → (m (Str.ofString "lexer") = some (.ref P.x)) → (m (Str.ofString "estate") = some (.int (60 * Ee) te)) → J7 prog w g L s s'
set_option maxHeartbeats 0 in
theorem stage7 (prog : Program) (w : World) (g : Heap) (L fa : Addr) (pp : Program) (loose : List Str) (mean : ExcName → Option Value) (mg mb : Str → Option Value) (Lt : LawTop w g L pp loose mean mg mb)
    (E : Value → Shared → Prop) (sc : Scope) (hsc : sc = lawScope) (bd : List Stmt) (hbd : bd = (lawBody.drop 16).take 3) (o2 o3 : Obj) (ho2 : o2.data = .cell .none) (ho3 : o3.data = .cell .none) (s s' : Shared) (hJ : J6 prog w o2 o3 g L s s') :
    wpAny (model prog w) (lawA sc L fa) (execs bd (lawE sc L fa)) (fun f s' => f = .next ∧ J7 prog w g L s s') E s' := by
  unfold lawScope at hsc
  conv at hsc => rhs; whnf
  unfold lawBody at hbd
  conv at hbd => rhs; arg 2; arg 2; whnf
  simp only [List.drop_zero, List.take_succ_cons, List.take_zero, List.drop_succ_cons] at hbd
  subst hsc hbd
  obtain ⟨X, T, B, C1, C2, l1, l2⟩ := Lt
  obtain ⟨h, tk, m, xs, cs, tx, P, ln, tkl, p, tkp, ps, wl, wv, nw, o1, rl, rs, nr, tq, rfl, F, N, ⟨hd1, hrow, hrs, hPr, hof⟩, ⟨hwv, hwq, hLq, hTq⟩, hcl, hcb, hlen, hp0, hO, hR, q4, m1, m2⟩ := hJ
  have hc5 := count_bounds hcl
  have he := estate_bounds (xs := xs) hcb hc5.2
  generalize hEe : Int.fmod (xs.getD 5 0) (2 * cs.sum + 1) = Ee at he
  obtain ⟨he0, he1, he2⟩ := he
  have hlast : ∃ t, wv.getLast? = some (.str (Str.ofString (toString Ee)) t) := by
    have hwl := wordsL_len hcl
    have h1 : (wordsL xs cs)[2 * cs.length]? = some (numStr Ee) := by
      have h2 : (wordsL xs cs).getLast? = some (numStr Ee) := by unfold wordsL; rw [hEe]; simp
      rw [List.getLast?_eq_getElem?, hwl] at h2
      exact h2
    obtain ⟨t, ht⟩ := strs_get hwv h1
    refine ⟨t, ?_⟩
    rw [List.getLast?_eq_getElem?, strs_len hwv, hwl]
    exact ht
  obtain ⟨tE, hlast⟩ := hlast
  have hplen := pairsL_len (gs := signsL) (cs := cs) (by show cs.length ≤ 5; exact hc5.2)
  have hrl : rs.length = cs.length := by
    have h1 := hrow.perm.length_eq
    rw [hplen] at h1
    simpa [rowC] using h1
  have hrne : rs ≠ [] := by
    rintro rfl
    simp at hrl
    omega
  obtain ⟨rt, hrt⟩ : ∃ rt, rs.getLast? = some rt := ⟨_, List.getLast?_eq_some_getLast hrne⟩
  have hrt2 : (rowVals rs).getLast? = some (.ref rt.a) := by rw [List.getLast?_map, hrt]; rfl
  have hrtq := (hrs rt (List.mem_of_getLast? hrt)).1
  have hL1 : @LT.lt Nat _ (L + 1 + 1 + 1) rl := by
    obtain ⟨h1', h2', h3', h4', h5', h6', h7', h8', h9', h10'⟩ := id hO
    omega
  have l1' : @LT.lt Nat _ 146 L := l1
  have l2' : @LT.lt Nat _ 186 L := l2
  (k_steps; repeat' ((with_reducible show Hold _); (first | ((with_reducible show Hold (codeAny _ _ (Code.call (Value.ref 170) _) _ _)); k_dflt (refine Hold.of ?_; refine held_use (by k_asm) (by k_asm) (by k_asm) (by k_asm) (by k_asm) (by first | exact rfl | assumption) (by k_mem) (by with_reducible assumption) (by (intro q9u hq9u; k_mem)) (by with_reducible assumption) (by with_reducible assumption) (by ktr_room) (by ktr_units) ?_; intro t9u h'u tk'u F'u N'u; (try dsimp only)))); k_steps))
  rename Fr _ _ _ _ => F7
  rename News _ _ _ _ => N7
  have hrtm := hrow.perm.subset (List.mem_map.mpr ⟨rt, List.mem_of_getLast? hrt, rfl⟩)
  obtain ⟨_, cc, hcc, hcc2⟩ := pairsL_mem hrtm
  have hccb := hcb cc hcc
  dsimp only at hcc2
  obtain ⟨tn, htn⟩ := Int.eq_ofNat_of_zero_le (show 0 ≤ rt.c by omega)
  have hb9 : rt.c + 1 = ((tn + 1 : Nat) : Int) := by rw [htn]; rfl
  have hN9 := N7
  rw [hb9] at hN9
  have hrs1 : ∀ q ∈ rs, (q.a, rowObj q) ∈ tq := fun q hq => (hrs q hq).1
  have hr100 : rs.length ≤ 100 := by omega
  refine bl_use (b := tn + 1) (f := fun k => heldR rs rt.c k) B F7 X hN9 T rfl (by omega) ?hmono ?hkey (by decide +kernel) (by decide +kernel) ?fin
  case hmono =>
    intro i j hij _
    rw [heldR_eq, heldR_eq]
    exact held_mono _ _ (by omega)
  case hkey =>
    intro k tk9 hk0 hk1
    clear F7 N7 hN9
    intro dp un gd cn cs' a ccd cl outer A₀ base h₀ L0 m0 s0 Rk pp' loose' mean' mg' mb' B0 F0 X0 N0 T0 hk hd hu hret
    k_dflt kla_enter
    (k_steps; repeat' ((with_reducible show Hold _); (first | ((with_reducible show Hold (codeAny _ _ (Code.call (Value.ref 170) _) _ _)); k_dflt (refine Hold.of ?_; refine held_use (by k_asm) (by k_asm) (by k_asm) (by k_asm) (by k_asm) (by first | exact rfl | assumption) (by k_mem) (by with_reducible assumption) (by (intro q9u hq9u; k_mem)) (by with_reducible assumption) (by with_reducible assumption) (by ktr_room) (by ktr_units) ?_; intro t9u h'u tk'u F'u N'u; (try dsimp only)))); k_steps))
    rename Fr _ _ _ _ => F9
    rename News _ _ _ _ => N9
    refine hret _ _ _ _ ⟨_, rfl, rfl⟩ F9 (N9.perm ?_)
    intro q hq
    simp only [List.mem_cons] at hq ⊢
    rcases hq with h | h | h | h | h
    · exact .inr (.inl h)
    · exact .inr (.inr (.inl h))
    · exact .inr (.inr (.inr (.inl h)))
    · exact .inl h
    · exact .inr (.inr (.inr (.inr h)))
  case fin =>
    intro t8 k8 h8 tks8 hk8 hlo8 hhi8 F8 N8
    (k_steps; repeat' ((with_reducible show Hold _); (first | ((with_reducible show Hold (codeAny _ _ (Code.call (Value.ref 170) _) _ _)); k_dflt (refine Hold.of ?_; refine held_use (by k_asm) (by k_asm) (by k_asm) (by k_asm) (by k_asm) (by first | exact rfl | assumption) (by k_mem) (by with_reducible assumption) (by (intro q9u hq9u; k_mem)) (by with_reducible assumption) (by with_reducible assumption) (by ktr_room) (by ktr_units) ?_; intro t9u h'u tk'u F'u N'u; (try dsimp only)))); k_steps))
    rename Fr _ _ _ _ => F9
    rename News _ _ _ _ => N9
    rename Obj.data _ = Data.cell (some (Value.int (RowI.c rt) _)) => hd3
    rename Obj.data _ = Data.cell (some (Value.int (k8 : Int) _)) => hd2
    have N10 := News.perm (b := _ :: _ :: _ :: _ :: _ :: tq) (fun q hq => List.Mem.tail _ (List.Mem.tail _ (List.Mem.tail _ hq))) N9
    exact ⟨_, _, _, cs, tx, P, _, tkl, p, tkp, ps, _, _, _, _, rl, rs, nr, tq, rt, Ee, k8, _, _, _, rfl, F9, N10, ⟨hd1, hd2, hd3, hrow, hrl, hrt, hrs, hPr, hof⟩, ⟨hLq, hTq⟩, ⟨he0, he1⟩, ⟨by omega, hlo8, fun j h1 h2 => hhi8 j h1 (by omega)⟩, hc5, hcb, hlen, hp0, hO, hR, q4, m1, rfl⟩

end
section
local macro_rules | `(tactic| walk_at "eval Name") => `(tactic| (k_here; (with_reducible show wpAny _ _ (eval (PySem.Expr.Name _ _) (envOfC _ _ _ _ _)) _ _ _); k_dflt (refine ldLoc (by k_asm) (by ((fail_if_success exact rfl); assumption)) ?_)))
local macro_rules | `(tactic| walk_at "exec For") => `(tactic| (k_here; k_dflt (refine wpAny_For ?_)))
local macro_rules | `(tactic| walk_at "exec For Tuple Call") => `(tactic| (k_here; k_dflt (refine wpAny_For ?_)))
-- law macros
inductive J8 (prog : Program) (w : World) (g : Heap) (L : Addr) (s s' : Shared) : Prop
  | mk (h tk m T P ln tkl) (p : Nat) (tkp ps qs o1 rl rs nr tq est top) (level : Nat) (te sd od kvs) : (s' = { s with heap := h, toks := tk }) → (Fr g L h m) → (News g L h ((sd, od) :: (rl, W.listOf (rowVals rs).toArray nr) :: (L + 1 + 1 + 1, o1) :: (186, tabObj qs) :: tq)) → ((o1.data = .cell (some (.ref rl)) ∧ (∀ r ∈ rs, (r.a, rowObj r) ∈ tq ∧ @LT.lt Nat _ P.l r.a) ∧ @LT.lt Nat _ P.l rl ∧ @LT.lt Nat _ P.l sd)) → (((∀ q ∈ LexLed w P ln tkl p tkp #[] 0, q ∈ tq) ∧ (146, tabObj ps) ∈ tq)) → (Fair rs top level est) → (((sd == sysModules) = false ∧ od.IsDictOf (PySem.strKind prog w) kvs ∧ PyProof.V.FlatPairs PyData.str kvs (kdpD (rs.map fun r => (r.nm, shareI r.c level top))))) → (T.length ≤ 100000) → (T.cps.toList.drop p = []) → (LexOrd P) → (ReadOk prog w T P.f P.c P.pl P.cp P.ct P.fo P.oc P.ocp P.oct) → ((@LT.lt Nat _ (L + 1 + 1 + 1) P.ct)) → (m (Str.ofString "lexer") = some (.ref P.x)) → (m (Str.ofString "estate") = some (.int est te)) → (m (Str.ofString "shares") = some (.ref sd)) → J8 prog w g L s s'
set_option maxHeartbeats 0 in
theorem stage8 (prog : Program) (w : World) (g : Heap) (L fa : Addr) (pp : Program) (loose : List Str) (mean : ExcName → Option Value) (mg mb : Str → Option Value) (Lt : LawTop w g L pp loose mean mg mb)
    (E : Value → Shared → Prop) (sc : Scope) (hsc : sc = lawScope) (bd : List Stmt) (hbd : bd = (lawBody.drop 19).take 1) (s s' : Shared) (hJ : J7 prog w g L s s') :
    wpAny (model prog w) (lawA sc L fa) (execs bd (lawE sc L fa)) (fun f s' => f = .next ∧ J8 prog w g L s s') E s' := by
  unfold lawScope at hsc
  conv at hsc => rhs; whnf
  unfold lawBody at hbd
  conv at hbd => rhs; arg 2; arg 2; whnf
  simp only [List.drop_zero, List.take_succ_cons, List.take_zero, List.drop_succ_cons] at hbd
  subst hsc hbd
  obtain ⟨X, T, B, C1, C2, l1, l2⟩ := Lt
  obtain ⟨h, tk, m, cs, tx, P, ln, tkl, p, tkp, ps, qs, o1, o2, o3, rl, rs, nr, tq, rt, Ee, level, tlv, ttp, te, rfl, F, N, ⟨hd1, hd2, hd3, hrow, hrl, hrt, hrs, hPr, hof⟩, ⟨hLq, hTq⟩, he, hlev, hc5, hcb, hlen, hp0, hO, hR, q4, m1, m2⟩ := hJ
  have hfair := fair_of hrow hrl hrt he hlev hc5 hcb
  have hrs1 : ∀ q ∈ rs, (q.a, rowObj q) ∈ tq := fun q hq => (hrs q hq).1
  refine wpAny_execs_cons ?_
  refine Assign_DictComp_row (L := L) (h₀ := g) (m := m) (rs := rs) (nr := nr) (fun r => shareI r.c level rt.c) rfl (by have := hfair.short; omega) hfair.nodup rfl (by with_unfolding_all rfl) (by with_unfolding_all rfl) (by decide) rfl (by decide) rfl rfl (by decide) rfl rfl ?_
  k_steps
  refine ⟨rl, _, rfl, F, N, .head _, fun r hr => .tail _ (.tail _ (.tail _ (.tail _ (.tail _ (hrs1 r hr))))), ?zturn, ?zfin⟩
  case zturn =>
    intro r hr I oI C oC D oD m2' h9 tk9 E' hC hx hx2 F9 N9 off9 ne9
    k_steps
    exact ⟨_, _, _, rfl, rfl, rfl, by k_asm, by k_asm⟩
  case zfin =>
    intro D oD kvs h9 tk9 F9 N9 hlt hLD hd hf
    k_steps
    have hPD : @LT.lt Nat _ P.l D := hlt (P.l, W.listOf #[] 0) (.tail _ (.tail _ (.tail _ (.tail _ (.tail _ (hLq _ (.head _)))))))
    have hsy : (D == sysModules) = false := by
      have h1 : @LT.lt Nat _ L D := hLD
      have h2 : @LT.lt Nat _ 146 L := l1
      refine beq_false_of_ne ?_
      intro e
      have e' : @Eq Nat D 1 := e
      omega
    exact ⟨h9, _, _, tx, P, ln, tkl, p, tkp, ps, qs, o1, rl, rs, nr, tq, _, rt.c, level, te, D, oD, kvs, rfl, F9, N9.perm (by
      intro q hq
      simp only [List.mem_cons] at hq ⊢
      rcases hq with h | h | h | h | h <;> simp [h]), ⟨hd1, hrs, hPr, hPD⟩, ⟨hLq, hTq⟩, hfair, ⟨hsy, hd, hf⟩, hlen, hp0, hO, hR, q4, m1, m2, rfl⟩

end
section
local macro_rules | `(tactic| walk_at "eval Name") => `(tactic| (k_here; (with_reducible show wpAny _ _ (eval (PySem.Expr.Name _ _) (envOfC _ _ _ _ _)) _ _ _); k_dflt (refine ldLoc (by k_asm) (by ((fail_if_success exact rfl); assumption)) ?_)))
local macro_rules | `(tactic| walk_at "exec For") => `(tactic| (k_here; k_dflt (refine wpAny_For ?_)))
local macro_rules | `(tactic| walk_at "exec For Tuple Call") => `(tactic| (k_here; k_dflt (refine wpAny_For ?_)))
-- law macros
theorem line_use {prog : Program} {w : World} {dp un : Nat} {gd : Option (List Code)} {cn : Str} {cs : Scope} {a : Addr} {ccd : Value} {cl : List (Str × Addr)} {outer : List Env} {A₀ : Around} {base h₀ : Heap} {L : Addr} {m : Str → Option Value} {s : Shared} {Rk : Result → Shared → Prop}
    {pp : Program} {loose : List Str} {mean : ExcName → Option Value} {mg mb : Str → Option Value} {news : List (Addr × Obj)} {P : LexP} {text : Str} {ln : Int} {p : Nat} {tkl tkp : Tok} {rw_ : Addr} {rs : List RowI} {nr : Nat} {est : Int} {te : Tok} {top : Int} {level : Nat} (rest : List (Addr × Obj))
    (O : LexOrd P) (R : ReadOk prog w text P.f P.c P.pl P.cp P.ct P.fo P.oc P.ocp P.oct) (ht : text.length ≤ 100000) (hend : text.cps.toList.drop p = []) (hf : Fair rs top level est) (h1 : OwnOff rest [P.l, P.d, P.pl]) (hrw : (rw_, W.listOf (rowVals rs).toArray nr) ∈ rest) (hrs : ∀ r ∈ rs, (r.a, rowObj r) ∈ rest)
    (B : Below A₀ base outer h₀) (F : Fr h₀ L s.heap m) (X : (Mine.hd.heap_39 w.params).In h₀) (N : News h₀ L s.heap news) (hN : ∀ q ∈ LexLed w P ln tkl p tkp #[] 0 ++ rest, q ∈ news) (T : Top pp loose mean mg mb h₀) (hk : cs.kind = .function)
    (hd : dp + 20 < recursionLimit) (hu : un + 100 < cLine)
    (h : ∀ pd po kvs h' tks, (pd == sysModules) = false → po.IsDictOf (PySem.strKind prog w) kvs → PyProof.V.FlatPairs PyData.str kvs (kdpD (rs.map fun r => (r.nm, shareI r.c level top))) → Fr h₀ L h' m → News h₀ L h' ((pd, po) :: rest) → Rk (.ok (.ret (.ref pd))) { s with heap := h', toks := tks }) :
    codeAny (model prog w) (ktrTop dp un gd cn cs L a ccd cl outer) (.call (.ref 177) ⟨[.ref P.x, .ref rw_, .int est te], []⟩) Rk s := by
  refine c_line prog w text P rest ln p tkl tkp 0 O R h1 ht hend rw_ rs nr hrw hrs (by have := hf.short; omega) hf.bound hf.nodup hf.named est te dp un gd cn cs a ccd cl outer A₀ base h₀ L m s Rk pp loose mean mg mb B F X (News.perm hN N) T hk hd hu ?_
  rintro v news' h' tk' ⟨pd, po, kvs, ps, rfl, rfl, q1, q2, q3, q4, q5⟩ F' N'
  rw [hf.line] at q5
  have e : ps = rs.map fun r => (r.nm, shareI r.c level top) := two_maps (by rw [q4, List.map_map]; rfl) (by rw [q5, List.map_map]; rfl)
  rw [e] at q3
  exact h pd po kvs h' tk' q1 q2 q3 F' N'
theorem stop177 {M : PySem.Model} {A : Around} {a : Args} {R : Result → Shared → Prop} {s : Shared} (h : codeAny M A (.call (.ref 177) a) R s) : codeAny M A (.call (.ref 177) a) R s := h
local macro_rules | `(tactic| walk_at "call ref") => `(tactic| (k_here; k_dflt (refine wpAny_call ?_; refine stop177 ?_)))
local macro_rules | `(tactic| walk_at "compareOp NotEq ref ref") => `(tactic| (k_here; k_dflt (refine kne_tabs (knd := PySem.strKind _ _) (enc := PyData.str) PyProof.V.same_str (by k_tabat) (by k_tabat) rfl (by k_units) (by with_reducible assumption) ?_)))
inductive J9 (prog : Program) (w : World) (g : Heap) (L : Addr) (s s' : Shared) : Prop
  | mk (h tk m ps qs o1 rl rs nr est top) (level : Nat) (sd od kvs) : (s' = { s with heap := h, toks := tk }) → (Fr g L h m) → (News g L h ((sd, od) :: (rl, W.listOf (rowVals rs).toArray nr) :: (L + 1 + 1 + 1, o1) :: (186, tabObj qs) :: (146, tabObj ps) :: rs.map fun r => (r.a, rowObj r))) → (o1.data = .cell (some (.ref rl))) → (Fair rs top level est) → (((sd == sysModules) = false ∧ od.IsDictOf (PySem.strKind prog w) kvs ∧ PyProof.V.FlatPairs PyData.str kvs (kdpD (rs.map fun r => (r.nm, shareI r.c level top))))) → (m (Str.ofString "shares") = some (.ref sd)) → J9 prog w g L s s'
set_option maxHeartbeats 0 in
theorem stage9 (prog : Program) (w : World) (g : Heap) (L fa : Addr) (pp : Program) (loose : List Str) (mean : ExcName → Option Value) (mg mb : Str → Option Value) (Lt : LawTop w g L pp loose mean mg mb)
    (E : Value → Shared → Prop) (sc : Scope) (hsc : sc = lawScope) (bd : List Stmt) (hbd : bd = (lawBody.drop 20).take 2) (s s' : Shared) (hJ : J8 prog w g L s s') :
    wpAny (model prog w) (lawA sc L fa) (execs bd (lawE sc L fa)) (fun f s' => f = .next ∧ J9 prog w g L s s') E s' := by
  unfold lawScope at hsc
  conv at hsc => rhs; whnf
  unfold lawBody at hbd
  conv at hbd => rhs; arg 2; arg 2; whnf
  simp only [List.drop_zero, List.take_succ_cons, List.take_zero, List.drop_succ_cons] at hbd
  subst hsc hbd
  obtain ⟨X, T, B, C1, C2, l1, l2⟩ := Lt
  obtain ⟨h, tk, m, tx, P, ln, tkl, p, tkp, ps, qs, o1, rl, rs, nr, tq, est, top, level, te, sd, od, kvs, rfl, F, N, ⟨hd1, hrs, hPr, hPs⟩, ⟨hLq, hTq⟩, hfair, ⟨hsy, hdd, hff⟩, hlen, hp0, hO, hR, q4, m1, m2, m3⟩ := hJ
  have hrows := rows_eq (f := fun r => shareI r.c level top) hfair.nodup (rs' := rs) fun _ h => h
  have hbs : (((rs.map fun r => (r.nm, shareI r.c level top)).map (·.2)).sum != est) = false := by
    rw [List.map_map]
    show ((rs.map fun r => shareI r.c level top).sum != est) = false
    rw [hfair.sum]
    simp
  have l1' : @LT.lt Nat _ 146 L := l1
  have l2' : @LT.lt Nat _ 186 L := l2
  have hoff : OwnOff ((sd, od) :: (rl, W.listOf (rowVals rs).toArray nr) :: (L + 1 + 1 + 1, o1) :: (186, tabObj qs) :: (146, tabObj ps) :: rs.map fun r => (r.a, rowObj r)) [P.l, P.d, P.pl] := by
    obtain ⟨h1', h2', h3', h4', h5', h6', h7', h8', h9', h10'⟩ := hO
    have key : ∀ a : Nat, (@LT.lt Nat _ P.l a ∨ @LT.lt Nat _ a P.ct) → ∀ b ∈ [P.l, P.d, P.pl], a ≠ b := by
      intro a ha b hb e
      simp only [List.mem_cons, List.not_mem_nil, or_false] at hb
      have e' : @Eq Nat a b := e
      rcases hb with rfl | rfl | rfl <;> omega
    intro q hq
    rcases List.mem_cons.mp hq with rfl | hq
    · exact key _ (.inl hPs)
    rcases List.mem_cons.mp hq with rfl | hq
    · exact key _ (.inl hPr)
    rcases List.mem_cons.mp hq with rfl | hq
    · exact key _ (.inr q4)
    rcases List.mem_cons.mp hq with rfl | hq
    · exact key _ (.inr (by dsimp only; omega))
    rcases List.mem_cons.mp hq with rfl | hq
    · exact key _ (.inr (by dsimp only; omega))
    · obtain ⟨r, hr, rfl⟩ := List.mem_map.mp hq
      exact key _ (.inl (hrs r hr).2)
  k_steps
  refine line_use (ln := ln) (tkl := tkl) (tkp := tkp) ((sd, od) :: (rl, W.listOf (rowVals rs).toArray nr) :: (L + 1 + 1 + 1, o1) :: (186, tabObj qs) :: (146, tabObj ps) :: rs.map fun r => (r.a, rowObj r)) hO hR hlen hp0 hfair hoff (.tail _ (.head _)) (fun r hr => .tail _ (.tail _ (.tail _ (.tail _ (.tail _ (List.mem_map.mpr ⟨r, hr, rfl⟩)))))) B (by k_asm) X (by k_asm) ?hN T rfl (by decide +kernel) (by decide +kernel) ?fin
  case hN =>
    intro q hq
    rcases List.mem_append.mp hq with hq | hq
    · exact .tail _ (.tail _ (.tail _ (.tail _ (hLq q hq))))
    · simp only [List.mem_cons] at hq ⊢
      rcases hq with h | h | h | h | h | h
      · exact .inl h
      · exact .inr (.inl h)
      · exact .inr (.inr (.inl h))
      · exact .inr (.inr (.inr (.inl h)))
      · exact .inr (.inr (.inr (.inr (h ▸ hTq))))
      · obtain ⟨r, hr, rfl⟩ := List.mem_map.mp h
        exact .inr (.inr (.inr (.inr (hrs r hr).1)))
  case fin =>
    intro pd po kvs9 h9 tk9 hsy9 hd9 hf9 F9 N9
    k_steps
    rename Fr _ _ _ _ => F7
    rename News _ _ _ _ => N7
    exact ⟨_, _, _, ps, qs, o1, rl, rs, nr, est, top, level, sd, od, kvs, rfl, F7, News.perm (fun q hq => List.Mem.tail _ (List.Mem.tail _ hq)) N7, hd1, hfair, ⟨hsy, hdd, hff⟩, m3⟩

end
section
local macro_rules | `(tactic| walk_at "eval Name") => `(tactic| (k_here; (with_reducible show wpAny _ _ (eval (PySem.Expr.Name _ _) (envOfC _ _ _ _ _)) _ _ _); k_dflt (refine ldLoc (by k_asm) (by ((fail_if_success exact rfl); assumption)) ?_)))
local macro_rules | `(tactic| walk_at "exec For") => `(tactic| (k_here; k_dflt (refine wpAny_For ?_)))
local macro_rules | `(tactic| walk_at "exec For Tuple Call") => `(tactic| (k_here; k_dflt (refine wpAny_For ?_)))
-- law macros
noncomputable def OutJ (sd : Addr) (led : List (Addr × Obj)) (_i : Nat) (m : Str → Option Value) (r : List (Addr × Obj)) : Prop := r = led ∧ m (Str.ofString "shares") = some (.ref sd)
inductive InJ (sd : Addr) (r1 : RowI) (led : List (Addr × Obj)) (_i : Nat) (m : Str → Option Value) (r : List (Addr × Obj)) : Prop
  | mk : (r = led) → (m (Str.ofString "shares") = some (.ref sd)) → (m (Str.ofString "one") = some (.str r1.nm r1.tn)) → (m (Str.ofString "mine") = some (.int r1.c r1.tc)) → InJ sd r1 led _i m r
set_option maxHeartbeats 0 in
theorem stage10 (prog : Program) (w : World) (g : Heap) (L fa : Addr) (pp : Program) (loose : List Str) (mean : ExcName → Option Value) (mg mb : Str → Option Value) (Lt : LawTop w g L pp loose mean mg mb)
    (E : Value → Shared → Prop) (sc : Scope) (hsc : sc = lawScope) (bd : List Stmt) (hbd : bd = (lawBody.drop 22).take 1) (s s' : Shared) (hJ : J9 prog w g L s s') :
    wpAny (model prog w) (lawA sc L fa) (execs bd (lawE sc L fa)) (fun f s' => f = .next ∧ JEnd g L s s') E s' := by
  unfold lawScope at hsc
  conv at hsc => rhs; whnf
  unfold lawBody at hbd
  conv at hbd => rhs; arg 2; arg 2; whnf
  simp only [List.drop_zero, List.take_succ_cons, List.take_zero, List.drop_succ_cons] at hbd
  subst hsc hbd
  obtain ⟨X, T, B, C1, C2, l1, l2⟩ := Lt
  obtain ⟨h, tk, m, ps, qs, o1, rl, rs, nr, est, top, level, sd, od, kvs, rfl, F, N, hd1, hfair, ⟨hsy, hdd, hff⟩, m1⟩ := hJ
  have hrs : ∀ r ∈ rs, (r.a, rowObj r) ∈ rs.map fun r => (r.a, rowObj r) := fun r hr => List.mem_map.mpr ⟨r, hr, rfl⟩
  generalize (rs.map fun r => (r.a, rowObj r)) = tq at N hrs
  k_steps
  refine list_iter_my F N (by k_mem) ?_
  intro d h5 hd5' hlt5 F6 N6
  refine forRow_of rfl (OutJ sd _) F6 N6 hlt5 (by k_mem) ⟨rfl, m1⟩ ?zturn ?zfin
  case zturn =>
    rintro i hi h9 tk9 m9 r9 oI9 ⟨rfl, a1⟩ hl9 F9 N9 O9
    have hr1 := List.getElem_mem hi
    generalize rs[i] = r1 at hr1 ⊢
    have hmem := hrs _ hr1
    refine assign_pair rfl rfl rfl rfl rfl F9 N9 (by k_mem) ?_
    intro h10 tk10 F10 N10
    k_steps
    refine list_iter_my F10 N10 (by k_mem) ?_
    intro d2 h6 hd6' hlt6 F7 N7
    refine forRow_of rfl (InJ sd r1 _) F7 N7 hlt6 (by k_mem) ⟨rfl, a1, rfl, rfl⟩ ?yturn ?yfin
    case yturn =>
      rintro j hj h19 tk19 m19 r19 oI19 ⟨rfl, b1, b2, b3⟩ hl19 F19 N19 O19
      have hr2 := List.getElem_mem hj
      generalize rs[j] = r2 at hr2 ⊢
      have hmem2 := hrs _ hr2
      have hx := look_row (f := fun r => shareI r.c level top) hfair.nodup hr1
      have hy := look_row (f := fun r => shareI r.c level top) hfair.nodup hr2
      have hh1 : kdpHas (rs.map fun r => (r.nm, shareI r.c level top)) r1.nm = true := has_on (by rw [List.map_map]; exact List.mem_map.mpr ⟨r1, hr1, rfl⟩)
      have hh2 : kdpHas (rs.map fun r => (r.nm, shareI r.c level top)) r2.nm = true := has_on (by rw [List.map_map]; exact List.mem_map.mpr ⟨r2, hr2, rfl⟩)
      obtain ⟨ht1, k1, hk1, hc1⟩ := hfair.form r1 hr1
      obtain ⟨ht2, k2, hk2, hc2⟩ := hfair.form r2 hr2
      have hal := share_alone (h := (level : Int)) hc1 hc2 hk1 hk2 ht1 ht2 (by omega) hfair.lev
      rw [← hx, ← hy] at hal
      have hdec := beq_iff_eq.mpr hal
      clear hal hx hy
      refine assign_pair rfl rfl rfl rfl rfl F19 N19 (by k_mem) ?_
      intro h20 tk20 F20 N20
      clear N N6 N9 N10 N7 N19 F F6 F9 F10 F7 F19
      by_cases hnn : r1.nm = r2.nm
      · have hb : (r1.nm != r2.nm) = false := by simp [hnn]
        k_steps
        exact ⟨_, _, _, _, rfl, F20, N20, O19, by intro q hq; rw [List.mem_singleton.mp hq]; exact hl19, rfl, b1, b2, b3⟩
      · have hb : (r1.nm != r2.nm) = true := by simp [hnn]
        k_steps
        rename Fr _ _ _ _ => F21
        rename News _ _ _ _ => N21
        exact ⟨_, _, _, _, rfl, F21, N21, O19, by intro q hq; rw [List.mem_singleton.mp hq]; exact hl19, rfl, b1, b2, b3⟩
    case yfin =>
      rintro h19 tk19 m19 r19 ⟨rfl, b1, b2, b3⟩ F19 N19
      clear N N6 N9 N10 N7 F F6 F9 F10 F7
      k_steps
      exact ⟨_, _, _, _, rfl, F19, N19, O9, by intro q hq; rw [List.mem_singleton.mp hq]; exact hl9, rfl, b1⟩
  case zfin =>
    rintro h9 tk9 m9 r9 ⟨rfl, a1⟩ F9 N9
    clear N N6 F F6
    k_steps
    exact ⟨_, _, _, ps, qs, rfl, F9, N9.perm (by
      intro q hq
      simp only [List.mem_cons, List.not_mem_nil, or_false] at hq
      rcases hq with rfl | rfl <;> simp)⟩

end
section
theorem next_mono {M : PySem.Model} {A : Around} {env : PySem.Env} {l : List Stmt} {E : Value → Shared → Prop} {s : Shared} {J : Shared → Prop} {Q : Flow → Shared → Prop} (h : wpAny M A (execs l env) (fun f s' => f = .next ∧ J s') E s) :
    wpAny M A (execs l env) (fun f s' => match f with | .next => J s' | f => Q f s') E s := by
  refine wpAny_mono h (fun f s' hf => ?_) fun _ _ e => e
  obtain ⟨rfl, hf⟩ := hf
  exact hf
/-- two stages in a row: a body's n statements from place a on, cut after k of them -/
theorem stage_join {M : PySem.Model} {A : Around} {env : PySem.Env} {bd : List Stmt} {E : Value → Shared → Prop} {s : Shared} {J K : Shared → Prop} (n k : Nat)
    (h1 : wpAny M A (execs (bd.take k) env) (fun f s' => f = .next ∧ J s') E s) (h2 : ∀ s', J s' → wpAny M A (execs ((bd.drop k).take n) env) (fun f s'' => f = .next ∧ K s'') E s') :
    wpAny M A (execs (bd.take (k + n)) env) (fun f s' => f = .next ∧ K s') E s := by
  intro Γ p hΓ
  refine wp_execs_cut k _ p s ?_
  have e1 : (bd.take (k + n)).take k = bd.take k := by rw [List.take_take, Nat.min_eq_left (Nat.le_add_right _ _)]
  have e2 : (bd.take (k + n)).drop k = (bd.drop k).take n := by rw [List.drop_take, Nat.add_sub_cancel_left]
  rw [e1, e2]
  refine Sem.wp_mono M Γ _ (fun f p' s' h' => ?_) (fun _ _ _ h' => h') _ _ (h1 Γ p hΓ)
  obtain ⟨rfl, h'⟩ := h'
  exact h2 s' h' Γ p' hΓ
theorem law_walk (prog : Program) (w : World) (g : Heap) (L fa : Addr) (pp : Program) (loose : List Str) (mean : ExcName → Option Value) (mg mb : Str → Option Value) (Lt : LawTop w g L pp loose mean mg mb) (s : Shared) (m : Str → Option Value) (F : Fr g L s.heap m)
    (E : Value → Shared → Prop) (o1 o2 o3 : Obj) (sc_ : Addr) (vs : List Value) (ws : List Int) (hI : IntsAre vs ws) (hsz : vs.length ≤ sizeLine) (hsl : g.IsList sc_ vs.toArray) (hm : m (Str.ofString "script") = some (.ref sc_))
    (c1 : o1.data = .cell .none) (c2 : o2.data = .cell .none) (c3 : o3.data = .cell .none) (N : News g L s.heap [(L + 1 + 1 + 1, o1), (L + 1 + 1, o2), (L + 1, o3), (146, tabObj #[]), (186, tabObj #[])]) :
    wpAny (model prog w) (lawA lawScope L fa) (execs (lawBody.take 23) (lawE lawScope L fa)) (fun f s' => f = .next ∧ JEnd g L s s') E s := by
  have k1 := stage1 prog w g L fa pp loose mean mg mb Lt s m F E lawScope rfl _ rfl o1 o2 o3 sc_ vs ws hI hsz hsl hm c1 N
  rw [List.drop_zero] at k1
  have k2 := stage_join 2 4 k1 fun s' h => stage2 prog w g L fa pp loose mean mg mb Lt E lawScope rfl _ rfl _ s s' h
  have k3 := stage_join 3 6 k2 fun s' h => stage3 prog w g L fa pp loose mean mg mb Lt E lawScope rfl _ rfl _ s s' h
  have k4 := stage_join 4 9 k3 fun s' h => stage4 prog w g L fa pp loose mean mg mb Lt E lawScope rfl _ rfl o1 o2 o3 s s' h
  have k5 := stage_join 1 13 k4 fun s' h => stage5 prog w g L fa pp loose mean mg mb Lt E lawScope rfl _ rfl o1 o2 o3 s s' h
  have k6 := stage_join 2 14 k5 fun s' h => stage6 prog w g L fa pp loose mean mg mb Lt E lawScope rfl _ rfl o1 o2 o3 c1 s s' h
  have k7 := stage_join 3 16 k6 fun s' h => stage7 prog w g L fa pp loose mean mg mb Lt E lawScope rfl _ rfl o2 o3 c2 c3 s s' h
  have k8 := stage_join 1 19 k7 fun s' h => stage8 prog w g L fa pp loose mean mg mb Lt E lawScope rfl _ rfl s s' h
  have k9 := stage_join 2 20 k8 fun s' h => stage9 prog w g L fa pp loose mean mg mb Lt E lawScope rfl _ rfl s s' h
  exact stage_join 1 22 k9 fun s' h => stage10 prog w g L fa pp loose mean mg mb Lt E lawScope rfl _ rfl s s' h

end
section
theorem len63 {vs : List Value} {ws : List Int} (hI : IntsAre vs ws) (h : ¬ ((63 : Nat) : Int) < (ws.length : Int)) : vs.length ≤ sizeLine := by
  have h1 := IntsAre.length hI
  have h2 := sizeLine_eq
  omega
set_option maxHeartbeats 0 in
theorem law_main : PySem.Challenge.rw_sw0036_01.Holds := Mine.hd (by
  conv in dlaw => whnf
  k_go0
  rename Fr _ _ _ _ => F0
  rename IntsAre _ _ => hI0
  have hsz := len63 hI0 (by assumption)
  refine execs_cut F0 JEnd 23 ?_ ?_
  · rename News _ _ _ _ => N0
    rename Frag.In _ _ => X0
    rename Below _ _ _ _ => B0
    rename Top _ _ _ _ _ _ => T0
    rename Heap.IsList _ _ _ => hl0
    exact next_mono (law_walk _ _ _ _ _ _ _ _ _ _ ⟨X0, T0, B0, by assumption, by assumption, by assumption, by assumption⟩ _ _ F0 _ _ _ _ _ _ _ hI0 hsz hl0 (by with_unfolding_all rfl) (by assumption) (by assumption) (by assumption) N0)
  · rintro s' ⟨h9, tk9, m9, ps9, qs9, rfl, F9, N9⟩
    dsimp only [List.drop_succ_cons, List.drop_zero]
    clear F0
    rename News _ _ _ [_, _, _, _, _] => N0
    clear N0
    k_steps)

end
end Mine
theorem PySem.Challenge.cw_sw0036_01_holds : PySem.Challenge.rw_sw0036_01.Holds := by
  exact Mine.law_main
