import PyProof.Rows.All
import Wide.All
import OpenK.AllK
import Wide.FinOn
import Lean
import PySem.Challenge.RW_sw0031_01
open PySem PySem.W PyProof.Rows PySem.Calls PySem.Spec
set_option Elab.async false
set_option maxRecDepth 100000
set_option maxHeartbeats 8000000
set_option compiler.extract_closed false
namespace Mine
noncomputable abbrev PP : Program := PySem.Challenge.rw_sw0031_01.row.toRowW.prog
def fparts : Option Stmt → Option (Arguments × List Stmt × Scope)
  | some (.FunctionDef _ a b _ _ _ c _ _ _) => some (a, b, c)
  | _ => none
def member (k : Nat) : Option Stmt → Option Stmt
  | some (.ClassDef _ _ _ b _ _ _ _ _ _ _) => b[k]?
  | _ => none
noncomputable def hd.heap_39 : Params → Frag := fun P =>
  (fun {a28 : Arguments} {b28 : List Stmt} {c28 : Scope} (_ : fparts (member 0 PP.main.body[1]?) = some (a28, b28, c28))
    {a35 : Arguments} {b35 : List Stmt} {c35 : Scope} (_ : fparts (member 1 PP.main.body[1]?) = some (a35, b35, c35))
    {a42 : Arguments} {b42 : List Stmt} {c42 : Scope} (_ : fparts (member 2 PP.main.body[1]?) = some (a42, b42, c42))
    {a49 : Arguments} {b49 : List Stmt} {c49 : Scope} (_ : fparts (member 3 PP.main.body[1]?) = some (a49, b49, c49))
    {a65 : Arguments} {b65 : List Stmt} {c65 : Scope} (_ : fparts (PP.main.body[3]?) = some (a65, b65, c65))
    {a74 : Arguments} {b74 : List Stmt} {c74 : Scope} (_ : fparts (PP.main.body[4]?) = some (a74, b74, c74))
    {a81 : Arguments} {b81 : List Stmt} {c81 : Scope} (_ : fparts (PP.main.body[6]?) = some (a81, b81, c81))
    {a88 : Arguments} {b88 : List Stmt} {c88 : Scope} (_ : fparts (PP.main.body[7]?) = some (a88, b88, c88))
    {a95 : Arguments} {b95 : List Stmt} {c95 : Scope} (_ : fparts (PP.main.body[8]?) = some (a95, b95, c95))
    {a102 : Arguments} {b102 : List Stmt} {c102 : Scope} (_ : fparts (PP.main.body[9]?) = some (a102, b102, c102))
    {a110 : Arguments} {b110 : List Stmt} {c110 : Scope} (_ : fparts (PP.main.body[10]?) = some (a110, b110, c110))
    {a117 : Arguments} {b117 : List Stmt} {c117 : Scope} (_ : fparts (PP.main.body[12]?) = some (a117, b117, c117))
    {a122 : Arguments} {b122 : List Stmt} {c122 : Scope} (_ : fparts (PP.main.body[13]?) = some (a122, b122, c122))
    {a129 : Arguments} {b129 : List Stmt} {c129 : Scope} (_ : fparts (PP.main.body[14]?) = some (a129, b129, c129))
    {a136 : Arguments} {b136 : List Stmt} {c136 : Scope} (_ : fparts (PP.main.body[15]?) = some (a136, b136, c136))
    {a143 : Arguments} {b143 : List Stmt} {c143 : Scope} (_ : fparts (PP.main.body[16]?) = some (a143, b143, c143))
    {a148 : Arguments} {b148 : List Stmt} {c148 : Scope} (_ : fparts (PP.main.body[17]?) = some (a148, b148, c148))
    {a153 : Arguments} {b153 : List Stmt} {c153 : Scope} (_ : fparts (PP.main.body[18]?) = some (a153, b153, c153)) =>
    (List.cons (nat_lit 2, ({ cls := Value.none, data := Data.dict #[] } : Obj)) (List.cons
    (nat_lit 3, ({ cls := Value.type "dict", data := Data.dict #[{ hash := PyData.keyHash P (Str.ofString "__name__"), key := Value.str (Str.ofString "__name__") 165, val := Value.str (Str.ofString "law_sw0031_01") 324 }, { hash := PyData.keyHash P (Str.ofString "__doc__"), key := Value.str (Str.ofString "__doc__") 166, val := Value.none }, { hash := PyData.keyHash P (Str.ofString "__package__"), key := Value.str (Str.ofString "__package__") 167, val := Value.none }, { hash := PyData.keyHash P (Str.ofString "__loader__"), key := Value.str (Str.ofString "__loader__") 168, val := Value.builtin "__main__.__loader__#opaque" }, { hash := PyData.keyHash P (Str.ofString "__spec__"), key := Value.str (Str.ofString "__spec__") 169, val := Value.none }, { hash := PyData.keyHash P (Str.ofString "__annotations__"), key := Value.str (Str.ofString "__annotations__") 170, val := Value.ref 6 }, { hash := PyData.keyHash P (Str.ofString "__builtins__"), key := Value.str (Str.ofString "__builtins__") 171, val := Value.ref 4 }, { hash := PyData.keyHash P (Str.ofString "__file__"), key := Value.str (Str.ofString "__file__") 173, val := Value.str (Str.ofString "/claim/cut.py") 172 }, { hash := PyData.keyHash P (Str.ofString "__cached__"), key := Value.str (Str.ofString "__cached__") 174, val := Value.none }, { hash := PyData.keyHash P (Str.ofString "_netrclex"), key := Value.str (Str.ofString "_netrclex") 246, val := Value.ref 52 }, { hash := PyData.keyHash P (Str.ofString "insort_left"), key := Value.str (Str.ofString "insort_left") 261, val := Value.ref 65 }, { hash := PyData.keyHash P (Str.ofString "bisect_left"), key := Value.str (Str.ofString "bisect_left") 275, val := Value.ref 74 }, { hash := PyData.keyHash P (Str.ofString "lt"), key := Value.str (Str.ofString "lt") 285, val := Value.ref 81 }, { hash := PyData.keyHash P (Str.ofString "add"), key := Value.str (Str.ofString "add") 293, val := Value.ref 88 }, { hash := PyData.keyHash P (Str.ofString "sub"), key := Value.str (Str.ofString "sub") 301, val := Value.ref 95 }, { hash := PyData.keyHash P (Str.ofString "countOf"), key := Value.str (Str.ofString "countOf") 311, val := Value.ref 102 }, { hash := PyData.keyHash P (Str.ofString "length_hint"), key := Value.str (Str.ofString "length_hint") 323, val := Value.ref 110 }, { hash := PyData.keyHash P (Str.ofString "_law_totals"), key := Value.str (Str.ofString "_law_totals") 335, val := Value.ref 117 }, { hash := PyData.keyHash P (Str.ofString "_law_written"), key := Value.str (Str.ofString "_law_written") 341, val := Value.ref 122 }, { hash := PyData.keyHash P (Str.ofString "_law_lexer"), key := Value.str (Str.ofString "_law_lexer") 352, val := Value.ref 129 }, { hash := PyData.keyHash P (Str.ofString "_law_row"), key := Value.str (Str.ofString "_law_row") 361, val := Value.ref 136 }, { hash := PyData.keyHash P (Str.ofString "_law_seated"), key := Value.str (Str.ofString "_law_seated") 376, val := Value.ref 143 }, { hash := PyData.keyHash P (Str.ofString "_law_most"), key := Value.str (Str.ofString "_law_most") 382, val := Value.ref 148 }, { hash := PyData.keyHash P (Str.ofString "law"), key := Value.str (Str.ofString "law") 388, val := Value.ref 153 }] 24 } : Obj)) (List.cons
    (nat_lit 22, ({ cls := Value.type "tuple", data := Data.seq #[] } : Obj)) (List.cons
    (nat_lit 24, ({ cls := Value.type "tuple", data := Data.seq #[Value.str (Str.ofString "self") 204, Value.str (Str.ofString "fp") 205] } : Obj)) (List.cons
    (nat_lit 25, ({ cls := Value.type "tuple", data := Data.seq #[] } : Obj)) (List.cons
    (nat_lit 27, ({ cls := Value.type "code", data := Data.fields #[Value.str (Str.ofString "__init__") 201, Value.str (Str.ofString "_netrclex.__init__") 202, Value.str (Str.ofString "/claim/cut.py") 203, Value.int 4 0, Value.int 2 0, Value.int 0 0, Value.int 0 0, Value.int 3 0, Value.ref 22, Value.bool true, Value.int 181 0, Value.ref 23, Value.none, Value.ref 24, Value.ref 25, Value.ref 26, Value.int 206 0, Value.int 4 0, Value.str (Str.ofString "/claim/cut.py") 207] } : Obj)) (List.cons
    (nat_lit 28, ({ cls := Value.type "function", data := Data.func { name := Str.ofString "__init__", qualname := Str.ofString "_netrclex.__init__", params := a28, body := FuncBody.stmts b28, scope := c28, globals := 3, closure := [], defaults := Value.none, kwdefaults := Value.none, pyModule := Value.str (Str.ofString "cpy313.netrc") 187, code := Value.ref 27 } } : Obj)) (List.cons
    (nat_lit 29, ({ cls := Value.type "tuple", data := Data.seq #[] } : Obj)) (List.cons
    (nat_lit 31, ({ cls := Value.type "tuple", data := Data.seq #[Value.str (Str.ofString "self") 212, Value.str (Str.ofString "ch") 213] } : Obj)) (List.cons
    (nat_lit 32, ({ cls := Value.type "tuple", data := Data.seq #[] } : Obj)) (List.cons
    (nat_lit 34, ({ cls := Value.type "code", data := Data.fields #[Value.str (Str.ofString "_read_char") 209, Value.str (Str.ofString "_netrclex._read_char") 210, Value.str (Str.ofString "/claim/cut.py") 211, Value.int 10 0, Value.int 1 0, Value.int 0 0, Value.int 0 0, Value.int 3 0, Value.ref 29, Value.bool true, Value.int 181 0, Value.ref 30, Value.none, Value.ref 31, Value.ref 32, Value.ref 33, Value.int 214 0, Value.int 10 0, Value.str (Str.ofString "/claim/cut.py") 215] } : Obj)) (List.cons
    (nat_lit 35, ({ cls := Value.type "function", data := Data.func { name := Str.ofString "_read_char", qualname := Str.ofString "_netrclex._read_char", params := a35, body := FuncBody.stmts b35, scope := c35, globals := 3, closure := [], defaults := Value.none, kwdefaults := Value.none, pyModule := Value.str (Str.ofString "cpy313.netrc") 187, code := Value.ref 34 } } : Obj)) (List.cons
    (nat_lit 36, ({ cls := Value.type "tuple", data := Data.seq #[] } : Obj)) (List.cons
    (nat_lit 38, ({ cls := Value.type "tuple", data := Data.seq #[Value.str (Str.ofString "self") 220, Value.str (Str.ofString "token") 221, Value.str (Str.ofString "fiter") 222, Value.str (Str.ofString "ch") 223] } : Obj)) (List.cons
    (nat_lit 39, ({ cls := Value.type "tuple", data := Data.seq #[] } : Obj)) (List.cons
    (nat_lit 41, ({ cls := Value.type "code", data := Data.fields #[Value.str (Str.ofString "get_token") 217, Value.str (Str.ofString "_netrclex.get_token") 218, Value.str (Str.ofString "/claim/cut.py") 219, Value.int 16 0, Value.int 1 0, Value.int 0 0, Value.int 0 0, Value.int 3 0, Value.ref 36, Value.bool true, Value.int 181 0, Value.ref 37, Value.none, Value.ref 38, Value.ref 39, Value.ref 40, Value.int 224 0, Value.int 16 0, Value.str (Str.ofString "/claim/cut.py") 225] } : Obj)) (List.cons
    (nat_lit 42, ({ cls := Value.type "function", data := Data.func { name := Str.ofString "get_token", qualname := Str.ofString "_netrclex.get_token", params := a42, body := FuncBody.stmts b42, scope := c42, globals := 3, closure := [], defaults := Value.none, kwdefaults := Value.none, pyModule := Value.str (Str.ofString "cpy313.netrc") 187, code := Value.ref 41 } } : Obj)) (List.cons
    (nat_lit 43, ({ cls := Value.type "tuple", data := Data.seq #[] } : Obj)) (List.cons
    (nat_lit 45, ({ cls := Value.type "tuple", data := Data.seq #[Value.str (Str.ofString "self") 230, Value.str (Str.ofString "token") 231] } : Obj)) (List.cons
    (nat_lit 46, ({ cls := Value.type "tuple", data := Data.seq #[] } : Obj)) (List.cons
    (nat_lit 48, ({ cls := Value.type "code", data := Data.fields #[Value.str (Str.ofString "push_token") 227, Value.str (Str.ofString "_netrclex.push_token") 228, Value.str (Str.ofString "/claim/cut.py") 229, Value.int 43 0, Value.int 2 0, Value.int 0 0, Value.int 0 0, Value.int 3 0, Value.ref 43, Value.bool true, Value.int 181 0, Value.ref 44, Value.none, Value.ref 45, Value.ref 46, Value.ref 47, Value.int 232 0, Value.int 43 0, Value.str (Str.ofString "/claim/cut.py") 233] } : Obj)) (List.cons
    (nat_lit 49, ({ cls := Value.type "function", data := Data.func { name := Str.ofString "push_token", qualname := Str.ofString "_netrclex.push_token", params := a49, body := FuncBody.stmts b49, scope := c49, globals := 3, closure := [], defaults := Value.none, kwdefaults := Value.none, pyModule := Value.str (Str.ofString "cpy313.netrc") 187, code := Value.ref 48 } } : Obj)) (List.cons
    (nat_lit 50, ({ cls := Value.type "tuple", data := Data.seq #[Value.str (Str.ofString "instream") 235, Value.str (Str.ofString "lineno") 236, Value.str (Str.ofString "pushback") 237, Value.str (Str.ofString "whitespace") 238] } : Obj)) (List.cons
    (nat_lit 51, ({ cls := Value.type "dict", data := Data.dict #[{ hash := PyData.keyHash P (Str.ofString "__module__"), key := Value.str (Str.ofString "__module__") 196, val := Value.str (Str.ofString "cpy313.netrc") 187 }, { hash := PyData.keyHash P (Str.ofString "__firstlineno__"), key := Value.str (Str.ofString "__firstlineno__") 200, val := Value.int 2 199 }, { hash := PyData.keyHash P (Str.ofString "__init__"), key := Value.str (Str.ofString "__init__") 208, val := Value.ref 28 }, { hash := PyData.keyHash P (Str.ofString "_read_char"), key := Value.str (Str.ofString "_read_char") 216, val := Value.ref 35 }, { hash := PyData.keyHash P (Str.ofString "get_token"), key := Value.str (Str.ofString "get_token") 226, val := Value.ref 42 }, { hash := PyData.keyHash P (Str.ofString "push_token"), key := Value.str (Str.ofString "push_token") 234, val := Value.ref 49 }, { hash := PyData.keyHash P (Str.ofString "__static_attributes__"), key := Value.str (Str.ofString "__static_attributes__") 239, val := Value.ref 50 }, { hash := PyData.keyHash P (Str.ofString "__dict__"), key := Value.str (Str.ofString "__dict__") 241, val := Value.ref 53 }, { hash := PyData.keyHash P (Str.ofString "__weakref__"), key := Value.str (Str.ofString "__weakref__") 243, val := Value.ref 54 }, { hash := PyData.keyHash P (Str.ofString "__doc__"), key := Value.str (Str.ofString "__doc__") 244, val := Value.none }] 4 } : Obj)) (List.cons
    (nat_lit 52, ({ cls := Value.type "type", data := Data.cls { name := Str.ofString "_netrclex", bases := [Value.type "object"], mro := [Value.ref 52, Value.type "object"], ns := 51, qualname := Str.ofString "_netrclex" }, slots := #[none, none, some (Value.str (Str.ofString "_netrclex") 189), some (Value.str (Str.ofString "_netrclex") 197), some (Value.builtin "object.__new__"), some (Value.bool true)] } : Obj)) (List.cons
    (nat_lit 53, ({ cls := Value.type "getset_descriptor", data := Data.fields #[Value.str (Str.ofString "__dict__") 240, Value.ref 52, Value.builtin "function.__dict__", Value.builtin "function.__dict__#set"] } : Obj)) (List.cons
    (nat_lit 54, ({ cls := Value.type "getset_descriptor", data := Data.fields #[Value.str (Str.ofString "__weakref__") 242, Value.ref 52, Value.builtin "ExceptionGroup.__weakref__", Value.none] } : Obj)) (List.cons
    (nat_lit 57, ({ cls := Value.type "tuple", data := Data.seq #[Value.int 0 249, Value.none] } : Obj)) (List.cons
    (nat_lit 58, ({ cls := Value.type "dict", data := Data.dict #[{ hash := PyData.keyHash P (Str.ofString "key"), key := Value.str (Str.ofString "key") 250, val := Value.none }] 1 } : Obj)) (List.cons
    (nat_lit 59, ({ cls := Value.type "tuple", data := Data.seq #[] } : Obj)) (List.cons
    (nat_lit 61, ({ cls := Value.type "tuple", data := Data.seq #[Value.str (Str.ofString "a") 254, Value.str (Str.ofString "x") 255, Value.str (Str.ofString "lo") 256, Value.str (Str.ofString "hi") 257, Value.str (Str.ofString "key") 258] } : Obj)) (List.cons
    (nat_lit 62, ({ cls := Value.type "tuple", data := Data.seq #[] } : Obj)) (List.cons
    (nat_lit 64, ({ cls := Value.type "code", data := Data.fields #[Value.str (Str.ofString "insort_left") 251, Value.str (Str.ofString "insort_left") 252, Value.str (Str.ofString "/claim/cut.py") 253, Value.int 46 0, Value.int 4 0, Value.int 0 0, Value.int 1 0, Value.int 3 0, Value.ref 59, Value.bool true, Value.int 181 0, Value.ref 60, Value.none, Value.ref 61, Value.ref 62, Value.ref 63, Value.int 259 0, Value.int 46 0, Value.str (Str.ofString "/claim/cut.py") 260] } : Obj)) (List.cons
    (nat_lit 65, ({ cls := Value.type "function", data := Data.func { name := Str.ofString "insort_left", qualname := Str.ofString "insort_left", params := a65, body := FuncBody.stmts b65, scope := c65, globals := 3, closure := [], defaults := Value.ref 57, kwdefaults := Value.ref 58, pyModule := Value.str (Str.ofString "cpy313.bisect") 247, code := Value.ref 64 } } : Obj)) (List.cons
    (nat_lit 66, ({ cls := Value.type "tuple", data := Data.seq #[Value.int 0 262, Value.none] } : Obj)) (List.cons
    (nat_lit 67, ({ cls := Value.type "dict", data := Data.dict #[{ hash := PyData.keyHash P (Str.ofString "key"), key := Value.str (Str.ofString "key") 263, val := Value.none }] 1 } : Obj)) (List.cons
    (nat_lit 68, ({ cls := Value.type "tuple", data := Data.seq #[] } : Obj)) (List.cons
    (nat_lit 70, ({ cls := Value.type "tuple", data := Data.seq #[Value.str (Str.ofString "a") 267, Value.str (Str.ofString "x") 268, Value.str (Str.ofString "lo") 269, Value.str (Str.ofString "hi") 270, Value.str (Str.ofString "key") 271, Value.str (Str.ofString "mid") 272] } : Obj)) (List.cons
    (nat_lit 71, ({ cls := Value.type "tuple", data := Data.seq #[] } : Obj)) (List.cons
    (nat_lit 73, ({ cls := Value.type "code", data := Data.fields #[Value.str (Str.ofString "bisect_left") 264, Value.str (Str.ofString "bisect_left") 265, Value.str (Str.ofString "/claim/cut.py") 266, Value.int 52 0, Value.int 4 0, Value.int 0 0, Value.int 1 0, Value.int 3 0, Value.ref 68, Value.bool true, Value.int 181 0, Value.ref 69, Value.none, Value.ref 70, Value.ref 71, Value.ref 72, Value.int 273 0, Value.int 52 0, Value.str (Str.ofString "/claim/cut.py") 274] } : Obj)) (List.cons
    (nat_lit 74, ({ cls := Value.type "function", data := Data.func { name := Str.ofString "bisect_left", qualname := Str.ofString "bisect_left", params := a74, body := FuncBody.stmts b74, scope := c74, globals := 3, closure := [], defaults := Value.ref 66, kwdefaults := Value.ref 67, pyModule := Value.str (Str.ofString "cpy313.bisect") 247, code := Value.ref 73 } } : Obj)) (List.cons
    (nat_lit 75, ({ cls := Value.type "tuple", data := Data.seq #[] } : Obj)) (List.cons
    (nat_lit 77, ({ cls := Value.type "tuple", data := Data.seq #[Value.str (Str.ofString "a") 281, Value.str (Str.ofString "b") 282] } : Obj)) (List.cons
    (nat_lit 78, ({ cls := Value.type "tuple", data := Data.seq #[] } : Obj)) (List.cons
    (nat_lit 80, ({ cls := Value.type "code", data := Data.fields #[Value.str (Str.ofString "lt") 278, Value.str (Str.ofString "lt") 279, Value.str (Str.ofString "/claim/cut.py") 280, Value.int 73 0, Value.int 2 0, Value.int 0 0, Value.int 0 0, Value.int 3 0, Value.ref 75, Value.bool true, Value.int 181 0, Value.ref 76, Value.none, Value.ref 77, Value.ref 78, Value.ref 79, Value.int 283 0, Value.int 73 0, Value.str (Str.ofString "/claim/cut.py") 284] } : Obj)) (List.cons
    (nat_lit 81, ({ cls := Value.type "function", data := Data.func { name := Str.ofString "lt", qualname := Str.ofString "lt", params := a81, body := FuncBody.stmts b81, scope := c81, globals := 3, closure := [], defaults := Value.none, kwdefaults := Value.none, pyModule := Value.str (Str.ofString "cpy313.operator") 276, code := Value.ref 80 } } : Obj)) (List.cons
    (nat_lit 82, ({ cls := Value.type "tuple", data := Data.seq #[] } : Obj)) (List.cons
    (nat_lit 84, ({ cls := Value.type "tuple", data := Data.seq #[Value.str (Str.ofString "a") 289, Value.str (Str.ofString "b") 290] } : Obj)) (List.cons
    (nat_lit 85, ({ cls := Value.type "tuple", data := Data.seq #[] } : Obj)) (List.cons
    (nat_lit 87, ({ cls := Value.type "code", data := Data.fields #[Value.str (Str.ofString "add") 286, Value.str (Str.ofString "add") 287, Value.str (Str.ofString "/claim/cut.py") 288, Value.int 75 0, Value.int 2 0, Value.int 0 0, Value.int 0 0, Value.int 3 0, Value.ref 82, Value.bool true, Value.int 181 0, Value.ref 83, Value.none, Value.ref 84, Value.ref 85, Value.ref 86, Value.int 291 0, Value.int 75 0, Value.str (Str.ofString "/claim/cut.py") 292] } : Obj)) (List.cons
    (nat_lit 88, ({ cls := Value.type "function", data := Data.func { name := Str.ofString "add", qualname := Str.ofString "add", params := a88, body := FuncBody.stmts b88, scope := c88, globals := 3, closure := [], defaults := Value.none, kwdefaults := Value.none, pyModule := Value.str (Str.ofString "cpy313.operator") 276, code := Value.ref 87 } } : Obj)) (List.cons
    (nat_lit 89, ({ cls := Value.type "tuple", data := Data.seq #[] } : Obj)) (List.cons
    (nat_lit 91, ({ cls := Value.type "tuple", data := Data.seq #[Value.str (Str.ofString "a") 297, Value.str (Str.ofString "b") 298] } : Obj)) (List.cons
    (nat_lit 92, ({ cls := Value.type "tuple", data := Data.seq #[] } : Obj)) (List.cons
    (nat_lit 94, ({ cls := Value.type "code", data := Data.fields #[Value.str (Str.ofString "sub") 294, Value.str (Str.ofString "sub") 295, Value.str (Str.ofString "/claim/cut.py") 296, Value.int 77 0, Value.int 2 0, Value.int 0 0, Value.int 0 0, Value.int 3 0, Value.ref 89, Value.bool true, Value.int 181 0, Value.ref 90, Value.none, Value.ref 91, Value.ref 92, Value.ref 93, Value.int 299 0, Value.int 77 0, Value.str (Str.ofString "/claim/cut.py") 300] } : Obj)) (List.cons
    (nat_lit 95, ({ cls := Value.type "function", data := Data.func { name := Str.ofString "sub", qualname := Str.ofString "sub", params := a95, body := FuncBody.stmts b95, scope := c95, globals := 3, closure := [], defaults := Value.none, kwdefaults := Value.none, pyModule := Value.str (Str.ofString "cpy313.operator") 276, code := Value.ref 94 } } : Obj)) (List.cons
    (nat_lit 96, ({ cls := Value.type "tuple", data := Data.seq #[] } : Obj)) (List.cons
    (nat_lit 98, ({ cls := Value.type "tuple", data := Data.seq #[Value.str (Str.ofString "a") 305, Value.str (Str.ofString "b") 306, Value.str (Str.ofString "count") 307, Value.str (Str.ofString "i") 308] } : Obj)) (List.cons
    (nat_lit 99, ({ cls := Value.type "tuple", data := Data.seq #[] } : Obj)) (List.cons
    (nat_lit 101, ({ cls := Value.type "code", data := Data.fields #[Value.str (Str.ofString "countOf") 302, Value.str (Str.ofString "countOf") 303, Value.str (Str.ofString "/claim/cut.py") 304, Value.int 79 0, Value.int 2 0, Value.int 0 0, Value.int 0 0, Value.int 3 0, Value.ref 96, Value.bool true, Value.int 181 0, Value.ref 97, Value.none, Value.ref 98, Value.ref 99, Value.ref 100, Value.int 309 0, Value.int 79 0, Value.str (Str.ofString "/claim/cut.py") 310] } : Obj)) (List.cons
    (nat_lit 102, ({ cls := Value.type "function", data := Data.func { name := Str.ofString "countOf", qualname := Str.ofString "countOf", params := a102, body := FuncBody.stmts b102, scope := c102, globals := 3, closure := [], defaults := Value.none, kwdefaults := Value.none, pyModule := Value.str (Str.ofString "cpy313.operator") 276, code := Value.ref 101 } } : Obj)) (List.cons
    (nat_lit 103, ({ cls := Value.type "tuple", data := Data.seq #[Value.int 0 312] } : Obj)) (List.cons
    (nat_lit 104, ({ cls := Value.type "tuple", data := Data.seq #[] } : Obj)) (List.cons
    (nat_lit 106, ({ cls := Value.type "tuple", data := Data.seq #[Value.str (Str.ofString "obj") 316, Value.str (Str.ofString "default") 317, Value.str (Str.ofString "msg") 318, Value.str (Str.ofString "hint") 319, Value.str (Str.ofString "val") 320] } : Obj)) (List.cons
    (nat_lit 107, ({ cls := Value.type "tuple", data := Data.seq #[] } : Obj)) (List.cons
    (nat_lit 109, ({ cls := Value.type "code", data := Data.fields #[Value.str (Str.ofString "length_hint") 313, Value.str (Str.ofString "length_hint") 314, Value.str (Str.ofString "/claim/cut.py") 315, Value.int 85 0, Value.int 2 0, Value.int 0 0, Value.int 0 0, Value.int 3 0, Value.ref 104, Value.bool true, Value.int 181 0, Value.ref 105, Value.none, Value.ref 106, Value.ref 107, Value.ref 108, Value.int 321 0, Value.int 85 0, Value.str (Str.ofString "/claim/cut.py") 322] } : Obj)) (List.cons
    (nat_lit 110, ({ cls := Value.type "function", data := Data.func { name := Str.ofString "length_hint", qualname := Str.ofString "length_hint", params := a110, body := FuncBody.stmts b110, scope := c110, globals := 3, closure := [], defaults := Value.ref 103, kwdefaults := Value.none, pyModule := Value.str (Str.ofString "cpy313.operator") 276, code := Value.ref 109 } } : Obj)) (List.cons
    (nat_lit 111, ({ cls := Value.type "tuple", data := Data.seq #[] } : Obj)) (List.cons
    (nat_lit 113, ({ cls := Value.type "tuple", data := Data.seq #[Value.str (Str.ofString "script") 329, Value.str (Str.ofString "totals") 330, Value.str (Str.ofString "place") 331, Value.str (Str.ofString "number") 332] } : Obj)) (List.cons
    (nat_lit 114, ({ cls := Value.type "tuple", data := Data.seq #[] } : Obj)) (List.cons
    (nat_lit 116, ({ cls := Value.type "code", data := Data.fields #[Value.str (Str.ofString "_law_totals") 326, Value.str (Str.ofString "_law_totals") 327, Value.str (Str.ofString "/claim/cut.py") 328, Value.int 111 0, Value.int 1 0, Value.int 0 0, Value.int 0 0, Value.int 3 0, Value.ref 111, Value.bool true, Value.int 181 0, Value.ref 112, Value.none, Value.ref 113, Value.ref 114, Value.ref 115, Value.int 333 0, Value.int 111 0, Value.str (Str.ofString "/claim/cut.py") 334] } : Obj)) (List.cons
    (nat_lit 117, ({ cls := Value.type "function", data := Data.func { name := Str.ofString "_law_totals", qualname := Str.ofString "_law_totals", params := a117, body := FuncBody.stmts b117, scope := c117, globals := 3, closure := [], defaults := Value.none, kwdefaults := Value.none, pyModule := Value.str (Str.ofString "law_sw0031_01") 324, code := Value.ref 116 } } : Obj)) (List.cons
    (nat_lit 118, ({ cls := Value.type "tuple", data := Data.seq #[] } : Obj)) (List.cons
    (nat_lit 121, ({ cls := Value.type "code", data := Data.fields #[Value.str (Str.ofString "_law_written") 336, Value.str (Str.ofString "_law_written") 337, Value.str (Str.ofString "/claim/cut.py") 338, Value.int 116 0, Value.int 2 0, Value.int 0 0, Value.int 0 0, Value.int 3 0, Value.ref 118, Value.bool true, Value.int 181 0, Value.ref 119, Value.none, Value.none, Value.none, Value.ref 120, Value.int 339 0, Value.int 116 0, Value.str (Str.ofString "/claim/cut.py") 340] } : Obj)) (List.cons
    (nat_lit 122, ({ cls := Value.type "function", data := Data.func { name := Str.ofString "_law_written", qualname := Str.ofString "_law_written", params := a122, body := FuncBody.stmts b122, scope := c122, globals := 3, closure := [], defaults := Value.none, kwdefaults := Value.none, pyModule := Value.str (Str.ofString "law_sw0031_01") 324, code := Value.ref 121 } } : Obj)) (List.cons
    (nat_lit 123, ({ cls := Value.type "tuple", data := Data.seq #[] } : Obj)) (List.cons
    (nat_lit 125, ({ cls := Value.type "tuple", data := Data.seq #[Value.str (Str.ofString "text") 345, Value.str (Str.ofString "read") 346, Value.str (Str.ofString "stream") 347] } : Obj)) (List.cons
    (nat_lit 126, ({ cls := Value.type "tuple", data := Data.seq #[Value.str (Str.ofString "text") 348, Value.str (Str.ofString "place") 349] } : Obj)) (List.cons
    (nat_lit 128, ({ cls := Value.type "code", data := Data.fields #[Value.str (Str.ofString "_law_lexer") 342, Value.str (Str.ofString "_law_lexer") 343, Value.str (Str.ofString "/claim/cut.py") 344, Value.int 120 0, Value.int 1 0, Value.int 0 0, Value.int 0 0, Value.int 3 0, Value.ref 123, Value.bool true, Value.int 181 0, Value.ref 124, Value.none, Value.ref 125, Value.ref 126, Value.ref 127, Value.int 350 0, Value.int 120 0, Value.str (Str.ofString "/claim/cut.py") 351] } : Obj)) (List.cons
    (nat_lit 129, ({ cls := Value.type "function", data := Data.func { name := Str.ofString "_law_lexer", qualname := Str.ofString "_law_lexer", params := a129, body := FuncBody.stmts b129, scope := c129, globals := 3, closure := [], defaults := Value.none, kwdefaults := Value.none, pyModule := Value.str (Str.ofString "law_sw0031_01") 324, code := Value.ref 128 } } : Obj)) (List.cons
    (nat_lit 130, ({ cls := Value.type "tuple", data := Data.seq #[] } : Obj)) (List.cons
    (nat_lit 132, ({ cls := Value.type "tuple", data := Data.seq #[Value.str (Str.ofString "words") 356, Value.str (Str.ofString "row") 357, Value.str (Str.ofString "word") 358] } : Obj)) (List.cons
    (nat_lit 133, ({ cls := Value.type "tuple", data := Data.seq #[] } : Obj)) (List.cons
    (nat_lit 135, ({ cls := Value.type "code", data := Data.fields #[Value.str (Str.ofString "_law_row") 353, Value.str (Str.ofString "_law_row") 354, Value.str (Str.ofString "/claim/cut.py") 355, Value.int 129 0, Value.int 1 0, Value.int 0 0, Value.int 0 0, Value.int 3 0, Value.ref 130, Value.bool true, Value.int 181 0, Value.ref 131, Value.none, Value.ref 132, Value.ref 133, Value.ref 134, Value.int 359 0, Value.int 129 0, Value.str (Str.ofString "/claim/cut.py") 360] } : Obj)) (List.cons
    (nat_lit 136, ({ cls := Value.type "function", data := Data.func { name := Str.ofString "_law_row", qualname := Str.ofString "_law_row", params := a136, body := FuncBody.stmts b136, scope := c136, globals := 3, closure := [], defaults := Value.none, kwdefaults := Value.none, pyModule := Value.str (Str.ofString "law_sw0031_01") 324, code := Value.ref 135 } } : Obj)) (List.cons
    (nat_lit 137, ({ cls := Value.type "tuple", data := Data.seq #[] } : Obj)) (List.cons
    (nat_lit 139, ({ cls := Value.type "tuple", data := Data.seq #[Value.str (Str.ofString "lexer") 365, Value.str (Str.ofString "families") 366, Value.str (Str.ofString "tables") 367, Value.str (Str.ofString "row") 368, Value.str (Str.ofString "seated") 369, Value.str (Str.ofString "told") 370, Value.str (Str.ofString "family") 371, Value.str (Str.ofString "table") 372, Value.str (Str.ofString "standing") 373] } : Obj)) (List.cons
    (nat_lit 140, ({ cls := Value.type "tuple", data := Data.seq #[] } : Obj)) (List.cons
    (nat_lit 142, ({ cls := Value.type "code", data := Data.fields #[Value.str (Str.ofString "_law_seated") 362, Value.str (Str.ofString "_law_seated") 363, Value.str (Str.ofString "/claim/cut.py") 364, Value.int 134 0, Value.int 3 0, Value.int 0 0, Value.int 0 0, Value.int 3 0, Value.ref 137, Value.bool true, Value.int 181 0, Value.ref 138, Value.none, Value.ref 139, Value.ref 140, Value.ref 141, Value.int 374 0, Value.int 134 0, Value.str (Str.ofString "/claim/cut.py") 375] } : Obj)) (List.cons
    (nat_lit 143, ({ cls := Value.type "function", data := Data.func { name := Str.ofString "_law_seated", qualname := Str.ofString "_law_seated", params := a143, body := FuncBody.stmts b143, scope := c143, globals := 3, closure := [], defaults := Value.none, kwdefaults := Value.none, pyModule := Value.str (Str.ofString "law_sw0031_01") 324, code := Value.ref 142 } } : Obj)) (List.cons
    (nat_lit 144, ({ cls := Value.type "tuple", data := Data.seq #[] } : Obj)) (List.cons
    (nat_lit 147, ({ cls := Value.type "code", data := Data.fields #[Value.str (Str.ofString "_law_most") 377, Value.str (Str.ofString "_law_most") 378, Value.str (Str.ofString "/claim/cut.py") 379, Value.int 154 0, Value.int 2 0, Value.int 0 0, Value.int 0 0, Value.int 3 0, Value.ref 144, Value.bool true, Value.int 181 0, Value.ref 145, Value.none, Value.none, Value.none, Value.ref 146, Value.int 380 0, Value.int 154 0, Value.str (Str.ofString "/claim/cut.py") 381] } : Obj)) (List.cons
    (nat_lit 148, ({ cls := Value.type "function", data := Data.func { name := Str.ofString "_law_most", qualname := Str.ofString "_law_most", params := a148, body := FuncBody.stmts b148, scope := c148, globals := 3, closure := [], defaults := Value.none, kwdefaults := Value.none, pyModule := Value.str (Str.ofString "law_sw0031_01") 324, code := Value.ref 147 } } : Obj)) (List.cons
    (nat_lit 149, ({ cls := Value.type "tuple", data := Data.seq #[] } : Obj)) (List.cons
    (nat_lit 152, ({ cls := Value.type "code", data := Data.fields #[Value.str (Str.ofString "law") 383, Value.str (Str.ofString "law") 384, Value.str (Str.ofString "/claim/cut.py") 385, Value.int 160 0, Value.int 1 0, Value.int 0 0, Value.int 0 0, Value.int 3 0, Value.ref 149, Value.bool true, Value.int 181 0, Value.ref 150, Value.none, Value.none, Value.none, Value.ref 151, Value.int 386 0, Value.int 160 0, Value.str (Str.ofString "/claim/cut.py") 387] } : Obj)) (List.cons
    (nat_lit 153, ({ cls := Value.type "function", data := Data.func { name := Str.ofString "law", qualname := Str.ofString "law", params := a153, body := FuncBody.stmts b153, scope := c153, globals := 3, closure := [], defaults := Value.none, kwdefaults := Value.none, pyModule := Value.str (Str.ofString "law_sw0031_01") 324, code := Value.ref 152 } } : Obj)) List.nil))))))))))))))))))))))))))))))))))))))))))))))))))))))))))))))))))))))))))))))))))))))))))))))) : List (Nat × Obj)))
  rfl rfl rfl rfl rfl rfl rfl rfl rfl rfl rfl rfl rfl rfl rfl rfl rfl rfl
noncomputable def hd.view_39 : Program :=
  (fun {s0 s1 s2 s3 s4 s5 s6 s7 s8 s9 s10 s11 s12 s13 s14 s15 s16 s17 s18 : Stmt} (_ : PP.main.body = [s0, s1, s2, s3, s4, s5, s6, s7, s8, s9, s10, s11, s12, s13, s14, s15, s16, s17, s18]) =>
    { PP with main := { PP.main with body := [s1, s6, s7, s8, s9, s12, s13, s14, s15, s16, s17, s18] } }) rfl
theorem hd.said : PySem.Challenge.rw_sw0031_01.wellSaid = true := by
  delta OpenLaw.wellSaid
  repeat' (first | with_reducible refine look_both ?_ ?_ | (delta OpenRow.wellSaid; with_reducible refine look_both ?_ ?_) | (delta OpenRow.partSaid; with_reducible refine look_both ?_ ?_) | (delta looksOpen; with_reducible refine look_both ?_ ?_))
  all_goals (try rw [PySem.W.Fast.te8326940854005059898]); (try rw [PySem.W.Fast.te17119622794617984870]); decide +kernel
theorem hd.ads : ∀ P, ([2, 3, 22, 24, 25, 27, 28, 29, 31, 32, 34, 35, 36, 38, 39, 41, 42, 43, 45, 46, 48, 49, 50, 51, 52, 53, 54, 57, 58, 59, 61, 62, 64, 65, 66, 67, 68, 70, 71, 73, 74, 75, 77, 78, 80, 81, 82, 84, 85, 87, 88, 89, 91, 92, 94, 95, 96, 98, 99, 101, 102, 103, 104, 106, 107, 109, 110, 111, 113, 114, 116, 117, 118, 121, 122, 123, 125, 126, 128, 129, 130, 132, 133, 135, 136, 137, 139, 140, 142, 143, 144, 147, 148, 149, 152, 153] : List Addr) = (hd.heap_39 P).map (·.1) := fun _ => by kernel_rfl
noncomputable abbrev hd.hook : Hook := kmHook hd.heap_39 [2, 3, 22, 24, 25, 27, 28, 29, 31, 32, 34, 35, 36, 38, 39, 41, 42, 43, 45, 46, 48, 49, 50, 51, 52, 53, 54, 57, 58, 59, 61, 62, 64, 65, 66, 67, 68, 70, 71, 73, 74, 75, 77, 78, 80, 81, 82, 84, 85, 87, 88, 89, 91, 92, 94, 95, 96, 98, 99, 101, 102, 103, 104, 106, 107, 109, 110, 111, 113, 114, 116, 117, 118, 121, 122, 123, 125, 126, 128, 129, 130, 132, 133, 135, 136, 137, 139, 140, 142, 143, 144, 147, 148, 149, 152, 153] hd.ads [124]
abbrev hd.lo : List Str := [Str.ofString "insort_left", Str.ofString "bisect_left", Str.ofString "length_hint"]
theorem hd.left : LeftO PySem.Challenge.rw_sw0031_01.row.toRowW.prog hd.view_39 hd.lo (fun s => xlAt hd.view_39 [] s && recOk (RowW.records PySem.Challenge.rw_sw0031_01.row.toRowW) s) (Hook.obs hd.hook) (Hook.val hd.hook) 1742 := fun w => by
  delta openEnds
  delta topFrom
  rw [PySem.W.Fast.te14082659384304107361, PySem.W.Fast.te14364793385576792824, PySem.W.Fast.te4187177175401517315]
  kernel_rfl
theorem hd {d : DefRec} {kwd : List (Str × Expr)} (hdef : defOf hd.view_39 PySem.Challenge.rw_sw0031_01.row.name = some (d, kwd)) (hp : PySem.Challenge.rw_sw0031_01.row.toRowW.prog.theDef PySem.Challenge.rw_sw0031_01.row.name = some (d.params, d.body, d.scope))
    (hk : kwWritten? d.params.kwonlyargs d.params.kw_defaults = some kwd)
    (h : WalkO hd.view_39 hd.lo (XL hd.view_39 []) (Hook.says hd.hook) PySem.Challenge.rw_sw0031_01.row.toRowW d kwd fun f vs => PySem.call f vs) : PySem.Challenge.rw_sw0031_01.Holds := by
  w_on
  refine holds_law hd.said fun said => ?_
  refine holds_open hd.left (Hook.of hd.hook) (Hook.keeps hd.hook) (fun s e => xl_of s (Bool.and_eq_true_iff.mp e).1) XL.keeps hdef hp hk (fun s e => recFacts_of (Bool.and_eq_true_iff.mp e).2) rfl (by first | assumption | decide +kernel) (by decide +kernel) ⟨rfl, rfl, rfl, rfl, rfl, by decide +kernel⟩ ?_ h
  w_witness2
/-- the surroundings of a call: any def's frame -/
abbrev Aro (dp un : Nat) (gd : Option (List Code)) (cn : Str) (sn : List (Str × NameKind)) (ig ic : Bool) (sm : List (Str × Const)) (L a : Addr) (ccd : Value) (cl : List (Str × Addr)) (outer : List Env) : Around :=
  { handled := none, depth := dp, frames := some (envX cn ⟨.function, sn, ig, ic, sm⟩ L a ccd cl :: outer), guards := gd, units := un }
/-- what a call does, over any ledger it is handed -/
def Does (prog : Program) (w : World) (lv : Nat) (f : Value) (vs : List Value) (kw : List (Str × Value)) (news : List (Addr × Obj)) (Ret : Value → List (Addr × Obj) → Prop) : Prop :=
  ∀ (p : Program) (loose : List Str) (mean : ExcName → Option Value) (mg mb : Str → Option Value) (dp un : Nat) (gd : Option (List Code)) (cn : Str) (sn : List (Str × NameKind)) (ig ic : Bool) (sm : List (Str × Const)) (a : Addr) (ccd : Value) (cl : List (Str × Addr)) (outer : List Env) (A₀ : Around) (base h₀ : Heap) (L : Addr) (m : Str → Option Value) (s : Shared) (Q E : Value → Shared → Prop),
    Below A₀ base outer h₀ → CodeHd base 128 124 → Fr h₀ L s.heap m → (hd.heap_39 w.params).In h₀ → News h₀ L s.heap news → Top p loose mean mg mb h₀ → dp + (4 + 4 * lv) < recursionLimit → un + (60 + 60 * lv) < cLine →
    (∀ r news' h' tk', Fr h₀ L h' m → News h₀ L h' news' → Ret r news' → Q r { s with heap := h', toks := tk' }) →
    codeAny (model prog w) (Aro dp un gd cn sn ig ic sm L a ccd cl outer) (.call f ⟨vs, kw⟩) (fun r s' => match r with | .ok (.ret v) => Q v s' | .ok _ => False | .error e => E e s') s
theorem Does.use {prog : Program} {w : World} {lv : Nat} {f : Value} {vs : List Value} {kw : List (Str × Value)} {news : List (Addr × Obj)} {Ret : Value → List (Addr × Obj) → Prop} (H : Does prog w lv f vs kw news Ret)
    {p : Program} {loose : List Str} {mean : ExcName → Option Value} {mg mb : Str → Option Value} {dp un : Nat} {gd : Option (List Code)} {cn : Str} {sn : List (Str × NameKind)} {ig ic : Bool} {sm : List (Str × Const)} {a : Addr} {ccd : Value} {cl : List (Str × Addr)} {outer : List Env} {A₀ : Around} {base h₀ : Heap} {L : Addr} {m : Str → Option Value} {s : Shared} {Q E : Value → Shared → Prop}
    (B : Below A₀ base outer h₀) (C : CodeHd base 128 124) (F : Fr h₀ L s.heap m) (X : (hd.heap_39 w.params).In h₀) (N : News h₀ L s.heap news) (T : Top p loose mean mg mb h₀) (hr : dp + (4 + 4 * lv) < recursionLimit) (hu : un + (60 + 60 * lv) < cLine)
    (k : ∀ r news' h' tk', Fr h₀ L h' m → News h₀ L h' news' → Ret r news' → Q r { s with heap := h', toks := tk' }) :
    wpAny (model prog w) (Aro dp un gd cn sn ig ic sm L a ccd cl outer) (call f vs kw) Q E s := wpAny_call (H _ _ _ _ _ _ _ _ _ _ _ _ _ _ _ _ _ _ _ _ _ _ _ _ _ B C F X N T hr hu k)
theorem Does.useC {prog : Program} {w : World} {lv : Nat} {f : Value} {vs : List Value} {kw : List (Str × Value)} {news : List (Addr × Obj)} {Ret : Value → List (Addr × Obj) → Prop} (H : Does prog w lv f vs kw news Ret)
    {p : Program} {loose : List Str} {mean : ExcName → Option Value} {mg mb : Str → Option Value} {dp un : Nat} {gd : Option (List Code)} {cn : Str} {sn : List (Str × NameKind)} {ig ic : Bool} {sm : List (Str × Const)} {a : Addr} {ccd : Value} {cl : List (Str × Addr)} {outer : List Env} {A₀ : Around} {base h₀ : Heap} {L : Addr} {m : Str → Option Value} {s : Shared} {Q E : Value → Shared → Prop}
    (B : Below A₀ base outer h₀) (C : CodeHd base 128 124) (F : Fr h₀ L s.heap m) (X : (hd.heap_39 w.params).In h₀) (N : News h₀ L s.heap news) (T : Top p loose mean mg mb h₀) (hr : dp + (4 + 4 * lv) < recursionLimit) (hu : un + (60 + 60 * lv) < cLine)
    (k : ∀ r news' h' tk', Fr h₀ L h' m → News h₀ L h' news' → Ret r news' → Q r { s with heap := h', toks := tk' }) :
    codeAny (model prog w) (Aro dp un gd cn sn ig ic sm L a ccd cl outer) (.call f ⟨vs, kw⟩) (fun r s' => match r with | .ok (.ret v) => Q v s' | .ok _ => False | .error e => E e s') s := H _ _ _ _ _ _ _ _ _ _ _ _ _ _ _ _ _ _ _ _ _ _ _ _ _ B C F X N T hr hu k
theorem fill_J : (fun (_ : Params → Frag) (_ : OpenLaw) => True) hd.heap_39 PySem.Challenge.rw_sw0031_01 := by
  k_fill
  trivial
variable {prog : Program} {w : World} {news : List (Addr × Obj)}
set_option pp.maxSteps 300
set_option pp.deepTerms false
local macro_rules | `(tactic| k_room) => `(tactic| ktr_room)
local macro_rules | `(tactic| k_units) => `(tactic| ktr_units)
local macro_rules | `(tactic| walk_at "cj") => `(tactic| (rename (_ < _ ∧ _) => hc9; first | exact Nat.ne_of_lt (by simp only [hc9]) | exact Nat.ne_of_gt (by simp only [hc9]) | (clear hc9; walk_at "cj")))
local macro_rules | `(tactic| k_ne) => `(tactic| (refine neN ?_; (try dsimp only); first | exact Nat.ne_of_lt (by assumption) | exact Nat.ne_of_gt (by assumption) | walk_at "cj" | omega))
local macro_rules | `(tactic| k_all) => `(tactic| first | exact List.forall_mem_nil _ | (refine' List.forall_mem_cons.mpr ⟨?a, ?b⟩; (case a => k_ne); (case b => k_all)))
local macro_rules | `(tactic| kmk_nums) => `(tactic| first | ((refine' kmk_run ?gi ?gx ?gy); (case gi => l_ints); (case gx => kmk_sign); (case gy => kmk_sign)) | ((refine' kmk_from ?gi ?gx); (case gi => l_ints); (case gx => kmk_sign)) | ((refine' kmk_upto ?gi ?gx); (case gi => l_ints); (case gx => kmk_sign)))
local macro_rules | `(tactic| k_in) => `(tactic| first | assumption | exact Frag.In.keeps (by k_asm) (Fr.keep (by k_asm)))
local macro_rules | `(tactic| walk_at "callWith ref") => `(tactic| (k_here; k_dflt (first | (refine' callWith_K ?k1 ?k2 ?_; (case k1 => k_asm); (case k2 => k_is); k_whole) | (refine' callWith_K0 ?k1 ?k2 ?_; (case k1 => k_in); (case k2 => k_is); k_whole))))
theorem lt_does {a b : Int} {ta tb : Tok} : Does prog w 0 (.ref 81) [.int a ta, .int b tb] [] news (fun r nw => r = .bool (decide (a < b)) ∧ nw = news) := by
  ((unfold Does; intro _ _ _ _ _ _ _ _ _ _ _ _ _ _ _ _ _ _ _ _ _ _ _ _ _ _ _ _ _ _ _ _ _ _; w_top off; k_dflt k_enter))
  k_steps
  ((rename (∀ (_ : Value) (_ : List (Addr × Obj)) (_ : Heap) (_ : Nat), _) => hret9; exact hret9 _ _ _ _ (by assumption) (by assumption) (by first | exact ⟨rfl, rfl⟩ | exact ⟨⟨_, rfl⟩, rfl⟩)))
theorem add_does {a b : Int} {ta tb : Tok} : Does prog w 0 (.ref 88) [.int a ta, .int b tb] [] news (fun r nw => (∃ t, r = .int (a + b) t) ∧ nw = news) := by
  ((unfold Does; intro _ _ _ _ _ _ _ _ _ _ _ _ _ _ _ _ _ _ _ _ _ _ _ _ _ _ _ _ _ _ _ _ _ _; w_top off; k_dflt k_enter))
  k_steps
  ((rename (∀ (_ : Value) (_ : List (Addr × Obj)) (_ : Heap) (_ : Nat), _) => hret9; exact hret9 _ _ _ _ (by assumption) (by assumption) (by first | exact ⟨rfl, rfl⟩ | exact ⟨⟨_, rfl⟩, rfl⟩)))
theorem sub_does {a b : Int} {ta tb : Tok} : Does prog w 0 (.ref 95) [.int a ta, .int b tb] [] news (fun r nw => (∃ t, r = .int (a - b) t) ∧ nw = news) := by
  ((unfold Does; intro _ _ _ _ _ _ _ _ _ _ _ _ _ _ _ _ _ _ _ _ _ _ _ _ _ _ _ _ _ _ _ _ _ _; w_top off; k_dflt k_enter))
  k_steps
  ((rename (∀ (_ : Value) (_ : List (Addr × Obj)) (_ : Heap) (_ : Nat), _) => hret9; exact hret9 _ _ _ _ (by assumption) (by assumption) (by first | exact ⟨rfl, rfl⟩ | exact ⟨⟨_, rfl⟩, rfl⟩)))
theorem length_hint_does {x : Str} {tx : Tok} (hx : x.length < 2 ^ 20) : Does prog w 0 (.ref 110) [.str x tx] [] news (fun r nw => (∃ t, r = .int x.length t) ∧ nw = news) := by
  ((unfold Does; intro _ _ _ _ _ _ _ _ _ _ _ _ _ _ _ _ _ _ _ _ _ _ _ _ _ _ _ _ _ _ _ _ _ _; w_top off; k_dflt k_enter))
  k_steps
  ((rename (∀ (_ : Value) (_ : List (Addr × Obj)) (_ : Heap) (_ : Nat), _) => hret9; exact hret9 _ _ _ _ (by assumption) (by assumption) (by first | exact ⟨rfl, rfl⟩ | exact ⟨⟨_, rfl⟩, rfl⟩)))
local macro_rules | `(tactic| walk_at "call builtin:len") => `(tactic| (k_here; (with_reducible show wpAny _ _ (call (Value.builtin "len") [Value.ref _]) _ _ _); refine len_list (News.isList (by k_asm) (by (first | assumption | k_mem))) (by (simp only [List.size_toArray]); omega) ?_))
theorem frKnow {h₀ h : Heap} {L : Addr} {m : Str → Option Value} (F : Fr h₀ L h m) (ps : List (Str × Value)) (e : ∀ p ∈ ps, m p.1 = some p.2) : Fr h₀ L h (fun y => (ps.lookup y).or (m y)) := by
  have : (fun y => (ps.lookup y).or (m y)) = m := by
    funext y
    induction ps with
    | nil => rfl
    | cons p r ih =>
      obtain ⟨k, v⟩ := p
      rw [List.lookup_cons]
      by_cases hy : y = k
      · subst hy
        simp only [beq_self_eq_true, Option.or_some]
        exact (e _ (.head _)).symm
      · have : (y == k) = false := by simpa using hy
        simp only [this]
        exact ih fun p hp => e p (.tail _ hp)
  rw [this]; exact F
theorem item_strs {A : Around} {E : Value → Shared → Prop} {s : Shared} {h₀ : Heap} {L l : Addr} {vs : List Value} {ws : List Str} {n : Nat} {k : Int} {u : Tok} {value slice : Expr} {Q : Value → Shared → Prop}
    (N : News h₀ L s.heap news) (hm : (l, listOf vs.toArray n) ∈ news) (hs : StrsAre vs ws) (h0 : 0 ≤ k) (hk : k < ws.length) (hfit : ws.length < 2 ^ 62) (hb : ∀ y ∈ ws, y.length < 2 ^ 10) (h : ∀ y t, ws[k.toNat]? = some y → y.length < 2 ^ 10 → Q (.str y t) s)
    (hsl : subscripted slice false (.ref l) (.int k u) = operate [.ref l, .int k u] (getItem (.ref l) (.int k u)) := by with_unfolding_all rfl) (hg : ∀ r, letTemporaryGo value (.ref l) r = pure () := by intro _; with_unfolding_all rfl) :
    wpAny (model prog w) A (subscriptTail value slice (.ref l) (.int k u)) Q E s := by
  obtain ⟨y, hy⟩ : ∃ y, ws[k.toNat]? = some y := ⟨ws[k.toNat]'(by omega), by simp⟩
  obtain ⟨t, ht⟩ := hs.get _ _ hy
  exact item_list (News.isList N hm) h0 (by omega) (by simpa using ht) (h y t hy (hb _ (List.mem_of_getElem? hy))) hsl hg
theorem fdiv2 (a : Int) : Int.fdiv a 2 = a / 2 := Int.fdiv_eq_ediv_of_nonneg a (by decide)
local macro_rules | `(tactic| walk_at "subscriptTail Name Name ref int") => `(tactic| (k_here; (rename StrsAre _ _ => hs9); (k_dflt (refine' item_strs ?N ?hm hs9 ?h0 ?hk ?hf ?hb ?_; (case N => k_asm); (case hm => (first | assumption | k_mem)); (case h0 => (first | omega | ((try simp only [fdiv2] at *); omega))); (case hk => (first | omega | ((try simp only [fdiv2] at *); omega))); (case hf => (first | omega | ((try simp only [fdiv2] at *); omega))); (case hb => assumption))); intro y9 t9 hy9 hyl9))
local macro_rules | `(tactic| walk_at "call ref") => `(tactic| ((with_reducible show wpAny _ _ (call (Value.ref 110) [Value.str _ _] _) _ _ _); (k_dflt (refine' Does.use (length_hint_does (by omega)) ?B ?C ?F ?X ?N ?T ?hr ?hu ?_; (((case B => k_asm); (case C => assumption); (case F => k_asm); (case X => k_asm); (case N => k_asm); (case T => k_asm); (case hr => (first | exact Nat.lt_of_le_of_lt (Nat.add_le_add_left (by decide) _) (by assumption) | omega | ktr_room)); (case hu => (first | exact Nat.lt_of_le_of_lt (Nat.add_le_add_left (by decide) _) (by assumption) | ktr_units | omega)))))); (intro r9 nw9 h9 tk9 F9 N9 H9; obtain ⟨⟨t9, e9⟩, n9⟩ := H9; subst e9; subst n9); (try k_sweep)))
/-- rising by length -/
def Rising (ws : List Str) : Prop := ws.Pairwise fun y z => y.length ≤ z.length
theorem count_at (ws : List Str) (x : Int) (k : Nat) (hk : k ≤ ws.length) (h1 : ∀ y ∈ ws.take k, (y.length : Int) < x) (h2 : ∀ y ∈ ws.drop k, ¬ (y.length : Int) < x) :
    ws.countP (fun y => (y.length : Int) < x) = k := by
  conv => lhs; rw [← List.take_append_drop k ws]
  rw [List.countP_append, List.countP_eq_length.mpr (by simpa using h1), List.countP_eq_zero.mpr (by simpa using h2)]
  simp; omega
theorem take_lt {ws : List Str} {x : Int} {k : Nat} {y : Str} (hr : Rising ws) (hy : ws[k]? = some y) (hx : (y.length : Int) < x) : ∀ z ∈ ws.take (k + 1), (z.length : Int) < x := by
  intro z hz
  obtain ⟨hk, rfl⟩ := List.getElem?_eq_some_iff.mp hy
  obtain ⟨i, hi, rfl⟩ := List.mem_iff_getElem.mp hz
  rw [List.length_take] at hi
  rw [List.getElem_take]
  rcases Nat.lt_or_ge i k with h | h
  · have := List.pairwise_iff_getElem.mp hr i k (by omega) hk h
    omega
  · have : i = k := by omega
    subst this; exact hx
theorem drop_ge {ws : List Str} {x : Int} {k : Nat} {y : Str} (hr : Rising ws) (hy : ws[k]? = some y) (hx : ¬ (y.length : Int) < x) : ∀ z ∈ ws.drop k, ¬ (z.length : Int) < x := by
  intro z hz
  obtain ⟨hk, rfl⟩ := List.getElem?_eq_some_iff.mp hy
  obtain ⟨i, hi, rfl⟩ := List.mem_iff_getElem.mp hz
  rw [List.length_drop] at hi
  rw [List.getElem_drop]
  rcases Nat.eq_zero_or_pos i with h | h
  · subst h; exact hx
  · have := List.pairwise_iff_getElem.mp hr k (k + i) hk (by omega) (by omega)
    omega
/-- between two halvings -/
inductive InvB (news : List (Addr × Obj)) (l : Nat) (ws : List Str) (x : Int) (tx : Tok) (n : Nat) (m : Str → Option Value) (nx : List (Addr × Obj)) : Prop
  | mk (lo hi : Nat) (tl th : Tok) (e0 : n = hi - lo) (e : nx = news) (h1 : lo ≤ hi) (h2 : hi ≤ ws.length) (h3 : ∀ y ∈ ws.take lo, (y.length : Int) < x) (h4 : ∀ y ∈ ws.drop hi, ¬ (y.length : Int) < x)
    (e1 : m (Str.ofString "a") = some (.ref l)) (e2 : m (Str.ofString "x") = some (.int x tx)) (e3 : m (Str.ofString "key") = some (.ref 110)) (e4 : m (Str.ofString "lo") = some (.int lo tl)) (e5 : m (Str.ofString "hi") = some (.int hi th))
theorem bisect_does {l : Addr} {vs : List Value} {ws : List Str} {n : Nat} {x : Int} {tx tl : Tok} (hl : (l, listOf vs.toArray n) ∈ news) (hs : StrsAre vs ws) (hsl : vs.length = ws.length) (hn : ws.length < 2 ^ 10) (hw : ∀ y ∈ ws, y.length < 2 ^ 10) (hr : Rising ws) :
    Does prog w 1 (.ref 74) [.ref l, .int x tx, .int 0 tl, .none] [((Str.ofString "key"), .ref 110)] news (fun r nw => (∃ t, r = .int (ws.countP fun y => (y.length : Int) < x) t) ∧ nw = news) := by
  ((unfold Does; intro _ _ _ _ _ _ _ _ _ _ _ _ _ _ _ _ _ _ _ _ _ _ _ _ _ _ _ _ _ _ _ _ _ _; w_top off; k_dflt k_enter))
  (((try (show wpAny _ _ _ _ _ _; k_fold)); repeat' (first | (k_unfold; (try dsimp only)) | ((fail_if_success (first | first | (with_reducible show wpAny _ _ (exec (Stmt.While _ _ _ _) _) _ _ _) | (with_reducible show wpAny _ _ (exec (Stmt.For _ _ _ _ _) _) _ _ _))); first | walk1 | (dsimp only; walk1)) | fail "no step")))
  rename (Fr _ _ _ _) => F1
  rename (News _ _ _ _) => N1
  refine While_inv2 (fun n m nx => InvB news l ws x tx n m nx) F1 N1
    ⟨0, ws.length, _, _, rfl, rfl, Nat.zero_le _, Nat.le_refl _, by simp, by simp, rfl, rfl, rfl, rfl, by rw [← hsl]; rfl⟩ ?_
  clear F1 N1
  rintro n' m₁ nx h₁ tk₁ F₁ N₁ ⟨lo, hi, tl, th, rfl, hnx, hlh, hhn, hlo, hhi, ea, ex, ek, elo, ehi⟩
  subst hnx
  replace F₁ := frKnow F₁ [(Str.ofString "a", .ref l), (Str.ofString "x", .int x tx), (Str.ofString "key", .ref 110), (Str.ofString "lo", .int lo tl), (Str.ofString "hi", .int hi th)] (by simp [ea, ex, ek, elo, ehi])
  (((try (show wpAny _ _ _ _ _ _; k_fold)); repeat' (first | (k_unfold; (try dsimp only)) | ((fail_if_success (first | first | (with_reducible show wpAny _ _ (exec (Stmt.While _ _ _ _) _) _ _ _) | (with_reducible show wpAny _ _ (exec (Stmt.For _ _ _ _ _) _) _ _ _))); first | walk1 | (dsimp only; walk1)) | fail "no step")))
  all_goals (try (rename (ws[_]? = some _) => hy9; have hmid : ((lo : Int) + (hi : Int)).fdiv 2 = (((lo + hi) / 2 : Nat) : Int) := (by rw [fdiv2]; omega); simp only [hmid, Int.toNat_natCast] at *))
  · refine ⟨_, _, _, _, _, rfl, by assumption, by assumption, ?_, (lo + hi) / 2 + 1, hi, _, _, rfl, rfl, by omega, by omega, take_lt hr hy9 (by assumption), hhi, rfl, rfl, rfl, rfl, rfl⟩
    omega
  · refine ⟨_, _, _, _, _, rfl, by assumption, by assumption, ?_, lo, (lo + hi) / 2, _, _, rfl, rfl, by omega, by omega, hlo, drop_ge hr hy9 (by assumption), rfl, rfl, rfl, rfl, rfl⟩
    omega
  · have e : lo = hi := by omega
    subst e
    rename (∀ (_ : Value) (_ : List (Addr × Obj)) (_ : Heap) (_ : Nat), _) => hret9
    exact hret9 _ _ _ _ (by assumption) (by assumption) ⟨⟨_, by rw [count_at ws x lo hhn hlo hhi]⟩, rfl⟩
theorem bisect2_does {l : Addr} {vs : List Value} {ws : List Str} {n : Nat} {x : Int} {tx : Tok} (hl : (l, listOf vs.toArray n) ∈ news) (hs : StrsAre vs ws) (hsl : vs.length = ws.length) (hn : ws.length < 2 ^ 10) (hw : ∀ y ∈ ws, y.length < 2 ^ 10) (hr : Rising ws) :
    Does prog w 1 (.ref 74) [.ref l, .int x tx] [((Str.ofString "key"), .ref 110)] news (fun r nw => (∃ t, r = .int (ws.countP fun y => (y.length : Int) < x) t) ∧ nw = news) := by
  ((unfold Does; intro _ _ _ _ _ _ _ _ _ _ _ _ _ _ _ _ _ _ _ _ _ _ _ _ _ _ _ _ _ _ _ _ _ _; w_top off; k_dflt k_enter))
  (((try (show wpAny _ _ _ _ _ _; k_fold)); repeat' (first | (k_unfold; (try dsimp only)) | ((fail_if_success (first | first | (with_reducible show wpAny _ _ (exec (Stmt.While _ _ _ _) _) _ _ _) | (with_reducible show wpAny _ _ (exec (Stmt.For _ _ _ _ _) _) _ _ _))); first | walk1 | (dsimp only; walk1)) | fail "no step")))
  rename (Fr _ _ _ _) => F1
  rename (News _ _ _ _) => N1
  refine While_inv2 (fun n m nx => InvB news l ws x tx n m nx) F1 N1
    ⟨0, ws.length, _, _, rfl, rfl, Nat.zero_le _, Nat.le_refl _, by simp, by simp, rfl, rfl, rfl, rfl, by rw [← hsl]; rfl⟩ ?_
  clear F1 N1
  rintro n' m₁ nx h₁ tk₁ F₁ N₁ ⟨lo, hi, tl, th, rfl, hnx, hlh, hhn, hlo, hhi, ea, ex, ek, elo, ehi⟩
  subst hnx
  replace F₁ := frKnow F₁ [(Str.ofString "a", .ref l), (Str.ofString "x", .int x tx), (Str.ofString "key", .ref 110), (Str.ofString "lo", .int lo tl), (Str.ofString "hi", .int hi th)] (by simp [ea, ex, ek, elo, ehi])
  (((try (show wpAny _ _ _ _ _ _; k_fold)); repeat' (first | (k_unfold; (try dsimp only)) | ((fail_if_success (first | first | (with_reducible show wpAny _ _ (exec (Stmt.While _ _ _ _) _) _ _ _) | (with_reducible show wpAny _ _ (exec (Stmt.For _ _ _ _ _) _) _ _ _))); first | walk1 | (dsimp only; walk1)) | fail "no step")))
  all_goals (try (rename (ws[_]? = some _) => hy9; have hmid : ((lo : Int) + (hi : Int)).fdiv 2 = (((lo + hi) / 2 : Nat) : Int) := (by rw [fdiv2]; omega); simp only [hmid, Int.toNat_natCast] at *))
  · refine ⟨_, _, _, _, _, rfl, by assumption, by assumption, ?_, (lo + hi) / 2 + 1, hi, _, _, rfl, rfl, by omega, by omega, take_lt hr hy9 (by assumption), hhi, rfl, rfl, rfl, rfl, rfl⟩
    omega
  · refine ⟨_, _, _, _, _, rfl, by assumption, by assumption, ?_, lo, (lo + hi) / 2, _, _, rfl, rfl, by omega, by omega, hlo, drop_ge hr hy9 (by assumption), rfl, rfl, rfl, rfl, rfl⟩
    omega
  · have e : lo = hi := by omega
    subst e
    rename (∀ (_ : Value) (_ : List (Addr × Obj)) (_ : Heap) (_ : Nat), _) => hret9
    exact hret9 _ _ _ _ (by assumption) (by assumption) ⟨⟨_, by rw [count_at ws x lo hhn hlo hhi]⟩, rfl⟩
local macro_rules | `(tactic| walk_at "call ref") => `(tactic| ((with_reducible show wpAny _ _ (call (Value.ref 74) [Value.ref _, Value.int _ _, Value.int 0 _, Value.none] _) _ _ _); (k_dflt (refine' Does.use (bisect_does ?g1 ?g2 ?g3 ?g4 ?g5 ?g6) ?B ?C ?F ?X ?N ?T ?hr ?hu ?_; (((case B => k_asm); (case C => assumption); (case F => k_asm); (case X => k_asm); (case N => k_asm); (case T => k_asm); (case hr => (first | exact Nat.lt_of_le_of_lt (Nat.add_le_add_left (by decide) _) (by assumption) | omega | ktr_room)); (case hu => (first | exact Nat.lt_of_le_of_lt (Nat.add_le_add_left (by decide) _) (by assumption) | ktr_units | omega)))); (case g1 => (first | assumption | k_mem)); (case g2 => assumption); (case g3 => assumption); (case g4 => assumption); (case g5 => assumption); (case g6 => assumption))); (intro r9 nw9 h9 tk9 F9 N9 H9; obtain ⟨⟨t9, e9⟩, n9⟩ := H9; subst e9; subst n9); (try k_sweep)))
/-- put in behind the shorter ones -/
def insW (ws : List Str) (x : Str) : List Str := ws.take (ws.countP fun y => (y.length : Int) < (x.length : Int)) ++ x :: ws.drop (ws.countP fun y => (y.length : Int) < (x.length : Int))
theorem insW_length (ws : List Str) (x : Str) : (insW ws x).length = ws.length + 1 := by
  have := List.countP_le_length (p := fun y : Str => decide ((y.length : Int) < (x.length : Int))) (l := ws)
  simp [insW]; omega
theorem strs_cons {y : Str} {t : Tok} {vs : List Value} {ws : List Str} (h : StrsAre vs ws) : StrsAre (.str y t :: vs) (y :: ws) := by
  constructor; assumption
theorem insW_strs {vs : List Value} {ws : List Str} {x : Str} {t : Tok} (h : StrsAre vs ws) : StrsAre (kl_ins vs (ws.countP fun y => (y.length : Int) < (x.length : Int)) (.str x t)) (insW ws x) := by
  have := List.countP_le_length (p := fun y : Str => decide ((y.length : Int) < (x.length : Int))) (l := ws)
  have hl := h.length
  unfold kl_ins insW
  rw [if_neg (by omega), Int.toNat_natCast, Nat.min_eq_left (by omega)]
  exact (h.take' _).append' (strs_cons (h.drop' _))
theorem insert_own {A : Around} {E : Value → Shared → Prop} {s : Shared} {h₀ : Heap} {L l : Addr} {m : Str → Option Value} {vs : List Value} {n : Nat} {x : Int} {u : Tok} {y : Value} {own : List (Addr × Obj)} {Q : Value → Shared → Prop}
    (F : Fr h₀ L s.heap m) (N : News h₀ L s.heap ((l, listOf vs.toArray n) :: own)) (hoff : ∀ p ∈ own, p.1 ≠ l) (h0 : 0 ≤ x) (h1 : x < 2 ^ 62) (hz : vs.length < 2 ^ 20)
    (h : ∀ h', Fr h₀ L h' m → News h₀ L h' ((l, listOf (kl_ins vs x y).toArray (n + 1)) :: own) → Q .none { s with heap := h' }) :
    wpAny (model prog w) A (call (.builtin "list.insert") [.ref l, .int x u, y]) Q E s :=
  kl_insert F N (by simp [Builtin.List.listFitsIndex]; omega) rfl (.head hoff) (by rw [sizeLine_eq]; simp; omega) h
local macro_rules | `(tactic| walk_at "call builtin:list.insert") => `(tactic| (k_here; (k_dflt (refine' insert_own ?F ?N ?ho ?h0 ?h1 ?hz ?_; (case F => k_asm); (case N => k_asm); (case ho => assumption); (case h0 => omega); (case h1 => omega); (case hz => omega))); intro h9 F9 N9; (try k_sweep)))
theorem insort_does {l : Addr} {vs : List Value} {ws : List Str} {n : Nat} {x : Str} {tx : Tok} {own : List (Addr × Obj)} (hoff : ∀ p ∈ own, p.1 ≠ l) (hs : StrsAre vs ws) (hsl : vs.length = ws.length) (hn : ws.length < 2 ^ 10) (hw : ∀ y ∈ ws, y.length < 2 ^ 10) (hx : x.length < 2 ^ 10) (hr : Rising ws) :
    Does prog w 2 (.ref 65) [.ref l, .str x tx] [((Str.ofString "key"), .ref 110)] ((l, listOf vs.toArray n) :: own) (fun r nw => r = .none ∧ ∃ vs' n', nw = (l, listOf vs'.toArray n') :: own ∧ StrsAre vs' (insW ws x)) := by
  have hcount := List.countP_le_length (p := fun y : Str => decide ((y.length : Int) < (x.length : Int))) (l := ws)
  ((unfold Does; intro _ _ _ _ _ _ _ _ _ _ _ _ _ _ _ _ _ _ _ _ _ _ _ _ _ _ _ _ _ _ _ _ _ _; w_top off; k_dflt k_enter))
  (((try (show wpAny _ _ _ _ _ _; k_fold)); repeat' (first | (k_unfold; (try dsimp only)) | ((fail_if_success (first | first | (with_reducible show wpAny _ _ (exec (Stmt.While _ _ _ _) _) _ _ _) | (with_reducible show wpAny _ _ (exec (Stmt.For _ _ _ _ _) _) _ _ _))); first | walk1 | (dsimp only; walk1)) | fail "no step")))
  rename (∀ (_ : Value) (_ : List (Addr × Obj)) (_ : Heap) (_ : Nat), _) => hret9
  exact hret9 _ _ _ _ (by assumption) (by assumption) ⟨rfl, _, _, rfl, insW_strs hs⟩
/-- where the lexer's objects lie, and what of them never turns -/
structure LexA where
  (l x d l2 x2 d2 f c pl cp ct : Nat)
  (foc : Value) (fod : Option Addr) (fofd : FuncData) (fosl : Array (Option Value))
  (co cpo cto : Obj)
  (k1 k2 k3 k4 kw e1 e2 e3 e4 e5 v1 vw : Tok)
  ns : Nat
abbrev LexA.fo (a : LexA) : Obj := ⟨a.foc, a.fod, .func a.fofd, a.fosl⟩
abbrev readLed (a : LexA) (p : Int) (tp : Tok) : List (Addr × Obj) := [(a.f, a.fo), (a.c, a.co), (a.pl, listOf #[.int p tp] 0), (a.cp, a.cpo), (a.ct, a.cto)]
/-- the lexer's objects but the stream's read: line n, pushed back pb -/
abbrev lexRest (w : World) (a : LexA) (n : Int) (tn : Tok) (pb : List Value) (np : Nat) : List (Addr × Obj) :=
  [(a.l, listOf pb.toArray np), (a.x, instObj 52 a.d),
   (a.d, dictOf [⟨PyData.keyHash w.params (Str.ofString "lineno"), .str (Str.ofString "lineno") a.k1, .int n tn⟩, ⟨PyData.keyHash w.params (Str.ofString "instream"), .str (Str.ofString "instream") a.k2, .ref a.x2⟩, ⟨PyData.keyHash w.params (Str.ofString "whitespace"), .str (Str.ofString "whitespace") a.k3, .str (Str.ofString "\n\t\x0d ") a.kw⟩, ⟨PyData.keyHash w.params (Str.ofString "pushback"), .str (Str.ofString "pushback") a.k4, .ref a.l⟩] 4),
   (a.l2, listOf #[] 0), (a.x2, instObj 52 a.d2),
   (a.d2, dictOf [⟨PyData.keyHash w.params (Str.ofString "lineno"), .str (Str.ofString "lineno") a.e1, .int 1 a.v1⟩, ⟨PyData.keyHash w.params (Str.ofString "instream"), .str (Str.ofString "instream") a.e2, .none⟩, ⟨PyData.keyHash w.params (Str.ofString "whitespace"), .str (Str.ofString "whitespace") a.e3, .str (Str.ofString "\n\t\x0d ") a.vw⟩, ⟨PyData.keyHash w.params (Str.ofString "pushback"), .str (Str.ofString "pushback") a.e4, .ref a.l2⟩, ⟨PyData.keyHash w.params (Str.ofString "read"), .str (Str.ofString "read") a.e5, .ref a.f⟩] 5)]
/-- the lexer's objects: line n, pushed back pb, place p -/
abbrev lexLed (w : World) (a : LexA) (n : Int) (tn : Tok) (pb : List Value) (np : Nat) (p : Int) (tp : Tok) : List (Addr × Obj) := lexRest w a n tn pb np ++ readLed a p tp
/-- they lie one behind the other -/
def LexA.Up (a : LexA) : Prop := a.ct < a.cp ∧ a.cp < a.pl ∧ a.pl < a.c ∧ a.c < a.f ∧ a.f < a.d2 ∧ a.d2 < a.x2 ∧ a.x2 < a.l2 ∧ a.l2 < a.d ∧ a.d < a.x ∧ a.x < a.l
/-- the sign at a place, or none -/
def charAt (x : Str) (p : Nat) : Str := ⟨x.cps.extract p (p + 1)⟩
/-- what the stream's read does -/
def ReadFn (prog : Program) (w : World) (a : LexA) (x : Str) : Prop :=
  ∀ (p : Nat) (tp t : Tok) (own : List (Addr × Obj)), OwnOff own [a.pl] → p < 2 ^ 30 →
    Does prog w 0 (.ref a.f) [.int 1 t] [] (readLed a p tp ++ own) (fun r nw => ∃ tp' t', r = .str (charAt x p) t' ∧ nw = readLed a (p + 1 : Nat) tp' ++ own)
theorem range1 (p : Nat) : sliceRange (p : Int) ((p : Int) + 1) 1 = [p] := by
  unfold sliceRange
  rw [if_pos (by decide : (1 : Int) > 0), if_pos (by omega), show ((p : Int) + 1 - p + 1 - 1) / 1 = 1 by omega]
  simp
theorem range0 (p : Nat) : sliceRange (p : Int) (p : Int) 1 = [] := by
  unfold sliceRange
  rw [if_pos (by decide : (1 : Int) > 0), if_neg (by omega)]
  simp
theorem slice1 (x : Str) (p : Nat) : Txt.slice x (some (p : Int)) (some ((p : Int) + 1)) = charAt x p := by
  have hl : x.length = x.cps.size := rfl
  have hI : Builtin.Str.strSliceIndices (some (p : Int)) (some ((p : Int) + 1)) 1 x.length = if p < x.length then [p] else [] := by
    have h1 : ¬ (p : Int) < 0 := by omega
    have h2 : ¬ (p : Int) + 1 < 0 := by omega
    have e : Builtin.Str.strSliceIndices (some (p : Int)) (some ((p : Int) + 1)) 1 x.length = sliceRange (max 0 (min (p : Int) (x.length : Int))) (max 0 (min ((p : Int) + 1) (x.length : Int))) 1 := by
      unfold Builtin.Str.strSliceIndices
      dsimp only
      rw [if_neg h1, if_neg h2, if_pos (by decide), if_pos (by decide)]
    rw [e]
    by_cases h : p < x.length
    · rw [if_pos h, show max 0 (min (p : Int) (x.length : Int)) = p by omega, show max 0 (min ((p : Int) + 1) (x.length : Int)) = p + 1 by omega, range1]
    · rw [if_neg h, show max 0 (min (p : Int) (x.length : Int)) = (x.length : Int) by omega, show max 0 (min ((p : Int) + 1) (x.length : Int)) = (x.length : Int) by omega, range0]
  unfold Txt.slice charAt
  rw [hI]
  by_cases h : p < x.length
  · rw [if_pos h]
    split
    · rename_i hh
      have hh' : x.length = 1 := by simpa using Eq.symm (by simpa using hh)
      have hp : p = 0 := by omega
      subst hp
      have : x.cps.extract 0 1 = x.cps := by
        rw [show (1 : Nat) = x.cps.size by omega]; simp
      show x = ⟨x.cps.extract 0 1⟩
      rw [this]
    · congr 1
      have hs : p < x.cps.size := h
      apply Array.ext'
      simp only [List.filterMap_cons, Array.getElem?_eq_getElem hs, List.filterMap_nil, Array.toList_extract, List.extract_eq_take_drop]
      rw [List.drop_eq_getElem_cons (by simpa using hs)]
      simp
  · rw [if_neg h]
    split
    · rename_i hh
      have hh' : x.length = 0 := by simpa using Eq.symm (by simpa using hh)
      have : x.cps = #[] := Array.eq_empty_of_size_eq_zero (by omega)
      obtain ⟨c⟩ := x
      subst this
      simp
    · congr 1
      apply Array.ext'
      simp
      omega
theorem news_sub {h₀ h : Heap} {L : Addr} {l l' : List (Addr × Obj)} (N : News h₀ L h l) (hs : ∀ p ∈ l', p ∈ l) : News h₀ L h l' := fun p hp => N p (hs p hp)
def LexA.all (a : LexA) : List Addr := [a.l, a.x, a.d, a.l2, a.x2, a.d2, a.f, a.c, a.pl, a.cp, a.ct]
section
variable {h₀ h : Heap} {L : Addr} {a : LexA} {n p : Int} {tn tp : Tok} {pb : List Value} {np : Nat} {own : List (Addr × Obj)}
theorem led_swap (N : News h₀ L h (lexLed w a n tn pb np p tp ++ own)) : News h₀ L h (readLed a p tp ++ (lexRest w a n tn pb np ++ own)) :=
  news_sub N fun q hq => by simp only [lexLed, List.mem_append] at *; rcases hq with h | h | h <;> simp [h]
theorem led_back (N : News h₀ L h (readLed a p tp ++ (lexRest w a n tn pb np ++ own))) : News h₀ L h (lexLed w a n tn pb np p tp ++ own) :=
  news_sub N fun q hq => by simp only [lexLed, List.mem_append] at *; rcases hq with (h | h) | h <;> simp [h]
theorem led_off (hup : a.Up) (hoff : OwnOff own a.all) : OwnOff (lexRest w a n tn pb np ++ own) [a.pl] := by
  obtain ⟨h1, h2, h3, h4, h5, h6, h7, h8, h9, h10⟩ := hup
  intro q hq b hb
  obtain rfl := List.mem_singleton.mp hb
  rcases List.mem_append.mp hq with h | h
  · simp only [lexRest, List.mem_cons, List.not_mem_nil, or_false] at h
    rcases h with rfl | rfl | rfl | rfl | rfl | rfl <;> (refine neN ?_; dsimp only; omega)
  · exact hoff q h a.pl (by simp [LexA.all])
theorem own_l (hoff : OwnOff own a.all) : OwnOff own [a.l] := fun q hq b hb => hoff q hq b (by obtain rfl := List.mem_singleton.mp hb; simp [LexA.all])
theorem own_d (hoff : OwnOff own a.all) : OwnOff own [a.d] := fun q hq b hb => hoff q hq b (by obtain rfl := List.mem_singleton.mp hb; simp [LexA.all])
end
theorem read_char_does {a : LexA} {x : Str} (hup : a.Up) (hrd : ReadFn prog w a x) {n : Nat} {tn tp : Tok} {pb : List Value} {np p : Nat} {own : List (Addr × Obj)} (hoff : OwnOff own a.all) (hp : p < 2 ^ 30) :
    Does prog w 1 (.ref 35) [.ref a.x] [] (lexLed w a n tn pb np p tp ++ own) (fun r nw => ∃ tn' tp' t', r = .str (charAt x p) t' ∧ nw = lexLed w a (n + (if charAt x p = Str.ofString "\n" then 1 else 0) : Nat) tn' pb np (p + 1 : Nat) tp' ++ own) := by
  have hup' := hup
  obtain ⟨h1, h2, h3, h4, h5, h6, h7, h8, h9, h10⟩ := hup'
  have hod := own_d hoff
  ((unfold Does; intro _ _ _ _ _ _ _ _ _ _ _ _ _ _ _ _ _ _ _ _ _ _ _ _ _ _ _ _ _ _ _ _ _ _; w_top off; k_dflt k_enter))
  dsimp only [lexLed, lexRest, readLed, List.cons_append, List.nil_append] at *
  (((try (show wpAny _ _ _ _ _ _; k_fold)); repeat' (first | (k_unfold; (try dsimp only)) | ((fail_if_success (first | first | (with_reducible show wpAny _ _ (exec (Stmt.While _ _ _ _) _) _ _ _) | (with_reducible show wpAny _ _ (exec (Stmt.For _ _ _ _ _) _) _ _ _))); first | walk1 | (dsimp only; walk1)) | fail "no step")))
  rename (News _ _ _ _) => N1
  refine' Does.use (hrd p tp _ (lexRest w a n tn pb np ++ own) (led_off hup hoff) hp) ?B ?C ?F ?X ?N ?T ?hr ?hu ?_
  (case N => exact led_swap N1)
  (((case B => k_asm); (case C => assumption); (case F => k_asm); (case X => k_asm); (case T => k_asm); (case hr => (first | exact Nat.lt_of_le_of_lt (Nat.add_le_add_left (by decide) _) (by assumption) | omega | ktr_room)); (case hu => (first | exact Nat.lt_of_le_of_lt (Nat.add_le_add_left (by decide) _) (by assumption) | ktr_units | omega))))
  intro r9 nw9 h9 tk9 F9 N9 H9
  obtain ⟨tp', t', rfl, rfl⟩ := H9
  replace N9 := led_back N9
  dsimp only [lexLed, lexRest, readLed, List.cons_append, List.nil_append] at N9
  clear N1
  (((try (show wpAny _ _ _ _ _ _; k_fold)); repeat' (first | (k_unfold; (try dsimp only)) | ((fail_if_success (first | first | (with_reducible show wpAny _ _ (exec (Stmt.While _ _ _ _) _) _ _ _) | (with_reducible show wpAny _ _ (exec (Stmt.For _ _ _ _ _) _) _ _ _))); first | walk1 | (dsimp only; walk1)) | fail "no step")))
  all_goals rename (∀ (_ : Value) (_ : List (Addr × Obj)) (_ : Heap) (_ : Nat), _) => hret9
  · rename ((charAt x p == Str.ofString "\n") = true) => hc
    rw [if_pos (eq_of_beq hc)] at hret9
    exact hret9 _ _ _ _ (by assumption) (by assumption) ⟨_, _, _, rfl, rfl⟩
  · rename ((charAt x p == Str.ofString "\n") = false) => hc
    rw [if_neg (by simpa using hc)] at hret9
    exact hret9 _ _ _ _ (by assumption) (by assumption) ⟨_, _, _, rfl, rfl⟩
theorem slot_callit_next : Slot "callable_iterator" "__next__" "callable_iterator.__next__" :=
  .of (owner := "callable_iterator") (n := "__next__") (by rw [typeLookup_type, builtinLookup_eq_fast]; kernel_rfl) (by decide +kernel) (by decide +kernel) (by decide +kernel)
    (by first | exact .inl (by decide +kernel) | exact .inr (by decide +kernel)) (by rw [isSubtype_type]; kernel_rfl)
theorem slot_callit_iter : Slot "callable_iterator" "__iter__" "callable_iterator.__iter__" :=
  .of (owner := "callable_iterator") (n := "__iter__") (by rw [typeLookup_type, builtinLookup_eq_fast]; kernel_rfl) (by decide +kernel) (by decide +kernel) (by decide +kernel)
    (by first | exact .inl (by decide +kernel) | exact .inr (by decide +kernel)) (by rw [isSubtype_type]; kernel_rfl)
theorem entry_callit_next : entryFor table "callable_iterator.__next__" = some Builtin.«callable_iterator.__next__» := entryFor_of_fast (by kernel_rfl)
theorem entry_callit_iter : entryFor table "callable_iterator.__iter__" = some Builtin.«dict_keyiterator.__iter__» :=
  entryFor_alias (id' := "dict_keyiterator.__iter__") (by kernel_rfl) rfl (by decide +kernel) (by kernel_rfl)
theorem args_callit_next (a : Value) : argsOk "callable_iterator.__next__" ⟨[a], []⟩ := by unfold argsOk; kernel_rfl
theorem args_callit_iter (a : Value) : argsOk "callable_iterator.__iter__" ⟨[a], []⟩ := by unfold argsOk; kernel_rfl
/-- an iterator over a callable and its sentinel: the empty text -/
abbrev callIt (q : Addr) (t : Tok) : Obj := { cls := .type "callable_iterator", data := .fields #[.ref q, .str (Str.ofString "") t, .bool false] }
abbrev callItEnd : Obj := { cls := .type "callable_iterator", data := .fields #[.none, .none, .bool true] }
section
variable {A : Around} {E : Value → Shared → Prop} {s : Shared}
theorem callBorrowed_of {M : Model} {f : Value} {pos : List Value} {Q : Value → Shared → Prop} (h : wpAny M A (call f pos) Q E s) : wpAny M A (callBorrowed f pos) Q E s := by
  intro Γ p hΓ
  have := h Γ p hΓ
  simp only [call, runValue, run, callBorrowed, Sem.wp_bind', Sem.wp_call] at this ⊢
  refine wpCode_mono (fun r s' hr => ?_) this
  cases r with
  | ok f => cases f <;> simpa using hr
  | error e => simpa using hr
theorem borrows_meth {M : Model} {q g : Addr} {self : Value} {og : Obj} {fd : FuncData} {Q : Bool → Shared → Prop} (hq : s.heap.get? q = some (methodObj (.ref g) self)) (hg : s.heap.get? g = some og) (hf : og.data = .func fd) (h : Q true s) :
    wpAny M A (borrowsExactly (.ref q)) Q E s := by
  unfold borrowsExactly
  refine wpAny_bind (wpAny_load hq ?_)
  show wpAny M A (load g >>= _) Q E s
  refine wpAny_bind (wpAny_load hg ?_)
  rw [hf]
  exact wpAny_pure h
end
section
variable {A : Around} {E : Value → Shared → Prop} {s : Shared}
theorem next_callit {it q g : Addr} {t : Tok} {self : Value} {og : Obj} {fd : FuncData} {Q : Option Value → Shared → Prop} (hh : A.handled = none)
    (hit : s.heap.get? it = some (callIt q t)) (hq : s.heap.get? q = some (methodObj (.ref g) self)) (hg : s.heap.get? g = some og) (hf : og.data = .func fd)
    (h : wpAny (model prog w) A.in1 (call (.ref q) []) (fun r s' => ∃ y ty, r = .str y ty ∧ s'.heap.get? it = some (callIt q t) ∧ s'.heap.get? q = some (methodObj (.ref g) self) ∧ s'.heap.get? g = some og ∧
      (y ≠ Str.ofString "" → Q (some (.str y ty)) s') ∧ (y = Str.ofString "" → ∀ h', Heap.ExtBut it s'.heap h' → h'.get? it = some callItEnd → Q none { s' with heap := h' })) (fun _ _ => False) s) :
    wpAny (model prog w) A (pyNext (.ref it)) Q E s := by
  have hT : s.TypeIs (.ref it) "callable_iterator" := ⟨_, hit, rfl⟩
  unfold pyNext
  refine wpAny_bind (wpAny_attempt (wpAny_callSpecial?_slot (name := Str.ofString "__next__") hT slot_callit_next
    (wpAny_call_entry slot_callit_next hT entry_callit_next ?_ (args_callit_next _))))
  show wpAny _ _ (field (.ref it) 2 >>= _) _ _ s
  refine wpAny_bind (wpAny_field hit rfl (x := .bool false) rfl ?_)
  show wpAny _ _ (if (Value.bool false == Value.bool true) = true then _ else _) _ _ s
  rw [if_neg (by decide)]
  show wpAny _ _ (field (.ref it) 0 >>= _) _ _ s
  refine wpAny_bind (wpAny_field hit rfl (x := .ref q) rfl ?_)
  refine wpAny_bind (wpAny_attempt ?_)
  unfold callOutOfASlot
  refine wpAny_bind (borrows_meth hq hg hf ?_)
  rw [if_pos rfl]
  refine callBorrowed_of (wpAny_mono h (fun r s' hr => ?_) fun _ _ x => x.elim)
  obtain ⟨y, ty, rfl, hit', hq', hg', h1, h2⟩ := hr
  refine wpAny_bind (wpAny_field hit' rfl (x := .bool false) rfl ?_)
  show wpAny _ _ (if (Value.bool false == Value.bool true) = true then _ else _) _ _ s'
  rw [if_neg (by decide)]
  refine wpAny_bind (wpAny_field hit' rfl (x := .str (Str.ofString "") t) rfl ?_)
  refine wpAny_bind (wpAny_holding (wpAny_eqBool_str ?_))
  by_cases hy : y = Str.ofString ""
  · rw [if_neg (by simp [hy])]
    refine wpAny_bind (wpAny_rule ?_)
    have nogo {M : Model} {A : Around} {E : Value → Shared → Prop} {who : String} {busy : Code → Bool} {Q : Unit → Shared → Prop} (hk : Q () s') : wpAny M A (slotLetsGo who (.ref q) busy) Q E s' := by
      unfold slotLetsGo
      refine wpAny_bind (borrows_meth hq' hg' hf ?_)
      rw [if_pos rfl]
      exact wpAny_pure hk
    show wpAny _ _ ((field (.ref it) 0 >>= _) >>= _) _ _ s'
    refine wpAny_bind (wpAny_bind (wpAny_field hit' rfl (x := .ref q) rfl ?_))
    refine wpAny_bind (nogo ?_)
    refine wpAny_bind (wpAny_setField hit' rfl (by simp) ?_)
    refine wpAny_bind (wpAny_setField (Heap.get?_update_self _ hit' rfl) rfl (by simp) ?_)
    refine wpAny_setField (Heap.get?_update_self _ (Heap.get?_update_self _ hit' rfl) rfl) rfl (by simp) ?_
    show wpAny _ _ (newExc (.type "StopIteration") [] >>= _) _ _ _
    refine wpAny_bind ?_
    simp only [newExc, newTuple]
    refine wpAny_bind (wpAny_newObj_type ?_ (by size_fits))
    refine wpAny_bind (m := firstArgMember _ _) (wpAny_of_eq (a := Value.none) (by first | rfl | (simp only [firstArgMember]; rfl)) ?_)
    refine wpAny_newObj_type ?_ (by size_fits)
    simp only [raiseNew]
    refine wpAny_bind (wpAny_handled ?_)
    rw [show A.in1.handled = none from hh]
    refine wpAny_bind (wpAny_pure (wpAny_throw ?_))
    refine wpAny_bind (wpAny_isInstance (T := "StopIteration") (b := true) ⟨_, Heap.get?_push_size _ rfl, rfl⟩ isSubtype_stop ?_)
    refine wpAny_pure (h2 hy _ (((((Heap.SameBut.update ..).extBut.trans (Heap.SameBut.update ..).extBut).trans (Heap.SameBut.update ..).extBut).push _).push _) ?_)
    exact Heap.get?_push_of_some _ (Heap.get?_push_of_some _ (Heap.get?_update_self _ (Heap.get?_update_self _ (Heap.get?_update_self _ hit' rfl) rfl) rfl))
  · rw [if_pos (by simp [Ne.symm hy])]
    exact wpAny_pure ⟨_, rfl, wpAny_pure (h1 hy)⟩
theorem next_callEnd {it : Addr} {Q : Option Value → Shared → Prop} (hh : A.handled = none) (hit : s.heap.get? it = some callItEnd)
    (h : ∀ h', (∀ b o, s.heap.get? b = some o → h'.get? b = some o) → Q none { s with heap := h' }) :
    wpAny (model prog w) A (pyNext (.ref it)) Q E s := by
  have hT : s.TypeIs (.ref it) "callable_iterator" := ⟨_, hit, rfl⟩
  unfold pyNext
  refine wpAny_bind (wpAny_attempt (wpAny_callSpecial?_slot (name := Str.ofString "__next__") hT slot_callit_next
    (wpAny_call_entry slot_callit_next hT entry_callit_next ?_ (args_callit_next _))))
  show wpAny _ _ (field (.ref it) 2 >>= _) _ _ s
  refine wpAny_bind (wpAny_field hit rfl (x := .bool true) rfl ?_)
  show wpAny _ _ (if (Value.bool true == Value.bool true) = true then _ else _) _ _ s
  rw [if_pos (by decide)]
  refine wpAny_bind (wpAny_rule ?_)
  refine wpAny_bind ?_
  show wpAny _ _ (newExc (.type "StopIteration") [] >>= _) _ _ _
  refine wpAny_bind ?_
  simp only [newExc, newTuple]
  refine wpAny_bind (wpAny_newObj_type ?_ (by size_fits))
  refine wpAny_bind (m := firstArgMember _ _) (wpAny_of_eq (a := Value.none) (by first | rfl | (simp only [firstArgMember]; rfl)) ?_)
  refine wpAny_newObj_type ?_ (by size_fits)
  simp only [raiseNew]
  refine wpAny_bind (wpAny_handled ?_)
  rw [show A.in1.handled = none from hh]
  refine wpAny_bind (wpAny_pure (wpAny_throw ?_))
  refine wpAny_bind (wpAny_isInstance (T := "StopIteration") (b := true) ⟨_, Heap.get?_push_size _ rfl, rfl⟩ isSubtype_stop ?_)
  exact wpAny_pure (h _ fun b o e => Heap.get?_push_of_some _ (Heap.get?_push_of_some _ e))
end
section
variable {A : Around} {E : Value → Shared → Prop} {s : Shared}
theorem pyIter_callit {it q : Addr} {t : Tok} {Q : Value → Shared → Prop} (hit : s.heap.get? it = some (callIt q t)) (h : Q (.ref it) s) : wpAny (model prog w) A (pyIter (.ref it)) Q E s := by
  have hT : s.TypeIs (.ref it) "callable_iterator" := ⟨_, hit, rfl⟩
  refine wpAny_pyIter_slot hT slot_callit_iter (wpAny_call_entry slot_callit_iter hT entry_callit_iter ?_ (args_callit_iter _))
  show wpAny _ _ (ret (.ref it)) _ _ s
  exact wpAny_pure ⟨_, rfl, "callable_iterator", _, hT, slot_callit_next.lookup, h⟩
theorem pyIter_callEnd {it : Addr} {Q : Value → Shared → Prop} (hit : s.heap.get? it = some callItEnd) (h : Q (.ref it) s) : wpAny (model prog w) A (pyIter (.ref it)) Q E s := by
  have hT : s.TypeIs (.ref it) "callable_iterator" := ⟨_, hit, rfl⟩
  refine wpAny_pyIter_slot hT slot_callit_iter (wpAny_call_entry slot_callit_iter hT entry_callit_iter ?_ (args_callit_iter _))
  show wpAny _ _ (ret (.ref it)) _ _ s
  exact wpAny_pure ⟨_, rfl, "callable_iterator", _, hT, slot_callit_next.lookup, h⟩
theorem lookup_method_call : typeLookup (.type "method") "__call__" = pure (some (.builtin "method.__call__")) := by rw [typeLookup_type, builtinLookup_eq_fast]; kernel_rfl
theorem entry_iter : entryFor table "iter" = some Builtin.«iter» := entryFor_of_fast (by kernel_rfl)
theorem args_iter2 (a b : Value) : argsOk "iter" ⟨[a, b], []⟩ := by unfold argsOk; kernel_rfl
theorem call_iter2 {q : Addr} {t : Tok} {f self : Value} {Q : Value → Shared → Prop} (hq : s.heap.get? q = some (methodObj f self))
    (h : Q (.ref s.heap.objs.size) { s with heap := s.heap.push (callIt q t) }) : wpAny (model prog w) A (call (.builtin "iter") [.ref q, .str (Str.ofString "") t]) Q E s := by
  have hT : s.TypeIs (.ref q) "method" := ⟨_, hq, rfl⟩
  refine call_function_entry (by decide +kernel) (by decide +kernel) entry_iter (args_iter2 _ _) ?_
  show wpAny _ _ (specialOf (.ref q) "__call__" >>= _) _ _ s
  refine wpAny_bind (wpAny_specialOf hT lookup_method_call ?_)
  show wpAny _ _ (if Option.isNone (some _) = true then _ else _) _ _ s
  rw [if_neg (by simp)]
  refine wpAny_bind (wpAny_rule ?_)
  show wpAny _ _ (do ret (← newFields "callable_iterator" [.ref q, .str (Str.ofString "") t, .bool false])) _ _ s
  exact wpAny_bind (wpAny_newObj_type (wpAny_pure ⟨_, rfl, h⟩))
theorem iter2_N {h₀ : Heap} {L : Addr} {m : Str → Option Value} {q : Addr} {t : Tok} {f self : Value} {Q : Value → Shared → Prop} (F : Fr h₀ L s.heap m) (N : News h₀ L s.heap news) (hm : (q, methodObj f self) ∈ news)
    (h : ∀ it h', Fr h₀ L h' m → News h₀ L h' ((it, callIt q t) :: news) → (∀ p ∈ news, p.1 < it) → Q (.ref it) { s with heap := h' }) : wpAny (model prog w) A (call (.builtin "iter") [.ref q, .str (Str.ofString "") t]) Q E s :=
  call_iter2 (News.get N hm) (h _ _ (F.push _) (N.push F _) fun p hp => Heap.lt_size (N p hp).1)
end
local macro_rules | `(tactic| walk_at "call builtin:iter") => `(tactic| (k_here; (with_reducible show wpAny _ _ (call (Value.builtin "iter") [Value.ref _, Value.str _ _]) _ _ _); (k_dflt (refine' iter2_N ?F ?N ?m ?_; (case F => k_asm); (case N => k_asm); (case m => k_mem))); intro it9 h9 F9 N9 l9; (try k_lt l9); (try k_sweep)))
section
variable {A : Around} {E : Value → Shared → Prop} {s : Shared} {Q : Flow → Shared → Prop} {env : Env} {h₀ : Heap} {L : Addr}
/-- a for over any iterator, by what holds between its turns -/
theorem For_mine {x : Str} {px pos : Pos} {iter : Expr} {body : List Stmt} {m₀ : Str → Option Value} (_F : Fr h₀ L s.heap m₀) (J : Nat → (Str → Option Value) → List (Addr × Obj) → Prop) (it : Value)
    (h : wpAny (model prog w) A (eval iter env) (fun xv s₁ => wpAny (model prog w) A (pyIter xv) (fun it' s₂ => it' = it ∧ ∃ h tk m nw n, s₂ = { s with heap := h, toks := tk } ∧ Fr h₀ L h m ∧ News h₀ L h nw ∧ J n m nw) E s₁) E s)
    (turn : ∀ n m₁ nw₁ h₁ tk₁, Fr h₀ L h₁ m₁ → News h₀ L h₁ nw₁ → J n m₁ nw₁ →
      wpAny (model prog w) A (pyNext it) (fun r s₂ => match r with
        | none => Q .next s₂
        | some v => wpAny (model prog w) A (storeName env x v) (fun _ s₃ => wpAny (model prog w) A (execs body env) (WhileStep2 h₀ L s J Q n) E s₃) E s₂) E { s with heap := h₁, toks := tk₁ })
    (hs : ∀ x, foldedSetIterable iter env x = pure x := by intro _; rfl)
    (hE : PassesOwn (model prog w) A env E := by passes_own) :
    wpAny (model prog w) A (exec (.For (.Name x px) iter body [] pos) env) Q E s := by
  refine wpAny_For (wpAny_mono h (fun xv s₁ h₁ => wpAny_mono h₁ (fun it' s₂ h₂ => ?_) fun _ _ e => e) fun _ _ e => e) hs
  obtain ⟨rfl, h, tk, m, nw, n, rfl, F, N, hJ⟩ := h₂
  refine codeAny_forLoop (fun n s' => ∃ h₁ tk₁ m₁ nw₁, s' = { s with heap := h₁, toks := tk₁ } ∧ Fr h₀ L h₁ m₁ ∧ News h₀ L h₁ nw₁ ∧ J n m₁ nw₁) ?_ n ⟨h, tk, m, nw, rfl, F, N, hJ⟩
  rintro n s' ⟨h₁, tk₁, m₁, nw₁, rfl, F₁, N₁, J₁⟩
  refine wpAny_mono (turn n m₁ nw₁ h₁ tk₁ F₁ N₁ J₁) (fun r s₂ h₂ => ?_) hE
  cases r with
  | none => exact wpAny_execs_nil h₂
  | some v =>
    refine wpAny_assign_Name (wpAny_mono h₂ (fun _ s₃ h₃ => wpAny_mono h₃ (fun f s₄ h₄ => ?_) hE) hE)
    cases f with
    | next =>
      obtain ⟨h', tk, m₂, nw₂, n', rfl, F₂, N₂, hn, J₂⟩ := h₄
      exact ⟨n', hn, h', tk, m₂, nw₂, rfl, F₂, N₂, J₂⟩
    | cont =>
      obtain ⟨h', tk, m₂, nw₂, n', rfl, F₂, N₂, hn, J₂⟩ := h₄
      exact ⟨n', hn, h', tk, m₂, nw₂, rfl, F₂, N₂, J₂⟩
    | brk => exact h₄
    | ret v => exact h₄
end
/-- the iterator over the lexer's own reader, and the method it calls -/
abbrev itLed (a : LexA) (it q : Nat) (t : Tok) : List (Addr × Obj) := [(it, callIt q t), (q, methodObj (.ref 35) (.ref a.x))]
abbrev itEnd (a : LexA) (it q : Nat) : List (Addr × Obj) := [(it, callItEnd), (q, methodObj (.ref 35) (.ref a.x))]
theorem K_fn (w : World) : ∃ og fd, (∀ h : Heap, (hd.heap_39 w.params).In h → h.get? 35 = some og) ∧ og.data = .func fd := by
  refine ⟨_, _, fun h X => X 35 _ (by k_is), rfl⟩
theorem fr_extBut {h₀ h h' : Heap} {L it : Addr} {m : Str → Option Value} (F : Fr h₀ L h m) (e : Heap.ExtBut it h h') (hL : it ≠ L) (h0 : h₀.get? it = none) : Fr h₀ L h' m :=
  ⟨F.ns.extBut e (Ne.symm hL), fun b o eb => e b o (by rintro rfl; rw [h0] at eb; cases eb) (F.keep b o eb), F.above⟩
theorem news_extBut {h₀ h h' : Heap} {L it : Addr} {pre post : List (Addr × Obj)} {o o' : Obj} (N : News h₀ L h (pre ++ (it, o) :: post)) (e : Heap.ExtBut it h h') (hi : h'.get? it = some o') (h1 : ∀ p ∈ pre, p.1 ≠ it) (h2 : ∀ p ∈ post, p.1 ≠ it) :
    News h₀ L h' (pre ++ (it, o') :: post) := by
  intro p hp
  rcases List.mem_append.mp hp with h | h
  · have := N p (List.mem_append.mpr (.inl h))
    exact ⟨e _ _ (h1 p h) this.1, this.2⟩
  · rcases List.mem_cons.mp h with rfl | h
    · have := N (it, o) (List.mem_append.mpr (.inr (.head _)))
      exact ⟨hi, this.2⟩
    · have := N p (List.mem_append.mpr (.inr (.tail _ h)))
      exact ⟨e _ _ (h2 p h) this.1, this.2⟩
/-- the iterator lies apart from all else -/
def ItOff (a : LexA) (it q : Nat) (own : List (Addr × Obj)) : Prop := it ≠ q ∧ it ∉ a.all ∧ q ∉ a.all ∧ ∀ p ∈ own, p.1 ≠ it
theorem off_all {a : LexA} {w : World} {n p : Int} {tn tp : Tok} {pb : List Value} {np : Nat} {b : Addr} (hb : b ∉ a.all) : ∀ q ∈ lexLed w a n tn pb np p tp, q.1 ≠ b := by
  intro q hq
  simp only [LexA.all, List.mem_cons, List.not_mem_nil, or_false, not_or] at hb
  simp only [lexLed, lexRest, readLed, List.cons_append, List.nil_append, List.mem_cons, List.not_mem_nil, or_false] at hq
  obtain ⟨b1, b2, b3, b4, b5, b6, b7, b8, b9, b10, b11⟩ := hb
  rcases hq with rfl | rfl | rfl | rfl | rfl | rfl | rfl | rfl | rfl | rfl | rfl <;> (dsimp only; exact Ne.symm (by assumption))
theorem next_char {a : LexA} {x : Str} (hup : a.Up) (hrd : ReadFn prog w a x) {n p : Nat} {tn tp : Tok} {pb : List Value} {np it q : Nat} {t : Tok} {own : List (Addr × Obj)} (hoff : OwnOff own a.all) (hi : ItOff a it q own) (hp : p < 2 ^ 30)
    {pg : Program} {loose : List Str} {mean : ExcName → Option Value} {mg mb : Str → Option Value} {dp un : Nat} {gd : Option (List Code)} {cn : Str} {sn : List (Str × NameKind)} {ig ic : Bool} {sm : List (Str × Const)} {af : Addr} {ccd : Value} {cl : List (Str × Addr)} {outer : List Env} {A₀ : Around} {base h₀ : Heap} {L : Addr} {m : Str → Option Value} {s : Shared} {Q : Option Value → Shared → Prop} {E : Value → Shared → Prop}
    (B : Below A₀ base outer h₀) (C : CodeHd base 128 124) (F : Fr h₀ L s.heap m) (X : (hd.heap_39 w.params).In h₀) (N : News h₀ L s.heap (lexLed w a n tn pb np p tp ++ (itLed a it q t ++ own))) (T : Top pg loose mean mg mb h₀) (hr : dp + 8 < recursionLimit) (hu : un + 130 < cLine)
    (k1 : charAt x p ≠ Str.ofString "" → ∀ tn' tp' ty h' tk', Fr h₀ L h' m → News h₀ L h' (lexLed w a (n + (if charAt x p = Str.ofString "\n" then 1 else 0) : Nat) tn' pb np (p + 1 : Nat) tp' ++ (itLed a it q t ++ own)) → Q (some (.str (charAt x p) ty)) { s with heap := h', toks := tk' })
    (k2 : charAt x p = Str.ofString "" → ∀ tn' tp' h' tk', Fr h₀ L h' m → News h₀ L h' (lexLed w a n tn' pb np (p + 1 : Nat) tp' ++ (itEnd a it q ++ own)) → Q none { s with heap := h', toks := tk' }) :
    wpAny (model prog w) (Aro dp un gd cn sn ig ic sm L af ccd cl outer) (pyNext (.ref it)) Q E s := by
  obtain ⟨og, fd, hog, hfd⟩ := K_fn w
  have mit : ((it, callIt q t) : Addr × Obj) ∈ lexLed w a n tn pb np p tp ++ (itLed a it q t ++ own) := by simp [itLed]
  have mq : ((q, methodObj (.ref 35) (.ref a.x)) : Addr × Obj) ∈ lexLed w a n tn pb np p tp ++ (itLed a it q t ++ own) := by simp [itLed]
  refine next_callit rfl (News.get N mit) (News.get N mq) (hog _ (X.keeps F.keep)) hfd ?_
  refine call_meth N mq ?_
  have hoff2 : OwnOff (itLed a it q t ++ own) a.all := by
    intro r hr' b hb
    simp only [itLed, List.cons_append, List.nil_append, List.mem_cons] at hr'
    rcases hr' with rfl | rfl | h
    · rintro rfl; exact hi.2.1 hb
    · rintro rfl; exact hi.2.2.1 hb
    · exact hoff r h b hb
  refine' Does.useC (read_char_does hup hrd hoff2 hp) B C F X N T ?_ ?_ ?_
  · omega
  · show un + 1 + _ < _; omega
  intro r nw h' tk' F' N' hret
  obtain ⟨tn', tp', t', rfl, rfl⟩ := hret
  have mit' : ∀ (n p : Int), ((it, callIt q t) : Addr × Obj) ∈ lexLed w a n tn' pb np p tp' ++ (itLed a it q t ++ own) := by simp [itLed]
  have mq' : ∀ (n p : Int), ((q, methodObj (.ref 35) (.ref a.x)) : Addr × Obj) ∈ lexLed w a n tn' pb np p tp' ++ (itLed a it q t ++ own) := by simp [itLed]
  refine ⟨_, _, rfl, News.get N' (mit' _ _), News.get N' (mq' _ _), hog _ (X.keeps F'.keep), fun hc => k1 hc _ _ _ _ _ F' N', fun hc h'' he hend => ?_⟩
  have hit0 := N' _ (mit' _ _)
  rw [if_neg (by rw [hc]; decide)] at N'
  refine k2 hc tn' tp' h'' tk' (fr_extBut F' he hit0.2.1 hit0.2.2) ?_
  refine news_extBut (o := callIt q t) N' he hend (off_all hi.2.1) ?_
  intro r hr'
  rcases List.mem_cons.mp hr' with rfl | h
  · exact Ne.symm hi.1
  · exact hi.2.2.2 r h
local macro_rules | `(tactic| walk_at "pyIter ref") => `(tactic| (k_here; refine pyIter_callit (News.get (by k_asm) (by (first | assumption | k_mem))) ?_))
/-- a white sign -/
def ws (c : Nat) : Prop := c = 10 ∨ c = 9 ∨ c = 13 ∨ c = 32
/-- behind an opening quotation mark: what is read, what it says -/
inductive QL : List Nat → List Nat → Prop
  | fin : QL [34] []
  | esc (c : Nat) {s t : List Nat} : QL s t → QL (92 :: c :: s) (c :: t)
  | plain (c : Nat) {s t : List Nat} : c ≠ 34 → c ≠ 92 → QL s t → QL (c :: s) (c :: t)
inductive UL : List Nat → List Nat → Prop
  | fin (c : Nat) : ws c → UL [c] []
  | esc (c : Nat) {s t : List Nat} : UL s t → UL (92 :: c :: s) (c :: t)
inductive TK : List Nat → List Nat → Prop
  | ws (c : Nat) {s t : List Nat} : ws c → TK s t → TK (c :: s) t
  | quoted {s t : List Nat} : QL s t → TK (34 :: s) t
  | esc (c : Nat) {s t : List Nat} : UL s t → TK (92 :: c :: s) (c :: t)
def one (c : Nat) : Str := ⟨#[c]⟩
theorem charAt_of {x : Str} {p c : Nat} {r : List Nat} (h : x.cps.toList.drop p = c :: r) : charAt x p = one c := by
  have hp : p < x.cps.toList.length := by
    by_cases hp : p < x.cps.toList.length
    · exact hp
    · rw [List.drop_eq_nil_of_le (by omega)] at h; cases h
  rw [List.drop_eq_getElem_cons hp] at h
  injection h with h1 h2
  unfold charAt one
  congr 1
  apply Array.ext'
  simp only [Array.toList_extract, List.extract_eq_take_drop]
  rw [List.drop_eq_getElem_cons hp, h1]
  simp
theorem charAt_nil {x : Str} {p : Nat} (h : x.cps.toList.drop p = []) : charAt x p = Str.ofString "" := by
  have : x.cps.size ≤ p := by
    have := List.drop_eq_nil_iff.mp h
    simpa using this
  have e : x.cps.extract p (p + 1) = #[] := by
    apply Array.ext'
    simp [List.extract_eq_take_drop, h]
  unfold charAt
  rw [e]; rfl
theorem drop_succ {x : Str} {p c : Nat} {r : List Nat} (h : x.cps.toList.drop p = c :: r) : x.cps.toList.drop (p + 1) = r := by
  rw [← List.drop_drop, h]; rfl
theorem allLt_ne {d x : Nat} {l : List (Addr × Obj)} (h : AllLt d l) (hx : d ≤ x) : ∀ p ∈ l, p.1 ≠ x := by
  induction l with
  | nil => intro p hp; cases hp
  | cons q r ih =>
    intro p hp
    rcases List.mem_cons.mp hp with rfl | hp
    · exact Nat.ne_of_lt (Nat.lt_of_lt_of_le h.1 hx)
    · exact ih h.2 p hp
theorem at_lt {x : Str} {p c : Nat} {r : List Nat} (hx : x.length < 2 ^ 20) (h : x.cps.toList.drop p = c :: r) : p < 2 ^ 20 := by
  have hl : x.length = x.cps.size := rfl
  have hp : p < x.cps.toList.length := by
    by_cases hp : p < x.cps.toList.length
    · exact hp
    · rw [List.drop_eq_nil_of_le (by omega)] at h; cases h
  simp at hp; omega
theorem one_ne (c : Nat) : one c ≠ Str.ofString "" := by
  intro h
  have : (one c).cps.size = (Str.ofString "").cps.size := by rw [h]
  revert this
  show (1 : Nat) = _ → False
  decide
theorem news_front2 {h₀ h : Heap} {L : Addr} {p q : Addr × Obj} {l own : List (Addr × Obj)} (N : News h₀ L h (p :: q :: (l ++ own))) : News h₀ L h (l ++ ([p, q] ++ own)) :=
  news_sub N fun r hr => by
    rcases List.mem_append.mp hr with h | h
    · exact .tail _ (.tail _ (List.mem_append_left _ h))
    · rcases List.mem_append.mp h with h | h
      · rcases List.mem_cons.mp h with rfl | h
        · exact .head _
        · obtain rfl := List.mem_singleton.mp h
          exact .tail _ (.head _)
      · exact .tail _ (.tail _ (List.mem_append_right _ h))
theorem one_length (c : Nat) : (one c).length = 1 := rfl
/-- one line more, or none -/
def nl (c : Nat) : Nat := if one c = Str.ofString "\n" then 1 else 0
theorem nl_count (c : Nat) (s : List Nat) : nl c + s.count 10 = (c :: s).count 10 := by
  have e : (Str.ofString "\n") = one 10 := by decide
  unfold nl
  rw [List.count_cons, e]
  by_cases h : c = 10
  · subst h; simp; omega
  · have : one c ≠ one 10 := by
      intro hh
      have : (one c).cps.toList = (one 10).cps.toList := by rw [hh]
      simp [one] at this
      exact h this
    simp [this, h]
theorem one_beq {c : Nat} {x : Str} {d : Nat} (hx : x = one d) (h : c ≠ d) : (one c == x) = false := by
  subst hx
  have : one c ≠ one d := by
    intro hh
    have : (one c).cps.toList = (one d).cps.toList := by rw [hh]
    simp [one] at this
    exact h this
  simpa using this
def wd (t : List Nat) : Str := ⟨t.toArray⟩
theorem wd_length (t : List Nat) : (wd t).length = t.length := by simp [wd, Str.length]
theorem empty_length : (Str.ofString "").length = 0 := by decide
theorem wd_one (t : List Nat) (c : Nat) : wd t ++ one c = wd (t ++ [c]) := by
  apply Str.ext'
  rw [Str.cps_append]; simp [wd, one]
theorem wd_first (c : Nat) : Str.ofString "" ++ one c = wd [c] := by
  have e : Str.ofString "" = wd [] := by decide
  rw [e, wd_one]; rfl
theorem news_drop2 {h₀ h : Heap} {L : Addr} {l m own : List (Addr × Obj)} (N : News h₀ L h (l ++ (m ++ own))) : News h₀ L h (l ++ own) :=
  news_sub N fun r hr => by
    rcases List.mem_append.mp hr with h | h
    · exact List.mem_append_left _ h
    · exact List.mem_append_right _ (List.mem_append_right _ h)
local macro_rules | `(tactic| walk_at "inplaceOp Add str str") => `(tactic| (refine PySem.SB.iadd (fun t9 k9 => ?_) (by rw [sizeLine_eq]; simp only [one_length, wd_length, empty_length]; omega)))
local macro_rules | `(tactic| walk_at "ite") => `(tactic| (k_dflt (first | refine ite_pos (by assumption) ?_ | refine ite_neg (by assumption) ?_ | refine ite_neg (Bool.ne_true_of_eq_false (by assumption)) ?_)))
local macro_rules | `(tactic| walk_at "call ref") => `(tactic| ((with_reducible show wpAny _ _ (call (Value.ref 35) _ _) _ _ _); (rename ReadFn _ _ _ _ => hrd9); (rename LexA.Up _ => hup9); (rename OwnOff (List.cons _ (List.cons _ _)) _ => hoff9); (rename (charAt _ _ = _) => hch9); (k_dflt (refine' Does.use (read_char_does hup9 hrd9 hoff9 ?hp) ?B ?C ?F ?X ?N ?T ?hr ?hu ?_; (case N => k_asm); (((case B => k_asm); (case C => assumption); (case F => k_asm); (case X => k_asm); (case T => k_asm); (case hr => (first | exact Nat.lt_of_le_of_lt (Nat.add_le_add_left (by decide) _) (by assumption) | omega | ktr_room)); (case hu => (first | exact Nat.lt_of_le_of_lt (Nat.add_le_add_left (by decide) _) (by assumption) | ktr_units | omega)))); (case hp => omega))); (intro r9 nw9 h9 tk9 F9 N9 H9; obtain ⟨tn9, tp9, t9, e9, n9⟩ := H9; subst e9; subst n9; rw [hch9] at N9 ⊢; dsimp only [lexLed, lexRest, readLed, List.cons_append, List.nil_append] at N9); (try k_sweep)))
/-- between two signs, ahead of a token -/
inductive InvG (w : World) (a : LexA) (x : Str) (np : Nat) (own : List (Addr × Obj)) (it q : Nat) (seg tok rest : List Nat) (p n : Nat) (k : Nat) (m : Str → Option Value) (nw : List (Addr × Obj)) : Prop
  | mk (s : List Nat) (p' n' : Nat) (tn tp tk0 tq : Tok) (e0 : k = s.length) (h1 : TK s tok) (h2 : x.cps.toList.drop p' = s ++ rest) (h3 : p' + s.length = p + seg.length) (h4 : n' + s.count 10 = n + seg.count 10)
    (e : nw = lexLed w a n' tn [] np p' tp ++ (itLed a it q tq ++ own)) (e1 : m (Str.ofString "self") = some (.ref a.x)) (e2 : m (Str.ofString "token") = some (.str (Str.ofString "") tk0)) (e3 : m (Str.ofString "fiter") = some (.ref it))
/-- between two signs of a token -/
inductive InvH (R : List Nat → List Nat → Prop) (w : World) (a : LexA) (x : Str) (np : Nat) (own : List (Addr × Obj)) (it q : Nat) (seg tok rest : List Nat) (p n : Nat) (k : Nat) (m : Str → Option Value) (nw : List (Addr × Obj)) : Prop
  | mk (s t acc : List Nat) (p' n' : Nat) (tn tp tk0 tq : Tok) (e0 : k = s.length) (h1 : R s t) (h5 : acc ++ t = tok) (h6 : acc.length ≤ p') (h2 : x.cps.toList.drop p' = s ++ rest) (h3 : p' + s.length = p + seg.length) (h4 : n' + s.count 10 = n + seg.count 10)
    (e : nw = lexLed w a n' tn [] np p' tp ++ (itLed a it q tq ++ own)) (e1 : m (Str.ofString "self") = some (.ref a.x)) (e2 : m (Str.ofString "token") = some (.str (wd acc) tk0)) (e3 : m (Str.ofString "fiter") = some (.ref it))
theorem get_token_does {a : LexA} {x : Str} (hup : a.Up) (hrd : ReadFn prog w a x) {n : Nat} {tn tp : Tok} {np p : Nat} {own : List (Addr × Obj)} (hoff : OwnOff own a.all) (hx : x.length < 2 ^ 20)
    {seg tok rest : List Nat} (htk : TK seg tok) (hat : x.cps.toList.drop p = seg ++ rest) :
    Does prog w 3 (.ref 42) [.ref a.x] [] (lexLed w a n tn [] np p tp ++ own) (fun r nw => ∃ tn' tp' t', r = .str (wd tok) t' ∧ nw = lexLed w a (n + seg.count 10 : Nat) tn' [] np (p + seg.length : Nat) tp' ++ own) := by
  have hup' := hup
  obtain ⟨h1, h2, h3, h4, h5, h6, h7, h8, h9, h10⟩ := hup'
  have hod := own_d hoff
  ((unfold Does; intro _ _ _ _ _ _ _ _ _ _ _ _ _ _ _ _ _ _ _ _ _ _ _ _ _ _ _ _ _ _ _ _ _ _; w_top off; k_dflt k_enter))
  dsimp only [lexLed, lexRest, readLed, List.cons_append, List.nil_append] at *
  (((try (show wpAny _ _ _ _ _ _; k_fold)); repeat' (first | (k_unfold; (try dsimp only)) | ((fail_if_success (first | first | (with_reducible show wpAny _ _ (exec (Stmt.While _ _ _ _) _) _ _ _) | (with_reducible show wpAny _ _ (exec (Stmt.For _ _ _ _ _) _) _ _ _))); first | walk1 | (dsimp only; walk1)) | fail "no step")))
  rename_i q _ l1 it _ l9 hh F1 N1
  obtain ⟨i0, i1, i2, i3, i4, i5, i6, i7, i8, i9, i10, i11, iown⟩ := l9
  obtain ⟨j1, j2, j3, j4, j5, j6, j7, j8, j9, j10, j11, jown⟩ := l1
  have hio : ItOff a it q own := ⟨neN (by omega), by ((simp only [LexA.all, List.mem_cons, List.not_mem_nil, or_false, not_or]; (repeat' (refine And.intro ?_ ?_)) <;> (refine neN ?_; omega))), by ((simp only [LexA.all, List.mem_cons, List.not_mem_nil, or_false, not_or]; (repeat' (refine And.intro ?_ ?_)) <;> (refine neN ?_; omega))), allLt_ne iown (Nat.le_refl _)⟩
  have hoff2 : ∀ (o1 o2 : Obj), OwnOff (((it, o1) : Addr × Obj) :: (q, o2) :: own) a.all := by
    intro o1 o2 r hr b hb
    rcases List.mem_cons.mp hr with rfl | hr
    · rintro rfl; exact hio.2.1 hb
    · rcases List.mem_cons.mp hr with rfl | hr
      · rintro rfl; exact hio.2.2.1 hb
      · exact hoff r hr b hb
  refine For_mine F1 (fun k m nw => InvG w a x np own it q seg tok rest p n k m nw) (.ref it) ?_ ?_
  · walk1
    refine pyIter_callit (News.get N1 (.head _)) ?_
    refine ⟨rfl, _, _, _, _, _, rfl, F1, news_front2 N1, seg, p, n, _, _, _, _, rfl, htk, hat, rfl, rfl, rfl, rfl, rfl, rfl⟩
  · rintro k m₁ nw₁ h₁ tk₁ F₁ N₁ ⟨s, p', n', tn', tp', tk0, tq, rfl, hTK, hat', hpe, hne, rfl, es, et, ef⟩
    have F₂ := frKnow F₁ [(Str.ofString "self", .ref a.x), (Str.ofString "token", .str (Str.ofString "") tk0), (Str.ofString "fiter", .ref it)] (by simp [es, et, ef])
    clear F₁ F1 N1
    cases hTK with
    | @ws c s' _ hws hs =>
      have hp' := at_lt hx hat'
      refine' next_char hup hrd hoff hio (by omega) ?B ?C F₂ ?X N₁ ?T ?hr ?hu ?_ ?_
      (case B => k_asm)
      (case C => assumption)
      (case X => k_asm)
      (case T => k_asm)
      (case hr => (first | exact Nat.lt_of_le_of_lt (Nat.add_le_add_left (by decide) _) (by assumption) | omega | ktr_room))
      (case hu => (first | exact Nat.lt_of_le_of_lt (Nat.add_le_add_left (by decide) _) (by assumption) | ktr_units | omega))
      · intro hc tn2 tp2 ty h2 tk2 F2 N2
        clear F₂ N₁
        rw [charAt_of hat'] at N2 ⊢
        dsimp only [lexLed, lexRest, readLed, itLed, List.cons_append, List.nil_append] at N2
        have hwsd : Txt.contains (Str.ofString "\n\t\x0d ") (one c) = true := by rcases hws with rfl | rfl | rfl | rfl <;> decide +kernel
        (((try (show wpAny _ _ _ _ _ _; k_fold)); repeat' (first | (k_unfold; (try dsimp only)) | ((fail_if_success (first | first | (with_reducible show wpAny _ _ (exec (Stmt.While _ _ _ _) _) _ _ _) | (with_reducible show wpAny _ _ (exec (Stmt.For _ _ _ _ _) _) _ _ _))); first | walk1 | (dsimp only; walk1)) | fail "no step")))
        all_goals (dsimp only [WhileStep2]; exact ⟨_, _, _, _, _, rfl, by assumption, by assumption, Nat.lt_succ_self _, s', p' + 1, n' + nl c, _, _, _, _, rfl, hs, drop_succ hat', by rw [← hpe, List.length_cons]; omega, by rw [← hne, Nat.add_assoc, nl_count], rfl, rfl, rfl, rfl⟩)
      · intro hc; rw [charAt_of hat'] at hc; exact absurd hc (one_ne c)
    | @quoted s' _ hq =>
      have hp' := at_lt hx hat'
      refine' next_char hup hrd hoff hio (by omega) ?B ?C F₂ ?X N₁ ?T ?hr ?hu ?_ ?_
      (case B => k_asm)
      (case C => assumption)
      (case X => k_asm)
      (case T => k_asm)
      (case hr => (first | exact Nat.lt_of_le_of_lt (Nat.add_le_add_left (by decide) _) (by assumption) | omega | ktr_room))
      (case hu => (first | exact Nat.lt_of_le_of_lt (Nat.add_le_add_left (by decide) _) (by assumption) | ktr_units | omega))
      · intro hc tn2 tp2 ty h2 tk2 F2 N2
        clear F₂ N₁
        rw [charAt_of hat'] at N2 ⊢
        dsimp only [lexLed, lexRest, readLed, itLed, List.cons_append, List.nil_append] at N2
        have d1 : ¬ (Txt.contains (Str.ofString "\n\t\x0d ") (one 34) = true) := by decide +kernel
        have d2 : (one 34 == Str.ofString "\"") = true := by decide +kernel
        (((try (show wpAny _ _ _ _ _ _; k_fold)); repeat' (first | (k_unfold; (try dsimp only)) | ((fail_if_success (first | first | (with_reducible show wpAny _ _ (exec (Stmt.While _ _ _ _) _) _ _ _) | (with_reducible show wpAny _ _ (exec (Stmt.For _ _ _ _ _) _) _ _ _))); first | walk1 | (dsimp only; walk1)) | fail "no step")))
        rename Fr _ _ _ _ => F3
        rename News _ _ _ _ => N3
        refine For_mine F3 (fun k m nw => InvH QL w a x np own it q seg tok rest p n k m nw) (.ref it) ?_ ?_
        · walk1
          refine pyIter_callit (News.get N3 (show ((it, callIt q tq) : Addr × Obj) ∈ _ by simp)) ?_
          exact ⟨rfl, _, _, _, _, _, rfl, F3, N3, s', tok, [], p' + 1, n' + nl 34, _, _, _, _, rfl, hq, rfl, Nat.zero_le _, drop_succ hat', by rw [← hpe, List.length_cons]; omega, by rw [← hne, Nat.add_assoc, nl_count], rfl, rfl, rfl, rfl⟩
        · clear hat' hpe hne hq hc F3 N3 hp' d1 d2
          rintro k m₁ nw₁ h₁ tk₁ F₁ N₁ ⟨s, t, acc, p', n', tn', tp', tk0, tq, rfl, hQ, hacc, hal, hat', hpe, hne, rfl, es, et, ef⟩
          have F₂ := frKnow F₁ [(Str.ofString "self", .ref a.x), (Str.ofString "token", .str (wd acc) tk0), (Str.ofString "fiter", .ref it)] (by simp [es, et, ef])
          clear F₁
          cases hQ with
          | fin =>
            have hp' := at_lt hx hat'
            refine' next_char hup hrd hoff hio (by omega) ?B ?C F₂ ?X N₁ ?T ?hr ?hu ?_ ?_
            (case B => k_asm)
            (case C => assumption)
            (case X => k_asm)
            (case T => k_asm)
            (case hr => (first | exact Nat.lt_of_le_of_lt (Nat.add_le_add_left (by decide) _) (by assumption) | omega | ktr_room))
            (case hu => (first | exact Nat.lt_of_le_of_lt (Nat.add_le_add_left (by decide) _) (by assumption) | ktr_units | omega))
            · intro hc tn2 tp2 ty h2 tk2 F2 N2
              clear F₂ N₁
              rw [charAt_of hat'] at N2 ⊢
              replace N2 := news_drop2 N2
              have e1 : n' + nl 34 = n + seg.count 10 := by rw [← hne, ← nl_count]; rfl
              have e2 : p' + 1 = p + seg.length := by rw [← hpe]; rfl
              rw [show (n' + if one 34 = Str.ofString "\n" then 1 else 0) = n + seg.count 10 from e1, e2] at N2
              rw [List.append_nil] at hacc
              subst hacc
              dsimp only [lexLed, lexRest, readLed, itLed, List.cons_append, List.nil_append] at N2
              have d2 : (one 34 == Str.ofString "\"") = true := by decide +kernel
              (((try (show wpAny _ _ _ _ _ _; k_fold)); repeat' (first | (k_unfold; (try dsimp only)) | ((fail_if_success (first | first | (with_reducible show wpAny _ _ (exec (Stmt.While _ _ _ _) _) _ _ _) | (with_reducible show wpAny _ _ (exec (Stmt.For _ _ _ _ _) _) _ _ _))); first | walk1 | (dsimp only; walk1)) | fail "no step")))
              dsimp only [WhileStep2]
              (((try (show wpAny _ _ _ _ _ _; k_fold)); repeat' (first | (k_unfold; (try dsimp only)) | ((fail_if_success (first | first | (with_reducible show wpAny _ _ (exec (Stmt.While _ _ _ _) _) _ _ _) | (with_reducible show wpAny _ _ (exec (Stmt.For _ _ _ _ _) _) _ _ _))); first | walk1 | (dsimp only; walk1)) | fail "no step")))
              rename (∀ (_ : Value) (_ : List (Addr × Obj)) (_ : Heap) (_ : Nat), _) => hret9
              exact hret9 _ _ _ _ (by assumption) (by assumption) ⟨_, _, _, rfl, rfl⟩
            · intro hc; rw [charAt_of hat'] at hc; exact absurd hc (one_ne _)
          | @esc c s' t' hs =>
            have hp' := at_lt hx hat'
            have hat2 := drop_succ hat'
            have hp2 := at_lt hx hat2
            have hch := charAt_of hat2
            have hoff3 := hoff2 (callIt q tq) (methodObj (.ref 35) (.ref a.x))
            refine' next_char hup hrd hoff hio (by omega) ?B ?C F₂ ?X N₁ ?T ?hr ?hu ?_ ?_
            (case B => k_asm)
            (case C => assumption)
            (case X => k_asm)
            (case T => k_asm)
            (case hr => (first | exact Nat.lt_of_le_of_lt (Nat.add_le_add_left (by decide) _) (by assumption) | omega | ktr_room))
            (case hu => (first | exact Nat.lt_of_le_of_lt (Nat.add_le_add_left (by decide) _) (by assumption) | ktr_units | omega))
            · intro hc tn2 tp2 ty h2 tk2 F2 N2
              clear F₂ N₁
              rw [charAt_of hat'] at N2 ⊢
              dsimp only [lexLed, lexRest, readLed, itLed, List.cons_append, List.nil_append] at N2
              have d2 : ¬ ((one 92 == Str.ofString "\"") = true) := by decide +kernel
              have d3 : (one 92 == Str.ofString "\\") = true := by decide +kernel
              (((try (show wpAny _ _ _ _ _ _; k_fold)); repeat' (first | (k_unfold; (try dsimp only)) | ((fail_if_success (first | first | (with_reducible show wpAny _ _ (exec (Stmt.While _ _ _ _) _) _ _ _) | (with_reducible show wpAny _ _ (exec (Stmt.For _ _ _ _ _) _) _ _ _))); first | walk1 | (dsimp only; walk1)) | fail "no step")))
              dsimp only [WhileStep2]
              refine ⟨_, _, _, _, _, rfl, by assumption, by assumption, ?_, s', t', acc ++ [c], p' + 2, n' + nl 92 + nl c, _, _, _, _, rfl, hs, by rw [← hacc]; simp, by simp; omega, drop_succ hat2, by rw [← hpe, List.length_cons, List.length_cons]; omega, by rw [← hne, Nat.add_assoc, Nat.add_assoc, nl_count, nl_count], rfl, rfl, by rw [← wd_one]; rfl, rfl⟩
              simp only [List.length_cons]; omega
            · intro hc; rw [charAt_of hat'] at hc; exact absurd hc (one_ne _)
          | @plain c s' t' c34 c92 hs =>
            have hp' := at_lt hx hat'
            refine' next_char hup hrd hoff hio (by omega) ?B ?C F₂ ?X N₁ ?T ?hr ?hu ?_ ?_
            (case B => k_asm)
            (case C => assumption)
            (case X => k_asm)
            (case T => k_asm)
            (case hr => (first | exact Nat.lt_of_le_of_lt (Nat.add_le_add_left (by decide) _) (by assumption) | omega | ktr_room))
            (case hu => (first | exact Nat.lt_of_le_of_lt (Nat.add_le_add_left (by decide) _) (by assumption) | ktr_units | omega))
            · intro hc tn2 tp2 ty h2 tk2 F2 N2
              clear F₂ N₁
              rw [charAt_of hat'] at N2 ⊢
              dsimp only [lexLed, lexRest, readLed, itLed, List.cons_append, List.nil_append] at N2
              have d2 : ¬ ((one c == Str.ofString "\"") = true) := by rw [one_beq (d := 34) (by decide) c34]; decide
              have d3 : ¬ ((one c == Str.ofString "\\") = true) := by rw [one_beq (d := 92) (by decide) c92]; decide
              (((try (show wpAny _ _ _ _ _ _; k_fold)); repeat' (first | (k_unfold; (try dsimp only)) | ((fail_if_success (first | first | (with_reducible show wpAny _ _ (exec (Stmt.While _ _ _ _) _) _ _ _) | (with_reducible show wpAny _ _ (exec (Stmt.For _ _ _ _ _) _) _ _ _))); first | walk1 | (dsimp only; walk1)) | fail "no step")))
              dsimp only [WhileStep2]
              refine ⟨_, _, _, _, _, rfl, by assumption, by assumption, ?_, s', t', acc ++ [c], p' + 1, n' + nl c, _, _, _, _, rfl, hs, by rw [← hacc]; simp, by simp; omega, drop_succ hat', by rw [← hpe, List.length_cons]; omega, by rw [← hne, Nat.add_assoc, nl_count], rfl, rfl, by rw [← wd_one]; rfl, rfl⟩
              simp only [List.length_cons]; omega
            · intro hc; rw [charAt_of hat'] at hc; exact absurd hc (one_ne _)
      · intro hc; rw [charAt_of hat'] at hc; exact absurd hc (one_ne _)
    | @esc c s' t' hs =>
      have hp' := at_lt hx hat'
      have hat2 := drop_succ hat'
      have hp2 := at_lt hx hat2
      have hch := charAt_of hat2
      have hoff3 := hoff2 (callIt q tq) (methodObj (.ref 35) (.ref a.x))
      refine' next_char hup hrd hoff hio (by omega) ?B ?C F₂ ?X N₁ ?T ?hr ?hu ?_ ?_
      (case B => k_asm)
      (case C => assumption)
      (case X => k_asm)
      (case T => k_asm)
      (case hr => (first | exact Nat.lt_of_le_of_lt (Nat.add_le_add_left (by decide) _) (by assumption) | omega | ktr_room))
      (case hu => (first | exact Nat.lt_of_le_of_lt (Nat.add_le_add_left (by decide) _) (by assumption) | ktr_units | omega))
      · intro hc tn2 tp2 ty h2 tk2 F2 N2
        clear F₂ N₁
        rw [charAt_of hat'] at N2 ⊢
        dsimp only [lexLed, lexRest, readLed, itLed, List.cons_append, List.nil_append] at N2
        have d1 : ¬ (Txt.contains (Str.ofString "\n\t\x0d ") (one 92) = true) := by decide +kernel
        have d2 : ¬ ((one 92 == Str.ofString "\"") = true) := by decide +kernel
        have d3 : (one 92 == Str.ofString "\\") = true := by decide +kernel
        have hup0 := hup
        have hrd0 := hrd
        (((try (show wpAny _ _ _ _ _ _; k_fold)); repeat' (first | (k_unfold; (try dsimp only)) | ((fail_if_success (first | first | (with_reducible show wpAny _ _ (exec (Stmt.While _ _ _ _) _) _ _ _) | (with_reducible show wpAny _ _ (exec (Stmt.For _ _ _ _ _) _) _ _ _))); first | walk1 | (dsimp only; walk1)) | fail "no step")))
        rename Fr _ _ _ _ => F3
        rename News _ _ _ _ => N3
        refine For_mine F3 (fun k m nw => InvH UL w a x np own it q seg (c :: t') rest p n k m nw) (.ref it) ?_ ?_
        · walk1
          refine pyIter_callit (News.get N3 (show ((it, callIt q tq) : Addr × Obj) ∈ _ by simp)) ?_
          exact ⟨rfl, _, _, _, _, _, rfl, F3, N3, s', t', [c], p' + 2, n' + nl 92 + nl c, _, _, _, _, rfl, hs, rfl, by simp, drop_succ hat2, by rw [← hpe, List.length_cons, List.length_cons]; omega, by rw [← hne, Nat.add_assoc, Nat.add_assoc, nl_count, nl_count], rfl, rfl, by rw [← wd_first]; rfl, rfl⟩
        · clear hat' hat2 hp2 hpe hne hc F3 N3 hp' d1 d2 d3
          rintro k m₁ nw₁ h₁ tk₁ F₁ N₁ ⟨s, t, acc, p', n', tn', tp', tk0, tq, rfl, hU, hacc, hal, hat', hpe, hne, rfl, es, et, ef⟩
          have F₂ := frKnow F₁ [(Str.ofString "self", .ref a.x), (Str.ofString "token", .str (wd acc) tk0), (Str.ofString "fiter", .ref it)] (by simp [es, et, ef])
          clear F₁
          cases hU with
          | fin w' hws =>
            have hp' := at_lt hx hat'
            refine' next_char hup hrd hoff hio (by omega) ?B ?C F₂ ?X N₁ ?T ?hr ?hu ?_ ?_
            (case B => k_asm)
            (case C => assumption)
            (case X => k_asm)
            (case T => k_asm)
            (case hr => (first | exact Nat.lt_of_le_of_lt (Nat.add_le_add_left (by decide) _) (by assumption) | omega | ktr_room))
            (case hu => (first | exact Nat.lt_of_le_of_lt (Nat.add_le_add_left (by decide) _) (by assumption) | ktr_units | omega))
            · intro hc tn2 tp2 ty h2 tk2 F2 N2
              clear F₂ N₁
              rw [charAt_of hat'] at N2 ⊢
              replace N2 := news_drop2 N2
              have e1 : n' + nl w' = n + seg.count 10 := by rw [← hne, ← nl_count]; rfl
              have e2 : p' + 1 = p + seg.length := by rw [← hpe]; rfl
              rw [show (n' + if one w' = Str.ofString "\n" then 1 else 0) = n + seg.count 10 from e1, e2] at N2
              rw [List.append_nil] at hacc
              subst hacc
              dsimp only [lexLed, lexRest, readLed, itLed, List.cons_append, List.nil_append] at N2
              have d1 : Txt.contains (Str.ofString "\n\t\x0d ") (one w') = true := by rcases hws with rfl | rfl | rfl | rfl <;> decide +kernel
              (((try (show wpAny _ _ _ _ _ _; k_fold)); repeat' (first | (k_unfold; (try dsimp only)) | ((fail_if_success (first | first | (with_reducible show wpAny _ _ (exec (Stmt.While _ _ _ _) _) _ _ _) | (with_reducible show wpAny _ _ (exec (Stmt.For _ _ _ _ _) _) _ _ _))); first | walk1 | (dsimp only; walk1)) | fail "no step")))
              dsimp only [WhileStep2]
              (((try (show wpAny _ _ _ _ _ _; k_fold)); repeat' (first | (k_unfold; (try dsimp only)) | ((fail_if_success (first | first | (with_reducible show wpAny _ _ (exec (Stmt.While _ _ _ _) _) _ _ _) | (with_reducible show wpAny _ _ (exec (Stmt.For _ _ _ _ _) _) _ _ _))); first | walk1 | (dsimp only; walk1)) | fail "no step")))
              rename (∀ (_ : Value) (_ : List (Addr × Obj)) (_ : Heap) (_ : Nat), _) => hret9
              exact hret9 _ _ _ _ (by assumption) (by assumption) ⟨_, _, _, rfl, rfl⟩
            · intro hc; rw [charAt_of hat'] at hc; exact absurd hc (one_ne _)
          | @esc c₂ s' t₂ hs =>
            have hp' := at_lt hx hat'
            have hat2 := drop_succ hat'
            have hp2 := at_lt hx hat2
            have hch := charAt_of hat2
            have hoff3 := hoff2 (callIt q tq) (methodObj (.ref 35) (.ref a.x))
            refine' next_char hup hrd hoff hio (by omega) ?B ?C F₂ ?X N₁ ?T ?hr ?hu ?_ ?_
            (case B => k_asm)
            (case C => assumption)
            (case X => k_asm)
            (case T => k_asm)
            (case hr => (first | exact Nat.lt_of_le_of_lt (Nat.add_le_add_left (by decide) _) (by assumption) | omega | ktr_room))
            (case hu => (first | exact Nat.lt_of_le_of_lt (Nat.add_le_add_left (by decide) _) (by assumption) | ktr_units | omega))
            · intro hc tn2 tp2 ty h2 tk2 F2 N2
              clear F₂ N₁
              rw [charAt_of hat'] at N2 ⊢
              dsimp only [lexLed, lexRest, readLed, itLed, List.cons_append, List.nil_append] at N2
              have d1 : ¬ (Txt.contains (Str.ofString "\n\t\x0d ") (one 92) = true) := by decide +kernel
              have d3 : (one 92 == Str.ofString "\\") = true := by decide +kernel
              (((try (show wpAny _ _ _ _ _ _; k_fold)); repeat' (first | (k_unfold; (try dsimp only)) | ((fail_if_success (first | first | (with_reducible show wpAny _ _ (exec (Stmt.While _ _ _ _) _) _ _ _) | (with_reducible show wpAny _ _ (exec (Stmt.For _ _ _ _ _) _) _ _ _))); first | walk1 | (dsimp only; walk1)) | fail "no step")))
              dsimp only [WhileStep2]
              refine ⟨_, _, _, _, _, rfl, by assumption, by assumption, ?_, s', t₂, acc ++ [c₂], p' + 2, n' + nl 92 + nl c₂, _, _, _, _, rfl, hs, by rw [← hacc]; simp, by simp; omega, drop_succ hat2, by rw [← hpe, List.length_cons, List.length_cons]; omega, by rw [← hne, Nat.add_assoc, Nat.add_assoc, nl_count, nl_count], rfl, rfl, by rw [← wd_one]; rfl, rfl⟩
              simp only [List.length_cons]; omega
            · intro hc; rw [charAt_of hat'] at hc; exact absurd hc (one_ne _)
      · intro hc; rw [charAt_of hat'] at hc; exact absurd hc (one_ne _)
/-- between two white signs at the end -/
inductive InvE (w : World) (a : LexA) (x : Str) (np : Nat) (own : List (Addr × Obj)) (it q : Nat) (seg : List Nat) (p n : Nat) (k : Nat) (m : Str → Option Value) (nw : List (Addr × Obj)) : Prop
  | mk (s : List Nat) (p' n' : Nat) (tn tp tk0 tq : Tok) (e0 : k = s.length) (h1 : ∀ c ∈ s, ws c) (h2 : x.cps.toList.drop p' = s) (h5 : p' < 2 ^ 22) (h3 : p' + s.length = p + seg.length) (h4 : n' + s.count 10 = n + seg.count 10)
    (e : nw = lexLed w a n' tn [] np p' tp ++ (itLed a it q tq ++ own)) (e1 : m (Str.ofString "self") = some (.ref a.x)) (e2 : m (Str.ofString "token") = some (.str (Str.ofString "") tk0)) (e3 : m (Str.ofString "fiter") = some (.ref it))
theorem get_token_end_does {a : LexA} {x : Str} (hup : a.Up) (hrd : ReadFn prog w a x) {n : Nat} {tn tp : Tok} {np p : Nat} {own : List (Addr × Obj)} (hoff : OwnOff own a.all) (hp : p < 2 ^ 21)
    {seg : List Nat} (hws : ∀ c ∈ seg, ws c) (hat : x.cps.toList.drop p = seg) (hx : x.length < 2 ^ 20) :
    Does prog w 3 (.ref 42) [.ref a.x] [] (lexLed w a n tn [] np p tp ++ own) (fun r nw => ∃ tn' tp' t', r = .str (Str.ofString "") t' ∧ nw = lexLed w a (n + seg.count 10 : Nat) tn' [] np (p + seg.length + 1 : Nat) tp' ++ own) := by
  have hup' := hup
  obtain ⟨h1, h2, h3, h4, h5, h6, h7, h8, h9, h10⟩ := hup'
  have hod := own_d hoff
  ((unfold Does; intro _ _ _ _ _ _ _ _ _ _ _ _ _ _ _ _ _ _ _ _ _ _ _ _ _ _ _ _ _ _ _ _ _ _; w_top off; k_dflt k_enter))
  dsimp only [lexLed, lexRest, readLed, List.cons_append, List.nil_append] at *
  (((try (show wpAny _ _ _ _ _ _; k_fold)); repeat' (first | (k_unfold; (try dsimp only)) | ((fail_if_success (first | first | (with_reducible show wpAny _ _ (exec (Stmt.While _ _ _ _) _) _ _ _) | (with_reducible show wpAny _ _ (exec (Stmt.For _ _ _ _ _) _) _ _ _))); first | walk1 | (dsimp only; walk1)) | fail "no step")))
  rename_i q _ l1 it _ l9 hh F1 N1
  obtain ⟨i0, i1, i2, i3, i4, i5, i6, i7, i8, i9, i10, i11, iown⟩ := l9
  obtain ⟨j1, j2, j3, j4, j5, j6, j7, j8, j9, j10, j11, jown⟩ := l1
  have hio : ItOff a it q own := ⟨neN (by omega), by ((simp only [LexA.all, List.mem_cons, List.not_mem_nil, or_false, not_or]; (repeat' (refine And.intro ?_ ?_)) <;> (refine neN ?_; omega))), by ((simp only [LexA.all, List.mem_cons, List.not_mem_nil, or_false, not_or]; (repeat' (refine And.intro ?_ ?_)) <;> (refine neN ?_; omega))), allLt_ne iown (Nat.le_refl _)⟩
  refine For_mine F1 (fun k m nw => InvE w a x np own it q seg p n k m nw) (.ref it) ?_ ?_
  · walk1
    refine pyIter_callit (News.get N1 (.head _)) ?_
    exact ⟨rfl, _, _, _, _, _, rfl, F1, news_front2 N1, seg, p, n, _, _, _, _, rfl, hws, hat, by omega, rfl, rfl, rfl, rfl, rfl, rfl⟩
  · rintro k m₁ nw₁ h₁ tk₁ F₁ N₁ ⟨s, p', n', tn', tp', tk0, tq, rfl, hw', hat', hp', hpe, hne, rfl, es, et, ef⟩
    have F₂ := frKnow F₁ [(Str.ofString "self", .ref a.x), (Str.ofString "token", .str (Str.ofString "") tk0), (Str.ofString "fiter", .ref it)] (by simp [es, et, ef])
    clear F₁ F1 N1
    refine' next_char hup hrd hoff hio (by omega) ?B ?C F₂ ?X N₁ ?T ?hr ?hu ?_ ?_
    (case B => k_asm)
    (case C => assumption)
    (case X => k_asm)
    (case T => k_asm)
    (case hr => (first | exact Nat.lt_of_le_of_lt (Nat.add_le_add_left (by decide) _) (by assumption) | omega | ktr_room))
    (case hu => (first | exact Nat.lt_of_le_of_lt (Nat.add_le_add_left (by decide) _) (by assumption) | ktr_units | omega))
    · intro hc tn2 tp2 ty h2 tk2 F2 N2
      clear F₂ N₁
      cases s with
      | nil => exact absurd (charAt_nil hat') hc
      | cons c s' =>
        have hlt := at_lt hx hat'
        have hcw := hw' c (.head _)
        rw [charAt_of hat'] at N2 ⊢
        dsimp only [lexLed, lexRest, readLed, itLed, List.cons_append, List.nil_append] at N2
        have hwsd : Txt.contains (Str.ofString "\n\t\x0d ") (one c) = true := by rcases hcw with rfl | rfl | rfl | rfl <;> decide +kernel
        (((try (show wpAny _ _ _ _ _ _; k_fold)); repeat' (first | (k_unfold; (try dsimp only)) | ((fail_if_success (first | first | (with_reducible show wpAny _ _ (exec (Stmt.While _ _ _ _) _) _ _ _) | (with_reducible show wpAny _ _ (exec (Stmt.For _ _ _ _ _) _) _ _ _))); first | walk1 | (dsimp only; walk1)) | fail "no step")))
        dsimp only [WhileStep2]
        exact ⟨_, _, _, _, _, rfl, by assumption, by assumption, Nat.lt_succ_self _, s', p' + 1, n' + nl c, _, _, _, _, rfl, fun d hd => hw' d (.tail _ hd), drop_succ hat', by omega, by rw [← hpe, List.length_cons]; omega, by rw [← hne, Nat.add_assoc, nl_count], rfl, rfl, rfl, rfl⟩
    · intro hc tn2 tp2 h2 tk2 F2 N2
      clear F₂ N₁
      cases s with
      | cons c s' => rw [charAt_of hat'] at hc; exact absurd hc (one_ne _)
      | nil =>
        have e1 : n' = n + seg.count 10 := by rw [← hne]; rfl
        have e2 : p' + 1 = p + seg.length + 1 := by rw [← hpe]; rfl
        replace N2 := news_drop2 N2
        rw [e1, e2] at N2
        dsimp only [lexLed, lexRest, readLed, itEnd, List.cons_append, List.nil_append] at N2
        dsimp only
        (((try (show wpAny _ _ _ _ _ _; k_fold)); repeat' (first | (k_unfold; (try dsimp only)) | ((fail_if_success (first | first | (with_reducible show wpAny _ _ (exec (Stmt.While _ _ _ _) _) _ _ _) | (with_reducible show wpAny _ _ (exec (Stmt.For _ _ _ _ _) _) _ _ _))); first | walk1 | (dsimp only; walk1)) | fail "no step")))
        rename (∀ (_ : Value) (_ : List (Addr × Obj)) (_ : Heap) (_ : Nat), _) => hret9
        exact hret9 _ _ _ _ (by assumption) (by assumption) ⟨_, _, _, rfl, rfl⟩
theorem pop_own {A : Around} {E : Value → Shared → Prop} {s : Shared} {h₀ : Heap} {L l : Addr} {m : Str → Option Value} {vs : List Value} {n : Nat} {u : Tok} {y : Value} {own : List (Addr × Obj)} {Q : Value → Shared → Prop}
    (F : Fr h₀ L s.heap m) (N : News h₀ L s.heap ((l, listOf (y :: vs).toArray n) :: own)) (hoff : ∀ p ∈ own, p.1 ≠ l) (hz : vs.length < 2 ^ 20)
    (h : ∀ h', Fr h₀ L h' m → News h₀ L h' ((l, listOf vs.toArray (n + 1)) :: own) → Q y { s with heap := h' }) :
    wpAny (model prog w) A (call (.builtin "list.pop") [.ref l, .int 0 u]) Q E s :=
  kl_popAt (k := 0) (p := []) (q := vs) F N (by decide) (by simp [seqIndex?]) rfl (.head hoff) (by rw [sizeLine_eq]; simp; omega) h
theorem get_token_back_does {a : LexA} (hup : a.Up) {n p : Int} {tn tp t : Tok} {y : Str} {pb : List Value} {np : Nat} {own : List (Addr × Obj)} (hoff : OwnOff own a.all) (hpb : pb.length < 2 ^ 10) :
    Does prog w 3 (.ref 42) [.ref a.x] [] (lexLed w a n tn (.str y t :: pb) np p tp ++ own) (fun r nw => ∃ np', r = .str y t ∧ nw = lexLed w a n tn pb np' p tp ++ own) := by
  have hup' := hup
  obtain ⟨h1, h2, h3, h4, h5, h6, h7, h8, h9, h10⟩ := hup'
  have hod := own_l hoff
  ((unfold Does; intro _ _ _ _ _ _ _ _ _ _ _ _ _ _ _ _ _ _ _ _ _ _ _ _ _ _ _ _ _ _ _ _ _ _; w_top off; k_dflt k_enter))
  dsimp only [lexLed, lexRest, readLed, List.cons_append, List.nil_append] at *
  (((try (show wpAny _ _ _ _ _ _; k_fold)); repeat' (first | (k_unfold; (try dsimp only)) | ((fail_if_success (first | first | (with_reducible show wpAny _ _ (exec (Stmt.While _ _ _ _) _) _ _ _) | (with_reducible show wpAny _ _ (exec (Stmt.For _ _ _ _ _) _) _ _ _))); first | walk1 | (dsimp only; walk1)) | fail "no step")))
  rename Fr _ _ _ _ => F1
  rename News _ _ _ _ => N1
  refine pop_own F1 N1 ?_ (by omega) ?_
  · simp only [List.forall_mem_cons]
    refine ⟨?_, ?_, ?_, ?_, ?_, ?_, ?_, ?_, ?_, ?_, OwnOff.ne hod (.head _)⟩ <;> (refine neN ?_; omega)
  · intro h9 F9 N9
    clear F1 N1
    (((try (show wpAny _ _ _ _ _ _; k_fold)); repeat' (first | (k_unfold; (try dsimp only)) | ((fail_if_success (first | first | (with_reducible show wpAny _ _ (exec (Stmt.While _ _ _ _) _) _ _ _) | (with_reducible show wpAny _ _ (exec (Stmt.For _ _ _ _ _) _) _ _ _))); first | walk1 | (dsimp only; walk1)) | fail "no step")))
    rename (∀ (_ : Value) (_ : List (Addr × Obj)) (_ : Heap) (_ : Nat), _) => hret9
    exact hret9 _ _ _ _ (by assumption) (by assumption) ⟨_, rfl, rfl⟩
theorem push_token_does {a : LexA} (hup : a.Up) {n p : Int} {tn tp t : Tok} {y : Str} {pb : List Value} {np : Nat} {own : List (Addr × Obj)} (hoff : OwnOff own a.all) (hpb : pb.length < 2 ^ 10) :
    Does prog w 3 (.ref 49) [.ref a.x, .str y t] [] (lexLed w a n tn pb np p tp ++ own) (fun r nw => r = .none ∧ nw = lexLed w a n tn (pb ++ [.str y t]) (np + 1) p tp ++ own) := by
  have hup' := hup
  obtain ⟨h1, h2, h3, h4, h5, h6, h7, h8, h9, h10⟩ := hup'
  have hod := own_l hoff
  ((unfold Does; intro _ _ _ _ _ _ _ _ _ _ _ _ _ _ _ _ _ _ _ _ _ _ _ _ _ _ _ _ _ _ _ _ _ _; w_top off; k_dflt k_enter))
  dsimp only [lexLed, lexRest, readLed, List.cons_append, List.nil_append] at *
  (((try (show wpAny _ _ _ _ _ _; k_fold)); repeat' (first | (k_unfold; (try dsimp only)) | ((fail_if_success (first | first | (with_reducible show wpAny _ _ (exec (Stmt.While _ _ _ _) _) _ _ _) | (with_reducible show wpAny _ _ (exec (Stmt.For _ _ _ _ _) _) _ _ _))); first | walk1 | (dsimp only; walk1)) | fail "no step")))
  rename (∀ (_ : Value) (_ : List (Addr × Obj)) (_ : Heap) (_ : Nat), _) => hret9
  rename News _ _ _ _ => N1
  rw [List.push_toArray] at N1
  exact hret9 _ _ _ _ (by assumption) N1 ⟨rfl, rfl⟩
/-- how a turn of a for over a list ends -/
def TurnEnd (h₀ : Heap) (L : Addr) (s : Shared) (fix : List (Addr × Obj)) (J : (Str → Option Value) → List (Addr × Obj) → Prop) (Q : Flow → Shared → Prop) (f : Flow) (s₃ : Shared) : Prop :=
  match f with
  | .next | .cont => ∃ h' tk m₂ nw₂, s₃ = { s with heap := h', toks := tk } ∧ Fr h₀ L h' m₂ ∧ News h₀ L h' (fix ++ nw₂) ∧ J m₂ nw₂
  | .brk => Q .next s₃
  | .ret v => Q (.ret v) s₃
/-- the loop stands at its start, with its iterator -/
def ForAt (prog : Program) (w : World) (A : Around) (h₀ : Heap) (L : Addr) (env : Env) (x : Str) (body : List Stmt) (Q : Flow → Shared → Prop) (E : Value → Shared → Prop) (it : Value) (s : Shared) : Prop :=
  ∃ (J : Nat → (Str → Option Value) → List (Addr × Obj) → Prop) (n : Nat), (∃ m nw, Fr h₀ L s.heap m ∧ News h₀ L s.heap nw ∧ J n m nw) ∧
    ∀ n m₁ nw₁ h₁ tk₁, Fr h₀ L h₁ m₁ → News h₀ L h₁ nw₁ → J n m₁ nw₁ →
      wpAny (model prog w) A (pyNext it) (fun r s₂ => match r with
        | none => Q .next s₂
        | some v => wpAny (model prog w) A (storeName env x v) (fun _ s₃ => wpAny (model prog w) A (execs body env) (WhileStep2 h₀ L s J Q n) E s₃) E s₂) E { s with heap := h₁, toks := tk₁ }
section
variable {A : Around} {E : Value → Shared → Prop} {s : Shared} {Q : Flow → Shared → Prop} {env : Env} {h₀ : Heap} {L : Addr}
theorem For_any {x : Str} {px pos : Pos} {iter : Expr} {body : List Stmt} {m₀ : Str → Option Value} (_F : Fr h₀ L s.heap m₀)
    (h : wpAny (model prog w) A (eval iter env) (fun xv s₁ => wpAny (model prog w) A (pyIter xv) (fun it s₂ => ForAt prog w A h₀ L env x body Q E it s₂) E s₁) E s)
    (hs : ∀ x, foldedSetIterable iter env x = pure x := by intro _; rfl)
    (hE : PassesOwn (model prog w) A env E := by passes_own) :
    wpAny (model prog w) A (exec (.For (.Name x px) iter body [] pos) env) Q E s := by
  refine wpAny_For (wpAny_mono h (fun xv s₁ h₁ => wpAny_mono h₁ (fun it s₂ h₂ => ?_) fun _ _ e => e) fun _ _ e => e) hs
  obtain ⟨J, n, ⟨m, nw, F, N, hJ⟩, turn⟩ := h₂
  refine codeAny_forLoop (fun n s' => ∃ h₁ tk₁ m₁ nw₁, s' = { s₂ with heap := h₁, toks := tk₁ } ∧ Fr h₀ L h₁ m₁ ∧ News h₀ L h₁ nw₁ ∧ J n m₁ nw₁) ?_ n ⟨s₂.heap, s₂.toks, m, nw, rfl, F, N, hJ⟩
  rintro n s' ⟨h₁, tk₁, m₁, nw₁, rfl, F₁, N₁, J₁⟩
  refine wpAny_mono (turn n m₁ nw₁ h₁ tk₁ F₁ N₁ J₁) (fun r s₂ h₂ => ?_) hE
  cases r with
  | none => exact wpAny_execs_nil h₂
  | some v =>
    refine wpAny_assign_Name (wpAny_mono h₂ (fun _ s₃ h₃ => wpAny_mono h₃ (fun f s₄ h₄ => ?_) hE) hE)
    cases f with
    | next =>
      obtain ⟨h', tk, m₂, nw₂, n', rfl, F₂, N₂, hn, J₂⟩ := h₄
      exact ⟨n', hn, h', tk, m₂, nw₂, rfl, F₂, N₂, J₂⟩
    | cont =>
      obtain ⟨h', tk, m₂, nw₂, n', rfl, F₂, N₂, hn, J₂⟩ := h₄
      exact ⟨n', hn, h', tk, m₂, nw₂, rfl, F₂, N₂, J₂⟩
    | brk => exact h₄
    | ret v => exact h₄
/-- a list's iterator, i items on -/
def ListIt (o : Obj) (l : Addr) (i : Nat) : Prop := o.cls = .type "list_iterator" ∧ o.data = .fields #[.ref l, .int (i : Int) 0]
theorem news_same {h h' : Heap} {it : Addr} {o o' : Obj} {nw : List (Addr × Obj)} (N : News h₀ L h ((it, o) :: nw)) (hs : Heap.SameBut it h h') (hi : h'.get? it = some o') (hne : ∀ p ∈ nw, p.1 ≠ it) : News h₀ L h' ((it, o') :: nw) := by
  intro p hp
  rcases List.mem_cons.mp hp with rfl | hp
  · exact ⟨hi, (N _ (.head _)).2⟩
  · exact ⟨(hs.2 _ (hne p hp)).trans (N p (.tail _ hp)).1, (N p (.tail _ hp)).2⟩
theorem iter_listM {x : Str} {body : List Stmt} {l : Addr} {vs : List Value} {n : Nat} {m : Str → Option Value} {nw : List (Addr × Obj)} (hh : A.handled = none) (hL : env.locals = L) (hx : env.kindOf x = some .local)
    (hp : (env.scope.kind == .class || (env.scope.kind == .module && env.locals != env.globals)) = false)
    (J : Nat → (Str → Option Value) → List (Addr × Obj) → Prop)
    (F : Fr h₀ L s.heap m) (N : News h₀ L s.heap nw) (hJ : J 0 m nw) (hm : ∀ i m nw, J i m nw → (l, listOf vs.toArray n) ∈ nw)
    (turn : ∀ it io i v m₁ nw₁ h₁ tk₁, (∀ p ∈ nw, p.1 < it) → (∀ p ∈ nw₁, p.1 ≠ it) → vs[i]? = some v → J i m₁ nw₁ → Fr h₀ L h₁ (fun y => if y = x then some v else m₁ y) → News h₀ L h₁ ((it, io) :: nw₁) →
      wpAny (model prog w) A (execs body env) (TurnEnd h₀ L s [(it, io)] (fun m nw => J (i + 1) m nw ∧ ∀ p ∈ nw, p.1 ≠ it) Q) E { s with heap := h₁, toks := tk₁ })
    (done : ∀ m₁ nw₁ h₁ tk₁, J vs.length m₁ nw₁ → Fr h₀ L h₁ m₁ → News h₀ L h₁ nw₁ → Q .next { s with heap := h₁, toks := tk₁ }) :
    wpAny (model prog w) A (pyIter (.ref l)) (fun it s₂ => ForAt prog w A h₀ L env x body Q E it s₂) E s := by
  have lst : ∀ {h : Heap} {nw : List (Addr × Obj)}, News h₀ L h nw → (l, listOf vs.toArray n) ∈ nw → h.IsList l vs.toArray := fun N hm => ⟨_, News.get N hm, rfl, _, rfl⟩
  refine wpAny_pyIter_list (lst N (hm _ _ _ hJ)) ?_
  have hlow : ∀ p ∈ nw, p.1 < s.heap.objs.size := fun p hp => Heap.lt_size (N p hp).1
  refine ⟨fun k m nw' => ∃ i nw₁ io, k = vs.length - i ∧ i ≤ vs.length ∧ nw' = (s.heap.objs.size, io) :: nw₁ ∧ ListIt io l i ∧ J i m nw₁ ∧ (∀ p ∈ nw₁, p.1 ≠ s.heap.objs.size), vs.length, ⟨m, _, F.push _, N.push F _, 0, nw, _, rfl, Nat.zero_le _, rfl, ⟨rfl, rfl⟩, hJ, fun p hp => Nat.ne_of_lt (hlow p hp)⟩, ?_⟩
  rintro k m₁ nw' h₁ tk₁ F₁ N₁ ⟨i, nw₁, io, rfl, hi, rfl, hio, hJ₁, hne⟩
  have hit : h₁.IsListIter s.heap.objs.size l i := ⟨io, News.get N₁ (.head _), hio.1, hio.2⟩
  have z := N₁ _ (.head _)
  have hl₁ := lst (news_sub N₁ fun p hp => .tail _ hp) (hm _ _ _ hJ₁)
  by_cases hlt : i < vs.length
  · refine wpAny_pyNext_list_item hit hl₁ (x := vs[i]) (by simp [hlt]) fun h' hit' hs' => ?_
    obtain ⟨io', hg, hc, hd⟩ := hit'
    have F' := F₁.change hs' z.2.1 z.2.2
    have N' := news_same N₁ hs' hg hne
    refine wpAny_storeName_local hx (hL ▸ F'.ns) (fun h'' hn hsb => ?_) hp
    subst hL
    refine wpAny_mono (turn _ io' i vs[i] m₁ nw₁ h'' _ hlow hne (by simp [hlt]) hJ₁ (F'.set hn hsb) (N'.set hsb)) (fun f s₃ h₃ => ?_) fun _ _ e => e
    cases f with
    | ret v => exact h₃
    | brk => exact h₃
    | next =>
      obtain ⟨h₄, tk₄, m₂, nw₂, rfl, F₂, N₂, hJ₂, hne₂⟩ := h₃
      exact ⟨h₄, tk₄, m₂, _, vs.length - (i + 1), rfl, F₂, N₂, by omega, i + 1, nw₂, io', rfl, hlt, rfl, ⟨hc, hd⟩, hJ₂, hne₂⟩
    | cont =>
      obtain ⟨h₄, tk₄, m₂, nw₂, rfl, F₂, N₂, hJ₂, hne₂⟩ := h₃
      exact ⟨h₄, tk₄, m₂, _, vs.length - (i + 1), rfl, F₂, N₂, by omega, i + 1, nw₂, io', rfl, hlt, rfl, ⟨hc, hd⟩, hJ₂, hne₂⟩
  · have hin : i = vs.length := by omega
    subst hin
    refine wpAny_pyNext_list_end hh hit hl₁ (by simp) fun h' he => ?_
    exact done m₁ nw₁ h' _ hJ₁ (fr_extBut F₁ he z.2.1 z.2.2) fun p hp => ⟨he _ _ (hne p hp) (N₁ p (.tail _ hp)).1, (N₁ p (.tail _ hp)).2⟩
end
theorem insW_rising {ws : List Str} {x : Str} (hr : Rising ws) : Rising (insW ws x) := by
  have hle := List.countP_le_length (p := fun y : Str => decide ((y.length : Int) < (x.length : Int))) (l := ws)
  -- all before are shorter, all behind are not
  have key : ∀ (l : List Str), Rising l → (∀ y ∈ l.take (l.countP fun y : Str => decide ((y.length : Int) < (x.length : Int))), y.length < x.length) ∧ (∀ y ∈ l.drop (l.countP fun y : Str => decide ((y.length : Int) < (x.length : Int))), x.length ≤ y.length) := by
    intro l
    induction l with
    | nil => intro _; simp
    | cons z l ih =>
      intro h
      have h2 := List.pairwise_cons.mp h
      by_cases hz : (z.length : Int) < (x.length : Int)
      · have e : (z :: l).countP (fun y : Str => decide ((y.length : Int) < (x.length : Int))) = l.countP (fun y : Str => decide ((y.length : Int) < (x.length : Int))) + 1 := by rw [List.countP_cons]; simp [hz]
        rw [e]
        have := ih h2.2
        refine ⟨?_, ?_⟩
        · intro y hy
          rw [List.take_succ_cons] at hy
          rcases List.mem_cons.mp hy with rfl | hy
          · omega
          · exact this.1 y hy
        · rw [List.drop_succ_cons]; exact this.2
      · have e : (z :: l).countP (fun y : Str => decide ((y.length : Int) < (x.length : Int))) = 0 := by
          rw [List.countP_eq_zero]
          intro y hy
          rcases List.mem_cons.mp hy with rfl | hy
          · simpa using hz
          · have := h2.1 y hy
            simp; omega
        rw [e]
        refine ⟨by simp, ?_⟩
        intro y hy
        rw [List.drop_zero] at hy
        rcases List.mem_cons.mp hy with rfl | hy
        · omega
        · have := h2.1 y hy
          omega
  have hk := key ws hr
  unfold insW Rising
  rw [List.pairwise_append]
  refine ⟨List.Pairwise.sublist (List.take_sublist _ _) hr, ?_, ?_⟩
  · rw [List.pairwise_cons]
    exact ⟨fun y hy => hk.2 y hy, List.Pairwise.sublist (List.drop_sublist _ _) hr⟩
  · intro y hy z hz
    have h1 := hk.1 y hy
    rcases List.mem_cons.mp hz with rfl | hz
    · omega
    · have := hk.2 z hz; omega
theorem mem_insW {ws : List Str} {x y : Str} (h : y ∈ insW ws x) : y = x ∨ y ∈ ws := by
  unfold insW at h
  rcases List.mem_append.mp h with h | h
  · exact .inr (List.mem_of_mem_take h)
  · rcases List.mem_cons.mp h with h | h
    · exact .inl h
    · exact .inr (List.mem_of_mem_drop h)
/-- words put in a row, one after another -/
def rowW (ws : List Str) : List Str := ws.foldl insW []
/-- a row that stands well -/
def RowOk (ws : List Str) : Prop := Rising ws ∧ ∀ y ∈ ws, y.length < 2 ^ 10
theorem RowOk.nil : RowOk [] := ⟨List.Pairwise.nil, by simp⟩
theorem RowOk.ins {ws : List Str} {x : Str} (h : RowOk ws) (hx : x.length < 2 ^ 10) : RowOk (insW ws x) :=
  ⟨insW_rising h.1, fun y hy => by rcases mem_insW hy with rfl | h'; exact hx; exact h.2 y h'⟩
theorem foldl_insW {ws ys : List Str} (hy : RowOk ys) (hw : ∀ y ∈ ws, y.length < 2 ^ 10) : RowOk (ws.foldl insW ys) ∧ (ws.foldl insW ys).length = ys.length + ws.length := by
  induction ws generalizing ys with
  | nil => exact ⟨hy, rfl⟩
  | cons w r ih =>
    have := ih (hy.ins (hw w (.head _))) fun y h => hw y (.tail _ h)
    rw [List.foldl_cons]
    refine ⟨this.1, ?_⟩
    rw [this.2, insW_length, List.length_cons]; omega
theorem news_swap {h₀ h : Heap} {L : Addr} {p q : Addr × Obj} {l : List (Addr × Obj)} (N : News h₀ L h (p :: q :: l)) : News h₀ L h (q :: p :: l) := news_sub N fun r hr => by
  rcases List.mem_cons.mp hr with rfl | hr
  · exact .tail _ (.head _)
  · rcases List.mem_cons.mp hr with rfl | hr
    · exact .head _
    · exact .tail _ (.tail _ hr)
theorem law_row_does {lw : Nat} {vs : List Value} {nv : Nat} {ws : List Str} {own : List (Addr × Obj)} (hs : StrsAre vs ws) (hw : ∀ y ∈ ws, y.length < 2 ^ 10) (hn : ws.length < 2 ^ 9) :
    Does prog w 4 (.ref 136) [.ref lw] [] ((lw, listOf vs.toArray nv) :: own) (fun r nw => ∃ l vs' n', r = .ref l ∧ nw = (l, listOf vs'.toArray n') :: (lw, listOf vs.toArray nv) :: own ∧ StrsAre vs' (rowW ws) ∧ (lw < l ∧ AllLt l own)) := by
  ((unfold Does; intro _ _ _ _ _ _ _ _ _ _ _ _ _ _ _ _ _ _ _ _ _ _ _ _ _ _ _ _ _ _ _ _ _ _; w_top off; k_dflt k_enter))
  (((try (show wpAny _ _ _ _ _ _; k_fold)); repeat' (first | (k_unfold; (try dsimp only)) | ((fail_if_success (first | (with_reducible show wpAny _ _ (call (Value.ref 65) _ _) _ _ _) | first | (with_reducible show wpAny _ _ (exec (Stmt.While _ _ _ _) _) _ _ _) | (with_reducible show wpAny _ _ (exec (Stmt.For _ _ _ _ _) _) _ _ _))); first | walk1 | (dsimp only; walk1)) | fail "no step")))
  rename_i l _ l1 _ F1 N1
  obtain ⟨i0, iown⟩ := l1
  have hlen := hs.length
  refine For_any F1 ?_
  walk1
  refine iter_listM rfl rfl rfl rfl (fun i m nw => ∃ vs' n', nw = (l, listOf vs'.toArray n') :: (lw, listOf vs.toArray nv) :: own ∧ StrsAre vs' ((ws.take i).foldl insW []) ∧ m (Str.ofString "row") = some (.ref l)) F1 N1
    ⟨[], _, rfl, .nil, rfl⟩ (fun i m nw hJ => by obtain ⟨vs', n', rfl, _⟩ := hJ; exact .tail _ (.head _)) ?_ ?_
  · rintro it io i v m₁ nw₁ h₁ tk₁ hlow hne hv ⟨vs', n', rfl, hvs, er⟩ F₂ N₂
    obtain ⟨y, t, rfl, hy⟩ := hs.item i v hv
    have hym := List.mem_of_getElem? hy
    have F₃ := frKnow F₂ [(Str.ofString "row", .ref l)] (by intro p hp; obtain rfl := List.mem_singleton.mp hp; exact er)
    have hrow := foldl_insW (ws := ws.take i) RowOk.nil (fun z hz => hw z (List.mem_of_mem_take hz))
    have hlen2 : ((ws.take i).foldl insW []).length < 2 ^ 10 := by rw [hrow.2, List.length_take]; simp; omega
    have hyl := hw y hym
    have hoff : ∀ p ∈ ((it, io) : Addr × Obj) :: (lw, listOf vs.toArray nv) :: own, p.1 ≠ l := by
      intro p hp
      rcases List.mem_cons.mp hp with rfl | hp
      · exact Ne.symm (hne _ (.head _))
      · rcases List.mem_cons.mp hp with rfl | hp
        · exact Nat.ne_of_lt i0
        · exact allLt_ne iown (Nat.le_refl _) p hp
    clear F₂ F1 N1
    (((try (show wpAny _ _ _ _ _ _; k_fold)); repeat' (first | (k_unfold; (try dsimp only)) | ((fail_if_success (first | (with_reducible show wpAny _ _ (call (Value.ref 65) _ _) _ _ _) | first | (with_reducible show wpAny _ _ (exec (Stmt.While _ _ _ _) _) _ _ _) | (with_reducible show wpAny _ _ (exec (Stmt.For _ _ _ _ _) _) _ _ _))); first | walk1 | (dsimp only; walk1)) | fail "no step")))
    rename News _ _ _ _ => N4
    refine' Does.use (insort_does (own := (it, io) :: (lw, listOf vs.toArray nv) :: own) hoff hvs (by rw [hvs.length]) hlen2 hrow.1.2 hyl hrow.1.1) ?B ?C ?F ?X ?N ?T ?hr ?hu ?_
    (case N => exact news_swap N4)
    (((case B => k_asm); (case C => assumption); (case F => k_asm); (case X => k_asm); (case T => k_asm); (case hr => (first | exact Nat.lt_of_le_of_lt (Nat.add_le_add_left (by decide) _) (by assumption) | omega | ktr_room)); (case hu => (first | exact Nat.lt_of_le_of_lt (Nat.add_le_add_left (by decide) _) (by assumption) | ktr_units | omega))))
    intro r9 nw9 h9 tk9 F9 N9 H9
    obtain ⟨rfl, vs9, n9, rfl, hvs9⟩ := H9
    have N10 : News _ _ h9 ([(it, io)] ++ ((l, listOf vs9.toArray n9) :: (lw, listOf vs.toArray nv) :: own)) := news_swap N9
    clear N9 N4
    (((try (show wpAny _ _ _ _ _ _; k_fold)); repeat' (first | (k_unfold; (try dsimp only)) | ((fail_if_success (first | (with_reducible show wpAny _ _ (call (Value.ref 65) _ _) _ _ _) | first | (with_reducible show wpAny _ _ (exec (Stmt.While _ _ _ _) _) _ _ _) | (with_reducible show wpAny _ _ (exec (Stmt.For _ _ _ _ _) _) _ _ _))); first | walk1 | (dsimp only; walk1)) | fail "no step")))
    dsimp only [TurnEnd]
    refine ⟨_, _, _, _, rfl, by assumption, by assumption, ⟨vs9, n9, rfl, ?_, rfl⟩, ?_⟩
    · rw [List.take_add_one, hy]
      simpa using hvs9
    · intro p hp
      rcases List.mem_cons.mp hp with rfl | hp
      · exact hne (l, listOf vs'.toArray n') (.head _)
      · exact hne _ (.tail _ hp)
  · rintro m₁ nw₁ h₁ tk₁ ⟨vs', n', rfl, hvs, er⟩ F₂ N₂
    have F₃ := frKnow F₂ [(Str.ofString "row", .ref l)] (by intro p hp; obtain rfl := List.mem_singleton.mp hp; exact er)
    clear F₂ F1 N1
    dsimp only
    (((try (show wpAny _ _ _ _ _ _; k_fold)); repeat' (first | (k_unfold; (try dsimp only)) | ((fail_if_success (first | (with_reducible show wpAny _ _ (call (Value.ref 65) _ _) _ _ _) | first | (with_reducible show wpAny _ _ (exec (Stmt.While _ _ _ _) _) _ _ _) | (with_reducible show wpAny _ _ (exec (Stmt.For _ _ _ _ _) _) _ _ _))); first | walk1 | (dsimp only; walk1)) | fail "no step")))
    rename (∀ (_ : Value) (_ : List (Addr × Obj)) (_ : Heap) (_ : Nat), _) => hret9
    refine hret9 _ _ _ _ (by assumption) (by assumption) ⟨l, _, _, rfl, rfl, ?_, i0, iown⟩
    rw [hlen, List.take_length] at hvs
    exact hvs
/-- one table after another is served -/
def serve : List Str → Int → Int → List Str → Int × List Str
  | [], _, se, row => (se, row)
  | t :: q, st, se, row =>
    if 0 < st then serve q (st - 1) (se + 1) (if Txt.slice t (some 1) none = Str.ofString "" then row else insW row (Txt.slice t (some 1) none))
    else serve q st se (if t = Str.ofString "" then row else insW row t)
/-- how many are seated behind each family -/
def seatedF : List Str → List Str → Int → List Int
  | [], _, _ => []
  | f :: fs, row, se => (serve row.reverse f.length se []).1 :: seatedF fs (serve row.reverse f.length se []).2 (serve row.reverse f.length se []).1
theorem news_in1 {h₀ h : Heap} {L : Addr} {p : Addr × Obj} {l own : List (Addr × Obj)} (N : News h₀ L h (p :: (l ++ own))) : News h₀ L h (l ++ (p :: own)) :=
  news_sub N fun r hr => by
    rcases List.mem_append.mp hr with h | h
    · exact .tail _ (List.mem_append_left _ h)
    · rcases List.mem_cons.mp h with rfl | h
      · exact .head _
      · exact .tail _ (List.mem_append_right _ h)
theorem news_out1 {h₀ h : Heap} {L : Addr} {p : Addr × Obj} {l own : List (Addr × Obj)} (N : News h₀ L h (l ++ (p :: own))) : News h₀ L h (p :: (l ++ own)) :=
  news_sub N fun r hr => by
    rcases List.mem_cons.mp hr with rfl | h
    · exact List.mem_append_right _ (.head _)
    · rcases List.mem_append.mp h with h | h
      · exact List.mem_append_left _ h
      · exact List.mem_append_right _ (.tail _ h)
theorem append_own {A : Around} {E : Value → Shared → Prop} {s : Shared} {h₀ : Heap} {L l : Addr} {m : Str → Option Value} {vs : List Value} {n : Nat} {x : Value} {own : List (Addr × Obj)} {Q : Value → Shared → Prop}
    (F : Fr h₀ L s.heap m) (N : News h₀ L s.heap ((l, listOf vs.toArray n) :: own)) (hoff : ∀ p ∈ own, p.1 ≠ l) (hz : vs.length < 2 ^ 20)
    (h : ∀ h', Fr h₀ L h' m → News h₀ L h' ((l, listOf (vs ++ [x]).toArray (n + 1)) :: own) → Q .none { s with heap := h' }) :
    wpAny (model prog w) A (call (.builtin "list.append") [.ref l, x]) Q E s :=
  append_head F N hoff (fun h' F' N' => h h' F' (by rw [← List.push_toArray]; exact N')) (by rw [sizeLine_eq]; simp; omega)
theorem news_out2 {h₀ h : Heap} {L : Addr} {p q : Addr × Obj} {l own : List (Addr × Obj)} (N : News h₀ L h (l ++ (p :: q :: own))) : News h₀ L h (q :: (l ++ (p :: own))) :=
  news_sub N fun r hr => by simp only [List.mem_cons, List.mem_append] at hr ⊢; rcases hr with h | h | h | h <;> simp [h]
theorem news_mid {h₀ h : Heap} {L : Addr} {p q r : Addr × Obj} {l own : List (Addr × Obj)} (N : News h₀ L h (p :: q :: (l ++ (r :: own)))) : News h₀ L h (l ++ (p :: r :: q :: own)) :=
  news_sub N fun s hr => by simp only [List.mem_cons, List.mem_append] at hr ⊢; rcases hr with h | h | h | h | h <;> simp [h]
theorem allLt_mem {d : Nat} {l : List (Addr × Obj)} (h : AllLt d l) : ∀ p ∈ l, p.1 < d := by
  induction l with
  | nil => intro p hp; cases hp
  | cons q r ih =>
    intro p hp
    rcases List.mem_cons.mp hp with rfl | hp
    · exact h.1
    · exact ih h.2 p hp
theorem allLt_of {d : Nat} {l : List (Addr × Obj)} (h : ∀ p ∈ l, p.1 < d) : AllLt d l := by
  induction l with
  | nil => trivial
  | cons q r ih => exact ⟨h q (.head _), ih fun p hp => h p (.tail _ hp)⟩
/-- an address behind the lexer's is none of its own -/
theorem led_all {w : World} {a : LexA} {n p : Int} {tn tp : Tok} {pb : List Value} {np : Nat} {own : List (Addr × Obj)} {P : Addr → Prop} (h : ∀ q ∈ lexLed w a n tn pb np p tp ++ own, P q.1) : ∀ b ∈ a.all, P b := by
  intro b hb
  simp only [LexA.all, List.mem_cons, List.not_mem_nil, or_false] at hb
  simp only [lexLed, lexRest, readLed, List.cons_append, List.nil_append, List.forall_mem_cons] at h
  obtain ⟨b1, b2, b3, b4, b5, b6, b7, b8, b9, b10, b11, _⟩ := h
  rcases hb with rfl | rfl | rfl | rfl | rfl | rfl | rfl | rfl | rfl | rfl | rfl <;> assumption
theorem news_in2 {h₀ h : Heap} {L : Addr} {p q : Addr × Obj} {l own : List (Addr × Obj)} (N : News h₀ L h (p :: (l ++ (q :: own)))) : News h₀ L h (l ++ (q :: p :: own)) :=
  news_sub N fun s hr => by simp only [List.mem_cons, List.mem_append] at hr ⊢; rcases hr with h | h | h | h <;> simp [h]
theorem strs_rev {vs : List Value} {ws : List Str} (h : StrsAre vs ws) : StrsAre vs.reverse ws.reverse := by
  induction h with
  | nil => exact .nil
  | cons x t h ih => rw [List.reverse_cons, List.reverse_cons]; exact ih.append' (strs_cons .nil)
theorem pick_back (vs : List Value) : slicePick vs.toArray none none (some (-1)) = vs.reverse.toArray := by
  unfold slicePick sliceBounds
  simp only [Option.getD_some, List.size_toArray]
  rw [if_neg (by decide), if_neg (by decide)]
  congr 1
  unfold sliceRange
  rw [if_neg (by decide)]
  apply List.ext_getElem?
  intro k
  have hc : (if (vs.length : Int) - 1 > -1 then ((vs.length : Int) - 1 - -1 - -1 - 1) / - -1 else 0).toNat = vs.length := by
    rw [show -(-1 : Int) = 1 by decide, Int.ediv_one]
    split <;> omega
  dsimp only
  rw [hc]
  have e : ∀ n, n ≤ vs.length → ((List.range n).map fun k : Nat => ((vs.length : Int) - 1 + -1 * (k : Int)).toNat).filterMap (vs.toArray[·]?) = vs.reverse.take n := by
    intro n
    induction n with
    | zero => intro _; simp
    | succ n ih =>
      intro hn
      rw [List.range_succ, List.map_append, List.filterMap_append, ih (by omega), List.take_add_one]
      congr 1
      have e2 : ((vs.length : Int) - 1 + -1 * (n : Int)).toNat = vs.length - 1 - n := by omega
      have hlt : vs.length - 1 - n < vs.length := by omega
      simp only [List.map_cons, List.map_nil, e2, List.filterMap_cons, List.filterMap_nil]
      rw [List.getElem?_reverse (by omega)]
      simp [hlt]
  rw [e _ (Nat.le_refl _), ← List.length_reverse, List.take_length]
theorem off_cons {p : Addr × Obj} {own : List (Addr × Obj)} {as : List Addr} (h : p.1 ∉ as) (H : OwnOff own as) : OwnOff (p :: own) as := by
  intro r hr b hb
  rcases List.mem_cons.mp hr with rfl | hr
  · rintro rfl; exact h hb
  · exact H r hr b hb
theorem off_notin {b : Addr} {as : List Addr} (h : ∀ c ∈ as, c < b) : b ∉ as := fun hb => absurd (h b hb) (Nat.lt_irrefl _)
theorem off_notin' {b : Addr} {as : List Addr} (h : ∀ c ∈ as, c ≠ b) : b ∉ as := fun hb => h b hb rfl
theorem slice_rev {A : Around} {E : Value → Shared → Prop} {s : Shared} {h₀ : Heap} {L : Addr} {m : Str → Option Value} {value slice : Expr} {l n : Nat} {vs : List Value} {ops : List Value} {t : Tok} {Q : Value → Shared → Prop}
    (F : Fr h₀ L s.heap m) (N : News h₀ L s.heap news) (hm : (l, listOf vs.toArray n) ∈ news) (hz : vs.length < 2 ^ 20)
    (h : ∀ h', Fr h₀ L h' m → News h₀ L h' ((s.heap.objs.size + 1, listOf vs.reverse.toArray 0) :: news) → (∀ p ∈ news, p.1 < s.heap.objs.size + 1) → Q (.ref (s.heap.objs.size + 1)) { s with heap := h' })
    (hs : subscripted slice false (.ref l) (.ref s.heap.objs.size) = operate ops (getItem (.ref l) (.ref s.heap.objs.size)) := by with_unfolding_all rfl)
    (ht : ∀ r, letTemporaryGo value (.ref l) r = pure () := by intro _; with_unfolding_all rfl) :
    wpAny (model prog w) A (subscriptTail value slice (.ref l) (.ref s.heap.objs.size)) Q E { s with heap := s.heap.push { cls := .type "slice", data := .fields #[.none, .none, .int (-1) t] } } :=
  slice_list3 (lo := none) (hi := none) (st := some (-1)) F N ⟨_, News.get N hm, rfl, _, rfl⟩ .none .none (.int _ _) (by decide) (fun h' F' N' => h h' F' (by rw [pick_back] at N'; exact N') fun p hp => Nat.lt_succ_of_lt (Heap.lt_size (N p hp).1)) hs ht (by rw [sizeLine_eq]; simp; omega)
theorem news_in1drop {h₀ h : Heap} {L : Addr} {p q r : Addr × Obj} {l own : List (Addr × Obj)} (N : News h₀ L h (p :: (l ++ (q :: r :: own)))) : News h₀ L h (l ++ (p :: q :: own)) :=
  news_sub N fun s hr => by simp only [List.mem_cons, List.mem_append] at hr ⊢; rcases hr with h | h | h | h <;> simp [h]
theorem led_ne {w : World} {a : LexA} {n p : Int} {tn tp : Tok} {pb : List Value} {np : Nat} {own : List (Addr × Obj)} {b : Addr} (hb : b ∉ a.all) (h : ∀ q ∈ own, q.1 ≠ b) : ∀ q ∈ lexLed w a n tn pb np p tp ++ own, q.1 ≠ b := fun q hq =>
  (List.mem_append.mp hq).elim (off_all hb q) (h q)
theorem Does.mono {lv : Nat} {f : Value} {vs : List Value} {kw : List (Str × Value)} {news : List (Addr × Obj)} {Ret Ret' : Value → List (Addr × Obj) → Prop} (H : Does prog w lv f vs kw news Ret) (h : ∀ r nw, Ret r nw → Ret' r nw) : Does prog w lv f vs kw news Ret' := by
  unfold Does at H ⊢
  intro p1 p2 p3 p4 p5 p6 p7 p8 p9 p10 p11 p12 p13 p14 p15 p16 p17 p18 p19 p20 p21 p22 p23 p24 p25 B C F X N T hr hu k
  exact H _ _ _ _ _ _ _ _ _ _ _ _ _ _ _ _ _ _ _ _ _ _ _ _ _ B C F X N T hr hu fun r nw h' tk' F' N' hr' => k r nw h' tk' F' N' (h r nw hr')
/-- what get_token gives with q pushed back: the queue's first word, or, behind the text's end, nothing -/
def Nxt (q : List Str) (tb : Str) (pb' : List Value) (p p'' : Nat) : Prop := (q = [] ∧ tb = Str.ofString "" ∧ pb' = [] ∧ p'' = p + 1) ∨ (∃ q', q = tb :: q' ∧ StrsAre pb' q' ∧ p'' = p)
theorem get_token_q_does {a : LexA} {x : Str} (hup : a.Up) (hrd : ReadFn prog w a x) {n : Nat} {tn tp : Tok} {np p : Nat} {pb : List Value} {q : List Str} {own : List (Addr × Obj)} (hoff : OwnOff own a.all) (hp : p < 2 ^ 21)
    (hat : x.cps.toList.drop p = []) (hx : x.length < 2 ^ 20) (hq : StrsAre pb q) (hql : q.length < 2 ^ 10) :
    Does prog w 3 (.ref 42) [.ref a.x] [] (lexLed w a n tn pb np p tp ++ own) (fun r nw => ∃ (tb : Str) (t : Tok) (pb' : List Value) (tn' : Tok) (np'' p'' : Nat) (tp' : Tok), r = .str tb t ∧ nw = lexLed w a n tn' pb' np'' p'' tp' ++ own ∧ Nxt q tb pb' p p'') := by
  cases hq with
  | nil =>
    exact (get_token_end_does (prog := prog) (w := w) (tn := tn) (tp := tp) (np := np) (n := n) hup hrd hoff hp (seg := []) nofun hat hx).mono fun r nw ⟨tn', tp', t', e1, e2⟩ => ⟨_, t', [], tn', np, _, tp', e1, e2, .inl ⟨rfl, rfl, rfl, rfl⟩⟩
  | cons y t hv =>
    rename_i vs' q'
    exact (get_token_back_does (prog := prog) (w := w) (tn := tn) (tp := tp) (np := np) (n := n) hup hoff (by rw [hv.length]; simp at hql; omega)).mono fun r nw ⟨np', e1, e2⟩ => ⟨_, t, _, tn, np', _, tp, e1, e2, .inr ⟨q', rfl, hv, rfl⟩⟩
theorem news_drop1 {h₀ h : Heap} {L : Addr} {p : Addr × Obj} {l own : List (Addr × Obj)} (N : News h₀ L h (l ++ (p :: own))) : News h₀ L h (l ++ own) :=
  news_sub N fun s hr => by simp only [List.mem_cons, List.mem_append] at hr ⊢; rcases hr with h | h <;> simp [h]
theorem insW_all {P : Str → Prop} {ws : List Str} {x : Str} (h : ∀ y ∈ ws, P y) (hx : P x) : ∀ y ∈ insW ws x, P y := fun y hy => (mem_insW hy).elim (fun e => e ▸ hx) (h y)
theorem foldl_all {P : Str → Prop} {ws ys : List Str} (h : ∀ y ∈ ws, P y) (h2 : ∀ y ∈ ys, P y) : ∀ y ∈ ws.foldl insW ys, P y := by
  induction ws generalizing ys with
  | nil => exact h2
  | cons z r ih => exact ih (fun y hy => h y (.tail _ hy)) (insW_all h2 (h z (.head _)))
theorem rowW_all {P : Str → Prop} {ws : List Str} (h : ∀ y ∈ ws, P y) : ∀ y ∈ rowW ws, P y := foldl_all h nofun
theorem news_out3 {h₀ h : Heap} {L : Addr} {p q r : Addr × Obj} {l own : List (Addr × Obj)} (N : News h₀ L h (l ++ (p :: q :: r :: own))) : News h₀ L h (r :: (l ++ (p :: q :: own))) :=
  news_sub N fun s hr => by simp only [List.mem_cons, List.mem_append] at hr ⊢; rcases hr with h | h | h | h | h <;> simp [h]
theorem news_back3 {h₀ h : Heap} {L : Addr} {p q r : Addr × Obj} {l own : List (Addr × Obj)} (N : News h₀ L h (r :: (l ++ (p :: q :: own)))) : News h₀ L h ([q] ++ (l ++ (p :: r :: own))) :=
  news_sub N fun s hr => by simp only [List.mem_cons, List.mem_append, List.not_mem_nil, or_false] at hr ⊢; rcases hr with h | h | h | h | h <;> simp [h]
theorem ints_snoc {vs : List Value} {ns : List Int} {k : Int} {t : Tok} (h : IntsAre vs ns) : IntsAre (vs ++ [.int k t]) (ns ++ [k]) := by
  induction h with
  | nil => exact .cons _ _ .nil
  | cons n t h ih => exact .cons _ _ ih
section OwnStops
/-- between two families -/
inductive InvO (w : World) (a : LexA) (x : Str) (n p lf nf lt nt l : Nat) (vf vt : List Value) (fams tabs : List Str) (own : List (Addr × Obj)) (i : Nat) (m : Str → Option Value) (nw : List (Addr × Obj)) : Prop
  | mk (lr : Nat) (vr : List Value) (nr : Nat) (row : List Str) (vs : List Value) (done : List Int) (nl p' : Nat) (tn' tp' : Tok) (np' : Nat) (se : Int) (ts : Tok)
    (e : nw = lexLed w a n tn' [] np' (p' : Nat) tp' ++ ((lr, listOf vr.toArray nr) :: (l, listOf vs.toArray nl) :: (lf, listOf vf.toArray nf) :: (lt, listOf vt.toArray nt) :: own))
    (h1 : StrsAre vr row) (h2 : RowOk row) (h3 : ∀ y ∈ row, y ≠ Str.ofString "") (h4 : row.length ≤ tabs.length) (h5 : IntsAre vs done) (h6 : done.length = i) (h7 : done ++ seatedF (fams.drop i) row se = seatedF fams (rowW tabs) 0) (h8 : x.cps.toList.drop p' = []) (h9 : p' ≤ p + i) (h10 : lr ∉ a.all)
    (e1 : m (Str.ofString "lexer") = some (.ref a.x)) (e2 : m (Str.ofString "row") = some (.ref lr)) (e3 : m (Str.ofString "seated") = some (.int se ts)) (e4 : m (Str.ofString "told") = some (.ref l))
/-- while the tables are pushed back -/
inductive InvP (w : World) (a : LexA) (n p' : Nat) (tn' tp' : Tok) (lq : Nat) (vr : List Value) (io : Obj) (it l nl lf nf lt nt : Nat) (vs vf vt : List Value) (own : List (Addr × Obj)) (row : List Str) (y : Str) (t : Tok) (se : Int) (ts : Tok) (j : Nat) (m : Str → Option Value) (nw : List (Addr × Obj)) : Prop
  | mk (pb : List Value) (np'' : Nat)
    (e : nw = lexLed w a n tn' pb np'' (p' : Nat) tp' ++ ((lq, listOf vr.reverse.toArray 0) :: (it, io) :: (l, listOf vs.toArray nl) :: (lf, listOf vf.toArray nf) :: (lt, listOf vt.toArray nt) :: own))
    (h1 : StrsAre pb (row.reverse.take j)) (e1 : m (Str.ofString "lexer") = some (.ref a.x)) (e2 : m (Str.ofString "family") = some (.str y t)) (e3 : m (Str.ofString "seated") = some (.int se ts)) (e4 : m (Str.ofString "told") = some (.ref l))
/-- while the tables are served -/
inductive InvS (w : World) (a : LexA) (n p' lr2 : Nat) (io : Obj) (it l nl lf nf lt nt : Nat) (vs vf vt : List Value) (own : List (Addr × Obj)) (tabs row : List Str) (y : Str) (se : Int) (k : Nat) (m : Str → Option Value) (nw : List (Addr × Obj)) : Prop
  | mk (qs : List Str) (vr2 : List Value) (nr2 : Nat) (row2 : List Str) (st : Int) (tst : Tok) (se2 : Int) (ts2 : Tok) (tb : Str) (tt : Tok) (pb : List Value) (tn : Tok) (np p2 : Nat) (tp : Tok)
    (e0 : k = qs.length) (e : nw = lexLed w a n tn pb np p2 tp ++ ((lr2, listOf vr2.toArray nr2) :: (it, io) :: (l, listOf vs.toArray nl) :: (lf, listOf vf.toArray nf) :: (lt, listOf vt.toArray nt) :: own))
    (h1 : StrsAre vr2 row2) (h2 : RowOk row2) (h3 : ∀ y ∈ row2, y ≠ Str.ofString "") (h4 : row2.length + qs.length ≤ tabs.length) (h5 : Nxt qs tb pb p' p2) (h6 : ∀ y ∈ qs, y ≠ Str.ofString "" ∧ y.length < 2 ^ 10) (h7 : serve qs st se2 row2 = serve row.reverse y.length se [])
    (e1 : m (Str.ofString "lexer") = some (.ref a.x)) (e2 : m (Str.ofString "row") = some (.ref lr2)) (e3 : m (Str.ofString "seated") = some (.int se2 ts2)) (e4 : m (Str.ofString "told") = some (.ref l)) (e5 : m (Str.ofString "standing") = some (.int st tst)) (e6 : m (Str.ofString "table") = some (.str tb tt))
theorem law_seated_does {a : LexA} {x : Str} (hup : a.Up) (hrd : ReadFn prog w a x) {n : Nat} {tn tp : Tok} {np p lf lt nf nt : Nat} {vf vt : List Value} {fams tabs : List Str} {own : List (Addr × Obj)}
    (hoff : OwnOff ((lf, listOf vf.toArray nf) :: (lt, listOf vt.toArray nt) :: own) a.all) (hp : p + fams.length < 2 ^ 21) (hat : x.cps.toList.drop p = []) (hx : x.length < 2 ^ 20)
    (hf : StrsAre vf fams) (ht : StrsAre vt tabs) (hwf : ∀ y ∈ fams, y.length < 2 ^ 10) (hwt : ∀ y ∈ tabs, y.length < 2 ^ 10) (hn0 : ∀ y ∈ tabs, y ≠ Str.ofString "") (hnt : tabs.length < 2 ^ 9) (hnf : fams.length < 2 ^ 9) (hne : lf ≠ lt) :
    Does prog w 6 (.ref 143) [.ref a.x, .ref lf, .ref lt] [] (lexLed w a n tn [] np p tp ++ ((lf, listOf vf.toArray nf) :: (lt, listOf vt.toArray nt) :: own))
      (fun r nw => ∃ l vs nl p' tn' tp' np', r = .ref l ∧ nw = (l, listOf vs.toArray nl) :: (lexLed w a n tn' [] np' (p' : Nat) tp' ++ ((lf, listOf vf.toArray nf) :: (lt, listOf vt.toArray nt) :: own)) ∧
        IntsAre vs (seatedF fams (rowW tabs) 0) ∧ x.cps.toList.drop p' = [] ∧ p' ≤ p + fams.length ∧ a.l < l ∧ lf < l ∧ lt < l ∧ AllLt l own) := by
  have hup' := hup
  obtain ⟨h1, h2, h3, h4, h5, h6, h7, h8, h9, h10⟩ := hup'
  ((unfold Does; intro _ _ _ _ _ _ _ _ _ _ _ _ _ _ _ _ _ _ _ _ _ _ _ _ _ _ _ _ _ _ _ _ _ _; w_top off; k_dflt k_enter))
  (((try (show wpAny _ _ _ _ _ _; k_fold)); repeat' (first | (k_unfold; (try dsimp only)) | ((fail_if_success (first | (first | (with_reducible show wpAny _ _ (subscriptTail _ (Expr.Slice _ _ _ _) (Value.ref _) _) _ _ _) | (with_reducible show wpAny _ _ (pyIter (Value.ref _)) _ _ _) | (with_reducible show wpAny _ _ (call (Value.ref 136) _ _) _ _ _) | (with_reducible show wpAny _ _ (call (Value.ref 42) _ _) _ _ _) | (with_reducible show wpAny _ _ (call (Value.ref 49) _ _) _ _ _) | (with_reducible show wpAny _ _ (call (Value.builtin "list.append") _ _) _ _ _)) | (with_reducible show wpAny _ _ (call (Value.ref 65) _ _) _ _ _) | first | (with_reducible show wpAny _ _ (exec (Stmt.While _ _ _ _) _) _ _ _) | (with_reducible show wpAny _ _ (exec (Stmt.For _ _ _ _ _) _) _ _ _))); first | walk1 | (dsimp only; walk1)) | fail "no step")))
  rename Fr _ _ _ _ => F1
  rename News _ _ _ _ => N1
  refine' Does.use (law_row_does (nv := nt) (own := lexLed w a n tn [] np p tp ++ ((lf, listOf vf.toArray nf) :: own)) ht hwt hnt) ?B ?C ?F ?X ?N ?T ?hr ?hu ?_
  (case N => exact news_out2 N1)
  (((case B => k_asm); (case C => assumption); (case F => k_asm); (case X => k_asm); (case T => k_asm); (case hr => (first | exact Nat.lt_of_le_of_lt (Nat.add_le_add_left (by decide) _) (by assumption) | omega | ktr_room)); (case hu => (first | exact Nat.lt_of_le_of_lt (Nat.add_le_add_left (by decide) _) (by assumption) | ktr_units | omega))))
  intro r9 nw9 h9 tk9 F9 N9 H9
  obtain ⟨lr, vr, nr, rfl, rfl, hvr, hltr, hallr⟩ := H9
  replace N9 := news_mid N9
  clear F1 N1
  (((try (show wpAny _ _ _ _ _ _; k_fold)); repeat' (first | (k_unfold; (try dsimp only)) | ((fail_if_success (first | (first | (with_reducible show wpAny _ _ (subscriptTail _ (Expr.Slice _ _ _ _) (Value.ref _) _) _ _ _) | (with_reducible show wpAny _ _ (pyIter (Value.ref _)) _ _ _) | (with_reducible show wpAny _ _ (call (Value.ref 136) _ _) _ _ _) | (with_reducible show wpAny _ _ (call (Value.ref 42) _ _) _ _ _) | (with_reducible show wpAny _ _ (call (Value.ref 49) _ _) _ _ _) | (with_reducible show wpAny _ _ (call (Value.builtin "list.append") _ _) _ _ _)) | (with_reducible show wpAny _ _ (call (Value.ref 65) _ _) _ _ _) | first | (with_reducible show wpAny _ _ (exec (Stmt.While _ _ _ _) _) _ _ _) | (with_reducible show wpAny _ _ (exec (Stmt.For _ _ _ _ _) _) _ _ _))); first | walk1 | (dsimp only; walk1)) | fail "no step")))
  rename_i l _ l1 _ F1 N1
  have hl := l1
  have hla := led_all (P := fun b => b < l) hl
  have hlr := led_all (P := fun b => b < lr) (allLt_mem hallr)
  have hlr0 : lr < l := hl (lr, listOf vr.toArray nr) (by simp)
  have hnf' := hf.length
  clear l1
  refine For_any F1 ?_
  walk1
  refine iter_listM rfl rfl rfl rfl (fun i m nw => InvO w a x n p lf nf lt nt l vf vt fams tabs own i m nw) F1 (news_in2 N1)
    ⟨lr, vr, nr, rowW tabs, [], [], _, p, _, _, _, 0, _, rfl, hvr, (foldl_insW RowOk.nil hwt).1, rowW_all hn0, by have := (foldl_insW RowOk.nil hwt).2; simp at this; exact Nat.le_of_eq this, .nil, rfl, rfl, hat, Nat.le_refl _, fun h => absurd (hlr _ h) (Nat.lt_irrefl _), rfl, rfl, rfl, rfl⟩
    (fun i m nw hJ => by obtain ⟨lr, vr, nr, row, vs, done, nl, p', tn', tp', np', se, ts, rfl, _⟩ := hJ; exact List.mem_append_right _ (.tail _ (.tail _ (.head _)))) ?_ ?_
  · rintro it io i v m₁ nw₁ h₁ tk₁ hlow hne2 hv ⟨lr, vr, nr, row, vs, done, nl, p', tn', tp', np', se, ts, rfl, hvr, hrow, hr0, hrl, hvs, hdl, hdone, hat', hp', hlra, el, er, es, et⟩ F₂ N₂
    obtain ⟨y, t, rfl, hy⟩ := hf.item i v hv
    have hym := List.mem_of_getElem? hy
    have hyl := hwf y hym
    have hil : i < fams.length := (List.getElem?_eq_some_iff.mp hy).1
    have hita := led_all (P := fun b => b ≠ it) hne2
    have F₃ := frKnow F₂ [(Str.ofString "lexer", .ref a.x), (Str.ofString "row", .ref lr), (Str.ofString "seated", .int se ts), (Str.ofString "told", .ref l)] (List.forall_mem_cons.mpr ⟨el, List.forall_mem_cons.mpr ⟨er, List.forall_mem_cons.mpr ⟨es, List.forall_mem_cons.mpr ⟨et, nofun⟩⟩⟩⟩)
    have N₃ := news_in1 (p := (it, io)) N₂
    clear F₂ F1 N1 N₂
    (((try (show wpAny _ _ _ _ _ _; k_fold)); repeat' (first | (k_unfold; (try dsimp only)) | ((fail_if_success (first | (first | (with_reducible show wpAny _ _ (subscriptTail _ (Expr.Slice _ _ _ _) (Value.ref _) _) _ _ _) | (with_reducible show wpAny _ _ (pyIter (Value.ref _)) _ _ _) | (with_reducible show wpAny _ _ (call (Value.ref 136) _ _) _ _ _) | (with_reducible show wpAny _ _ (call (Value.ref 42) _ _) _ _ _) | (with_reducible show wpAny _ _ (call (Value.ref 49) _ _) _ _ _) | (with_reducible show wpAny _ _ (call (Value.builtin "list.append") _ _) _ _ _)) | (with_reducible show wpAny _ _ (call (Value.ref 65) _ _) _ _ _) | first | (with_reducible show wpAny _ _ (exec (Stmt.While _ _ _ _) _) _ _ _) | (with_reducible show wpAny _ _ (exec (Stmt.For _ _ _ _ _) _) _ _ _))); first | walk1 | (dsimp only; walk1)) | fail "no step")))
    refine For_any F₃ ?_
    (((try (show wpAny _ _ _ _ _ _; k_fold)); repeat' (first | (k_unfold; (try dsimp only)) | ((fail_if_success (first | (first | (with_reducible show wpAny _ _ (subscriptTail _ (Expr.Slice _ _ _ _) (Value.ref _) _) _ _ _) | (with_reducible show wpAny _ _ (pyIter (Value.ref _)) _ _ _) | (with_reducible show wpAny _ _ (call (Value.ref 136) _ _) _ _ _) | (with_reducible show wpAny _ _ (call (Value.ref 42) _ _) _ _ _) | (with_reducible show wpAny _ _ (call (Value.ref 49) _ _) _ _ _) | (with_reducible show wpAny _ _ (call (Value.builtin "list.append") _ _) _ _ _)) | (with_reducible show wpAny _ _ (call (Value.ref 65) _ _) _ _ _) | first | (with_reducible show wpAny _ _ (exec (Stmt.While _ _ _ _) _) _ _ _) | (with_reducible show wpAny _ _ (exec (Stmt.For _ _ _ _ _) _) _ _ _))); first | walk1 | (dsimp only; walk1)) | fail "no step")))
    refine slice_rev (vs := vr) (n := nr) F₃ N₃ (by simp) (by rw [hvr.length]; omega) ?_
    intro h₄ F₄ N₄ hlt4
    generalize hq : h₁.objs.size + 1 = lq at *
    clear F₃ N₃
    have hqa : lq ∉ a.all := off_notin (led_all (P := fun b => b < lq) hlt4)
    refine iter_listM rfl rfl rfl rfl (fun j m nw => InvP w a n p' tn' tp' lq vr io it l nl lf nf lt nt vs vf vt own row y t se ts j m nw) F₄ (news_in1drop N₄)
      ⟨[], np', rfl, .nil, rfl, rfl, rfl, rfl⟩ (fun j m nw hJ => by obtain ⟨pb, np'', rfl, _⟩ := hJ; exact List.mem_append_right _ (.head _)) ?_ ?_
    · rintro it2 io2 j v m₁ nw₁ h₁ tk₁ hlow2 hne3 hv2 ⟨pb, np'', rfl, hpb, el2, ef2, es2, et2⟩ F₂ N₂
      obtain ⟨z, t2, rfl, hz⟩ := (strs_rev hvr).item j v hv2
      have hit2a := off_notin' (led_all (P := fun b => b ≠ it2) hne3)
      have F₃ := frKnow F₂ [(Str.ofString "lexer", .ref a.x), (Str.ofString "family", .str y t), (Str.ofString "seated", .int se ts), (Str.ofString "told", .ref l)] (List.forall_mem_cons.mpr ⟨el2, List.forall_mem_cons.mpr ⟨ef2, List.forall_mem_cons.mpr ⟨es2, List.forall_mem_cons.mpr ⟨et2, nofun⟩⟩⟩⟩)
      have N₃ := news_in1 (p := (it2, io2)) N₂
      clear F₂ F₄ N₄ N₂
      have hpbl : pb.length < 2 ^ 10 := by rw [hpb.length, List.length_take, List.length_reverse]; omega
      dsimp only [lexLed, lexRest, readLed, List.cons_append, List.nil_append] at N₃
      (((try (show wpAny _ _ _ _ _ _; k_fold)); repeat' (first | (k_unfold; (try dsimp only)) | ((fail_if_success (first | (first | (with_reducible show wpAny _ _ (subscriptTail _ (Expr.Slice _ _ _ _) (Value.ref _) _) _ _ _) | (with_reducible show wpAny _ _ (pyIter (Value.ref _)) _ _ _) | (with_reducible show wpAny _ _ (call (Value.ref 136) _ _) _ _ _) | (with_reducible show wpAny _ _ (call (Value.ref 42) _ _) _ _ _) | (with_reducible show wpAny _ _ (call (Value.ref 49) _ _) _ _ _) | (with_reducible show wpAny _ _ (call (Value.builtin "list.append") _ _) _ _ _)) | (with_reducible show wpAny _ _ (call (Value.ref 65) _ _) _ _ _) | first | (with_reducible show wpAny _ _ (exec (Stmt.While _ _ _ _) _) _ _ _) | (with_reducible show wpAny _ _ (exec (Stmt.For _ _ _ _ _) _) _ _ _))); first | walk1 | (dsimp only; walk1)) | fail "no step")))
      refine' Does.use (push_token_does (pb := pb) hup (own := (it2, io2) :: (lq, listOf vr.reverse.toArray 0) :: (it, io) :: (l, listOf vs.toArray nl) :: (lf, listOf vf.toArray nf) :: (lt, listOf vt.toArray nt) :: own) (off_cons hit2a (off_cons hqa (off_cons (off_notin' hita) (off_cons (off_notin hla) hoff)))) hpbl) ?B ?C ?F ?X ?N ?T ?hr ?hu ?_
      (case N => assumption)
      (((case B => k_asm); (case C => assumption); (case F => k_asm); (case X => k_asm); (case T => k_asm); (case hr => (first | exact Nat.lt_of_le_of_lt (Nat.add_le_add_left (by decide) _) (by assumption) | omega | ktr_room)); (case hu => (first | exact Nat.lt_of_le_of_lt (Nat.add_le_add_left (by decide) _) (by assumption) | ktr_units | omega))))
      intro r9 nw9 h9 tk9 F9 N9 H9
      obtain ⟨rfl, rfl⟩ := H9
      replace N9 := news_out1 N9
      clear N₃ F₃
      (((try (show wpAny _ _ _ _ _ _; k_fold)); repeat' (first | (k_unfold; (try dsimp only)) | ((fail_if_success (first | (first | (with_reducible show wpAny _ _ (subscriptTail _ (Expr.Slice _ _ _ _) (Value.ref _) _) _ _ _) | (with_reducible show wpAny _ _ (pyIter (Value.ref _)) _ _ _) | (with_reducible show wpAny _ _ (call (Value.ref 136) _ _) _ _ _) | (with_reducible show wpAny _ _ (call (Value.ref 42) _ _) _ _ _) | (with_reducible show wpAny _ _ (call (Value.ref 49) _ _) _ _ _) | (with_reducible show wpAny _ _ (call (Value.builtin "list.append") _ _) _ _ _)) | (with_reducible show wpAny _ _ (call (Value.ref 65) _ _) _ _ _) | first | (with_reducible show wpAny _ _ (exec (Stmt.While _ _ _ _) _) _ _ _) | (with_reducible show wpAny _ _ (exec (Stmt.For _ _ _ _ _) _) _ _ _))); first | walk1 | (dsimp only; walk1)) | fail "no step")))
      dsimp only [TurnEnd]
      refine ⟨_, _, _, _, rfl, by assumption, by assumption, ⟨pb ++ [.str z t2], np'' + 1, rfl, ?_, rfl, rfl, rfl, rfl⟩, ?_⟩
      · rw [List.take_add_one, hz]
        exact hpb.append' (strs_cons .nil)
      · exact led_ne hit2a (fun p hp => hne3 p (List.mem_append_right _ hp))
    · rintro m₁ nw₁ h₁ tk₁ ⟨pb, np'', rfl, hpb, el2, ef2, es2, et2⟩ F₂ N₂
      have F₃ := frKnow F₂ [(Str.ofString "lexer", .ref a.x), (Str.ofString "family", .str y t), (Str.ofString "seated", .int se ts), (Str.ofString "told", .ref l)] (List.forall_mem_cons.mpr ⟨el2, List.forall_mem_cons.mpr ⟨ef2, List.forall_mem_cons.mpr ⟨es2, List.forall_mem_cons.mpr ⟨et2, nofun⟩⟩⟩⟩)
      have hrr : row.reverse.take vr.reverse.length = row.reverse := by rw [List.length_reverse, hvr.length, ← List.length_reverse, List.take_length]
      rw [hrr] at hpb
      replace N₂ := news_drop1 N₂
      dsimp only [lexLed, lexRest, readLed, List.cons_append, List.nil_append] at N₂
      dsimp only
      clear F₂ F₄ N₄ hlt4 hqa
      (((try (show wpAny _ _ _ _ _ _; k_fold)); repeat' (first | (k_unfold; (try dsimp only)) | ((fail_if_success (first | (first | (with_reducible show wpAny _ _ (subscriptTail _ (Expr.Slice _ _ _ _) (Value.ref _) _) _ _ _) | (with_reducible show wpAny _ _ (pyIter (Value.ref _)) _ _ _) | (with_reducible show wpAny _ _ (call (Value.ref 136) _ _) _ _ _) | (with_reducible show wpAny _ _ (call (Value.ref 42) _ _) _ _ _) | (with_reducible show wpAny _ _ (call (Value.ref 49) _ _) _ _ _) | (with_reducible show wpAny _ _ (call (Value.builtin "list.append") _ _) _ _ _)) | (with_reducible show wpAny _ _ (call (Value.ref 65) _ _) _ _ _) | first | (with_reducible show wpAny _ _ (exec (Stmt.While _ _ _ _) _) _ _ _) | (with_reducible show wpAny _ _ (exec (Stmt.For _ _ _ _ _) _) _ _ _))); first | walk1 | (dsimp only; walk1)) | fail "no step")))
      rename_i lr2 _ l1 _ _ _ _ tst _ F5 N5
      have hr2 : ∀ b ∈ a.all, b < lr2 := by
        obtain ⟨b1, b2, b3, b4, b5, b6, b7, b8, b9, b10, b11, _⟩ := l1
        intro b hb
        simp only [LexA.all, List.mem_cons, List.not_mem_nil, or_false] at hb
        rcases hb with rfl | rfl | rfl | rfl | rfl | rfl | rfl | rfl | rfl | rfl | rfl <;> assumption
      obtain ⟨_, _, _, _, _, _, _, _, _, _, _, c1, c2, c3, c4, c5⟩ := l1
      have hro : ∀ (o1 o2 o3 o4 : Obj), ∀ q ∈ ((it, o1) : Addr × Obj) :: (l, o2) :: (lf, o3) :: (lt, o4) :: own, q.1 ≠ lr2 := by
        intro o1 o2 o3 o4 q hq
        rcases List.mem_cons.mp hq with rfl | hq
        · exact Nat.ne_of_lt c1
        rcases List.mem_cons.mp hq with rfl | hq
        · exact Nat.ne_of_lt c2
        rcases List.mem_cons.mp hq with rfl | hq
        · exact Nat.ne_of_lt c3
        rcases List.mem_cons.mp hq with rfl | hq
        · exact Nat.ne_of_lt c4
        · exact allLt_ne c5 (Nat.le_refl _) q hq
      have hoff5 : ∀ (o0 o1 o2 : Obj), OwnOff (((lr2, o0) : Addr × Obj) :: (it, o1) :: (l, o2) :: (lf, listOf vf.toArray nf) :: (lt, listOf vt.toArray nt) :: own) a.all := fun o0 o1 o2 => off_cons (off_notin hr2) (off_cons (off_notin' hita) (off_cons (off_notin hla) hoff))
      refine' Does.use (get_token_q_does (n := n) (tn := tn') (tp := tp') (np := np'') (p := p') (own := (lr2, listOf #[] 0) :: (it, io) :: (l, listOf vs.toArray nl) :: (lf, listOf vf.toArray nf) :: (lt, listOf vt.toArray nt) :: own) hup hrd (hoff5 _ _ _) (by omega) hat' hx hpb (by rw [List.length_reverse]; omega)) ?B ?C ?F ?X ?N ?T ?hr ?hu ?_
      (case N => exact news_in1 (l := lexLed w a n tn' pb np'' p' tp') N5)
      (((case B => k_asm); (case C => assumption); (case F => k_asm); (case X => k_asm); (case T => k_asm); (case hr => (first | exact Nat.lt_of_le_of_lt (Nat.add_le_add_left (by decide) _) (by assumption) | omega | ktr_room)); (case hu => (first | exact Nat.lt_of_le_of_lt (Nat.add_le_add_left (by decide) _) (by assumption) | ktr_units | omega))))
      intro r9 nw9 h9 tk9 F9 N9 H9
      obtain ⟨tb, tt, pb2, tn2, np2, p2, tp2, rfl, rfl, hnx⟩ := H9
      clear F5 N5
      (((try (show wpAny _ _ _ _ _ _; k_fold)); repeat' (first | (k_unfold; (try dsimp only)) | ((fail_if_success (first | (first | (with_reducible show wpAny _ _ (subscriptTail _ (Expr.Slice _ _ _ _) (Value.ref _) _) _ _ _) | (with_reducible show wpAny _ _ (pyIter (Value.ref _)) _ _ _) | (with_reducible show wpAny _ _ (call (Value.ref 136) _ _) _ _ _) | (with_reducible show wpAny _ _ (call (Value.ref 42) _ _) _ _ _) | (with_reducible show wpAny _ _ (call (Value.ref 49) _ _) _ _ _) | (with_reducible show wpAny _ _ (call (Value.builtin "list.append") _ _) _ _ _)) | (with_reducible show wpAny _ _ (call (Value.ref 65) _ _) _ _ _) | first | (with_reducible show wpAny _ _ (exec (Stmt.While _ _ _ _) _) _ _ _) | (with_reducible show wpAny _ _ (exec (Stmt.For _ _ _ _ _) _) _ _ _))); first | walk1 | (dsimp only; walk1)) | fail "no step")))
      rename Fr _ _ _ _ => F6
      rename News _ _ _ _ => N6
      refine While_inv2 (fun k m nw => InvS w a n p' lr2 io it l nl lf nf lt nt vs vf vt own tabs row y se k m nw) F6 N6
        ⟨row.reverse, [], 0, [], y.length, tst, se, ts, tb, tt, pb2, tn2, np2, p2, tp2, rfl, rfl, .nil, RowOk.nil, nofun, by simp; exact hrl, hnx, fun y hy => ⟨hr0 y (List.mem_reverse.mp hy), hrow.2 y (List.mem_reverse.mp hy)⟩, rfl, rfl, rfl, rfl, rfl, rfl, rfl⟩ ?_
      clear F6 N6 hpb hnx
      rintro k m₁ nx h₁ tk₁ F₁ N₁ ⟨qs, vr2, nr2, row2, st, tst, se2, ts2, tb, tt, pb, tn3, np3, p3, tp3, rfl, rfl, hvr2, hrow2, hr20, hr2l, hnx, hqs, hserve, e1, e2, e3, e4, e5, e6⟩
      replace F₁ := frKnow F₁ [(Str.ofString "lexer", .ref a.x), (Str.ofString "row", .ref lr2), (Str.ofString "seated", .int se2 ts2), (Str.ofString "told", .ref l), (Str.ofString "standing", .int st tst), (Str.ofString "table", .str tb tt)] (by simp [e1, e2, e3, e4, e5, e6])
      cases qs with
      | nil =>
        have hnx' : tb = Str.ofString "" ∧ pb = [] ∧ p3 = p' + 1 := by
          rcases hnx with ⟨_, h1, h2, h3⟩ | ⟨q', h1, _⟩
          · exact ⟨h1, h2, h3⟩
          · cases h1
        obtain ⟨rfl, rfl, rfl⟩ := hnx'
        (((try (show wpAny _ _ _ _ _ _; k_fold)); repeat' (first | (k_unfold; (try dsimp only)) | ((fail_if_success (first | (first | (with_reducible show wpAny _ _ (subscriptTail _ (Expr.Slice _ _ _ _) (Value.ref _) _) _ _ _) | (with_reducible show wpAny _ _ (pyIter (Value.ref _)) _ _ _) | (with_reducible show wpAny _ _ (call (Value.ref 136) _ _) _ _ _) | (with_reducible show wpAny _ _ (call (Value.ref 42) _ _) _ _ _) | (with_reducible show wpAny _ _ (call (Value.ref 49) _ _) _ _ _) | (with_reducible show wpAny _ _ (call (Value.builtin "list.append") _ _) _ _ _)) | (with_reducible show wpAny _ _ (call (Value.ref 65) _ _) _ _ _) | first | (with_reducible show wpAny _ _ (exec (Stmt.While _ _ _ _) _) _ _ _) | (with_reducible show wpAny _ _ (exec (Stmt.For _ _ _ _ _) _) _ _ _))); first | walk1 | (dsimp only; walk1)) | fail "no step")))
        refine append_own (vs := vs) (n := nl) (own := lexLed w a n tn3 [] np3 (p' + 1 : Nat) tp3 ++ ((lr2, listOf vr2.toArray nr2) :: (it, io) :: (lf, listOf vf.toArray nf) :: (lt, listOf vt.toArray nt) :: own)) F₁ (news_out3 N₁) ?_ (by rw [hvs.length, hdl]; omega) ?_
        · refine led_ne (fun hb => absurd (hla _ hb) (Nat.lt_irrefl _)) ?_
          intro q hq
          rcases List.mem_cons.mp hq with rfl | hq
          · exact Nat.ne_of_gt c2
          rcases List.mem_cons.mp hq with rfl | hq
          · exact Ne.symm (hne2 (l, listOf vs.toArray nl) (List.mem_append_right _ (.tail _ (.head _))))
          rcases List.mem_cons.mp hq with rfl | hq
          · exact Nat.ne_of_lt (hl (lf, listOf vf.toArray nf) (List.mem_append_right _ (.tail _ (.head _))))
          rcases List.mem_cons.mp hq with rfl | hq
          · exact Nat.ne_of_lt (hl (lt, listOf vt.toArray nt) (List.mem_append_right _ (.tail _ (.tail _ (.head _)))))
          · exact Nat.ne_of_lt (hl q (List.mem_append_right _ (.tail _ (.tail _ (.tail _ hq)))))
        · intro h₅ F₅ N₅
          replace N₅ := news_back3 N₅
          clear F₁ N₁
          (((try (show wpAny _ _ _ _ _ _; k_fold)); repeat' (first | (k_unfold; (try dsimp only)) | ((fail_if_success (first | (first | (with_reducible show wpAny _ _ (subscriptTail _ (Expr.Slice _ _ _ _) (Value.ref _) _) _ _ _) | (with_reducible show wpAny _ _ (pyIter (Value.ref _)) _ _ _) | (with_reducible show wpAny _ _ (call (Value.ref 136) _ _) _ _ _) | (with_reducible show wpAny _ _ (call (Value.ref 42) _ _) _ _ _) | (with_reducible show wpAny _ _ (call (Value.ref 49) _ _) _ _ _) | (with_reducible show wpAny _ _ (call (Value.builtin "list.append") _ _) _ _ _)) | (with_reducible show wpAny _ _ (call (Value.ref 65) _ _) _ _ _) | first | (with_reducible show wpAny _ _ (exec (Stmt.While _ _ _ _) _) _ _ _) | (with_reducible show wpAny _ _ (exec (Stmt.For _ _ _ _ _) _) _ _ _))); first | walk1 | (dsimp only; walk1)) | fail "no step")))
          dsimp only [TurnEnd]
          refine ⟨_, _, _, _, rfl, by assumption, by assumption, ⟨lr2, vr2, nr2, row2, vs ++ [.int se2 ts2], done ++ [se2], _, p' + 1, tn3, tp3, np3, se2, ts2, rfl, hvr2, hrow2, hr20, Nat.le_trans (Nat.le_add_right _ _) hr2l, ints_snoc hvs, by simp [hdl], ?_, ?_, by omega, off_notin hr2, rfl, rfl, rfl, rfl⟩, ?_⟩
          · rw [← hdone, List.append_assoc, List.drop_eq_getElem_cons hil, (List.getElem?_eq_some_iff.mp hy).2]
            rw [show ∀ (f : Str) (fs row : List Str) (se : Int), seatedF (f :: fs) row se = (serve row.reverse f.length se []).1 :: seatedF fs (serve row.reverse f.length se []).2 (serve row.reverse f.length se []).1 from fun _ _ _ _ => rfl]
            rw [← hserve]; rfl
          · rw [← List.drop_drop, hat']; rfl
          · refine led_ne (off_notin' hita) ?_
            intro q hq
            rcases List.mem_cons.mp hq with rfl | hq
            · exact Nat.ne_of_gt c1
            rcases List.mem_cons.mp hq with rfl | hq
            · exact hne2 (l, listOf vs.toArray nl) (List.mem_append_right _ (.tail _ (.head _)))
            · exact hne2 q (List.mem_append_right _ (.tail _ (.tail _ hq)))
      | cons z q =>
        have hnx' : tb = z ∧ StrsAre pb q ∧ p3 = p' := by
          rcases hnx with ⟨h1, _⟩ | ⟨q', h1, h2, h3⟩
          · cases h1
          · injection h1 with h1 h4; subst h4; exact ⟨h1.symm, h2, h3⟩
        obtain ⟨rfl, hpb, rfl⟩ := hnx'
        have hz := hqs tb (.head _)
        have hzb : (tb != Str.ofString "") = true := by simpa using hz.1
        have hr2l' : row2.length + (q.length + 1) ≤ tabs.length := hr2l
        have hql : q.length < 2 ^ 10 := by omega
        have hoffr : ∀ r ∈ lexLed w a n tn3 pb np3 p3 tp3 ++ ((it, io) :: (l, listOf vs.toArray nl) :: (lf, listOf vf.toArray nf) :: (lt, listOf vt.toArray nt) :: own), r.1 ≠ lr2 := led_ne (off_notin hr2) (hro _ _ _ _)
        dsimp only [lexLed, lexRest, readLed, List.cons_append, List.nil_append] at N₁
        by_cases hst : 0 < st
        · have hd : decide (0 < st) = true := decide_eq_true hst
          by_cases hT : Txt.slice tb (some 1) none = Str.ofString ""
          · have hTb : ¬ ((Txt.slice tb (some 1) none != Str.ofString "") = true) := by simpa using hT
            (((try (show wpAny _ _ _ _ _ _; k_fold)); repeat' (first | (k_unfold; (try dsimp only)) | ((fail_if_success (first | (first | (with_reducible show wpAny _ _ (subscriptTail _ (Expr.Slice _ _ _ _) (Value.ref _) _) _ _ _) | (with_reducible show wpAny _ _ (pyIter (Value.ref _)) _ _ _) | (with_reducible show wpAny _ _ (call (Value.ref 136) _ _) _ _ _) | (with_reducible show wpAny _ _ (call (Value.ref 42) _ _) _ _ _) | (with_reducible show wpAny _ _ (call (Value.ref 49) _ _) _ _ _) | (with_reducible show wpAny _ _ (call (Value.builtin "list.append") _ _) _ _ _)) | (with_reducible show wpAny _ _ (call (Value.ref 65) _ _) _ _ _) | first | (with_reducible show wpAny _ _ (exec (Stmt.While _ _ _ _) _) _ _ _) | (with_reducible show wpAny _ _ (exec (Stmt.For _ _ _ _ _) _) _ _ _))); first | walk1 | (dsimp only; walk1)) | fail "no step")))
            rename News _ _ _ _ => N7
            refine' Does.use (get_token_q_does (n := n) (tn := tn3) (tp := tp3) (np := np3) (p := p3) (own := (lr2, listOf vr2.toArray nr2) :: (it, io) :: (l, listOf vs.toArray nl) :: (lf, listOf vf.toArray nf) :: (lt, listOf vt.toArray nt) :: own) hup hrd (hoff5 _ _ _) (by omega) hat' hx hpb hql) ?B ?C ?F ?X ?N ?T ?hr ?hu ?_
            (case N => exact N7)
            (((case B => k_asm); (case C => assumption); (case F => k_asm); (case X => k_asm); (case T => k_asm); (case hr => (first | exact Nat.lt_of_le_of_lt (Nat.add_le_add_left (by decide) _) (by assumption) | omega | ktr_room)); (case hu => (first | exact Nat.lt_of_le_of_lt (Nat.add_le_add_left (by decide) _) (by assumption) | ktr_units | omega))))
            intro r9 nw9 h9 tk9 F9 N9 H9
            obtain ⟨tb2, tt2, pb2, tn2, np2, p2, tp2, rfl, rfl, hnx2⟩ := H9
            clear N7
            (((try (show wpAny _ _ _ _ _ _; k_fold)); repeat' (first | (k_unfold; (try dsimp only)) | ((fail_if_success (first | (first | (with_reducible show wpAny _ _ (subscriptTail _ (Expr.Slice _ _ _ _) (Value.ref _) _) _ _ _) | (with_reducible show wpAny _ _ (pyIter (Value.ref _)) _ _ _) | (with_reducible show wpAny _ _ (call (Value.ref 136) _ _) _ _ _) | (with_reducible show wpAny _ _ (call (Value.ref 42) _ _) _ _ _) | (with_reducible show wpAny _ _ (call (Value.ref 49) _ _) _ _ _) | (with_reducible show wpAny _ _ (call (Value.builtin "list.append") _ _) _ _ _)) | (with_reducible show wpAny _ _ (call (Value.ref 65) _ _) _ _ _) | first | (with_reducible show wpAny _ _ (exec (Stmt.While _ _ _ _) _) _ _ _) | (with_reducible show wpAny _ _ (exec (Stmt.For _ _ _ _ _) _) _ _ _))); first | walk1 | (dsimp only; walk1)) | fail "no step")))
            dsimp only [WhileStep2]
            refine ⟨_, _, _, _, _, rfl, by assumption, by assumption, Nat.lt_succ_self _, q, vr2, nr2, row2, (st - 1), _, (se2 + 1), _, tb2, tt2, pb2, tn2, np2, p2, tp2, rfl, rfl, hvr2, hrow2, hr20, by omega, hnx2, fun y hy => hqs y (.tail _ hy), ?_, rfl, rfl, rfl, rfl, rfl, rfl⟩
            rw [← hserve]
            show _ = if 0 < st then _ else _
            rw [if_pos hst, if_pos hT]
          · have hTb : (Txt.slice tb (some 1) none != Str.ofString "") = true := by simpa using hT
            (((try (show wpAny _ _ _ _ _ _; k_fold)); repeat' (first | (k_unfold; (try dsimp only)) | ((fail_if_success (first | (first | (with_reducible show wpAny _ _ (subscriptTail _ (Expr.Slice _ _ _ _) (Value.ref _) _) _ _ _) | (with_reducible show wpAny _ _ (pyIter (Value.ref _)) _ _ _) | (with_reducible show wpAny _ _ (call (Value.ref 136) _ _) _ _ _) | (with_reducible show wpAny _ _ (call (Value.ref 42) _ _) _ _ _) | (with_reducible show wpAny _ _ (call (Value.ref 49) _ _) _ _ _) | (with_reducible show wpAny _ _ (call (Value.builtin "list.append") _ _) _ _ _)) | (with_reducible show wpAny _ _ (call (Value.ref 65) _ _) _ _ _) | first | (with_reducible show wpAny _ _ (exec (Stmt.While _ _ _ _) _) _ _ _) | (with_reducible show wpAny _ _ (exec (Stmt.For _ _ _ _ _) _) _ _ _))); first | walk1 | (dsimp only; walk1)) | fail "no step")))
            have hTl : (Txt.slice tb (some 1) none).length < 2 ^ 10 := by omega
            rename News _ _ _ _ => N6
            refine' Does.use (insort_does (l := lr2) (vs := vr2) (ws := row2) (n := nr2) (x := Txt.slice tb (some 1) none) (own := lexLed w a n tn3 pb np3 p3 tp3 ++ ((it, io) :: (l, listOf vs.toArray nl) :: (lf, listOf vf.toArray nf) :: (lt, listOf vt.toArray nt) :: own)) hoffr hvr2 hvr2.length (by omega) hrow2.2 hTl hrow2.1) ?B ?C ?F ?X ?N ?T ?hr ?hu ?_
            (case N => exact news_out1 (l := lexLed w a n tn3 pb np3 p3 tp3) N6)
            (((case B => k_asm); (case C => assumption); (case F => k_asm); (case X => k_asm); (case T => k_asm); (case hr => (first | exact Nat.lt_of_le_of_lt (Nat.add_le_add_left (by decide) _) (by assumption) | omega | ktr_room)); (case hu => (first | exact Nat.lt_of_le_of_lt (Nat.add_le_add_left (by decide) _) (by assumption) | ktr_units | omega))))
            intro r9 nw9 h9 tk9 F9 N9 H9
            obtain ⟨rfl, vr3, nr3, rfl, hvr3⟩ := H9
            replace N9 := news_in1 N9
            dsimp only [lexLed, lexRest, readLed, List.cons_append, List.nil_append] at N9
            clear N6
            (((try (show wpAny _ _ _ _ _ _; k_fold)); repeat' (first | (k_unfold; (try dsimp only)) | ((fail_if_success (first | (first | (with_reducible show wpAny _ _ (subscriptTail _ (Expr.Slice _ _ _ _) (Value.ref _) _) _ _ _) | (with_reducible show wpAny _ _ (pyIter (Value.ref _)) _ _ _) | (with_reducible show wpAny _ _ (call (Value.ref 136) _ _) _ _ _) | (with_reducible show wpAny _ _ (call (Value.ref 42) _ _) _ _ _) | (with_reducible show wpAny _ _ (call (Value.ref 49) _ _) _ _ _) | (with_reducible show wpAny _ _ (call (Value.builtin "list.append") _ _) _ _ _)) | (with_reducible show wpAny _ _ (call (Value.ref 65) _ _) _ _ _) | first | (with_reducible show wpAny _ _ (exec (Stmt.While _ _ _ _) _) _ _ _) | (with_reducible show wpAny _ _ (exec (Stmt.For _ _ _ _ _) _) _ _ _))); first | walk1 | (dsimp only; walk1)) | fail "no step")))
            rename News _ _ _ _ => N7
            refine' Does.use (get_token_q_does (n := n) (tn := tn3) (tp := tp3) (np := np3) (p := p3) (own := (lr2, listOf vr3.toArray nr3) :: (it, io) :: (l, listOf vs.toArray nl) :: (lf, listOf vf.toArray nf) :: (lt, listOf vt.toArray nt) :: own) hup hrd (hoff5 _ _ _) (by omega) hat' hx hpb hql) ?B ?C ?F ?X ?N ?T ?hr ?hu ?_
            (case N => exact N7)
            (((case B => k_asm); (case C => assumption); (case F => k_asm); (case X => k_asm); (case T => k_asm); (case hr => (first | exact Nat.lt_of_le_of_lt (Nat.add_le_add_left (by decide) _) (by assumption) | omega | ktr_room)); (case hu => (first | exact Nat.lt_of_le_of_lt (Nat.add_le_add_left (by decide) _) (by assumption) | ktr_units | omega))))
            intro r9 nw9 h9 tk9 F9 N9 H9
            obtain ⟨tb2, tt2, pb2, tn2, np2, p2, tp2, rfl, rfl, hnx2⟩ := H9
            clear N7
            (((try (show wpAny _ _ _ _ _ _; k_fold)); repeat' (first | (k_unfold; (try dsimp only)) | ((fail_if_success (first | (first | (with_reducible show wpAny _ _ (subscriptTail _ (Expr.Slice _ _ _ _) (Value.ref _) _) _ _ _) | (with_reducible show wpAny _ _ (pyIter (Value.ref _)) _ _ _) | (with_reducible show wpAny _ _ (call (Value.ref 136) _ _) _ _ _) | (with_reducible show wpAny _ _ (call (Value.ref 42) _ _) _ _ _) | (with_reducible show wpAny _ _ (call (Value.ref 49) _ _) _ _ _) | (with_reducible show wpAny _ _ (call (Value.builtin "list.append") _ _) _ _ _)) | (with_reducible show wpAny _ _ (call (Value.ref 65) _ _) _ _ _) | first | (with_reducible show wpAny _ _ (exec (Stmt.While _ _ _ _) _) _ _ _) | (with_reducible show wpAny _ _ (exec (Stmt.For _ _ _ _ _) _) _ _ _))); first | walk1 | (dsimp only; walk1)) | fail "no step")))
            dsimp only [WhileStep2]
            refine ⟨_, _, _, _, _, rfl, by assumption, by assumption, Nat.lt_succ_self _, q, vr3, nr3, (insW row2 (Txt.slice tb (some 1) none)), (st - 1), _, (se2 + 1), _, tb2, tt2, pb2, tn2, np2, p2, tp2, rfl, rfl, hvr3, (hrow2.ins hTl), (insW_all hr20 hT), by rw [insW_length]; omega, hnx2, fun y hy => hqs y (.tail _ hy), ?_, rfl, rfl, rfl, rfl, rfl, rfl⟩
            rw [← hserve]
            show _ = if 0 < st then _ else _
            rw [if_pos hst, if_neg hT]
        · have hd : ¬ (decide (0 < st) = true) := by simpa using hst
          (((try (show wpAny _ _ _ _ _ _; k_fold)); repeat' (first | (k_unfold; (try dsimp only)) | ((fail_if_success (first | (first | (with_reducible show wpAny _ _ (subscriptTail _ (Expr.Slice _ _ _ _) (Value.ref _) _) _ _ _) | (with_reducible show wpAny _ _ (pyIter (Value.ref _)) _ _ _) | (with_reducible show wpAny _ _ (call (Value.ref 136) _ _) _ _ _) | (with_reducible show wpAny _ _ (call (Value.ref 42) _ _) _ _ _) | (with_reducible show wpAny _ _ (call (Value.ref 49) _ _) _ _ _) | (with_reducible show wpAny _ _ (call (Value.builtin "list.append") _ _) _ _ _)) | (with_reducible show wpAny _ _ (call (Value.ref 65) _ _) _ _ _) | first | (with_reducible show wpAny _ _ (exec (Stmt.While _ _ _ _) _) _ _ _) | (with_reducible show wpAny _ _ (exec (Stmt.For _ _ _ _ _) _) _ _ _))); first | walk1 | (dsimp only; walk1)) | fail "no step")))
          rename News _ _ _ _ => N6
          refine' Does.use (insort_does (l := lr2) (vs := vr2) (ws := row2) (n := nr2) (x := tb) (own := lexLed w a n tn3 pb np3 p3 tp3 ++ ((it, io) :: (l, listOf vs.toArray nl) :: (lf, listOf vf.toArray nf) :: (lt, listOf vt.toArray nt) :: own)) hoffr hvr2 hvr2.length (by omega) hrow2.2 hz.2 hrow2.1) ?B ?C ?F ?X ?N ?T ?hr ?hu ?_
          (case N => exact news_out1 (l := lexLed w a n tn3 pb np3 p3 tp3) N6)
          (((case B => k_asm); (case C => assumption); (case F => k_asm); (case X => k_asm); (case T => k_asm); (case hr => (first | exact Nat.lt_of_le_of_lt (Nat.add_le_add_left (by decide) _) (by assumption) | omega | ktr_room)); (case hu => (first | exact Nat.lt_of_le_of_lt (Nat.add_le_add_left (by decide) _) (by assumption) | ktr_units | omega))))
          intro r9 nw9 h9 tk9 F9 N9 H9
          obtain ⟨rfl, vr3, nr3, rfl, hvr3⟩ := H9
          replace N9 := news_in1 N9
          dsimp only [lexLed, lexRest, readLed, List.cons_append, List.nil_append] at N9
          clear N6
          (((try (show wpAny _ _ _ _ _ _; k_fold)); repeat' (first | (k_unfold; (try dsimp only)) | ((fail_if_success (first | (first | (with_reducible show wpAny _ _ (subscriptTail _ (Expr.Slice _ _ _ _) (Value.ref _) _) _ _ _) | (with_reducible show wpAny _ _ (pyIter (Value.ref _)) _ _ _) | (with_reducible show wpAny _ _ (call (Value.ref 136) _ _) _ _ _) | (with_reducible show wpAny _ _ (call (Value.ref 42) _ _) _ _ _) | (with_reducible show wpAny _ _ (call (Value.ref 49) _ _) _ _ _) | (with_reducible show wpAny _ _ (call (Value.builtin "list.append") _ _) _ _ _)) | (with_reducible show wpAny _ _ (call (Value.ref 65) _ _) _ _ _) | first | (with_reducible show wpAny _ _ (exec (Stmt.While _ _ _ _) _) _ _ _) | (with_reducible show wpAny _ _ (exec (Stmt.For _ _ _ _ _) _) _ _ _))); first | walk1 | (dsimp only; walk1)) | fail "no step")))
          rename News _ _ _ _ => N7
          refine' Does.use (get_token_q_does (n := n) (tn := tn3) (tp := tp3) (np := np3) (p := p3) (own := (lr2, listOf vr3.toArray nr3) :: (it, io) :: (l, listOf vs.toArray nl) :: (lf, listOf vf.toArray nf) :: (lt, listOf vt.toArray nt) :: own) hup hrd (hoff5 _ _ _) (by omega) hat' hx hpb hql) ?B ?C ?F ?X ?N ?T ?hr ?hu ?_
          (case N => exact N7)
          (((case B => k_asm); (case C => assumption); (case F => k_asm); (case X => k_asm); (case T => k_asm); (case hr => (first | exact Nat.lt_of_le_of_lt (Nat.add_le_add_left (by decide) _) (by assumption) | omega | ktr_room)); (case hu => (first | exact Nat.lt_of_le_of_lt (Nat.add_le_add_left (by decide) _) (by assumption) | ktr_units | omega))))
          intro r9 nw9 h9 tk9 F9 N9 H9
          obtain ⟨tb2, tt2, pb2, tn2, np2, p2, tp2, rfl, rfl, hnx2⟩ := H9
          clear N7
          (((try (show wpAny _ _ _ _ _ _; k_fold)); repeat' (first | (k_unfold; (try dsimp only)) | ((fail_if_success (first | (first | (with_reducible show wpAny _ _ (subscriptTail _ (Expr.Slice _ _ _ _) (Value.ref _) _) _ _ _) | (with_reducible show wpAny _ _ (pyIter (Value.ref _)) _ _ _) | (with_reducible show wpAny _ _ (call (Value.ref 136) _ _) _ _ _) | (with_reducible show wpAny _ _ (call (Value.ref 42) _ _) _ _ _) | (with_reducible show wpAny _ _ (call (Value.ref 49) _ _) _ _ _) | (with_reducible show wpAny _ _ (call (Value.builtin "list.append") _ _) _ _ _)) | (with_reducible show wpAny _ _ (call (Value.ref 65) _ _) _ _ _) | first | (with_reducible show wpAny _ _ (exec (Stmt.While _ _ _ _) _) _ _ _) | (with_reducible show wpAny _ _ (exec (Stmt.For _ _ _ _ _) _) _ _ _))); first | walk1 | (dsimp only; walk1)) | fail "no step")))
          dsimp only [WhileStep2]
          refine ⟨_, _, _, _, _, rfl, by assumption, by assumption, Nat.lt_succ_self _, q, vr3, nr3, (insW row2 tb), st, _, se2, _, tb2, tt2, pb2, tn2, np2, p2, tp2, rfl, rfl, hvr3, (hrow2.ins hz.2), (insW_all hr20 hz.1), by rw [insW_length]; omega, hnx2, fun y hy => hqs y (.tail _ hy), ?_, rfl, rfl, rfl, rfl, rfl, rfl⟩
          rw [← hserve]
          show _ = if 0 < st then _ else _
          rw [if_neg hst, if_neg hz.1]
  · rintro m₁ nw₁ h₁ tk₁ ⟨lr, vr, nr, row, vs, done, nl, p', tn', tp', np', se, ts, rfl, hvr, hrow, hr0, hrl, hvs, hdl, hdone, hat', hp', hlra, el, er, es, et⟩ F₂ N₂
    have F₃ := frKnow F₂ [(Str.ofString "told", .ref l)] (List.forall_mem_cons.mpr ⟨et, nofun⟩)
    replace N₂ := news_out1 (news_drop1 N₂)
    clear F₂ F1 N1
    dsimp only
    (((try (show wpAny _ _ _ _ _ _; k_fold)); repeat' (first | (k_unfold; (try dsimp only)) | ((fail_if_success (first | (first | (with_reducible show wpAny _ _ (subscriptTail _ (Expr.Slice _ _ _ _) (Value.ref _) _) _ _ _) | (with_reducible show wpAny _ _ (pyIter (Value.ref _)) _ _ _) | (with_reducible show wpAny _ _ (call (Value.ref 136) _ _) _ _ _) | (with_reducible show wpAny _ _ (call (Value.ref 42) _ _) _ _ _) | (with_reducible show wpAny _ _ (call (Value.ref 49) _ _) _ _ _) | (with_reducible show wpAny _ _ (call (Value.builtin "list.append") _ _) _ _ _)) | (with_reducible show wpAny _ _ (call (Value.ref 65) _ _) _ _ _) | first | (with_reducible show wpAny _ _ (exec (Stmt.While _ _ _ _) _) _ _ _) | (with_reducible show wpAny _ _ (exec (Stmt.For _ _ _ _ _) _) _ _ _))); first | walk1 | (dsimp only; walk1)) | fail "no step")))
    rename (∀ (_ : Value) (_ : List (Addr × Obj)) (_ : Heap) (_ : Nat), _) => hret9
    refine hret9 _ _ _ _ (by assumption) (by assumption) ⟨l, vs, nl, p', tn', tp', np', rfl, rfl, ?_, hat', by omega, ?_, hl (lf, listOf vf.toArray nf) (List.mem_append_right _ (.tail _ (.head _))), hl (lt, listOf vt.toArray nt) (List.mem_append_right _ (.tail _ (.tail _ (.head _)))), allLt_of fun q hq => hl q (List.mem_append_right _ (.tail _ (.tail _ (.tail _ hq))))⟩
    · rw [← hdone, hnf', List.drop_length]
      show IntsAre vs (done ++ [])
      rw [List.append_nil]; exact hvs
    · exact hla _ (by simp [LexA.all])
end OwnStops
theorem pick_length (a : Array Nat) : ∀ l : List Nat, (∀ i ∈ l, i < a.size) → (l.filterMap (a[·]?)).length = l.length
  | [], _ => rfl
  | i :: l, h => by
    have hi := h i (.head _)
    rw [List.filterMap_cons, Array.getElem?_eq_getElem hi]
    show (_ :: List.filterMap (fun x => a[x]?) l).length = _
    rw [List.length_cons, List.length_cons, pick_length a l fun j hj => h j (.tail _ hj)]
theorem slice_tail (y : Str) : (Txt.slice y (some 1) none).length = y.length - 1 := by
  have hI : Builtin.Str.strSliceIndices (some 1) none 1 y.length = (List.range (y.length - 1)).map (· + 1) := by
    have e : Builtin.Str.strSliceIndices (some 1) none 1 y.length = sliceRange (max 0 (min 1 (y.length : Int))) (y.length : Int) 1 := by
      unfold Builtin.Str.strSliceIndices
      dsimp only
      rw [if_pos (by decide : (1 : Int) > 0), if_neg (by decide : ¬ (1 : Int) < 0), if_pos (by decide : (1 : Int) > 0)]
    rw [e]
    unfold sliceRange
    rw [if_pos (by decide : (1 : Int) > 0)]
    by_cases h : 1 < y.length
    · rw [show max 0 (min 1 (y.length : Int)) = 1 by omega, if_pos (by omega), show ((y.length : Int) - 1 + 1 - 1) / 1 = ((y.length - 1 : Nat) : Int) by rw [Int.ediv_one]; omega]
      dsimp only
      rw [Int.toNat_natCast]
      apply List.map_congr_left
      intro k _
      omega
    · rw [if_neg (by omega), show y.length - 1 = 0 by omega]
      rfl
  have hs : y.length = y.cps.size := rfl
  unfold Txt.slice
  rw [hI]
  split
  · rename_i h
    simp at h
    omega
  · show (List.filterMap _ _).toArray.size = _
    rw [List.size_toArray, pick_length]
    · simp
    · intro i hi
      obtain ⟨k, hk, rfl⟩ := List.mem_map.mp hi
      have := List.mem_range.mp hk
      omega
theorem pos_of_ne {y : Str} (h : y ≠ Str.ofString "") : 0 < y.length := by
  refine Nat.pos_of_ne_zero fun e => h ?_
  obtain ⟨a⟩ := y
  have : a.size = 0 := e
  obtain rfl := Array.eq_empty_of_size_eq_zero this
  rfl
theorem len_empty : (Str.ofString "").length = 0 := by decide
/-- what the tables can take from t families -/
def capG (row : List Str) (t : Nat) : Nat := (row.map fun y => min y.length t).sum
theorem capG_cons (y : Str) (row : List Str) (t : Nat) : capG (y :: row) t = min y.length t + capG row t := by simp [capG]
theorem capG_insW (row : List Str) (x : Str) (t : Nat) : capG (insW row x) t = capG row t + min x.length t := by
  have e : capG row t = capG (row.take (row.countP fun y => (y.length : Int) < (x.length : Int)) ++ row.drop (row.countP fun y => (y.length : Int) < (x.length : Int))) t := by rw [List.take_append_drop]
  rw [e]
  unfold capG insW
  rw [List.map_append, List.map_append, List.sum_append, List.sum_append, List.map_cons, List.sum_cons]
  omega
theorem capG_rev (row : List Str) (t : Nat) : capG row.reverse t = capG row t := by unfold capG; rw [List.map_reverse, List.sum_reverse]
theorem capG_mono (row : List Str) (t : Nat) : capG row t ≤ capG row (t + 1) := by
  induction row with
  | nil => exact Nat.le_refl _
  | cons y r ih => rw [capG_cons, capG_cons]; omega
theorem capG_zero (row : List Str) : capG row 0 = 0 := by
  induction row with
  | nil => rfl
  | cons y r ih => rw [capG_cons]; omega
theorem capG_rowW (ws : List Str) (t : Nat) : capG (rowW ws) t = capG ws t := by
  have : ∀ (ws ys : List Str), capG (ws.foldl insW ys) t = capG ys t + capG ws t := by
    intro ws
    induction ws with
    | nil => intro ys; rfl
    | cons x r ih => intro ys; rw [List.foldl_cons, ih, capG_insW, capG_cons]; omega
  unfold rowW
  rw [this]
  simp [capG]
def servedG : List Str → Nat → Nat → Nat
  | [], _, _ => 0
  | y :: q, 0, t => min y.length t + servedG q 0 t
  | y :: q, s + 1, t => min (y.length - 1) t + servedG q s t
theorem serve_spec : ∀ (q : List Str) (s : Nat) (se : Int) (row : List Str), Rising row → (∀ y ∈ row, y ≠ Str.ofString "") →
    (serve q (s : Int) se row).1 = se + (min s q.length : Nat) ∧ (∀ t, capG (serve q (s : Int) se row).2 t = capG row t + servedG q s t) ∧ Rising (serve q (s : Int) se row).2 ∧ ∀ y ∈ (serve q (s : Int) se row).2, y ≠ Str.ofString ""
  | [], s, se, row, hr, h0 => ⟨by simp [serve], fun t => rfl, hr, h0⟩
  | y :: q, 0, se, row, hr, h0 => by
    have e : serve (y :: q) ((0 : Nat) : Int) se row = serve q ((0 : Nat) : Int) se (if y = Str.ofString "" then row else insW row y) := by
      show (if (0 : Int) < ((0 : Nat) : Int) then _ else _) = _
      rw [if_neg (by decide)]
    rw [e]
    by_cases hy : y = Str.ofString ""
    · rw [if_pos hy]
      obtain ⟨h1, h2, h3, h4⟩ := serve_spec q 0 se row hr h0
      refine ⟨by rw [h1]; simp, fun t => ?_, h3, h4⟩
      rw [h2]
      show _ = _ + (min y.length t + servedG q 0 t)
      rw [hy, len_empty]; omega
    · rw [if_neg hy]
      obtain ⟨h1, h2, h3, h4⟩ := serve_spec q 0 se (insW row y) (insW_rising hr) (insW_all h0 hy)
      refine ⟨by rw [h1]; simp, fun t => ?_, h3, h4⟩
      rw [h2, capG_insW]
      show _ = _ + (min y.length t + servedG q 0 t)
      omega
  | y :: q, s + 1, se, row, hr, h0 => by
    have e : serve (y :: q) ((s + 1 : Nat) : Int) se row = serve q (s : Int) (se + 1) (if Txt.slice y (some 1) none = Str.ofString "" then row else insW row (Txt.slice y (some 1) none)) := by
      show (if (0 : Int) < ((s + 1 : Nat) : Int) then _ else _) = _
      rw [if_pos (by omega), show ((s + 1 : Nat) : Int) - 1 = (s : Int) by omega]
    rw [e]
    have hl := slice_tail y
    by_cases hy : Txt.slice y (some 1) none = Str.ofString ""
    · rw [if_pos hy]
      obtain ⟨h1, h2, h3, h4⟩ := serve_spec q s (se + 1) row hr h0
      refine ⟨by rw [h1, List.length_cons]; omega, fun t => ?_, h3, h4⟩
      rw [h2]
      show _ = _ + (min (y.length - 1) t + servedG q s t)
      rw [hy, len_empty] at hl; omega
    · rw [if_neg hy]
      obtain ⟨h1, h2, h3, h4⟩ := serve_spec q s (se + 1) (insW row (Txt.slice y (some 1) none)) (insW_rising hr) (insW_all h0 hy)
      refine ⟨by rw [h1, List.length_cons]; omega, fun t => ?_, h3, h4⟩
      rw [h2, capG_insW, hl]
      show _ = _ + (min (y.length - 1) t + servedG q s t)
      omega
theorem servedG_zero (q : List Str) (t : Nat) : servedG q 0 t = capG q t := by
  induction q with
  | nil => rfl
  | cons y q ih => rw [capG_cons, ← ih]; rfl
theorem capG_flat {q : List Str} {t : Nat} (h : ∀ y ∈ q, y.length ≤ t) : capG q (t + 1) = capG q t := by
  induction q with
  | nil => rfl
  | cons y q ih =>
    have := h y (.head _)
    rw [capG_cons, capG_cons, ih fun z hz => h z (.tail _ hz)]; omega
theorem served_min : ∀ (q : List Str) (s t : Nat), q.Pairwise (fun y z => z.length ≤ y.length) → (∀ y ∈ q, 0 < y.length) → servedG q s t + min s q.length = min (s + capG q t) (capG q (t + 1))
  | [], s, t, _, _ => by simp [servedG, capG]
  | y :: q, 0, t, _, _ => by
    have := capG_mono (y :: q) t
    rw [servedG_zero]; omega
  | y :: q, s + 1, t, hp, h0 => by
    rw [List.pairwise_cons] at hp
    have ih := served_min q s t hp.2 fun z hz => h0 z (.tail _ hz)
    have hy := h0 y (.head _)
    show min (y.length - 1) t + servedG q s t + min (s + 1) (q.length + 1) = _
    rw [capG_cons, capG_cons, Nat.add_min_add_right]
    by_cases ht : t < y.length
    · rw [Nat.min_eq_right (Nat.le_sub_one_of_lt ht), Nat.min_eq_right (Nat.le_of_lt ht), Nat.min_eq_right (Nat.succ_le_of_lt ht),
        show s + 1 + (t + capG q t) = t + 1 + (s + capG q t) by omega, Nat.add_min_add_left, ← ih]
      generalize min s q.length = z
      omega
    · have hf := capG_flat (q := q) (t := t) fun z hz => Nat.le_trans (hp.1 z hz) (Nat.le_of_not_lt ht)
      have hyt := Nat.le_of_not_lt ht
      rw [hf, Nat.min_eq_right (Nat.le_add_left _ _)] at ih
      rw [hf, Nat.min_eq_left (Nat.le_trans (Nat.sub_le _ _) hyt), Nat.min_eq_left hyt, Nat.min_eq_left (Nat.le_succ_of_le hyt), Nat.min_eq_right (Nat.le_add_left _ _)]
      generalize min s q.length = z at *
      clear hf hp ht hyt
      omega
/-- the least of all ways to split the families -/
def best (g : Nat → Nat) : List Nat → Nat → Nat
  | [], t => g t
  | s :: S, t => min (s + best g S t) (best g S (t + 1))
theorem best_congr {g g' : Nat → Nat} (h : ∀ t, g t = g' t) : ∀ (S : List Nat) (t : Nat), best g S t = best g' S t
  | [], t => h t
  | s :: S, t => by show min _ _ = min _ _; rw [best_congr h S t, best_congr h S (t + 1)]
theorem best_add (g : Nat → Nat) (d : Nat) : ∀ (S : List Nat) (t : Nat), best (fun t => g t + d) S t = best g S t + d
  | [], t => rfl
  | s :: S, t => by
    show min _ _ = min _ _ + d
    rw [best_add g d S t, best_add g d S (t + 1)]; omega
theorem min4 (p u v z : Nat) : min (min p u) (min v z) = min (min p v) (min u z) := by
  rw [Nat.min_assoc, ← Nat.min_assoc u, Nat.min_comm u v, Nat.min_assoc v, ← Nat.min_assoc p]
theorem best_step (g : Nat → Nat) (s : Nat) : ∀ (S : List Nat) (t : Nat), best (fun t => min (s + g t) (g (t + 1))) S t = best g (s :: S) t
  | [], t => rfl
  | a :: S, t => by
    have h1 := best_step g s S t
    have h2 := best_step g s S (t + 1)
    show min _ _ = min (s + min _ _) (min _ _)
    rw [h1, h2]
    show min (a + min _ _) (min _ _) = _
    rw [← Nat.add_min_add_left, ← Nat.add_min_add_left, Nat.add_left_comm, min4]
theorem best_perm (g : Nat → Nat) {S S' : List Nat} (h : S.Perm S') : ∀ t, best g S t = best g S' t := by
  induction h with
  | nil => intro t; rfl
  | cons x _ ih => intro t; show min _ _ = min _ _; rw [ih, ih]
  | swap x y l => intro t; show min (y + min _ _) (min _ _) = min (x + min _ _) (min _ _); omega
  | trans _ _ ih1 ih2 => intro t; rw [ih1, ih2]
theorem take_le : ∀ (S : List Nat) (s j : Nat), (s :: S).Pairwise (· ≤ ·) → j ≤ S.length → ((s :: S).take j).sum ≤ (S.take j).sum
  | _, _, 0, _, _ => by simp
  | [], s, j + 1, _, h => by simp at h
  | a :: S, s, j + 1, hp, h => by
    rw [List.pairwise_cons] at hp
    have ih := take_le S a j hp.2 (by simpa using h)
    have := hp.1 a (.head _)
    rw [List.take_succ_cons, List.take_succ_cons, List.sum_cons, List.sum_cons]
    omega
theorem best_sorted (g : Nat → Nat) : ∀ (S : List Nat) (t : Nat), S.Pairwise (· ≤ ·) →
    (∃ k, k ≤ S.length ∧ best g S t = (S.take (S.length - k)).sum + g (t + k)) ∧ ∀ k, k ≤ S.length → best g S t ≤ (S.take (S.length - k)).sum + g (t + k)
  | [], t, _ => ⟨⟨0, Nat.le_refl _, by simp [best]⟩, fun k hk => by have : k = 0 := by simpa using hk
                                                                    subst this; simp [best]⟩
  | s :: S, t, hp => by
    have hp' := hp
    rw [List.pairwise_cons] at hp'
    obtain ⟨⟨k1, hk1, e1⟩, u1⟩ := best_sorted g S t hp'.2
    obtain ⟨⟨k2, hk2, e2⟩, u2⟩ := best_sorted g S (t + 1) hp'.2
    have hd : best g (s :: S) t = min (s + best g S t) (best g S (t + 1)) := rfl
    have hu : ∀ k, k ≤ (s :: S).length → best g (s :: S) t ≤ ((s :: S).take ((s :: S).length - k)).sum + g (t + k) := by
      intro k hk
      rw [List.length_cons] at hk ⊢
      by_cases h : k ≤ S.length
      · have := u1 k h
        rw [show S.length + 1 - k = (S.length - k) + 1 by omega, List.take_succ_cons, List.sum_cons]
        omega
      · have hk' : k = S.length + 1 := by omega
        have := u2 S.length (Nat.le_refl _)
        subst hk'
        rw [Nat.sub_self, List.take_zero] at this ⊢
        rw [show t + 1 + S.length = t + (S.length + 1) by omega] at this
        omega
    refine ⟨?_, hu⟩
    by_cases h : s + best g S t ≤ best g S (t + 1)
    · refine ⟨k1, by rw [List.length_cons]; omega, ?_⟩
      rw [List.length_cons, show S.length + 1 - k1 = (S.length - k1) + 1 by omega, List.take_succ_cons, List.sum_cons]
      omega
    · refine ⟨k2 + 1, by rw [List.length_cons]; omega, ?_⟩
      have h1 := hu (k2 + 1) (by rw [List.length_cons]; omega)
      have h2 := take_le S s (S.length - k2) hp (by omega)
      rw [List.length_cons, show S.length + 1 - (k2 + 1) = S.length - k2 by omega] at h1 ⊢
      rw [show t + 1 + k2 = t + (k2 + 1) by omega] at e2
      omega
theorem rising_desc {row : List Str} (h : Rising row) : row.reverse.Pairwise fun y z => z.length ≤ y.length := by
  rw [List.pairwise_reverse]; exact h
theorem seated_step {row : List Str} (hr : Rising row) (h0 : ∀ y ∈ row, y ≠ Str.ofString "") (s : Nat) (se : Int) (S : List Nat) (t : Nat) :
    best (capG row) (s :: S) t = min s row.length + best (capG (serve row.reverse (s : Int) se []).2) S t := by
  obtain ⟨_, h2, _, _⟩ := serve_spec row.reverse s se [] List.Pairwise.nil nofun
  rw [← best_step, best_congr (g' := fun t => capG (serve row.reverse (s : Int) se []).2 t + min s row.length), best_add, Nat.add_comm]
  intro t
  have := served_min row.reverse s t (rising_desc hr) fun y hy => pos_of_ne (h0 y (by simpa using hy))
  rw [h2, capG_rev, capG_rev, List.length_reverse] at *
  simp only [capG, List.map_nil, List.sum_nil] at *
  omega
theorem seated_best : ∀ (fs row : List Str) (se : Int), Rising row → (∀ y ∈ row, y ≠ Str.ofString "") →
    seatedF fs row se = (List.range fs.length).map fun i => se + (best (capG row) ((fs.take (i + 1)).map Str.length) 0 : Nat)
  | [], _, _, _, _ => rfl
  | f :: fs, row, se, hr, h0 => by
    obtain ⟨h1, h2, h3, h4⟩ := serve_spec row.reverse f.length se [] List.Pairwise.nil nofun
    rw [List.length_reverse] at h1
    show (serve row.reverse f.length se []).1 :: seatedF fs (serve row.reverse f.length se []).2 (serve row.reverse f.length se []).1 = _
    rw [seated_best fs _ _ h3 h4, List.length_cons, List.range_succ_eq_map, List.map_cons, List.map_map]
    congr 1
    · rw [h1, List.take_succ_cons, List.map_cons, List.take_zero, List.map_nil, seated_step hr h0 _ se]
      show _ = se + ((min f.length row.length + capG (serve row.reverse (f.length : Int) se []).2 0 : Nat) : Int)
      rw [capG_zero]; simp
    · apply List.map_congr_left
      intro i _
      show _ = se + (best (capG row) (((f :: fs).take (i + 1 + 1)).map Str.length) 0 : Nat)
      rw [List.take_succ_cons, List.map_cons, seated_step hr h0 _ se, h1]
      push_cast
      omega
theorem capG_succ (row : List Str) (k : Nat) : capG row (k + 1) + row.countP (fun y => (y.length : Int) < ((k + 1 : Nat) : Int)) = capG row k + row.length := by
  induction row with
  | nil => rfl
  | cons y r ih =>
    rw [capG_cons, capG_cons, List.countP_cons, List.length_cons]
    by_cases h : y.length < k + 1
    · rw [if_pos (by simp; omega)]; omega
    · rw [if_neg (by simp; omega)]; omega
section OwnStops
section
variable {A : Around} {E : Value → Shared → Prop} {s : Shared} {Q : Flow → Shared → Prop} {env : Env} {h₀ : Heap} {L : Addr}
theorem small_range {a b : Int} (ha : 0 ≤ a ∧ a < 100) (hb : 0 ≤ b ∧ b < 100) : Builtin.Range.small a b 1 = true := small_one (by omega) (by omega) (by omega) (by omega)
theorem size_range {a b : Int} {n : Nat} (h : b = a + (n : Int)) : Builtin.Range.rangeSize a b 1 = (n : Int) := by
  subst h
  unfold Builtin.Range.rangeSize
  rw [if_pos (by decide : (1 : Int) > 0)]
  split
  · rw [Int.ediv_one]; omega
  · omega
/-- a for over a range; the store of the name is left to the walk -/
theorem iter_rangeM {x : Str} {body : List Stmt} {r : Addr} {a₀ b₀ : Int} {t₀ u₀ v₀ : Tok} {n : Nat} {m : Str → Option Value} {nw : List (Addr × Obj)} (hh : A.handled = none) (hr : IsRange s.heap r a₀ b₀ 1 t₀ u₀ v₀) (hsm : Builtin.Range.small a₀ b₀ 1 = true) (hn : Builtin.Range.rangeSize a₀ b₀ 1 = (n : Int))
    (J : Nat → (Str → Option Value) → List (Addr × Obj) → Prop)
    (F : Fr h₀ L s.heap m) (N : News h₀ L s.heap nw) (hJ : J 0 m nw)
    (turn : ∀ it io i ti m₁ nw₁ h₁ tk₁, (∀ p ∈ nw, p.1 < it) → (∀ p ∈ nw₁, p.1 ≠ it) → i < n → J i m₁ nw₁ → Fr h₀ L h₁ m₁ → News h₀ L h₁ ((it, io) :: nw₁) →
      wpAny (model prog w) A (storeName env x (.int (a₀ + (i : Int)) ti)) (fun _ s₃ => wpAny (model prog w) A (execs body env) (TurnEnd h₀ L s [(it, io)] (fun m nw => J (i + 1) m nw ∧ ∀ p ∈ nw, p.1 ≠ it) Q) E s₃) E { s with heap := h₁, toks := tk₁ })
    (done : ∀ m₁ nw₁ h₁ tk₁, J n m₁ nw₁ → Fr h₀ L h₁ m₁ → News h₀ L h₁ nw₁ → Q .next { s with heap := h₁, toks := tk₁ }) :
    wpAny (model prog w) A (pyIter (.ref r)) (fun it s₂ => ForAt prog w A h₀ L env x body Q E it s₂) E s := by
  refine wpAny_pyIter_range hr hsm ?_
  have hlow : ∀ p ∈ nw, p.1 < s.heap.objs.size := fun p hp => Heap.lt_size (N p hp).1
  refine ⟨fun k m nw' => ∃ i nw₁, k = n - i ∧ i ≤ n ∧ nw' = (s.heap.objs.size, itR (a₀ + (i : Int)) ((n : Int) - (i : Int))) :: nw₁ ∧ J i m nw₁ ∧ (∀ p ∈ nw₁, p.1 ≠ s.heap.objs.size), n, ⟨m, _, F.push _, N.push F _, 0, nw, rfl, Nat.zero_le _, ?_, hJ, fun p hp => Nat.ne_of_lt (hlow p hp)⟩, ?_⟩
  · rw [hn]; simp [itR]
  rintro k m₁ nw' h₁ tk₁ F₁ N₁ ⟨i, nw₁, rfl, hi, rfl, hJ₁, hne⟩
  have hit : IsRangeIter h₁ s.heap.objs.size (a₀ + (i : Int)) ((n : Int) - (i : Int)) 1 := News.get N₁ (.head _)
  have z := N₁ _ (.head _)
  by_cases hlt : i < n
  · refine wpAny_pyNext_range_item hit (by omega) fun h' hit' hs' => ?_
    have F' := F₁.change hs' z.2.1 z.2.2
    have N' := news_same N₁ hs' hit' hne
    refine wpAny_mono (turn _ _ i tk₁ m₁ nw₁ h' _ hlow hne hlt hJ₁ F' N') (fun _ s₃ h₃ => wpAny_mono h₃ (fun f s₄ h₄ => ?_) fun _ _ e => e) fun _ _ e => e
    have e : ∀ nw₂ : List (Addr × Obj), (s.heap.objs.size, ({ cls := .type "range_iterator", dict := none, data := .fields #[rawInt (a₀ + (i : Int) + 1), rawInt ((n : Int) - (i : Int) - 1), rawInt 1], slots := #[] } : Obj)) :: nw₂ = (s.heap.objs.size, itR (a₀ + ((i + 1 : Nat) : Int)) ((n : Int) - ((i + 1 : Nat) : Int))) :: nw₂ := by
      intro nw₂
      rw [show a₀ + ((i + 1 : Nat) : Int) = a₀ + (i : Int) + 1 by omega, show (n : Int) - ((i + 1 : Nat) : Int) = (n : Int) - (i : Int) - 1 by omega]
      rfl
    cases f with
    | ret v => exact h₄
    | brk => exact h₄
    | next =>
      obtain ⟨h₄, tk₄, m₂, nw₂, rfl, F₂, N₂, hJ₂, hne₂⟩ := h₄
      exact ⟨h₄, tk₄, m₂, _, n - (i + 1), rfl, F₂, N₂, by omega, i + 1, nw₂, rfl, hlt, e nw₂, hJ₂, hne₂⟩
    | cont =>
      obtain ⟨h₄, tk₄, m₂, nw₂, rfl, F₂, N₂, hJ₂, hne₂⟩ := h₄
      exact ⟨h₄, tk₄, m₂, _, n - (i + 1), rfl, F₂, N₂, by omega, i + 1, nw₂, rfl, hlt, e nw₂, hJ₂, hne₂⟩
  · have hin : i = n := by omega
    subst hin
    refine wpAny_pyNext_range_end hh hit (by omega) fun h' he => ?_
    exact done m₁ nw₁ h' _ hJ₁ (fr_extBut F₁ he z.2.1 z.2.2) fun p hp => ⟨he _ _ (hne p hp) (N₁ p (.tail _ hp)).1, (N₁ p (.tail _ hp)).2⟩
end
/-- what the tables can take from t families -/
def capN (C : List Nat) (t : Nat) : Nat := (C.map fun c => min c t).sum
def most (S C : List Nat) : Nat := best (capN C) S 0
def zs (S : List Nat) : List Int := S.map fun (x : Nat) => (x : Int)
theorem ints_sum (S : List Nat) : (zs S).sum = (S.sum : Nat) := by
  induction S with
  | nil => rfl
  | cons x r ih => show (x : Int) + (zs r).sum = _; rw [ih, List.sum_cons]; omega
theorem ints_cap (C : List Nat) (k : Nat) : ((zs C).map fun c => min c (k : Int)).sum = (capN C k : Nat) := by
  induction C with
  | nil => rfl
  | cons x r ih =>
    show min (x : Int) (k : Int) + ((zs r).map fun c => min c (k : Int)).sum = ((min x k + capN r k : Nat) : Int)
    rw [ih]; omega
theorem ints_back {S : List Nat} {rs : List Int} (h : rs.Perm (zs S)) : ∃ R : List Nat, rs = zs R ∧ R.Perm S := by
  have e : ∀ T : List Nat, (zs T).map Int.toNat = T := by
    intro T
    induction T with
    | nil => rfl
    | cons x r ih => show _ :: _ = _; rw [Int.toNat_natCast]; exact congrArg _ ih
  refine ⟨rs.map Int.toNat, ?_, by have := h.map Int.toNat; rwa [e] at this⟩
  unfold zs
  rw [List.map_map]
  have : ∀ x ∈ rs, ((fun (x : Nat) => (x : Int)) ∘ Int.toNat) x = x := by
    intro x hx
    obtain ⟨y, _, rfl⟩ := List.mem_map.mp (h.mem_iff.mp hx)
    rfl
  exact (List.map_congr_left this |>.trans (List.map_id' rs)).symm
theorem most_of {S C : List Nat} {rs : List Int} {M : Int} (hp : rs.Perm (zs S)) (ho : rs.Pairwise (· ≤ ·))
    (hM : M ∈ (List.range ((zs S).length + 1)).map fun k => (rs.take ((zs S).length - k)).sum + ((zs C).map fun c => min c (k : Int)).sum)
    (hle : ∀ a, a ∈ ((List.range ((zs S).length + 1)).map fun k => (rs.take ((zs S).length - k)).sum + ((zs C).map fun c => min c (k : Int)).sum) → M ≤ a) : M = (most S C : Nat) := by
  obtain ⟨R, rfl, hR⟩ := ints_back hp
  have hl : (zs S).length = R.length := by unfold zs; rw [List.length_map]; exact hR.length_eq.symm
  have hs : R.Pairwise (· ≤ ·) := by
    unfold zs at ho
    rw [List.pairwise_map] at ho
    exact ho.imp fun h => by omega
  have term : ∀ k, ((zs R).take (R.length - k)).sum + ((zs C).map fun c => min c (k : Int)).sum = (((R.take (R.length - k)).sum + capN C (0 + k) : Nat) : Int) := by
    intro k
    have : (zs R).take (R.length - k) = zs (R.take (R.length - k)) := by unfold zs; rw [List.map_take]
    rw [this, ints_sum, ints_cap, Nat.zero_add]
    omega
  rw [hl] at hM hle
  obtain ⟨⟨k, hk, e⟩, u⟩ := best_sorted (capN C) R 0 hs
  have hb : most S C = best (capN C) R 0 := best_perm _ hR.symm 0
  obtain ⟨k2, hk2, e2⟩ := List.mem_map.mp hM
  have hk2' : k2 ≤ R.length := by have := List.mem_range.mp hk2; omega
  have h1 := u k2 hk2'
  have h2 := hle _ (List.mem_map.mpr ⟨k, List.mem_range.mpr (by omega), rfl⟩)
  rw [term] at h2 e2
  omega
local macro_rules | `(tactic| k_all) => `(tactic| ((rename AllLt _ _ => hA9); exact allLt_ne hA9 (by omega)))
/-- between two sums -/
inductive InvM (l D sl lt : Nat) (vD : List Value) (cD : Nat) (rs cs : List Int) (ck : Nat) (own : List (Addr × Obj)) (i : Nat) (m : Str → Option Value) (nw : List (Addr × Obj)) : Prop
  | mk (oK : Obj) (cK : Option Value) (vu : List Value) (cu : Nat) (h1 : oK.data = .cell cK) (e : nw = (l, listOf vu.toArray cu) :: (D, listOf vD.toArray cD) :: (ck, oK) :: own)
    (h2 : IntsAre vu ((List.range i).map fun k => (rs.take (sl - k)).sum + (cs.map fun c => min c (k : Int)).sum)) (e1 : m (Str.ofString "sums") = some (.ref l)) (e2 : m (Str.ofString "rising") = some (.ref D)) (e3 : m (Str.ofString "seats") = some (.ref lt))
theorem law_most_does {ls lt n n' : Nat} {vs ws : List Value} {S C : List Nat} {own : List (Addr × Obj)} (hs : IntsAre vs (zs S)) (hc : IntsAre ws (zs C)) (hls : S.length ≤ 4) (hlc : C.length ≤ 4) :
    Does prog w 6 (.ref 148) [.ref ls, .ref lt] [] ((ls, listOf vs.toArray n) :: (lt, listOf ws.toArray n') :: own)
      (fun r nw => ∃ t, r = .int (most S C : Nat) t ∧ nw = (ls, listOf vs.toArray n) :: (lt, listOf ws.toArray n') :: own) := by
  have hsl : (zs S).length = S.length := List.length_map ..
  have hcl : (zs C).length = C.length := List.length_map ..
  generalize hss : zs S = ss at *
  generalize hcs : zs C = cs at *
  ((unfold Does; intro _ _ _ _ _ _ _ _ _ _ _ _ _ _ _ _ _ _ _ _ _ _ _ _ _ _ _ _ _ _ _ _ _ _; w_top off; k_dflt k_enter))
  (((try (show wpAny _ _ _ _ _ _; k_fold)); repeat' (first | (k_unfold; (try dsimp only)) | ((fail_if_success (first | (with_reducible show wpAny _ _ (pyIter (Value.ref _)) _ _ _) | (with_reducible show wpAny _ _ (call (Value.ref 65) _ _) _ _ _) | first | (with_reducible show wpAny _ _ (exec (Stmt.While _ _ _ _) _) _ _ _) | (with_reducible show wpAny _ _ (exec (Stmt.For _ _ _ _ _) _) _ _ _))); first | walk1 | (dsimp only; walk1)) | fail "no step")))
  rename_i lL oK dK D vD rs cD _ hrs hrl hrp hro _ _ lD _ _ l _ l1 _ F1 N1
  obtain ⟨lL1, lL2, lL3⟩ := lL
  refine For_any F1 ?_
  (((try (show wpAny _ _ _ _ _ _; k_fold)); repeat' (first | (k_unfold; (try dsimp only)) | ((fail_if_success (first | (with_reducible show wpAny _ _ (pyIter (Value.ref _)) _ _ _) | (with_reducible show wpAny _ _ (call (Value.ref 65) _ _) _ _ _) | first | (with_reducible show wpAny _ _ (exec (Stmt.While _ _ _ _) _) _ _ _) | (with_reducible show wpAny _ _ (exec (Stmt.For _ _ _ _ _) _) _ _ _))); first | walk1 | (dsimp only; walk1)) | fail "no step")))
  rename IsRange _ _ _ _ _ _ _ _ => hR
  rename News _ _ _ _ => N2
  rename Fr _ _ _ _ => F2
  refine iter_rangeM rfl hR (small_range ⟨by omega, by omega⟩ ⟨by omega, by omega⟩) (n := ss.length + 1) (size_range (by omega)) (fun i m nw => InvM l D ss.length lt vD cD rs cs _ ((ls, listOf vs.toArray n) :: (lt, listOf ws.toArray n') :: own) i m nw) F2 N2
    ⟨_, _, [], 0, dK, rfl, .nil, rfl, rfl, rfl⟩ ?_ ?_
  · rintro it io i ti m₁ nw₁ h₁ tk₁ hlow hne hi ⟨oK, cK, vu, cu, dK, rfl, hvu, e1, e2, e3⟩ F₁ N₁
    replace F₁ := frKnow F₁ [(Str.ofString "sums", .ref l), (Str.ofString "rising", .ref D), (Str.ofString "seats", .ref lt)] (by simp [e1, e2, e3])
    clear F2 N2
    have q1 : @LT.lt Nat instLTNat _ it := hlow _ (.head _)
    have q2 : @LT.lt Nat instLTNat _ it := hlow _ (.tail _ (.head _))
    have q3 : @LT.lt Nat instLTNat _ it := hlow _ (.tail _ (.tail _ (.head _)))
    dsimp only at q1 q2 q3
    (((try (show wpAny _ _ _ _ _ _; k_fold)); repeat' (first | (k_unfold; (try dsimp only)) | ((fail_if_success (first | (with_reducible show wpAny _ _ (pyIter (Value.ref _)) _ _ _) | (with_reducible show wpAny _ _ (call (Value.ref 65) _ _) _ _ _) | first | (with_reducible show wpAny _ _ (exec (Stmt.While _ _ _ _) _) _ _ _) | (with_reducible show wpAny _ _ (exec (Stmt.For _ _ _ _ _) _) _ _ _))); first | walk1 | (dsimp only; walk1)) | fail "no step")))
    rename News _ _ _ _ => N4
    rename Fr _ _ _ _ => F4
    refine append_own (l := l) F4 (news_out1 (l := [(_, _), (_, _), (_, _)]) N4) ?_ (by rw [hvu.length, List.length_map, List.length_range]; omega) ?_
    · dsimp only [List.cons_append, List.nil_append]
      k_all
    intro h5 F5 N5
    replace N5 := news_in1 (l := [(_, _), (_, _), (_, _)]) N5
    dsimp only [List.cons_append, List.nil_append] at N5
    clear F4 N4
    (((try (show wpAny _ _ _ _ _ _; k_fold)); repeat' (first | (k_unfold; (try dsimp only)) | ((fail_if_success (first | (with_reducible show wpAny _ _ (pyIter (Value.ref _)) _ _ _) | (with_reducible show wpAny _ _ (call (Value.ref 65) _ _) _ _ _) | first | (with_reducible show wpAny _ _ (exec (Stmt.While _ _ _ _) _) _ _ _) | (with_reducible show wpAny _ _ (exec (Stmt.For _ _ _ _ _) _) _ _ _))); first | walk1 | (dsimp only; walk1)) | fail "no step")))
    dsimp only [TurnEnd]
    refine ⟨_, _, _, _, rfl, by assumption, news_sub N5 (fun p hp => .tail _ (.tail _ hp)), ⟨_, _, _, _, by assumption, rfl, ?_, rfl, rfl, rfl⟩, ?_⟩
    · rw [List.range_succ, List.map_append]
      have e : (rs.take ((rs.length : Int) - (0 + (i : Int))).toNat).sum + (cs.map fun k' => if 0 + (i : Int) < k' then 0 + (i : Int) else k').sum = (rs.take (ss.length - i)).sum + (cs.map fun c => min c (i : Int)).sum := by
        rw [show ((rs.length : Int) - (0 + (i : Int))).toNat = ss.length - i by omega]
        congr 2
        apply List.map_congr_left
        intro c _
        split <;> omega
      rw [e]
      exact ints_snoc hvu
    · k_all
  · rintro m₁ nw₁ h₁ tk₁ ⟨oK, cK, vu, cu, dK, rfl, hvu, e1, e2, e3⟩ F₁ N₁
    replace F₁ := frKnow F₁ [(Str.ofString "sums", .ref l), (Str.ofString "rising", .ref D), (Str.ofString "seats", .ref lt)] (by simp [e1, e2, e3])
    clear F2 N2
    generalize hus : List.map _ (List.range (ss.length + 1)) = us at hvu
    have hul : us.length = ss.length + 1 := by rw [← hus, List.length_map, List.length_range]
    (((try (show wpAny _ _ _ _ _ _; k_fold)); repeat' (first | (k_unfold; (try dsimp only)) | ((fail_if_success (first | (with_reducible show wpAny _ _ (pyIter (Value.ref _)) _ _ _) | (with_reducible show wpAny _ _ (call (Value.ref 65) _ _) _ _ _) | first | (with_reducible show wpAny _ _ (exec (Stmt.While _ _ _ _) _) _ _ _) | (with_reducible show wpAny _ _ (exec (Stmt.For _ _ _ _ _) _) _ _ _))); first | walk1 | (dsimp only; walk1)) | fail "no step")))
    rename _ ∈ us => hM
    rename (∀ (a : Int), a ∈ us → _ ≤ a) => hle
    have e : _ = ((most S C : Nat) : Int) := most_of (hss ▸ hrp) hro (by rw [hss, hcs, hus]; exact hM) (by rw [hss, hcs, hus]; exact hle)
    rw [e]
    rename (∀ (_ : Value) (_ : List (Addr × Obj)) (_ : Heap) (_ : Nat), _) => hret9
    rename News _ _ _ _ => kN9
    exact hret9 _ _ _ _ (by assumption) (news_sub kN9 fun p hp => .tail _ (.tail _ (.tail _ hp))) ⟨_, rfl, rfl⟩
end OwnStops
section OwnStops
/-- what a call does, where one word's mark is older than the state -/
def DoesT (prog : Program) (w : World) (lv : Nat) (f : Value) (vs : List Value) (kw : List (Str × Value)) (tb : Nat) (news : List (Addr × Obj)) (Ret : Value → List (Addr × Obj) → Prop) : Prop :=
  ∀ (p : Program) (loose : List Str) (mean : ExcName → Option Value) (mg mb : Str → Option Value) (dp un : Nat) (gd : Option (List Code)) (cn : Str) (sn : List (Str × NameKind)) (ig ic : Bool) (sm : List (Str × Const)) (a : Addr) (ccd : Value) (cl : List (Str × Addr)) (outer : List Env) (A₀ : Around) (base h₀ : Heap) (L : Addr) (m : Str → Option Value) (s : Shared) (Q E : Value → Shared → Prop),
    Below A₀ base outer h₀ → CodeHd base 128 124 → Fr h₀ L s.heap m → (hd.heap_39 w.params).In h₀ → News h₀ L s.heap news → Top p loose mean mg mb h₀ → dp + (4 + 4 * lv) < recursionLimit → un + (60 + 60 * lv) < cLine →
    (∀ r news' h' tk', Fr h₀ L h' m → News h₀ L h' news' → Ret r news' → Q r { s with heap := h', toks := tk' }) → 0 < tb → tb < s.toks →
    codeAny (model prog w) (Aro dp un gd cn sn ig ic sm L a ccd cl outer) (.call f ⟨vs, kw⟩) (fun r s' => match r with | .ok (.ret v) => Q v s' | .ok _ => False | .error e => E e s') s
theorem DoesT.use {lv tb : Nat} {f : Value} {vs : List Value} {kw : List (Str × Value)} {Ret : Value → List (Addr × Obj) → Prop} (H : DoesT prog w lv f vs kw tb news Ret)
    {p : Program} {loose : List Str} {mean : ExcName → Option Value} {mg mb : Str → Option Value} {dp un : Nat} {gd : Option (List Code)} {cn : Str} {sn : List (Str × NameKind)} {ig ic : Bool} {sm : List (Str × Const)} {a : Addr} {ccd : Value} {cl : List (Str × Addr)} {outer : List Env} {A₀ : Around} {base h₀ : Heap} {L : Addr} {m : Str → Option Value} {s : Shared} {Q E : Value → Shared → Prop}
    (B : Below A₀ base outer h₀) (C : CodeHd base 128 124) (F : Fr h₀ L s.heap m) (X : (hd.heap_39 w.params).In h₀) (N : News h₀ L s.heap news) (T : Top p loose mean mg mb h₀) (hr : dp + (4 + 4 * lv) < recursionLimit) (hu : un + (60 + 60 * lv) < cLine)
    (h0 : 0 < tb) (h1 : tb < s.toks) (k : ∀ r news' h' tk', Fr h₀ L h' m → News h₀ L h' news' → Ret r news' → Q r { s with heap := h', toks := tk' }) :
    wpAny (model prog w) (Aro dp un gd cn sn ig ic sm L a ccd cl outer) (call f vs kw) Q E s := wpAny_call (H _ _ _ _ _ _ _ _ _ _ _ _ _ _ _ _ _ _ _ _ _ _ _ _ _ B C F X N T hr hu k h0 h1)
section
variable {A : Around} {E : Value → Shared → Prop} {s : Shared} {Q : Flow → Shared → Prop} {env : Env} {h₀ : Heap} {L : Addr}
theorem none_booked {h : Heap} {m : Str → Option Value} (X : (hd.heap_39 w.params).In h₀) (F : Fr h₀ L h m) : NoneBooked h := by
  have e : (hd.heap_39 w.params).lookup 2 = some { cls := Value.none, data := Data.dict #[] } := rfl
  refine ⟨fun _ => none, ⟨_, _, _, F.keep _ _ (X _ _ e), rfl, ?_, ?_⟩, rfl⟩
  · simp [StrKeys]
  · intro name; rfl
theorem is_str_fresh {M : Model} {y z : Str} {u v : Tok} {Q : Value → Shared → Prop} (hu : u ≠ 0) (hv : v ≠ 0) (huv : u ≠ v) (hb : NoneBooked s.heap) (hq : ∀ b, (b = true → y = z) → Q (.bool b) s) :
    wpAny M A (compareOp .Is (.str y u) (.str z v)) Q E s := by
  show wpAny M A (do return .bool (← isSame (.str y u) (.str z v))) Q E s
  refine wpAny_bind ?_
  show wpAny M A (isSame.created (y == z) u v) _ E s
  unfold isSame.created
  refine wpAny_ite ?_
  rw [if_neg (by simp [hu, hv])]
  refine wpAny_ite ?_
  rw [if_neg (by simp [huv])]
  refine wpAny_ite ?_
  split
  · exact wpAny_pure (wpAny_pure (hq _ (by simp)))
  rename_i hyz
  have hyz' : y = z := by simpa using hyz
  refine wpAny_bind (wpAny_sharingNotTold_none hb ?_)
  first | rw [if_neg Bool.false_ne_true] | simp only [Bool.false_eq_true, if_false]
  refine wpAny_bind (wpAny_sharingNotTold_none hb ?_)
  first | rw [if_neg Bool.false_ne_true] | simp only [Bool.false_eq_true, if_false]
  exact wpAny_bind (wpAny_rule (wpAny_bind (wpAny_askSetting (wpAny_pure (wpAny_pure (hq _ fun _ => hyz'))))))
/-- the end of a turn, no mark younger than T lost -/
def TurnEndT (T : Nat) (h₀ : Heap) (L : Addr) (s : Shared) (fix : List (Addr × Obj)) (J : (Str → Option Value) → List (Addr × Obj) → Prop) (Q : Flow → Shared → Prop) (f : Flow) (s₃ : Shared) : Prop :=
  match f with
  | .next | .cont => ∃ h' tk m₂ nw₂, T ≤ tk ∧ s₃ = { s with heap := h', toks := tk } ∧ Fr h₀ L h' m₂ ∧ News h₀ L h' (fix ++ nw₂) ∧ J m₂ nw₂
  | .brk => Q .next s₃
  | .ret v => Q (.ret v) s₃
def StepT (T : Nat) (h₀ : Heap) (L : Addr) (s : Shared) (J : Nat → (Str → Option Value) → List (Addr × Obj) → Prop) (Q : Flow → Shared → Prop) (n : Nat) (f : Flow) (s₃ : Shared) : Prop :=
  match f with
  | .next | .cont => ∃ h' tk m₂ nw₂ n', T ≤ tk ∧ s₃ = { s with heap := h', toks := tk } ∧ Fr h₀ L h' m₂ ∧ News h₀ L h' nw₂ ∧ n' < n ∧ J n' m₂ nw₂
  | .brk => Q .next s₃
  | .ret v => Q (.ret v) s₃
def ForAtT (T : Nat) (prog : Program) (w : World) (A : Around) (h₀ : Heap) (L : Addr) (env : Env) (x : Str) (body : List Stmt) (Q : Flow → Shared → Prop) (E : Value → Shared → Prop) (it : Value) (s : Shared) : Prop :=
  ∃ (J : Nat → (Str → Option Value) → List (Addr × Obj) → Prop) (n : Nat), (∃ m nw, T ≤ s.toks ∧ Fr h₀ L s.heap m ∧ News h₀ L s.heap nw ∧ J n m nw) ∧
    ∀ n m₁ nw₁ h₁ tk₁, T ≤ tk₁ → Fr h₀ L h₁ m₁ → News h₀ L h₁ nw₁ → J n m₁ nw₁ →
      wpAny (model prog w) A (pyNext it) (fun r s₂ => match r with
        | none => Q .next s₂
        | some v => wpAny (model prog w) A (storeName env x v) (fun _ s₃ => wpAny (model prog w) A (execs body env) (StepT T h₀ L s J Q n) E s₃) E s₂) E { s with heap := h₁, toks := tk₁ }
theorem For_anyT (T : Nat) {x : Str} {px pos : Pos} {iter : Expr} {body : List Stmt} {m₀ : Str → Option Value} (_F : Fr h₀ L s.heap m₀)
    (h : wpAny (model prog w) A (eval iter env) (fun xv s₁ => wpAny (model prog w) A (pyIter xv) (fun it s₂ => ForAtT T prog w A h₀ L env x body Q E it s₂) E s₁) E s)
    (hs : ∀ x, foldedSetIterable iter env x = pure x := by intro _; rfl)
    (hE : PassesOwn (model prog w) A env E := by passes_own) :
    wpAny (model prog w) A (exec (.For (.Name x px) iter body [] pos) env) Q E s := by
  refine wpAny_For (wpAny_mono h (fun xv s₁ h₁ => wpAny_mono h₁ (fun it s₂ h₂ => ?_) fun _ _ e => e) fun _ _ e => e) hs
  obtain ⟨J, n, ⟨m, nw, hT, F, N, hJ⟩, turn⟩ := h₂
  refine codeAny_forLoop (fun n s' => ∃ h₁ tk₁ m₁ nw₁, T ≤ tk₁ ∧ s' = { s₂ with heap := h₁, toks := tk₁ } ∧ Fr h₀ L h₁ m₁ ∧ News h₀ L h₁ nw₁ ∧ J n m₁ nw₁) ?_ n ⟨s₂.heap, s₂.toks, m, nw, hT, rfl, F, N, hJ⟩
  rintro n s' ⟨h₁, tk₁, m₁, nw₁, hT₁, rfl, F₁, N₁, J₁⟩
  refine wpAny_mono (turn n m₁ nw₁ h₁ tk₁ hT₁ F₁ N₁ J₁) (fun r s₂ h₂ => ?_) hE
  cases r with
  | none => exact wpAny_execs_nil h₂
  | some v =>
    refine wpAny_assign_Name (wpAny_mono h₂ (fun _ s₃ h₃ => wpAny_mono h₃ (fun f s₄ h₄ => ?_) hE) hE)
    cases f with
    | next =>
      obtain ⟨h', tk, m₂, nw₂, n', hT₂, rfl, F₂, N₂, hn, J₂⟩ := h₄
      exact ⟨n', hn, h', tk, m₂, nw₂, hT₂, rfl, F₂, N₂, J₂⟩
    | cont =>
      obtain ⟨h', tk, m₂, nw₂, n', hT₂, rfl, F₂, N₂, hn, J₂⟩ := h₄
      exact ⟨n', hn, h', tk, m₂, nw₂, hT₂, rfl, F₂, N₂, J₂⟩
    | brk => exact h₄
    | ret v => exact h₄
/-- a for over a text's signs -/
theorem iter_strM {T : Nat} {xn : Str} {body : List Stmt} {x : Str} {t : Tok} {m : Str → Option Value} {nw : List (Addr × Obj)} (ha : x.cps.all (· < 128) = true) (hh : A.handled = none) (hL : env.locals = L) (hx : env.kindOf xn = some .local)
    (hp : (env.scope.kind == .class || (env.scope.kind == .module && env.locals != env.globals)) = false)
    (J : Nat → (Str → Option Value) → List (Addr × Obj) → Prop)
    (F : Fr h₀ L s.heap m) (N : News h₀ L s.heap nw) (hT : T ≤ s.toks) (hJ : J 0 m nw)
    (turn : ∀ it io i c ti m₁ nw₁ h₁ tk₁, (∀ p ∈ nw, p.1 < it) → (∀ p ∈ nw₁, p.1 ≠ it) → x.cps.toList[i]? = some c → @LE.le Nat instLENat T ti → @LE.le Nat instLENat T tk₁ → J i m₁ nw₁ → Fr h₀ L h₁ (fun y => if y = xn then some (.str (one c) ti) else m₁ y) → News h₀ L h₁ ((it, io) :: nw₁) →
      wpAny (model prog w) A (execs body env) (TurnEndT T h₀ L s [(it, io)] (fun m nw => J (i + 1) m nw ∧ ∀ p ∈ nw, p.1 ≠ it) Q) E { s with heap := h₁, toks := tk₁ })
    (done : ∀ m₁ nw₁ h₁ tk₁, J x.cps.size m₁ nw₁ → Fr h₀ L h₁ m₁ → News h₀ L h₁ nw₁ → Q .next { s with heap := h₁, toks := tk₁ }) :
    wpAny (model prog w) A (pyIter (.str x t)) (fun it s₂ => ForAtT T prog w A h₀ L env xn body Q E it s₂) E s := by
  refine wpAny_pyIter_ascii ha ?_
  have hlow : ∀ p ∈ nw, p.1 < s.heap.objs.size := fun p hp => Heap.lt_size (N p hp).1
  refine ⟨fun k m nw' => ∃ i nw₁ io, k = x.cps.size - i ∧ i ≤ x.cps.size ∧ nw' = (s.heap.objs.size, io) :: nw₁ ∧ (∀ h : Heap, h.get? s.heap.objs.size = some io → h.IsStrIter s.heap.objs.size "str_ascii_iterator" x t i) ∧ J i m nw₁ ∧ (∀ p ∈ nw₁, p.1 ≠ s.heap.objs.size), x.cps.size, ⟨m, _, hT, F.push _, N.push F _, 0, nw, _, rfl, Nat.zero_le _, rfl, fun h e => ⟨_, e, rfl, rfl⟩, hJ, fun p hp => Nat.ne_of_lt (hlow p hp)⟩, ?_⟩
  rintro k m₁ nw' h₁ tk₁ hT₁ F₁ N₁ ⟨i, nw₁, io, rfl, hi, rfl, hio, hJ₁, hne⟩
  have hit := hio h₁ (News.get N₁ (.head _))
  have z := N₁ _ (.head _)
  by_cases hlt : i < x.cps.size
  · refine wpAny_pyNext_ascii_item hit (c := x.cps[i]) (by simp [hlt]) fun h' hit' hs' => ?_
    obtain ⟨io', hg, hr⟩ := id hit'
    have F' := F₁.change hs' z.2.1 z.2.2
    have N' := news_same N₁ hs' hg hne
    refine wpAny_storeName_local hx (hL ▸ F'.ns) (fun h'' hn hsb => ?_) hp
    subst hL
    refine wpAny_mono (turn _ io' i x.cps[i] _ m₁ nw₁ h'' _ hlow hne (by simp [hlt]) hT₁ (Nat.le_trans hT₁ (by first | exact Nat.le_succ_of_le (Nat.le_succ _) | exact Nat.le_succ _ | exact Nat.le_refl _)) hJ₁ (F'.set hn hsb) (N'.set hsb)) (fun f s₃ h₃ => ?_) fun _ _ e => e
    cases f with
    | ret v => exact h₃
    | brk => exact h₃
    | next =>
      obtain ⟨h₄, tk₄, m₂, nw₂, hT₂, rfl, F₂, N₂, hJ₂, hne₂⟩ := h₃
      exact ⟨h₄, tk₄, m₂, _, x.cps.size - (i + 1), hT₂, rfl, F₂, N₂, by omega, i + 1, nw₂, io', rfl, hlt, rfl, fun h e => ⟨_, e, hr⟩, hJ₂, hne₂⟩
    | cont =>
      obtain ⟨h₄, tk₄, m₂, nw₂, hT₂, rfl, F₂, N₂, hJ₂, hne₂⟩ := h₃
      exact ⟨h₄, tk₄, m₂, _, x.cps.size - (i + 1), hT₂, rfl, F₂, N₂, by omega, i + 1, nw₂, io', rfl, hlt, rfl, fun h e => ⟨_, e, hr⟩, hJ₂, hne₂⟩
  · have hin : i = x.cps.size := by omega
    subst hin
    refine wpAny_pyNext_ascii_end hh hit (by simp) fun h' he => ?_
    exact done m₁ nw₁ h' _ hJ₁ (fr_extBut F₁ he z.2.1 z.2.2) fun p hp => ⟨he _ _ (hne p hp) (N₁ p (.tail _ hp)).1, (N₁ p (.tail _ hp)).2⟩
end
theorem count_does {x : Str} {tx : Tok} {tb : Nat} {own : List (Addr × Obj)} (ha : x.cps.all (· < 128) = true) (hx : x.length < 2 ^ 20) :
    DoesT prog w 1 (.ref 102) [.str x tx, .str (Str.ofString "\n") tb] [] tb own (fun r nw => ∃ t, r = .int (x.cps.toList.count 10 : Nat) t ∧ nw = own) := by
  unfold DoesT
  intro p loose mean mg mb dp un gd cn sn ig ic sm a ccd cl outer A₀ base h₀ L m s Q E B CH F X N T hroom hunit hret ht0 ht1
  k_dflt k_enter
  generalize htk : s.toks + List.length _ = tk0
  have htb : tb + 1 ≤ tk0 := by omega
  (((try (show wpAny _ _ _ _ _ _; k_fold)); repeat' (first | (k_unfold; (try dsimp only)) | ((fail_if_success (first | (with_reducible show wpAny _ _ (pyIter (Value.str _ _)) _ _ _) | (with_reducible show wpAny _ _ (call (Value.ref 65) _ _) _ _ _) | first | (with_reducible show wpAny _ _ (exec (Stmt.While _ _ _ _) _) _ _ _) | (with_reducible show wpAny _ _ (exec (Stmt.For _ _ _ _ _) _) _ _ _))); first | walk1 | (dsimp only; walk1)) | fail "no step")))
  rename News _ _ _ _ => N1
  rename Fr _ _ _ _ => F1
  refine For_anyT (tb + 1) F1 ?_
  (((try (show wpAny _ _ _ _ _ _; k_fold)); repeat' (first | (k_unfold; (try dsimp only)) | ((fail_if_success (first | (with_reducible show wpAny _ _ (pyIter (Value.str _ _)) _ _ _) | (with_reducible show wpAny _ _ (call (Value.ref 65) _ _) _ _ _) | first | (with_reducible show wpAny _ _ (exec (Stmt.While _ _ _ _) _) _ _ _) | (with_reducible show wpAny _ _ (exec (Stmt.For _ _ _ _ _) _) _ _ _))); first | walk1 | (dsimp only; walk1)) | fail "no step")))
  refine iter_strM ha rfl rfl rfl rfl (fun i m nw => ∃ tc, nw = own ∧ m (Str.ofString "count") = some (.int ((x.cps.toList.take i).count 10 : Nat) tc) ∧ m (Str.ofString "b") = some (.str (Str.ofString "\n") tb)) F1 N1 ?_
    ⟨_, rfl, rfl, rfl⟩ ?_ ?_
  · exact Nat.le_trans htb (by exact Nat.le_add_right _ 2)
  · rintro it io i c ti m₁ nw₁ h₁ tk₁ hlow hne hc hti htk ⟨tc, rfl, e1, e2⟩ F₁ N₁
    replace F₁ := frKnow F₁ [(Str.ofString "i", .str (one c) ti), (Str.ofString "count", .int ((x.cps.toList.take i).count 10 : Nat) tc), (Str.ofString "b", .str (Str.ofString "\n") tb)] (List.forall_mem_cons.mpr ⟨if_pos rfl, List.forall_mem_cons.mpr ⟨(if_neg (show ¬ Str.ofString "count" = Str.ofString "i" by decide)).trans e1, List.forall_mem_cons.mpr ⟨(if_neg (show ¬ Str.ofString "b" = Str.ofString "i" by decide)).trans e2, nofun⟩⟩⟩)
    clear F1 N1
    (((try (show wpAny _ _ _ _ _ _; k_fold)); repeat' (first | (k_unfold; (try dsimp only)) | ((fail_if_success (first | (with_reducible show wpAny _ _ (pyIter (Value.str _ _)) _ _ _) | (with_reducible show wpAny _ _ (call (Value.ref 65) _ _) _ _ _) | first | (with_reducible show wpAny _ _ (exec (Stmt.While _ _ _ _) _) _ _ _) | (with_reducible show wpAny _ _ (exec (Stmt.For _ _ _ _ _) _) _ _ _))); first | walk1 | (dsimp only; walk1)) | fail "no step")))
    refine is_str_fresh (Nat.ne_of_gt (Nat.lt_of_lt_of_le (Nat.succ_pos _) hti)) (Nat.ne_of_gt ht0) (Nat.ne_of_gt hti) (none_booked (w := w) (by assumption) F₁) ?_
    intro b hb
    have htake : ∀ d : Nat, (x.cps.toList.take (i + 1)).count d = (x.cps.toList.take i).count d + if c = d then 1 else 0 := by
      intro d
      rw [List.take_add_one, hc, List.count_append]
      simp [List.count_cons]
    by_cases h10 : c = 10
    · have h10' : one c = Str.ofString "\n" := by rw [h10]; decide
      have h10b : (one c == Str.ofString "\n") = true := by simp [h10']
      cases b with
      | true =>
        (((try (show wpAny _ _ _ _ _ _; k_fold)); repeat' (first | (k_unfold; (try dsimp only)) | ((fail_if_success (first | (with_reducible show wpAny _ _ (pyIter (Value.str _ _)) _ _ _) | (with_reducible show wpAny _ _ (call (Value.ref 65) _ _) _ _ _) | first | (with_reducible show wpAny _ _ (exec (Stmt.While _ _ _ _) _) _ _ _) | (with_reducible show wpAny _ _ (exec (Stmt.For _ _ _ _ _) _) _ _ _))); first | walk1 | (dsimp only; walk1)) | fail "no step")))
        dsimp only [TurnEndT]
        refine ⟨_, _, _, _, ?_, rfl, by assumption, by assumption, ⟨_, rfl, by rw [htake, if_pos h10]; rfl, rfl⟩, hne⟩
        exact Nat.le_trans htk (by first | exact Nat.le_refl _ | exact Nat.le_add_right _ 1 | exact Nat.le_add_right _ 2 | exact Nat.le_add_right _ 3)
      | false =>
        (((try (show wpAny _ _ _ _ _ _; k_fold)); repeat' (first | (k_unfold; (try dsimp only)) | ((fail_if_success (first | (with_reducible show wpAny _ _ (pyIter (Value.str _ _)) _ _ _) | (with_reducible show wpAny _ _ (call (Value.ref 65) _ _) _ _ _) | first | (with_reducible show wpAny _ _ (exec (Stmt.While _ _ _ _) _) _ _ _) | (with_reducible show wpAny _ _ (exec (Stmt.For _ _ _ _ _) _) _ _ _))); first | walk1 | (dsimp only; walk1)) | fail "no step")))
        dsimp only [TurnEndT]
        refine ⟨_, _, _, _, ?_, rfl, by assumption, by assumption, ⟨_, rfl, by rw [htake, if_pos h10]; rfl, rfl⟩, hne⟩
        exact Nat.le_trans htk (by first | exact Nat.le_refl _ | exact Nat.le_add_right _ 1 | exact Nat.le_add_right _ 2 | exact Nat.le_add_right _ 3)
    · have h10' : one c ≠ Str.ofString "\n" := by
        intro e
        rw [show Str.ofString "\n" = one 10 by decide] at e
        exact h10 (by simpa [one] using e)
      have h10b : (one c == Str.ofString "\n") = false := by simp [h10']
      cases b with
      | true => exact absurd (hb rfl) h10'
      | false =>
        (((try (show wpAny _ _ _ _ _ _; k_fold)); repeat' (first | (k_unfold; (try dsimp only)) | ((fail_if_success (first | (with_reducible show wpAny _ _ (pyIter (Value.str _ _)) _ _ _) | (with_reducible show wpAny _ _ (call (Value.ref 65) _ _) _ _ _) | first | (with_reducible show wpAny _ _ (exec (Stmt.While _ _ _ _) _) _ _ _) | (with_reducible show wpAny _ _ (exec (Stmt.For _ _ _ _ _) _) _ _ _))); first | walk1 | (dsimp only; walk1)) | fail "no step")))
        dsimp only [TurnEndT]
        refine ⟨_, _, _, _, ?_, rfl, by assumption, by assumption, ⟨_, rfl, by rw [htake, if_neg h10]; rfl, rfl⟩, hne⟩
        exact Nat.le_trans htk (by first | exact Nat.le_refl _ | exact Nat.le_add_right _ 1 | exact Nat.le_add_right _ 2 | exact Nat.le_add_right _ 3)
  · rintro m₁ nw₁ h₁ tk₁ ⟨tc, rfl, e1, e2⟩ F₁ N₁
    replace F₁ := frKnow F₁ [(Str.ofString "count", .int ((x.cps.toList.take x.cps.size).count 10 : Nat) tc)] (by simp [e1])
    have e : x.cps.toList.take x.cps.size = x.cps.toList := by rw [← Array.length_toList, List.take_length]
    rw [e] at F₁
    clear F1 N1
    (((try (show wpAny _ _ _ _ _ _; k_fold)); repeat' (first | (k_unfold; (try dsimp only)) | ((fail_if_success (first | (with_reducible show wpAny _ _ (pyIter (Value.str _ _)) _ _ _) | (with_reducible show wpAny _ _ (call (Value.ref 65) _ _) _ _ _) | first | (with_reducible show wpAny _ _ (exec (Stmt.While _ _ _ _) _) _ _ _) | (with_reducible show wpAny _ _ (exec (Stmt.For _ _ _ _ _) _) _ _ _))); first | walk1 | (dsimp only; walk1)) | fail "no step")))
    rename (∀ (_ : Value) (_ : List (Addr × Obj)) (_ : Heap) (_ : Nat), _) => hret9
    exact hret9 _ _ _ _ (by assumption) (by assumption) ⟨_, rfl, rfl⟩
end OwnStops
theorem addr_facts {Ls z h0 e it : Nat} (h1 : Ls < it) (h2 : h0 ≤ Ls) (he : e = z + 1) (hi : it = z) : h0 ≤ e ∧ h0 ≤ it ∧ e ≠ Ls ∧ it ≠ Ls ∧ ∀ p : Nat, p < it → p ≠ e ∧ p < e := by
  subst hi he
  exact ⟨by omega, by omega, by omega, by omega, fun p hp => ⟨by omega, by omega⟩⟩
theorem fr_keep2 {h₀ h h' : Heap} {L e it : Addr} {m : Str → Option Value} (F : Fr h₀ L h m) (k : ∀ b o, b ≠ e → b ≠ it → h.get? b = some o → h'.get? b = some o) (eL : e ≠ L) (iL : it ≠ L) (e0 : h₀.get? e = none) (i0 : h₀.get? it = none) : Fr h₀ L h' m :=
  ⟨F.ns.at fun o x => k _ o (Ne.symm eL) (Ne.symm iL) x, fun b o eb => k b o (by rintro rfl; rw [e0] at eb; cases eb) (by rintro rfl; rw [i0] at eb; cases eb) (F.keep b o eb), F.above⟩
theorem news_keep2 {h₀ h h' : Heap} {L e it : Addr} {nw : List (Addr × Obj)} (N : News h₀ L h nw) (k : ∀ b o, b ≠ e → b ≠ it → h.get? b = some o → h'.get? b = some o) (hne : ∀ p ∈ nw, p.1 ≠ it ∧ p.1 ≠ e) : News h₀ L h' nw := fun p hp =>
  ⟨k _ _ (hne p hp).2 (hne p hp).1 (N p hp).1, (N p hp).2⟩
abbrev enumObj (it : Addr) (i : Int) (old : Value) : Obj := { cls := .type "enumerate", dict := none, data := .fields #[.none, .bool false, .ref it, rawInt i, .none, old], slots := #[] }
/-- a for stands at its iterator -/
def LoopAt (prog : Program) (w : World) (A : Around) (env : Env) (tgt : Expr) (body : List Stmt) (Q : Flow → Shared → Prop) (E : Value → Shared → Prop) (it : Value) (s : Shared) : Prop :=
  codeAny (model prog w) A (.forLoop tgt it body [] env) (fun r s' => match r with | .ok f => Q f s' | .error e => cameBackBy (model prog w) A env E e s') s
section
variable {A : Around} {E : Value → Shared → Prop} {s : Shared} {Q : Flow → Shared → Prop} {env : Env} {h₀ : Heap} {L : Addr}
theorem For_enum {tgt iter : Expr} {pos : Pos} {body : List Stmt}
    (h : wpAny (model prog w) A (eval iter env) (fun xv s₁ => wpAny (model prog w) A (pyIter xv) (fun it s₂ => LoopAt prog w A env tgt body Q E it s₂) E s₁) E s)
    (hs : ∀ x, foldedSetIterable iter env x = pure x := by intro _; rfl) :
    wpAny (model prog w) A (exec (.For tgt iter body [] pos) env) Q E s :=
  wpAny_For h hs
theorem enum_listM {xi xc : Str} {pk pv pt : Pos} {x1 : Nat} {body : List Stmt} {l : Addr} {vs : List Value} {n : Nat} {m : Str → Option Value} {nw : List (Addr × Obj)} (F : Fr h₀ L s.heap m) (N : News h₀ L s.heap nw) (hh : A.handled = none) (hL : env.locals = L) (hxi : env.kindOf xi = some .local) (hxc : env.kindOf xc = some .local)
    (hp : (env.scope.kind == .class || (env.scope.kind == .module && env.locals != env.globals)) = false)
    (J : Nat → (Str → Option Value) → List (Addr × Obj) → Prop)
    (hJ : J 0 m nw) (hm : ∀ i m nw, J i m nw → (l, listOf vs.toArray n) ∈ nw)
    (turn : ∀ e eo it io i v ti m₁ nw₁ h₁ tk₁, (∀ p ∈ nw, p.1 < it ∧ p.1 < e) → (∀ p ∈ nw₁, p.1 ≠ it ∧ p.1 ≠ e) → e ≠ it → vs[i]? = some v → J i m₁ nw₁ → Fr h₀ L h₁ (fun y => if y = xc then some v else if y = xi then some (.int (i : Int) ti) else m₁ y) → News h₀ L h₁ ((e, eo) :: (it, io) :: nw₁) →
      wpAny (model prog w) A (execs body env) (TurnEnd h₀ L s [(e, eo), (it, io)] (fun m nw => J (i + 1) m nw ∧ ∀ p ∈ nw, p.1 ≠ it ∧ p.1 ≠ e) Q) E { s with heap := h₁, toks := tk₁ })
    (done : ∀ m₁ nw₁ h₁ tk₁, J vs.length m₁ nw₁ → Fr h₀ L h₁ m₁ → News h₀ L h₁ nw₁ → Q .next { s with heap := h₁, toks := tk₁ })
    (hE : PassesOwn (model prog w) A env E := by passes_own) :
    wpAny (model prog w) A (call (.type "enumerate") [.ref l]) (fun xv s₁ => wpAny (model prog w) A (pyIter xv) (fun it s₂ => LoopAt prog w A env (.Tuple [.Name xi pk, .Name xc pv] x1 pt) body Q E it s₂) E s₁) E s := by
  subst hL
  have lst : ∀ {h : Heap} {nw : List (Addr × Obj)}, News h₀ env.locals h nw → (l, listOf vs.toArray n) ∈ nw → h.IsList l vs.toArray := fun N hm => ⟨_, News.get N hm, rfl, _, rfl⟩
  refine call_enumerate_list (lst N (hm _ _ _ hJ)) fun h' he hit hsz hk => ?_
  have hLs : env.locals < s.heap.objs.size := F.ns.lt
  have hab : h₀.objs.size ≤ env.locals := F.above
  have hlow : ∀ p ∈ nw, p.1 < s.heap.objs.size := fun p hp => Heap.lt_size (N p hp).1
  obtain ⟨e, hze⟩ : ∃ z : Nat, z = s.heap.objs.size + 1 := ⟨_, rfl⟩
  obtain ⟨it, hzi⟩ : ∃ z : Nat, z = s.heap.objs.size := ⟨_, rfl⟩
  rw [← hze] at he ⊢; rw [← hzi] at he hit hlow hLs
  have hei : e ≠ it := by omega
  obtain ⟨g1, g2, eL, iL, g5⟩ := addr_facts hLs hab hze hzi
  have e0 : h₀.get? e = none := Heap.get?_none_of_le g1
  have i0 : h₀.get? it = none := Heap.get?_none_of_le g2
  refine wpAny_pyIter_enum he ?_
  unfold LoopAt
  obtain ⟨io, hio, hio2⟩ := hit
  have F' : Fr h₀ env.locals h' m := ⟨F.ns.keeps hk, fun b o x => hk b o (F.keep b o x), F.above⟩
  have N' : News h₀ env.locals h' ((e, enumObj it 0 .none) :: (it, io) :: nw) := by
    intro p hp
    rcases List.mem_cons.mp hp with rfl | hp
    · exact ⟨he, eL, e0⟩
    rcases List.mem_cons.mp hp with rfl | hp
    · exact ⟨hio, iL, i0⟩
    · exact ⟨hk _ _ (N p hp).1, (N p hp).2⟩
  refine codeAny_forLoop_any (fun k s' => ∃ h₁ tk₁ m₁ nw₁ i old io, s' = { s with heap := h₁, toks := tk₁ } ∧ k = vs.length + 1 - i ∧ i ≤ vs.length ∧ Fr h₀ env.locals h₁ m₁ ∧ News h₀ env.locals h₁ ((e, enumObj it (i : Nat) old) :: (it, io) :: nw₁) ∧ ListIt io l i ∧ J i m₁ nw₁ ∧ (∀ p ∈ nw₁, p.1 ≠ it ∧ p.1 ≠ e)) ?_ (vs.length + 1)
    ⟨h', _, m, nw, 0, .none, io, rfl, rfl, Nat.zero_le _, F', N', hio2, hJ, fun p hp => ⟨Nat.ne_of_lt (hlow p hp), (g5 _ (hlow p hp)).1⟩⟩
  rintro k s' ⟨H, tk, m₁, nw₁, i, old, io, rfl, rfl, hi, F₁, N₁, hio, hJ₁, hne⟩
  have he' : IsEnum H e it i old := News.get N₁ (.head _)
  have hit' : H.IsListIter it l i := ⟨io, News.get N₁ (.tail _ (.head _)), hio.1, hio.2⟩
  have N₁' : News h₀ env.locals H nw₁ := news_sub N₁ fun p hp => .tail _ (.tail _ hp)
  have hl₁ := lst N₁' (hm _ _ _ hJ₁)
  by_cases hlt : i < vs.length
  · have hv : vs.toArray[i]? = some vs[i] := by simp [hlt]
    refine wpAny_pyNext_enum_item he' hit' hl₁ hv hei fun h₁ heo hit₁ ht₁ hz₁ hk₁ => ?_
    refine wpAny_letOwnedTupleGo_enum heo fun h₂ he₂ hs₂ => ?_
    replace hs₂ : Heap.SameBut e h₁ h₂ := hs₂
    have heH : e < H.objs.size := Heap.lt_size he'
    have ht₂ : h₂.IsTuple H.objs.size #[.int i tk, vs[i]] := ⟨_, (hs₂.2 _ (Nat.ne_of_gt heH)).trans ht₁, rfl, _, rfl⟩
    refine wpAny_assign_Tuple hh ht₂ rfl rfl fun h₃ hx₃ => ?_
    replace hx₃ : Heap.ExtBut h₂.objs.size h₂ h₃ := hx₃
    have hz₂ : h₂.objs.size = H.objs.size + 1 := hs₂.1.trans hz₁
    have k3 : ∀ b o, b ≠ e → b ≠ it → H.get? b = some o → h₃.get? b = some o := fun b o h1 h2 x =>
      hx₃ b o (by have h9 : (b : Nat) < (H.objs.size : Nat) := Heap.lt_size x; rw [hz₂]; exact Nat.ne_of_lt (Nat.lt_succ_of_lt h9)) ((hs₂.2 b h1).trans (hk₁ b o h1 h2 x))
    have F₃ := fr_keep2 F₁ k3 eL iL e0 i0
    obtain ⟨io₁, hio₁, hio₁c⟩ := hit₁
    have hiH : it < H.objs.size := Heap.lt_size (News.get N₁ (.tail _ (.head _)))
    have N₃ : News h₀ env.locals h₃ ((e, enumObj it ((i + 1 : Nat) : Int) vs[i]) :: (it, io₁) :: nw₁) := by
      intro p hp
      rcases List.mem_cons.mp hp with rfl | hp
      · exact ⟨hx₃ _ _ (by rw [hz₂]; exact Nat.ne_of_lt (Nat.lt_succ_of_lt heH)) he₂, eL, e0⟩
      rcases List.mem_cons.mp hp with rfl | hp
      · exact ⟨hx₃ _ _ (by rw [hz₂]; exact Nat.ne_of_lt (Nat.lt_succ_of_lt hiH)) ((hs₂.2 _ (Ne.symm hei)).trans hio₁), iL, i0⟩
      · exact news_keep2 N₁' k3 hne p hp
    show wpAny _ A (do holding [vs[i]] (assign (.Name xi pk) env (.int i tk)); do holding [] (assign (.Name xc pv) env vs[i]); pure ()) _ _ _
    refine wpAny_bind (wpAny_holding (wpAny_assign_Name (wpAny_storeName_local hxi F₃.ns (fun h₄ hn₄ hs₄ => ?_) hp)))
    have F₄ := F₃.set hn₄ hs₄
    have N₄ := N₃.set hs₄
    refine wpAny_bind (wpAny_holding (wpAny_assign_Name (wpAny_storeName_local hxc F₄.ns (fun h₅ hn₅ hs₅ => wpAny_pure ?_) hp)))
    have F₅ := F₄.set hn₅ hs₅
    have N₅ := N₄.set hs₅
    refine wpAny_mono (turn e _ it io₁ i vs[i] tk m₁ nw₁ h₅ _ (fun p hp => ⟨hlow p hp, (g5 _ (hlow p hp)).2⟩) hne hei (by simp [hlt]) hJ₁ F₅ N₅) (fun f s₃ h₃ => ?_) hE
    cases f with
    | ret v => exact h₃
    | brk => exact h₃
    | next =>
      obtain ⟨h₄, tk₄, m₂, nw₂, rfl, F₂, N₂, hJ₂, hne₂⟩ := h₃
      exact ⟨vs.length + 1 - (i + 1), by omega, h₄, tk₄, m₂, nw₂, i + 1, vs[i], io₁, rfl, rfl, hlt, F₂, N₂, hio₁c, hJ₂, hne₂⟩
    | cont =>
      obtain ⟨h₄, tk₄, m₂, nw₂, rfl, F₂, N₂, hJ₂, hne₂⟩ := h₃
      exact ⟨vs.length + 1 - (i + 1), by omega, h₄, tk₄, m₂, nw₂, i + 1, vs[i], io₁, rfl, rfl, hlt, F₂, N₂, hio₁c, hJ₂, hne₂⟩
  · have hin : i = vs.length := by omega
    subst hin
    refine wpAny_pyNext_enum_end hh he' hit' hl₁ (by simp) fun h₁ he₁ => wpAny_execs_nil ?_
    exact done m₁ nw₁ h₁ _ hJ₁ (fr_extBut F₁ he₁ iL i0) fun p hp => ⟨he₁ _ _ (hne p hp).1 (N₁' p hp).1, (N₁' p hp).2⟩
end
theorem ints_item {vs : List Value} {ns : List Int} (h : IntsAre vs ns) : ∀ (i : Nat) (v : Value), vs[i]? = some v → ∃ k t, v = .int k t ∧ ns[i]? = some k := by
  induction h with
  | nil => intro i v hv; simp at hv
  | cons n t h ih =>
    intro i v hv
    cases i with
    | zero => simp at hv; exact ⟨n, t, hv.symm, rfl⟩
    | succ i => exact ih i v (by simpa using hv)
theorem nine {ns : List Int} (h : ns.length = 9) : ∃ a b c d e f g i j, ns = [a, b, c, d, e, f, g, i, j] := by
  match ns, h with
  | [a, b, c, d, e, f, g, i, j], _ => exact ⟨_, _, _, _, _, _, _, _, _, rfl⟩
theorem fmod2 (a : Int) : 0 ≤ a.fmod 2 ∧ a.fmod 2 < 2 := by rw [Int.fmod_eq_emod_of_nonneg _ (by decide)]; omega
theorem fmod4 (a : Int) : 0 ≤ a.fmod 4 ∧ a.fmod 4 < 4 := by rw [Int.fmod_eq_emod_of_nonneg _ (by decide)]; omega
theorem fmod5 (a : Int) : 0 ≤ a.fmod 5 ∧ a.fmod 5 < 5 := by rw [Int.fmod_eq_emod_of_nonneg _ (by decide)]; omega
theorem sized5 (h : Nat) (l : List Int) (hl : h ≤ l.length) : (List.map (fun k' : Int => 1 + k'.fmod 5) (l.take h)).length = h ∧ ∀ x ∈ List.map (fun k' : Int => 1 + k'.fmod 5) (l.take h), 1 ≤ x ∧ x ≤ 5 := by
  refine ⟨by simp; omega, fun x hx => ?_⟩
  obtain ⟨k, _, rfl⟩ := List.mem_map.mp hx
  have := fmod5 k
  omega
theorem sized4 (h : Nat) (l : List Int) (hl : h ≤ l.length) : (List.map (fun k' : Int => 1 + k'.fmod 4) (l.take h)).length = h ∧ ∀ x ∈ List.map (fun k' : Int => 1 + k'.fmod 4) (l.take h), 1 ≤ x ∧ x ≤ 4 := by
  refine ⟨by simp; omega, fun x hx => ?_⟩
  obtain ⟨k, _, rfl⟩ := List.mem_map.mp hx
  have := fmod4 k
  omega
theorem ints_cut {vs : List Value} {f : Int → Int} {l l' z : List Int} {n h : Nat} (H : IntsAre vs (List.map f (List.take n l))) (hn : n = h) (hz : z = List.map f (List.take h l')) (hl : l = l' := by rfl) : IntsAre vs z := by
  subst hn hz hl; exact H
theorem news_sublist {h₀ h : Heap} {L : Addr} {l l' : List (Addr × Obj)} (N : News h₀ L h l) (hs : l'.Sublist l) : News h₀ L h l' := news_sub N fun _ hp => hs.subset hp
/-- the sign of a place -/
def sgn (i : Nat) : Nat := [34, 92, 32, 10, 97, 98, 35, 9].getD i 0
/-- the words that the sizes ask for -/
def dueW (ns : List Int) : List Str := ns.zipIdx.map fun p => wd (List.replicate p.1.toNat (sgn p.2))
theorem sizes_at {sz st : List Int} (h1 : ∀ x ∈ sz, 1 ≤ x ∧ x ≤ 5) (h2 : ∀ x ∈ st, 1 ≤ x ∧ x ≤ 4) {i : Nat} {k : Int} (hk : (sz ++ st)[i]? = some k) : 1 ≤ k ∧ k ≤ 5 := by
  rcases List.mem_append.mp (List.mem_of_getElem? hk) with h | h
  · exact h1 k h
  · have := h2 k h; omega
theorem item_sgn : ∀ {i : Nat}, i < 8 → Txt.item (Str.ofString "\"\\ \nab#\t") (i : Int) = one (sgn i) := by
  have h : ∀ i : Fin 8, Txt.item (Str.ofString "\"\\ \nab#\t") ((i : Nat) : Int) = one (sgn i) := by decide +kernel
  exact fun {i} hi => h ⟨i, hi⟩
theorem due_word {i : Nat} {k : Int} (hi : i < 8) : Txt.mul (Txt.item (Str.ofString "\"\\ \nab#\t") (i : Int)) k = wd (List.replicate k.toNat (sgn i)) := by
  rw [item_sgn hi]
  have := mul_one_list (sgn i) k
  have e : (Txt.mul (one (sgn i)) k).cps = (wd (List.replicate k.toNat (sgn i))).cps := by
    apply Array.ext'
    exact this
  exact congrArg Str.mk e
theorem dueW_at {ns : List Int} {i : Nat} {k : Int} (hk : ns[i]? = some k) : (dueW ns)[i]? = some (wd (List.replicate k.toNat (sgn i))) := by
  unfold dueW
  rw [List.getElem?_map, List.getElem?_zipIdx, hk]
  simp
theorem dueW_length (ns : List Int) : (dueW ns).length = ns.length := by simp [dueW]
/-- between two words that are made -/
inductive InvD (ld l h r DS : Nat) (wsm : List Value) (due : List Str) (own : List (Addr × Obj)) (i : Nat) (m : Str → Option Value) (nw : List (Addr × Obj)) : Prop
  | mk (vd : List Value) (nd : Nat) (th tr : Tok) (e : nw = (DS, listOf wsm.toArray 0) :: (ld, listOf vd.toArray nd) :: own) (h1 : StrsAre vd (due.take i))
    (e1 : m (Str.ofString "totals") = some (.ref l)) (e2 : m (Str.ofString "due") = some (.ref ld)) (e3 : m (Str.ofString "homes") = some (.int (h : Int) th)) (e4 : m (Str.ofString "rooms") = some (.int (r : Int) tr))
open LCg in
/-- a comprehension over a text's signs -/
theorem ListComp_text {A : Around} {E : Value → Shared → Prop} {s : Shared} {h₀ : Heap} {L : Addr} {m : Str → Option Value} {env : Env} {elt iter : Expr} {xn : Str} {px : Pos} {scope : Scope} {cl : List (Str × Addr)} {pos : Pos} {Q : Value → Shared → Prop} (_F₀ : Fr h₀ L s.heap m)
    (hclos : closureFor scope env = pure cl) (hcell : ∀ y ∈ scope.names, y.2 ≠ .cell) (hkind : scope.kind = .function)
    (hnames : ∀ y ∈ scope.names, y.2 = .local → scope.names.lookup y.1 = some .local) (hx : scope.names.lookup xn = some .local)
    (h : wpAny (model prog w) A (eval iter env) (fun xv s₁ => ∃ x t news, xv = .str x t ∧ A.handled = none ∧ x.cps.all (· < 128) = true ∧ Fr h₀ L s₁.heap m ∧ News h₀ L s₁.heap news ∧ x.cps.size ≤ sizeLine ∧
      ∀ s₂ : Shared, (∃ h, s₂ = { s₁ with heap := h }) → CompRest prog w A h₀ L m env elt xn scope cl s₂ (fun _ => True) (SignAt x) (FinE h₀ L m s₂ Q) x.cps.size 0 [] news) E s)
    (hs : ∀ x, foldedSetIterable iter env x = pure x := by intro _; rfl) :
    wpAny (model prog w) A (eval (.ListComp elt [⟨.Name xn px, iter, [], 0⟩] scope pos) env) Q E s := by
  rw [eval_ListComp]
  refine wpAny_comprehension_free (use := none) rfl hs hclos hkind hnames (wpAny_mono h (fun xv s₁ h₁ => ?_) fun _ _ e => e)
  obtain ⟨x, t, news, rfl, hh, ha, F, N, hsz, R⟩ := h₁
  refine wpAny_pyIter_ascii ha ?_
  refine block_U (S := fun _ => True) (Walks.strAscii hh s₁.heap.objs.size x t) hsz (fun i h st => by obtain ⟨o, e, _⟩ := st; exact ⟨o, e⟩)
    (fun i h h' o nw st e e' _ _ _ => by obtain ⟨o', q, r⟩ := st; rw [e] at q; cases q; exact ⟨o, e', r⟩) hcell hkind hx ⟨_, Heap.get?_push_size _ rfl, rfl, rfl⟩ (fun b hb => ?_)
    (F.keeps fun _ _ e => Heap.get?_push_of_some _ e) (N.grown fun _ _ e => Heap.get?_push_of_some _ e) (Nat.ne_of_lt F.ns.lt) (next_is_new F) (fun p hp => Nat.ne_of_lt (Heap.lt_size (N p hp).1)) trivial (R _ ⟨_, rfl⟩) ?_
  · rw [List.mem_singleton.mp hb]
    show s₁.heap.objs.size < (s₁.heap.push _).objs.size
    rw [Heap.size_push]; exact Nat.lt_succ_self _
  · intro D C h tk m' ys news' F' N' o1 hn hC₀ hD₀ hCL hDL hCD offC fin
    refine ⟨m', hn, fun h'' hs'' => fin D h'' tk (F'.change hs'' hCL hC₀) (fun p hp => ?_) o1⟩
    refine ⟨hs''.extBut _ _ ?_ (N' p hp).1, (N' p hp).2⟩
    rcases List.mem_cons.mp hp with rfl | hp
    · exact Ne.symm hCD
    · exact offC p hp
open LCg in
theorem text_rest {A : Around} {s : Shared} {h₀ : Heap} {L : Addr} {m : Str → Option Value} {env : Env} {elt : Expr} {xn : Str} {scope : Scope} {cl : List (Str × Addr)} {Fin : List Value → List (Addr × Obj) → Prop} {x : Str} (g : Nat → List Nat)
    (turn : ∀ c t I oI C oC D m₂ ys h tk (E' : Value → Shared → Prop), c ∈ x.cps.toList → NsObj oC m₂ → m₂ xn = some (.str (one c) t) → Fr h₀ L h m → News h₀ L h ((I, oI) :: (C, oC) :: (D, lst ys) :: news) → Off3 I C D news → ((@Ne Nat I C) ∧ (@Ne Nat I D) ∧ (@Ne Nat C D)) → KPfMark →
      wpAny (model prog w) A (eval elt (compEnvC scope cl C env)) (CompEnd h₀ L m { s with heap := h, toks := tk } I oI C oC D (lst ys) (fun _ => True) (fun y news' => news' = news ∧ ∃ t, y = .str (wd (g c)) t)) E' { s with heap := h, toks := tk })
    (fin : ∀ ys, StrsAre ys (x.cps.toList.map fun c => wd (g c)) → Fin ys news) : CompRest prog w A h₀ L m env elt xn scope cl s (fun _ => True) (SignAt x) Fin x.cps.size 0 [] news := by
  have key : ∀ (j i : Nat) (ys : List Value), i + j = x.cps.size → StrsAre ys ((x.cps.toList.take i).map fun c => wd (g c)) → CompRest prog w A h₀ L m env elt xn scope cl s (fun _ => True) (SignAt x) Fin j i ys news := by
    intro j
    induction j with
    | zero =>
      intro i ys hi hy
      have e : i = x.cps.toList.length := by simpa using hi
      subst e
      rw [List.take_length] at hy
      exact CompRest.zero (fin ys hy)
    | succ j ih =>
      intro i ys hi hy
      refine CompRest.succ ?_
      intro v I oI C oC D m₂ h tk E' hv hC hx F N off ne
      obtain ⟨c, t, hc, rfl⟩ := hv
      have hc' : x.cps.toList[i]? = some c := by simpa using hc
      refine wpAny_mono (turn c t I oI C oC D m₂ ys h tk E' (List.mem_of_getElem? hc') hC hx F N off ne True.intro) (fun y s₂ hq => ?_) fun _ _ e => e
      obtain ⟨h', tk', nw, e, F', N', off', hS, hn, t', hy'⟩ := hq
      rw [hn] at N' off'
      refine ⟨h', tk', news, e, F', N', off', trivial, ?_⟩
      rw [hy']
      refine ih (i + 1) _ (by omega) ?_
      rw [List.take_add_one, hc', List.map_append]
      exact hy.append' (strs_cons .nil)
  exact key _ 0 [] (by omega) (by simp only [List.take_zero, List.map_nil]; exact .nil)
theorem esc_word (c : Nat) : Str.ofString "\\" ++ one c = wd [92, c] := by
  have e : Str.ofString "\\" = wd [92] := by decide
  rw [e, wd_one]; rfl
theorem wd_append (a b : List Nat) : wd a ++ wd b = wd (a ++ b) := by
  apply Str.ext'
  rw [Str.cps_append]; simp [wd]
theorem empty_wd : Str.ofString "" = wd [] := by decide
theorem join_wd : ∀ l : List (List Nat), Txt.join (Str.ofString "") (l.map wd) = wd l.flatten := by
  intro l
  show Builtin.Str.glued _ _ = _
  rw [StrLaws.glued_eq_join, empty_wd]
  induction l with
  | nil => exact empty_wd
  | cons a r ih =>
    cases r with
    | nil => simp [Str.join]
    | cons b r =>
      rw [List.map_cons, List.map_cons]
      rw [show Str.join (wd []) (wd a :: wd b :: r.map wd) = wd a ++ wd [] ++ Str.join (wd []) (wd b :: r.map wd) from rfl]
      rw [← List.map_cons, ih, wd_append, wd_append, List.append_nil, List.flatten_cons]
      rfl
/-- a word with a backslash ahead of each sign -/
def escW (t : List Nat) : List Nat := (t.map fun c => [92, c]).flatten
/-- a word in quotation marks -/
def quoW (t : List Nat) : List Nat := 34 :: ((t.map fun c => if c = 34 ∨ c = 92 then [92, c] else [c]).flatten ++ [34])
def signs8 : List Nat := [34, 92, 32, 10, 97, 98, 35, 9]
theorem sum_wd {l : List (List Nat)} {n : Nat} (h : ∀ a ∈ l, a.length ≤ n) : ((l.map wd).map (·.length)).sum ≤ l.length * n := by
  induction l with
  | nil => simp
  | cons a r ih =>
    have h1 := h a (.head _)
    have h2 := ih fun b hb => h b (.tail _ hb)
    simp only [List.map_cons, List.sum_cons, wd_length, List.length_cons]
    rw [Nat.add_mul]; omega
theorem flatten_len {l : List (List Nat)} {n : Nat} (h : ∀ a ∈ l, a.length ≤ n) : l.flatten.length ≤ l.length * n := by
  induction l with
  | nil => simp
  | cons a r ih =>
    have h1 := h a (.head _)
    have h2 := ih fun b hb => h b (.tail _ hb)
    simp only [List.flatten_cons, List.length_append, List.length_cons]
    rw [Nat.add_mul]; omega
theorem quo_word (F : List Nat) : Str.ofString "\"" ++ wd F ++ Str.ofString "\"" = wd (34 :: (F ++ [34])) := by
  have e : Str.ofString "\"" = wd [34] := by decide
  rw [e, wd_append, wd_append]; rfl
theorem sgn8_ascii {x : Str} (h : ∀ c ∈ x.cps.toList, c ∈ signs8) : x.cps.all (· < 128) = true := by
  rw [Array.all_eq_true']
  intro c hc
  have := h c (by simpa using hc)
  simp [signs8] at this
  simp; omega
theorem contains_quo : ∀ c ∈ signs8, Txt.contains (Str.ofString "\"\\") (one c) = decide (c = 34 ∨ c = 92) := by decide +kernel
theorem written_does {x : Str} {tx : Tok} {b : Bool} (hx : x.length < 6) (h8 : ∀ c ∈ x.cps.toList, c ∈ signs8) : Does prog w 3 (.ref 122) [.str x tx, .bool b] [] news (fun r nw => ∃ t, r = .str (wd (if b = true then quoW x.cps.toList else escW x.cps.toList)) t ∧ nw = news) := by
  have ha := sgn8_ascii h8
  have hxl : x.cps.toList.length < 6 := by rw [Array.length_toList]; exact hx
  ((unfold Does; intro _ _ _ _ _ _ _ _ _ _ _ _ _ _ _ _ _ _ _ _ _ _ _ _ _ _ _ _ _ _ _ _ _ _; w_top off; k_dflt k_enter))
  cases b
  · (((try (show wpAny _ _ _ _ _ _; k_fold)); repeat' (first | (k_unfold; (try dsimp only)) | ((fail_if_success ((first | (with_reducible show wpAny _ _ (eval (Expr.ListComp _ _ _ _) _) _ _ _) | ((first | (with_reducible show wpAny _ _ (call (Value.builtin "list.append") _ _) _ _ _) | ((first | (with_reducible show wpAny _ _ (call (Value.type "enumerate") _ _) _ _ _) | (first | (with_reducible show wpAny _ _ (call (Value.ref 65) _ _) _ _ _) | first | (with_reducible show wpAny _ _ (exec (Stmt.While _ _ _ _) _) _ _ _) | (with_reducible show wpAny _ _ (exec (Stmt.For _ _ _ _ _) _) _ _ _))))))))); first | walk1 | (dsimp only; walk1)) | fail "no step")))
    rename Fr _ _ _ _ => F1
    rename News _ _ _ _ => N1
    refine ListComp_text F1 (by with_unfolding_all rfl) (by decide) (by rfl) (by decide) (by rfl) ?_
    walk1
    refine ⟨_, _, _, rfl, rfl, ha, F1, N1, by rw [sizeLine_eq]; show x.length ≤ _; omega, ?_⟩
    rintro s₂ ⟨hh2, rfl⟩
    refine text_rest (fun c => [92, c]) ?_ ?_
    · intro c t I oI C oC D m₂ ys h tk E' hc hC hx2 F2 N2 off ne mk
      have hlen : (one c).length = 1 := rfl
      (((try (show wpAny _ _ _ _ _ _; k_fold)); repeat' (first | (k_unfold; (try dsimp only)) | ((fail_if_success ((first | (with_reducible show wpAny _ _ (eval (Expr.ListComp _ _ _ _) _) _ _ _) | ((first | (with_reducible show wpAny _ _ (call (Value.builtin "list.append") _ _) _ _ _) | ((first | (with_reducible show wpAny _ _ (call (Value.type "enumerate") _ _) _ _ _) | (first | (with_reducible show wpAny _ _ (call (Value.ref 65) _ _) _ _ _) | first | (with_reducible show wpAny _ _ (exec (Stmt.While _ _ _ _) _) _ _ _) | (with_reducible show wpAny _ _ (exec (Stmt.For _ _ _ _ _) _) _ _ _))))))))); first | walk1 | (dsimp only; walk1)) | fail "no step")))
      exact LCg.CompEnd.intro (by assumption) (by assumption) news (fun _ h => h) off trivial ⟨rfl, _, congrArg (fun z => Value.str z _) (esc_word c)⟩
    · intro ys hys
      unfold LCg.FinE
      intro D h tk F3 N3 off1
      clear F1 N1
      dsimp only at F3 N3 ⊢
      (((try (show wpAny _ _ _ _ _ _; k_fold)); repeat' (first | (k_unfold; (try dsimp only)) | ((fail_if_success ((first | (with_reducible show wpAny _ _ (eval (Expr.ListComp _ _ _ _) _) _ _ _) | ((first | (with_reducible show wpAny _ _ (call (Value.builtin "list.append") _ _) _ _ _) | ((first | (with_reducible show wpAny _ _ (call (Value.type "enumerate") _ _) _ _ _) | (first | (with_reducible show wpAny _ _ (call (Value.ref 65) _ _) _ _ _) | first | (with_reducible show wpAny _ _ (exec (Stmt.While _ _ _ _) _) _ _ _) | (with_reducible show wpAny _ _ (exec (Stmt.For _ _ _ _ _) _) _ _ _))))))))); first | walk1 | (dsimp only; walk1)) | fail "no step")))
      replace hys : StrsAre ys ((x.cps.toList.map fun c => [92, c]).map wd) := by rw [List.map_map]; exact hys
      refine join_list (News.isList N3 (.head _)) hys ?_ ?_
      · have := sum_wd (l := x.cps.toList.map fun c => [92, c]) (n := 2) (by intro a ha; obtain ⟨c, _, rfl⟩ := List.mem_map.mp ha; exact Nat.le_refl _)
        rw [empty_length]
        simp only [List.length_map] at this ⊢
        omega
      · intro t' k
        rw [join_wd]
        replace N3 := news_sublist N3 (l' := news) (List.sublist_cons_self _ _)
        (((try (show wpAny _ _ _ _ _ _; k_fold)); repeat' (first | (k_unfold; (try dsimp only)) | ((fail_if_success ((first | (with_reducible show wpAny _ _ (eval (Expr.ListComp _ _ _ _) _) _ _ _) | ((first | (with_reducible show wpAny _ _ (call (Value.builtin "list.append") _ _) _ _ _) | ((first | (with_reducible show wpAny _ _ (call (Value.type "enumerate") _ _) _ _ _) | (first | (with_reducible show wpAny _ _ (call (Value.ref 65) _ _) _ _ _) | first | (with_reducible show wpAny _ _ (exec (Stmt.While _ _ _ _) _) _ _ _) | (with_reducible show wpAny _ _ (exec (Stmt.For _ _ _ _ _) _) _ _ _))))))))); first | walk1 | (dsimp only; walk1)) | fail "no step")))
        rename (∀ (_ : Value) (_ : List (Addr × Obj)) (_ : Heap) (_ : Nat), _) => hret9
        exact hret9 _ _ _ _ (by assumption) (by assumption) ⟨_, rfl, rfl⟩
  · (((try (show wpAny _ _ _ _ _ _; k_fold)); repeat' (first | (k_unfold; (try dsimp only)) | ((fail_if_success ((first | (with_reducible show wpAny _ _ (eval (Expr.ListComp _ _ _ _) _) _ _ _) | ((first | (with_reducible show wpAny _ _ (call (Value.builtin "list.append") _ _) _ _ _) | ((first | (with_reducible show wpAny _ _ (call (Value.type "enumerate") _ _) _ _ _) | (first | (with_reducible show wpAny _ _ (call (Value.ref 65) _ _) _ _ _) | first | (with_reducible show wpAny _ _ (exec (Stmt.While _ _ _ _) _) _ _ _) | (with_reducible show wpAny _ _ (exec (Stmt.For _ _ _ _ _) _) _ _ _))))))))); first | walk1 | (dsimp only; walk1)) | fail "no step")))
    rename Fr _ _ _ _ => F1
    rename News _ _ _ _ => N1
    refine ListComp_text F1 (by with_unfolding_all rfl) (by decide) (by rfl) (by decide) (by rfl) ?_
    walk1
    refine ⟨_, _, _, rfl, rfl, ha, F1, N1, by rw [sizeLine_eq]; show x.length ≤ _; omega, ?_⟩
    rintro s₂ ⟨hh2, rfl⟩
    refine text_rest (fun c => if c = 34 ∨ c = 92 then [92, c] else [c]) ?_ ?_
    · intro c t I oI C oC D m₂ ys h tk E' hc hC hx2 F2 N2 off ne mk
      have hlen : (one c).length = 1 := rfl
      have hcon := contains_quo c (h8 c hc)
      by_cases hcc : c = 34 ∨ c = 92
      · rw [if_pos hcc]
        rw [decide_eq_true hcc] at hcon
        (((try (show wpAny _ _ _ _ _ _; k_fold)); repeat' (first | (k_unfold; (try dsimp only)) | ((fail_if_success ((first | (with_reducible show wpAny _ _ (eval (Expr.ListComp _ _ _ _) _) _ _ _) | ((first | (with_reducible show wpAny _ _ (call (Value.builtin "list.append") _ _) _ _ _) | ((first | (with_reducible show wpAny _ _ (call (Value.type "enumerate") _ _) _ _ _) | (first | (with_reducible show wpAny _ _ (call (Value.ref 65) _ _) _ _ _) | first | (with_reducible show wpAny _ _ (exec (Stmt.While _ _ _ _) _) _ _ _) | (with_reducible show wpAny _ _ (exec (Stmt.For _ _ _ _ _) _) _ _ _))))))))); first | walk1 | (dsimp only; walk1)) | fail "no step")))
        exact LCg.CompEnd.intro (by assumption) (by assumption) news (fun _ h => h) off trivial ⟨rfl, _, congrArg (fun z => Value.str z _) (esc_word c)⟩
      · rw [if_neg hcc]
        replace hcon : ¬ (Txt.contains (Str.ofString "\"\\") (one c) = true) := by rw [hcon, decide_eq_false hcc]; decide
        (((try (show wpAny _ _ _ _ _ _; k_fold)); repeat' (first | (k_unfold; (try dsimp only)) | ((fail_if_success ((first | (with_reducible show wpAny _ _ (eval (Expr.ListComp _ _ _ _) _) _ _ _) | ((first | (with_reducible show wpAny _ _ (call (Value.builtin "list.append") _ _) _ _ _) | ((first | (with_reducible show wpAny _ _ (call (Value.type "enumerate") _ _) _ _ _) | (first | (with_reducible show wpAny _ _ (call (Value.ref 65) _ _) _ _ _) | first | (with_reducible show wpAny _ _ (exec (Stmt.While _ _ _ _) _) _ _ _) | (with_reducible show wpAny _ _ (exec (Stmt.For _ _ _ _ _) _) _ _ _))))))))); first | walk1 | (dsimp only; walk1)) | fail "no step")))
        exact LCg.CompEnd.intro (by assumption) (by assumption) news (fun _ h => h) off trivial ⟨rfl, _, rfl⟩
    · intro ys hys
      unfold LCg.FinE
      intro D h tk F3 N3 off1
      clear F1 N1
      dsimp only at F3 N3 ⊢
      (((try (show wpAny _ _ _ _ _ _; k_fold)); repeat' (first | (k_unfold; (try dsimp only)) | ((fail_if_success ((first | (with_reducible show wpAny _ _ (eval (Expr.ListComp _ _ _ _) _) _ _ _) | ((first | (with_reducible show wpAny _ _ (call (Value.builtin "list.append") _ _) _ _ _) | ((first | (with_reducible show wpAny _ _ (call (Value.type "enumerate") _ _) _ _ _) | (first | (with_reducible show wpAny _ _ (call (Value.ref 65) _ _) _ _ _) | first | (with_reducible show wpAny _ _ (exec (Stmt.While _ _ _ _) _) _ _ _) | (with_reducible show wpAny _ _ (exec (Stmt.For _ _ _ _ _) _) _ _ _))))))))); first | walk1 | (dsimp only; walk1)) | fail "no step")))
      replace hys : StrsAre ys ((x.cps.toList.map fun c => if c = 34 ∨ c = 92 then [92, c] else [c]).map wd) := by rw [List.map_map]; exact hys
      refine join_list (News.isList N3 (.head _)) hys ?_ ?_
      · have := sum_wd (l := x.cps.toList.map fun c => if c = 34 ∨ c = 92 then [92, c] else [c]) (n := 2) (by intro a ha; obtain ⟨c, _, rfl⟩ := List.mem_map.mp ha; split <;> simp)
        rw [empty_length]
        simp only [List.length_map] at this ⊢
        omega
      · intro t' k
        rw [join_wd]
        replace N3 := news_sublist N3 (l' := news) (List.sublist_cons_self _ _)
        have hwl : (wd (x.cps.toList.map fun c => if c = 34 ∨ c = 92 then [92, c] else [c]).flatten).length ≤ 12 := by
          rw [wd_length]
          have := flatten_len (l := x.cps.toList.map fun c => if c = 34 ∨ c = 92 then [92, c] else [c]) (n := 2) (by intro a ha; obtain ⟨c, _, rfl⟩ := List.mem_map.mp ha; split <;> simp)
          rw [List.length_map] at this
          omega
        (((try (show wpAny _ _ _ _ _ _; k_fold)); repeat' (first | (k_unfold; (try dsimp only)) | ((fail_if_success ((first | (with_reducible show wpAny _ _ (eval (Expr.ListComp _ _ _ _) _) _ _ _) | ((first | (with_reducible show wpAny _ _ (call (Value.builtin "list.append") _ _) _ _ _) | ((first | (with_reducible show wpAny _ _ (call (Value.type "enumerate") _ _) _ _ _) | (first | (with_reducible show wpAny _ _ (call (Value.ref 65) _ _) _ _ _) | first | (with_reducible show wpAny _ _ (exec (Stmt.While _ _ _ _) _) _ _ _) | (with_reducible show wpAny _ _ (exec (Stmt.For _ _ _ _ _) _) _ _ _))))))))); first | walk1 | (dsimp only; walk1)) | fail "no step")))
        rename (∀ (_ : Value) (_ : List (Addr × Obj)) (_ : Heap) (_ : Nat), _) => hret9
        exact hret9 _ _ _ _ (by assumption) (by assumption) ⟨_, congrArg (fun z => Value.str z _) (quo_word _), rfl⟩
/-- the words that the sizes ask for, sign by sign -/
def dueL (ns : List Int) : List (List Nat) := ns.zipIdx.map fun p => List.replicate p.1.toNat (sgn p.2)
theorem dueW_dueL (ns : List Int) : dueW ns = (dueL ns).map wd := by simp [dueW, dueL, List.map_map]
theorem dueL_at {ns : List Int} {i : Nat} {k : Int} (hk : ns[i]? = some k) : (dueL ns)[i]? = some (List.replicate k.toNat (sgn i)) := by
  unfold dueL
  rw [List.getElem?_map, List.getElem?_zipIdx, hk]
  simp
theorem dueL_length (ns : List Int) : (dueL ns).length = ns.length := by simp [dueL]
/-- what is written of the words: in quotation marks or not, a sign behind each -/
def pieceL : List (List Nat) → List (Bool × Nat) → List (List Nat)
  | t :: ts, p :: ps => (if p.1 = true then quoW t else escW t) :: [p.2] :: pieceL ts ps
  | _, _ => []
theorem pieceL_snoc {ts : List (List Nat)} {ps : List (Bool × Nat)} (h : ts.length = ps.length) (t : List Nat) (p : Bool × Nat) : pieceL (ts ++ [t]) (ps ++ [p]) = pieceL ts ps ++ [if p.1 = true then quoW t else escW t, [p.2]] := by
  induction ts generalizing ps with
  | nil =>
    cases ps with
    | nil => rfl
    | cons q r => cases h
  | cons s ts ih =>
    cases ps with
    | nil => cases h
    | cons q r =>
      simp only [List.cons_append, pieceL, ih (by simpa using h)]
theorem pieceL_len (ts : List (List Nat)) (ps : List (Bool × Nat)) : (pieceL ts ps).length ≤ 2 * ps.length := by
  induction ts generalizing ps with
  | nil => simp [pieceL]
  | cons s ts ih =>
    cases ps with
    | nil => simp [pieceL]
    | cons q r => simp only [pieceL, List.length_cons]; have := ih r; omega
theorem sep_word {a : Int} : ∃ c, Txt.item (Str.ofString " \n\t\r") (a.fmod 4) = wd [c] ∧ ws c := by
  have b := fmod4 a
  have h : ∀ i : Fin 4, Txt.item (Str.ofString " \n\t\r") ((i : Nat) : Int) = wd [[32, 10, 9, 13].getD i 0] := by decide +kernel
  obtain ⟨n, hn⟩ : ∃ n : Nat, a.fmod 4 = n := ⟨(a.fmod 4).toNat, by omega⟩
  have hn4 : n < 4 := by omega
  refine ⟨[32, 10, 9, 13].getD n 0, by rw [hn]; exact h ⟨n, hn4⟩, ?_⟩
  have : ∀ i : Fin 4, ([32, 10, 9, 13].getD (i : Nat) 0 = 10 ∨ [32, 10, 9, 13].getD (i : Nat) 0 = 9 ∨ [32, 10, 9, 13].getD (i : Nat) 0 = 13 ∨ [32, 10, 9, 13].getD (i : Nat) 0 = 32) := by decide
  exact this ⟨n, hn4⟩
theorem sum_wd' (l : List (List Nat)) : ((l.map wd).map (·.length)).sum = l.flatten.length := by
  induction l with
  | nil => rfl
  | cons a r ih => simp only [List.map_cons, List.sum_cons, wd_length, List.flatten_cons, List.length_append, ih]
theorem dueL_le (ns : List Int) (h : ∀ x ∈ ns, x ≤ 5) : ∀ a ∈ dueL ns, a.length ≤ 5 := by
  intro a ha
  obtain ⟨p, hp, rfl⟩ := List.mem_map.mp ha
  have := h p.1 (List.fst_mem_of_mem_zipIdx hp)
  rw [List.length_replicate]; omega
theorem pieceL_size (ts : List (List Nat)) (ps : List (Bool × Nat)) (h : ∀ a ∈ ts, a.length ≤ 5) : (pieceL ts ps).flatten.length ≤ 13 * ts.length := by
  induction ts generalizing ps with
  | nil => simp [pieceL]
  | cons s ts ih =>
    cases ps with
    | nil => simp [pieceL]
    | cons q r =>
      have h1 := ih r fun a ha => h a (.tail _ ha)
      have h2 := h s (.head _)
      have h3 : (quoW s).length ≤ 12 := by
        have := flatten_len (l := s.map fun c => if c = 34 ∨ c = 92 then [92, c] else [c]) (n := 2) (by intro a ha; obtain ⟨c, _, rfl⟩ := List.mem_map.mp ha; split <;> simp)
        rw [List.length_map] at this
        simp only [quoW, List.length_cons, List.length_append, List.length_nil]
        omega
      have h4 : (escW s).length ≤ 12 := by
        have := flatten_len (l := s.map fun c => [92, c]) (n := 2) (by intro a ha; obtain ⟨c, _, rfl⟩ := List.mem_map.mp ha; exact Nat.le_refl _)
        rw [List.length_map] at this
        unfold escW
        omega
      simp only [pieceL, List.flatten_cons, List.length_append, List.length_cons, List.length_nil]
      split <;> omega
theorem sgn_mem (i : Nat) (hi : i < 8) : sgn i ∈ signs8 := by
  have : ∀ j : Fin 8, sgn j ∈ signs8 := by decide
  exact this ⟨i, hi⟩
/-- between two words that are written -/
inductive InvQ (lp ld l h r : Nat) (due : List (List Nat)) (own : List (Addr × Obj)) (i : Nat) (m : Str → Option Value) (nw : List (Addr × Obj)) : Prop
  | mk (vp : List Value) (np : Nat) (ps : List (Bool × Nat)) (th tr : Tok) (e : nw = (lp, listOf vp.toArray np) :: own) (h1 : StrsAre vp ((pieceL (due.take i) ps).map wd)) (h2 : ps.length = i) (h3 : ∀ p ∈ ps, ws p.2)
    (e1 : m (Str.ofString "totals") = some (.ref l)) (e2 : m (Str.ofString "due") = some (.ref ld)) (e3 : m (Str.ofString "homes") = some (.int (h : Int) th)) (e4 : m (Str.ofString "rooms") = some (.int (r : Int) tr)) (e5 : m (Str.ofString "pieces") = some (.ref lp))
theorem up_ge {a : LexA} (up : a.Up) : ∀ b ∈ a.all, a.ct ≤ b := by
  obtain ⟨h1, h2, h3, h4, h5, h6, h7, h8, h9, h10⟩ := up
  intro b hb
  simp only [LexA.all, List.mem_cons, List.not_mem_nil, or_false] at hb
  rcases hb with rfl | rfl | rfl | rfl | rfl | rfl | rfl | rfl | rfl | rfl | rfl <;> omega
theorem pack_lex {h₀ h : Heap} {L : Addr} {all rest : List (Addr × Obj)} {a : LexA} {tn tp : Tok} {x : Str} {C : Prop} (N : News h₀ L h all) (e : all = lexLed w a 1 tn [] 0 0 tp ++ rest) (up : a.Up) (rd : ReadFn prog w a x) (hlt : ∀ q ∈ rest, @LT.lt Nat instLTNat q.1 a.ct)
    (k : ∀ (b : LexA) (tn tp : Tok), b.x = a.x → News h₀ L h (lexLed w b 1 tn [] 0 0 tp ++ rest) → b.Up → ReadFn prog w b x → OwnOff rest b.all → C) : C := k a tn tp rfl (e ▸ N) up rd fun q hq b hb => Nat.ne_of_lt (Nat.lt_of_lt_of_le (hlt q hq) (up_ge up b hb))
theorem QL_quo (t : List Nat) : QL ((t.map fun c => if c = 34 ∨ c = 92 then [92, c] else [c]).flatten ++ [34]) t := by
  induction t with
  | nil => exact .fin
  | cons c r ih =>
    rw [List.map_cons, List.flatten_cons]
    by_cases h : c = 34 ∨ c = 92
    · rw [if_pos h]; exact .esc c ih
    · rw [if_neg h]; exact .plain c (fun e => h (.inl e)) (fun e => h (.inr e)) ih
theorem TK_quo (t : List Nat) : TK (quoW t) t := .quoted (QL_quo t)
theorem UL_esc (t : List Nat) {c : Nat} (hc : ws c) : UL (escW t ++ [c]) t := by
  induction t with
  | nil => exact .fin c hc
  | cons d r ih => exact .esc d ih
theorem TK_esc {t : List Nat} (ht : t ≠ []) {c : Nat} (hc : ws c) : TK (escW t ++ [c]) t := by
  cases t with
  | nil => exact absurd rfl ht
  | cons d r => exact .esc d (UL_esc r hc)
theorem TK_pre {pre s t : List Nat} (hp : ∀ c ∈ pre, ws c) (h : TK s t) : TK (pre ++ s) t := by
  induction pre with
  | nil => exact h
  | cons c r ih => exact .ws c (hp c (.head _)) (ih fun d hd => hp d (.tail _ hd))
/-- the next word of the text, and what is left -/
theorem next_word {pre t : List Nat} {ts : List (List Nat)} {q : Bool × Nat} {ps : List (Bool × Nat)} (hp : ∀ c ∈ pre, ws c) (hq : ws q.2) (ht : t ≠ []) :
    ∃ seg pre', pre ++ (pieceL (t :: ts) (q :: ps)).flatten = seg ++ (pre' ++ (pieceL ts ps).flatten) ∧ TK seg t ∧ ∀ c ∈ pre', ws c := by
  obtain ⟨b, c⟩ := q
  cases b with
  | true => exact ⟨pre ++ quoW t, [c], by simp [pieceL], TK_pre hp (TK_quo t), fun d hd => by obtain rfl := List.mem_singleton.mp hd; exact hq⟩
  | false => exact ⟨pre ++ (escW t ++ [c]), [], by simp [pieceL], TK_pre hp (TK_esc ht hq), nofun⟩
/-- what is left to read -/
def Rem (x : Str) (tot : Nat) (pre : List Nat) (ts : List (List Nat)) (ps : List (Bool × Nat)) (p n : Nat) : Prop :=
  x.cps.toList.drop p = pre ++ (pieceL ts ps).flatten ∧ n + (pre ++ (pieceL ts ps).flatten).count 10 = tot ∧ (∀ c ∈ pre, ws c) ∧ ts.length = ps.length ∧ (∀ q ∈ ps, ws q.2) ∧ ∀ u ∈ ts, u ≠ []
def NxtW (x : Str) (tot : Nat) (ts : List (List Nat)) (tb : Str) (p n : Nat) : Prop :=
  (ts = [] ∧ tb = Str.ofString "" ∧ n = tot ∧ x.cps.toList.drop p = [] ∧ p < 2 ^ 20 + 2) ∨ (∃ t ts' pre ps, ts = t :: ts' ∧ tb = wd t ∧ Rem x tot pre ts' ps p n)
theorem token_w_does {a : LexA} {x : Str} (hup : a.Up) (hrd : ReadFn prog w a x) {n : Nat} {tn tp : Tok} {np p tot : Nat} {own : List (Addr × Obj)} (hoff : OwnOff own a.all) (hx : x.length < 2 ^ 20)
    {pre : List Nat} {ts : List (List Nat)} {ps : List (Bool × Nat)} (hrem : Rem x tot pre ts ps p n) (hp : p ≤ x.length) :
    Does prog w 3 (.ref 42) [.ref a.x] [] (lexLed w a n tn [] np p tp ++ own) (fun r nw => ∃ (tb : Str) (t : Tok) (n' : Nat) (tn' : Tok) (p' : Nat) (tp' : Tok), r = .str tb t ∧ nw = lexLed w a n' tn' [] np p' tp' ++ own ∧ NxtW x tot ts tb p' n' ∧ (ts ≠ [] → p' ≤ x.length)) := by
  obtain ⟨h1, h2, h3, h4, h5, h6⟩ := hrem
  have hlen : x.cps.toList.length = x.length := by simp [Str.length]
  cases ts with
  | nil =>
    have e : pre ++ (pieceL [] ps).flatten = pre := by simp [pieceL]
    rw [e] at h1 h2
    refine (get_token_end_does (prog := prog) (w := w) (n := n) (tn := tn) (tp := tp) (np := np) hup hrd hoff (by omega) h3 h1 hx).mono ?_
    rintro r nw ⟨tn', tp', t', rfl, rfl⟩
    have hl : pre.length = x.length - p := by rw [← h1, List.length_drop, hlen]
    refine ⟨_, t', _, tn', _, tp', rfl, rfl, .inl ⟨rfl, rfl, h2, ?_, by omega⟩, fun h => absurd rfl h⟩
    apply List.drop_eq_nil_of_le
    omega
  | cons t ts' =>
    cases ps with
    | nil => cases h4
    | cons q ps' =>
      obtain ⟨seg, pre', e, hTK, hw'⟩ := next_word (ts := ts') (ps := ps') h3 (h5 q (.head _)) (h6 t (.head _))
      rw [e] at h1 h2
      refine (get_token_does (prog := prog) (w := w) (n := n) (tn := tn) (tp := tp) (np := np) hup hrd hoff hx hTK h1).mono ?_
      rintro r nw ⟨tn', tp', t', rfl, rfl⟩
      have hd : x.cps.toList.drop (p + seg.length) = pre' ++ (pieceL ts' ps').flatten := by
        rw [← List.drop_drop, h1, List.drop_left]
      have hl : seg.length ≤ x.length - p := by
        have := congrArg List.length h1
        rw [List.length_drop, hlen, List.length_append] at this
        omega
      refine ⟨_, t', _, tn', _, tp', rfl, rfl, .inr ⟨t, ts', pre', ps', rfl, rfl, hd, ?_, hw', by simpa using h4, fun q hq => h5 q (.tail _ hq), fun u hu => h6 u (.tail _ hu)⟩, fun _ => by omega⟩
      rw [List.count_append] at h2
      omega
theorem dueL_ne {ns : List Int} (h : ∀ x ∈ ns, 1 ≤ x) : ∀ u ∈ dueL ns, u ≠ [] := by
  intro u hu e
  obtain ⟨p, hp, rfl⟩ := List.mem_map.mp hu
  have h1 := h p.1 (List.fst_mem_of_mem_zipIdx hp)
  have := congrArg List.length e
  rw [List.length_replicate, List.length_nil] at this
  omega
theorem sgn_lt (i : Nat) : sgn i < 128 := by
  by_cases hi : i < 8
  · have : ∀ j : Fin 8, sgn j < 128 := by decide
    exact this ⟨i, hi⟩
  · unfold sgn
    rw [List.getD_eq_getElem?_getD, List.getElem?_eq_none (by show 8 ≤ i; omega)]; decide
theorem dueL_lt {ns : List Int} : ∀ u ∈ dueL ns, ∀ c ∈ u, c < 128 := by
  intro u hu c hc
  obtain ⟨p, hp, rfl⟩ := List.mem_map.mp hu
  rw [List.eq_of_mem_replicate hc]; exact sgn_lt _
theorem pieceL_lt {ts : List (List Nat)} {ps : List (Bool × Nat)} (h : ∀ u ∈ ts, ∀ c ∈ u, c < 128) (hp : ∀ p ∈ ps, ws p.2) : ∀ c ∈ (pieceL ts ps).flatten, c < 128 := by
  induction ts generalizing ps with
  | nil => intro c hc; simp [pieceL] at hc
  | cons t ts ih =>
    cases ps with
    | nil => intro c hc; simp [pieceL] at hc
    | cons q r =>
      intro c hc
      have ht := h t (.head _)
      simp only [pieceL, List.flatten_cons, List.mem_append, List.mem_singleton] at hc
      rcases hc with hc | rfl | hc
      · split at hc
        · simp only [quoW, List.mem_cons, List.mem_append, List.not_mem_nil, or_false, List.mem_flatten, List.mem_map] at hc
          rcases hc with rfl | ⟨l, ⟨d, hd, rfl⟩, hc⟩ | rfl
          · decide
          · have := ht d hd
            split at hc <;> simp at hc <;> omega
          · decide
        · simp only [escW, List.mem_flatten, List.mem_map] at hc
          obtain ⟨l, ⟨d, hd, rfl⟩, hc⟩ := hc
          have := ht d hd
          simp at hc; omega
      · have := hp q (.head _)
        rcases this with h | h | h | h <;> omega
      · exact ih (fun u hu => h u (.tail _ hu)) (fun p hq => hp p (.tail _ hq)) c hc
theorem wd_ascii {t : List Nat} (h : ∀ c ∈ t, c < 128) : (wd t).cps.all (· < 128) = true := by
  rw [Array.all_eq_true']
  intro c hc
  exact decide_eq_true (h c (by simpa [wd] using hc))
/-- between two words that are read -/
inductive InvW (w : World) (a : LexA) (lw ld h r : Nat) (th tr t' : Tok) (tx : List Nat) (due : List (List Nat)) (own : List (Addr × Obj)) (k : Nat) (m : Str → Option Value) (nw : List (Addr × Obj)) : Prop
  | mk (done rs : List (List Nat)) (vw : List Value) (nw0 : Nat) (tb : Str) (tt : Tok) (n1 : Nat) (tn1 : Tok) (p1 : Nat) (tp1 : Tok) (e0 : k = rs.length) (e : nw = lexLed w a n1 tn1 [] 0 p1 tp1 ++ ((lw, listOf vw.toArray nw0) :: own))
    (h1 : StrsAre vw (done.map wd)) (h2 : done ++ rs = due) (h3 : NxtW (wd tx) (1 + tx.count 10) rs tb p1 n1) (h4 : rs ≠ [] → p1 ≤ (wd tx).length) (e1 : m (Str.ofString "lexer") = some (.ref a.x)) (e2 : m (Str.ofString "words") = some (.ref lw)) (e3 : m (Str.ofString "due") = some (.ref ld))
    (e4 : m (Str.ofString "homes") = some (.int (h : Int) th)) (e5 : m (Str.ofString "rooms") = some (.int (r : Int) tr)) (e6 : m (Str.ofString "text") = some (.str (wd tx) t')) (e7 : m (Str.ofString "word") = some (.str tb tt))
theorem strs_lay : ∀ ws : List Str, (∀ x ∈ ws, PyData.strOk x = true) → PyData.canLayAll0 (ws.map PyData.str) = true
  | [], _ => rfl
  | x :: r, h => by
    have h1 := h x (.head _)
    simp [PyData.canLayAll0, PyData.canLay0, strs_lay r fun y hy => h y (.tail _ hy), h1]
theorem strs_depth : ∀ ws : List Str, PyData.depthAll (ws.map PyData.str) = 0
  | [] => rfl
  | _ :: r => by simp [PyData.depthAll, PyData.depth, strs_depth r]
theorem strs_shaped (ws : List Str) (h : ∀ x ∈ ws, PyData.strOk x = true) : SeqAt.shaped (.list (ws.map PyData.str)) = true := by
  simp [SeqAt.shaped, PyData.canLay0, PyData.depth, strs_lay ws h, strs_depth]
theorem strs_same (ws : List Str) : PySem.Spec.same (.list (ws.map PyData.str)) (.list (ws.map PyData.str)) = true := by
  simp only [PySem.Spec.same]
  induction ws with
  | nil => simp [PySem.Spec.sameAll]
  | cons a r ih => simp only [List.map_cons, PySem.Spec.sameAll, PySem.Spec.same, ih]; simp
theorem strs_carried : ∀ {vs : List Value} {ws : List Str}, StrsAre vs ws → CarriedAll vs (ws.map PyData.str)
  | _, _, .nil => .nil
  | _, _, .cons _ t r => .cons (.str _ t) (strs_carried r)
theorem ne_strs {A : Around} {E : Value → Shared → Prop} {s : Shared} {a b : Addr} {xs ys : List Value} {ws ws' : List Str} {Q : Value → Shared → Prop}
    (ha : s.heap.IsList a xs.toArray) (hb : s.heap.IsList b ys.toArray) (hi : StrsAre xs ws) (hj : StrsAre ys ws') (hok : ∀ x ∈ ws, PyData.strOk x = true) (e : ws = ws') (hu : A.units + 64 < cLine) (h : Q (.bool false) s) :
    wpAny (model prog w) A (compareOp .NotEq (.ref a) (.ref b)) Q E s := by
  subst e
  exact ne_dataH_same (reads_newData ha (strs_carried hi)) (reads_newData hb (strs_carried hj)) (strs_shaped _ hok) (strs_shaped _ hok) hu (SeqAt.noMix_of_shape (.list .str) rfl _ _ (list_map_has fun _ => rfl) (list_map_has fun _ => rfl)) (by rw [strs_same]; exact h)
theorem pick_upto {vs : List Value} {h : Nat} (hh : h ≤ vs.length) : slicePick vs.toArray none (some (h : Int)) none = (vs.take h).toArray := by
  have e : sliceBounds none (some (h : Int)) none vs.toArray.size = (((0 : Nat) : Int), ((h : Nat) : Int), 1) := by
    simp only [sliceBounds, Option.getD_none, show (1 : Int) > 0 by decide, if_true, if_neg (show ¬ ((h : Int) < 0) by omega), List.size_toArray]
    congr 1
    congr 1
    omega
  rw [kmk_pick_nat _ e, Nat.sub_zero, List.drop_zero]
theorem pick_from {vs : List Value} {h : Nat} (hh : h ≤ vs.length) : slicePick vs.toArray (some (h : Int)) none none = (vs.drop h).toArray := by
  have e : sliceBounds (some (h : Int)) none none vs.toArray.size = (((h : Nat) : Int), ((vs.toArray.size : Nat) : Int), 1) := by
    simp only [sliceBounds, Option.getD_none, show (1 : Int) > 0 by decide, if_true, if_neg (show ¬ ((h : Int) < 0) by omega), List.size_toArray]
    congr 1
    omega
  rw [kmk_pick_nat _ e, List.size_toArray, List.take_of_length_le (by rw [List.length_drop]; exact Nat.le_refl _)]
section
variable {A : Around} {E : Value → Shared → Prop} {s : Shared} {h₀ : Heap} {L : Addr} {m : Str → Option Value} {value slice : Expr} {l n k : Nat} {vs : List Value} {ops : List Value} {t : Tok} {Q : Value → Shared → Prop}
theorem slice_upto (F : Fr h₀ L s.heap m) (N : News h₀ L s.heap news) (hm : (l, listOf vs.toArray n) ∈ news) (hk : k ≤ vs.length) (hz : vs.length < 2 ^ 20)
    (h : ∀ h' D, Fr h₀ L h' m → News h₀ L h' ((D, listOf (vs.take k).toArray 0) :: news) → (∀ p ∈ news, p.1 < D) → Q (.ref D) { s with heap := h' })
    (hs : subscripted slice false (.ref l) (.ref s.heap.objs.size) = operate ops (getItem (.ref l) (.ref s.heap.objs.size)) := by with_unfolding_all rfl)
    (ht : ∀ r, letTemporaryGo value (.ref l) r = pure () := by intro _; with_unfolding_all rfl) :
    wpAny (model prog w) A (subscriptTail value slice (.ref l) (.ref s.heap.objs.size)) Q E { s with heap := s.heap.push { cls := .type "slice", data := .fields #[.none, .int (k : Int) t, .none] } } :=
  slice_list3 (lo := none) (hi := some (k : Int)) (st := none) F N ⟨_, News.get N hm, rfl, _, rfl⟩ .none (.int _ _) .none (by decide) (fun h' F' N' => h h' _ F' (by rw [pick_upto hk] at N'; exact N') fun p hp => Nat.lt_succ_of_lt (Heap.lt_size (N p hp).1)) hs ht (by rw [sizeLine_eq]; simp; omega)
theorem slice_from (F : Fr h₀ L s.heap m) (N : News h₀ L s.heap news) (hm : (l, listOf vs.toArray n) ∈ news) (hk : k ≤ vs.length) (hz : vs.length < 2 ^ 20)
    (h : ∀ h' D, Fr h₀ L h' m → News h₀ L h' ((D, listOf (vs.drop k).toArray 0) :: news) → (∀ p ∈ news, p.1 < D) → Q (.ref D) { s with heap := h' })
    (hs : subscripted slice false (.ref l) (.ref s.heap.objs.size) = operate ops (getItem (.ref l) (.ref s.heap.objs.size)) := by with_unfolding_all rfl)
    (ht : ∀ r, letTemporaryGo value (.ref l) r = pure () := by intro _; with_unfolding_all rfl) :
    wpAny (model prog w) A (subscriptTail value slice (.ref l) (.ref s.heap.objs.size)) Q E { s with heap := s.heap.push { cls := .type "slice", data := .fields #[.int (k : Int) t, .none, .none] } } :=
  slice_list3 (lo := some (k : Int)) (hi := none) (st := none) F N ⟨_, News.get N hm, rfl, _, rfl⟩ (.int _ _) .none .none (by decide) (fun h' F' N' => h h' _ F' (by rw [pick_from hk] at N'; exact N') fun p hp => Nat.lt_succ_of_lt (Heap.lt_size (N p hp).1)) hs ht (by rw [sizeLine_eq]; simp; omega)
end
theorem str_ok {t : List Nat} (h : ∀ c ∈ t, c < 128) : PyData.strOk (wd t) = true := by
  unfold PyData.strOk
  rw [Array.all_eq_true']
  intro c hc
  have := h c (by simpa [wd] using hc)
  exact decide_eq_true (by omega)
theorem strs_take {vs : List Value} {ws : List Str} (h : StrsAre vs ws) : ∀ k, StrsAre (vs.take k) (ws.take k) := by
  induction h with
  | nil => intro k; rw [List.take_nil, List.take_nil]; exact .nil
  | cons x t _ ih =>
    intro k
    cases k with
    | zero => exact .nil
    | succ k => exact .cons x t (ih k)
theorem strs_drop {vs : List Value} {ws : List Str} (h : StrsAre vs ws) : ∀ k, StrsAre (vs.drop k) (ws.drop k) := by
  induction h with
  | nil => intro k; rw [List.drop_nil, List.drop_nil]; exact .nil
  | cons x t r ih =>
    intro k
    cases k with
    | zero => exact .cons x t r
    | succ k => exact ih k
theorem capG_capN (T : List Str) : ∀ t, capG T t = capN (T.map Str.length) t := by
  intro t; unfold capG capN; rw [List.map_map]; rfl
theorem foldl_insW_rising : ∀ (ws ys : List Str), Rising ys → Rising (ws.foldl insW ys)
  | [], _, h => h
  | x :: r, ys, h => foldl_insW_rising r _ (insW_rising h)
theorem seated_most {FW TW : List Str} {S C : List Nat} (hF : FW.map Str.length = S) (hT : TW.map Str.length = C) (h0 : ∀ y ∈ TW, y ≠ Str.ofString "") :
    seatedF FW (rowW TW) 0 = (List.range S.length).map fun i => ((most (S.take (i + 1)) C : Nat) : Int) := by
  rw [seated_best FW (rowW TW) 0 (foldl_insW_rising TW [] List.Pairwise.nil) (rowW_all h0)]
  subst hF hT
  rw [List.length_map]
  apply List.map_congr_left
  intro i _
  rw [Int.zero_add, List.map_take]
  unfold most
  rw [best_congr fun t => (capG_rowW TW t).trans (capG_capN TW t)]
/-- the lengths of the words -/
theorem dueL_lens (ns : List Int) : ((dueL ns).map wd).map Str.length = ns.map Int.toNat := by
  unfold dueL
  rw [List.map_map, List.map_map]
  have : ∀ (ns : List Int) (j : Nat), (ns.zipIdx j).map ((Str.length ∘ wd) ∘ fun p => List.replicate p.1.toNat (sgn p.2)) = ns.map Int.toNat := by
    intro ns
    induction ns with
    | nil => intro j; rfl
    | cons x r ih =>
      intro j
      rw [List.zipIdx_cons, List.map_cons, List.map_cons, ih]
      congr 1
      show (wd _).length = _
      rw [wd_length, List.length_replicate]
  exact this ns 0
theorem zs_back {ns : List Int} (h : ∀ x ∈ ns, 1 ≤ x) : zs (ns.map Int.toNat) = ns := by
  unfold zs
  rw [List.map_map]
  have : ∀ x ∈ ns, ((fun (x : Nat) => (x : Int)) ∘ Int.toNat) x = x := by
    intro x hx
    have := h x hx
    show ((x.toNat : Nat) : Int) = x
    omega
  exact (List.map_congr_left this |>.trans (List.map_id' ns))
open LCg in
/-- a comprehension over a range, each item a number -/
theorem range_rest {A : Around} {s : Shared} {h₀ : Heap} {L : Addr} {m : Str → Option Value} {env : Env} {elt : Expr} {xn : Str} {scope : Scope} {cl : List (Str × Addr)} {Fin : List Value → List (Addr × Obj) → Prop} {a : Int} {n : Nat} (G : Nat → Int)
    (turn : ∀ i t I oI C oC D m₂ ys h tk (E' : Value → Shared → Prop), i < n → NsObj oC m₂ → m₂ xn = some (.int (a + (i : Int)) t) → Fr h₀ L h m → News h₀ L h ((I, oI) :: (C, oC) :: (D, lst ys) :: news) → Off3 I C D news → ((@Ne Nat I C) ∧ (@Ne Nat I D) ∧ (@Ne Nat C D)) → KPfMark →
      wpAny (model prog w) A (eval elt (compEnvC scope cl C env)) (CompEnd h₀ L m { s with heap := h, toks := tk } I oI C oC D (lst ys) (fun _ => True) (fun y news' => news' = news ∧ ∃ t, y = .int (G i) t)) E' { s with heap := h, toks := tk })
    (fin : ∀ ys, IntsAre ys ((List.range n).map G) → Fin ys news) : CompRest prog w A h₀ L m env elt xn scope cl s (fun _ => True) (fun i v => ∃ t, v = .int (a + (i : Int)) t) Fin n 0 [] news := by
  have key : ∀ (j i : Nat) (ys : List Value), i + j = n → IntsAre ys ((List.range i).map G) → CompRest prog w A h₀ L m env elt xn scope cl s (fun _ => True) (fun i v => ∃ t, v = .int (a + (i : Int)) t) Fin j i ys news := by
    intro j
    induction j with
    | zero =>
      intro i ys hi hy
      have e : i = n := by simpa using hi
      subst e
      exact CompRest.zero (fin ys hy)
    | succ j ih =>
      intro i ys hi hy
      refine CompRest.succ ?_
      intro v I oI C oC D m₂ h tk E' hv hC hx F N off ne
      obtain ⟨t, rfl⟩ := hv
      refine wpAny_mono (turn i t I oI C oC D m₂ ys h tk E' (by omega) hC hx F N off ne True.intro) (fun y s₂ hq => ?_) fun _ _ e => e
      obtain ⟨h', tk', nw, e, F', N', off', hS, hn, t', hy'⟩ := hq
      rw [hn] at N' off'
      refine ⟨h', tk', news, e, F', N', off', trivial, ?_⟩
      rw [hy']
      refine ih (i + 1) _ (by omega) ?_
      rw [List.range_succ, List.map_append]
      exact ints_snoc hy
  exact key _ 0 [] (by omega) .nil
/-- between two turns of the last loop -/
inductive InvK (lr Dt l r : Nat) (vr : List Value) (nr : Nat) (C : List Nat) (tr : Tok) (oD oL : Obj) (ck : Nat) (own : List (Addr × Obj)) (i : Nat) (m : Str → Option Value) (nw : List (Addr × Obj)) : Prop
  | mk (oK : Obj) (cK : Option Value) (tg : Tok) (h1 : oK.data = .cell cK) (e : nw = (lr, listOf vr.toArray nr) :: (Dt, oD) :: (l, oL) :: (ck, oK) :: own)
    (e1 : m (Str.ofString "got") = some (.int (capN C i : Nat) tg)) (e2 : m (Str.ofString "row") = some (.ref lr)) (e3 : m (Str.ofString "rooms") = some (.int (r : Int) tr))
theorem law_good {cl : Str → Option Addr} {mean : ExcName → Option Value} {ns : List Int} {h₀ h' : Heap} {L : Addr} {m' : Str → Option Value} {g : Array GenState} {dr : Drawn} {tk tk' : Nat} {os : OsState} (hg : g = #[]) (F : Fr h₀ L h' m') : GoodW PySem.Challenge.rw_sw0031_01.row.claim cl mean [ofPy (PyData.list (ns.map PyData.int))] { heap := h₀, gens := g, drawn := dr, toks := tk, os := os } (.ok (.ret (.bool true))) { heap := h', gens := g, drawn := dr, toks := tk', os := os } := by
  wrow_close
theorem law_grown {h₀ h' : Heap} {L : Addr} {nw : List (Addr × Obj)} {vs : Array Value} (N : News h₀ L h' nw) (hm : (124, tabObj vs) ∈ nw) : GrownAll [(128, 124)] h' := ⟨GrownAt.of N hm, trivial⟩
theorem tail_law {prog : Program} {w9 : World} {a0 : Arguments} {b0 rest : List Stmt} {c0 : Scope} (hb : fparts PP.main.body[18]? = some (a0, b0, c0)) (hrest : b0.drop 14 = rest) {p : Program} {loose : List Str} {mean : ExcName → Option Value} {mg mb : Str → Option Value} {h₀ : Heap} {L fa : Nat} {cd : Value} {m : Str → Option Value} {s : Shared} {Q : Flow → Shared → Prop} {E : Value → Shared → Prop} {a : LexA} {tx : List Nat} {lw ld l : Nat} {Dt Dz : Nat} {n1 p1 nw0 nd h r : Nat} {tn1 tp1 th tr t' : Tok} {vw vd ys yz : List Value} {sz st : List Int} {o1 o2 o3 ol ot : Obj} {c3 : Option Value} (B : Below callerA h₀ [] h₀) (C : CodeHd h₀ 128 124) (F : Fr h₀ L s.heap m) (X : (hd.heap_39 w9.params).In h₀) (N : News h₀ L s.heap (lexLed w9 a n1 tn1 [] 0 p1 tp1 ++ [(lw, listOf vw.toArray nw0), (ld, listOf vd.toArray nd), (Dt, LCg.lst ys), (Dz, LCg.lst yz), (l, ol), (L + 1 + 1 + 1, o3), (L + 1 + 1, o2), (L + 1, o1), (124, ot)])) (T : Top p loose mean mg mb h₀) (hup : a.Up) (hrd : ReadFn prog w9 a (wd tx)) (htl : (wd tx).length < 2 ^ 20) (hasc : (wd tx).cps.all (· < 128) = true) (hpb : p1 < 2 ^ 20 + 2) (hdrop : (wd tx).cps.toList.drop p1 = []) (hn1 : n1 = 1 + tx.count 10) (hlwa : ∀ b ∈ a.all, b < lw) (hoffa : OwnOff [(ld, listOf vd.toArray nd), (Dt, LCg.lst ys), (Dz, LCg.lst yz), (l, ol), (L + 1 + 1 + 1, o3), (L + 1 + 1, o2), (L + 1, o1), (124, ot)] a.all) (hvw' : StrsAre vw ((dueL (sz ++ st)).map wd)) (hvd' : StrsAre vd ((dueL (sz ++ st)).map wd)) (hdne : ∀ u ∈ dueL (sz ++ st), u ≠ []) (hsz1 : sz.length = h ∧ ∀ x ∈ sz, 1 ≤ x ∧ x ≤ 5) (hst1 : st.length = r ∧ ∀ x ∈ st, 1 ≤ x ∧ x ≤ 4) (hsz : IntsAre yz sz) (hst : IntsAre ys st) (h34 : 3 ≤ h ∧ h ≤ 4) (r34 : 3 ≤ r ∧ r ≤ 4) (e0 : m (Str.ofString "lexer") = some (.ref a.x)) (e1 : m (Str.ofString "words") = some (.ref lw)) (e2 : m (Str.ofString "due") = some (.ref ld)) (e3 : m (Str.ofString "homes") = some (.int (h : Int) th)) (e4 : m (Str.ofString "rooms") = some (.int (r : Int) tr)) (e5 : m (Str.ofString "text") = some (.str (wd tx) t')) (dz : o1.data = .cell (some (.ref Dz))) (dt : o2.data = .cell (some (.ref Dt))) (dk : o3.data = .cell c3) (lw1 : ld < lw) (lw2 : Dt < lw) (lw3 : Dz < lw) (lw4 : l < lw) (lw5 : L + 1 + 1 + 1 < lw) (lw8 : 124 < lw) (ll1 : Dt < ld) (ll3 : Dz < ld) (ll6 : l < ld) (q1 : l ≠ Dz) (q2 : L + 1 + 1 + 1 ≠ Dz) (q3 : L + 1 + 1 ≠ Dz) (q4 : L + 1 ≠ Dz) (q5 : 124 ≠ Dz) (o0t : Dz ≠ Dt) (o1t : l ≠ Dt) (o2t : L + 1 + 1 + 1 ≠ Dt) (o3t : L + 1 + 1 ≠ Dt) (o4t : L + 1 ≠ Dt) (o5t : 124 ≠ Dt) (l1 : L + 1 + 1 + 1 < l) (l0 : 124 < L) (hE : PassesOwn (model prog w9) (callerA.deeper (envOfC (Str.ofString "law") c0 L fa cd)) (envOfC (Str.ofString "law") c0 L fa cd) E) (hQ : ∀ (m' : Str → Option Value) (nw' : List (Addr × Obj)) (h' : Heap) (tk' : Nat), Fr h₀ L h' m' → News h₀ L h' nw' → (124, ot) ∈ nw' → Q (.ret (.bool true)) { s with heap := h', toks := tk' }) : wpAny (model prog w9) (callerA.deeper (envOfC (Str.ofString "law") c0 L fa cd)) (execs rest (envOfC (Str.ofString "law") c0 L fa cd)) Q E s := by
  obtain ⟨rfl, rfl, rfl⟩ : _ = a0 ∧ _ = b0 ∧ _ = c0 := by
    have := Option.some.inj (show some (_, _, _) = some (a0, b0, c0) from hb)
    exact ⟨congrArg (·.1) this, congrArg (·.2.1) this, congrArg (·.2.2) this⟩
  obtain rfl : _ = rest := hrest
  dsimp only [List.drop_succ_cons, List.drop_zero]
  w_top off
  have hok : ∀ x ∈ (dueL (sz ++ st)).map wd, PyData.strOk x = true := by
    intro x hx
    obtain ⟨u, hu, rfl⟩ := List.mem_map.mp hx
    exact str_ok (dueL_lt u hu)
  replace F := frKnow F [(Str.ofString "lexer", .ref a.x), (Str.ofString "words", .ref lw), (Str.ofString "due", .ref ld), (Str.ofString "homes", .int (h : Int) th), (Str.ofString "rooms", .int (r : Int) tr), (Str.ofString "text", .str (wd tx) t')] (by simp [e0, e1, e2, e3, e4, e5])
  dsimp only [lexLed, lexRest, readLed, List.cons_append, List.nil_append] at N
  (((try (show wpAny _ _ _ _ _ _; k_fold)); repeat' (first | (k_unfold; (try dsimp only)) | ((fail_if_success ((first | (with_reducible show wpAny _ _ (call (Value.ref 102) _ _) _ _ _) | (with_reducible show wpAny _ _ (subscriptTail (Expr.Name (Str.ofString "words") _) _ _ _) _ _ _) | (with_reducible show wpAny _ _ (compareOp CmpOp.NotEq (Value.ref _) (Value.ref _)) _ _ _) | (with_reducible show wpAny _ _ (call (Value.ref 88) _ _) _ _ _) | (with_reducible show wpAny _ _ (call (Value.ref 143) _ _) _ _ _) | ((first | (with_reducible show wpAny _ _ (call (Value.ref 42) _ _) _ _ _) | ((first | (with_reducible show wpAny _ _ (call (Value.ref 122) _ _) _ _ _) | (with_reducible show wpAny _ _ (exec (Stmt.Assign [Expr.Name (Str.ofString "words") _] _ _) _) _ _ _) | ((first | (with_reducible show wpAny _ _ (eval (Expr.ListComp _ _ _ _) _) _ _ _) | ((first | (with_reducible show wpAny _ _ (call (Value.builtin "list.append") _ _) _ _ _) | ((first | (with_reducible show wpAny _ _ (call (Value.type "enumerate") _ _) _ _ _) | (first | (with_reducible show wpAny _ _ (call (Value.ref 65) _ _) _ _ _) | first | (with_reducible show wpAny _ _ (exec (Stmt.While _ _ _ _) _) _ _ _) | (with_reducible show wpAny _ _ (exec (Stmt.For _ _ _ _ _) _) _ _ _))))))))))))))); first | walk1 | (dsimp only; walk1)) | fail "no step")))
  refine ne_strs (News.isList N (by k_mem)) (News.isList N (by k_mem)) hvw' hvd' hok rfl (by units_room) ?_
  (((try (show wpAny _ _ _ _ _ _; k_fold)); repeat' (first | (k_unfold; (try dsimp only)) | ((fail_if_success ((first | (with_reducible show wpAny _ _ (call (Value.ref 102) _ _) _ _ _) | (with_reducible show wpAny _ _ (subscriptTail (Expr.Name (Str.ofString "words") _) _ _ _) _ _ _) | (with_reducible show wpAny _ _ (compareOp CmpOp.NotEq (Value.ref _) (Value.ref _)) _ _ _) | (with_reducible show wpAny _ _ (call (Value.ref 88) _ _) _ _ _) | (with_reducible show wpAny _ _ (call (Value.ref 143) _ _) _ _ _) | ((first | (with_reducible show wpAny _ _ (call (Value.ref 42) _ _) _ _ _) | ((first | (with_reducible show wpAny _ _ (call (Value.ref 122) _ _) _ _ _) | (with_reducible show wpAny _ _ (exec (Stmt.Assign [Expr.Name (Str.ofString "words") _] _ _) _) _ _ _) | ((first | (with_reducible show wpAny _ _ (eval (Expr.ListComp _ _ _ _) _) _ _ _) | ((first | (with_reducible show wpAny _ _ (call (Value.builtin "list.append") _ _) _ _ _) | ((first | (with_reducible show wpAny _ _ (call (Value.type "enumerate") _ _) _ _ _) | (first | (with_reducible show wpAny _ _ (call (Value.ref 65) _ _) _ _ _) | first | (with_reducible show wpAny _ _ (exec (Stmt.While _ _ _ _) _) _ _ _) | (with_reducible show wpAny _ _ (exec (Stmt.For _ _ _ _ _) _) _ _ _))))))))))))))); first | walk1 | (dsimp only; walk1)) | fail "no step")))
  rename News _ _ _ _ => N2
  rename Fr _ _ _ _ => F2
  refine' DoesT.use (count_does hasc htl) ?B ?C ?F ?X ?N ?T ?hr ?hu ?h0 ?h1 ?_
  (case N => exact N2)
  (case h0 => exact Nat.succ_pos _)
  (case h1 => exact Nat.lt_succ_self _)
  (((case B => k_asm); (case C => assumption); (case F => k_asm); (case X => k_asm); (case T => k_asm); (case hr => (first | exact Nat.lt_of_le_of_lt (Nat.add_le_add_left (by decide) _) (by assumption) | omega | ktr_room)); (case hu => (first | exact Nat.lt_of_le_of_lt (Nat.add_le_add_left (by decide) _) (by assumption) | ktr_units | omega))))
  intro r9 nw9 h9 tk9 F9 N9 H9
  obtain ⟨tc, rfl, rfl⟩ := H9
  clear N2 F2
  (((try (show wpAny _ _ _ _ _ _; k_fold)); repeat' (first | (k_unfold; (try dsimp only)) | ((fail_if_success ((first | (with_reducible show wpAny _ _ (call (Value.ref 102) _ _) _ _ _) | (with_reducible show wpAny _ _ (subscriptTail (Expr.Name (Str.ofString "words") _) _ _ _) _ _ _) | (with_reducible show wpAny _ _ (compareOp CmpOp.NotEq (Value.ref _) (Value.ref _)) _ _ _) | (with_reducible show wpAny _ _ (call (Value.ref 88) _ _) _ _ _) | (with_reducible show wpAny _ _ (call (Value.ref 143) _ _) _ _ _) | ((first | (with_reducible show wpAny _ _ (call (Value.ref 42) _ _) _ _ _) | ((first | (with_reducible show wpAny _ _ (call (Value.ref 122) _ _) _ _ _) | (with_reducible show wpAny _ _ (exec (Stmt.Assign [Expr.Name (Str.ofString "words") _] _ _) _) _ _ _) | ((first | (with_reducible show wpAny _ _ (eval (Expr.ListComp _ _ _ _) _) _ _ _) | ((first | (with_reducible show wpAny _ _ (call (Value.builtin "list.append") _ _) _ _ _) | ((first | (with_reducible show wpAny _ _ (call (Value.type "enumerate") _ _) _ _ _) | (first | (with_reducible show wpAny _ _ (call (Value.ref 65) _ _) _ _ _) | first | (with_reducible show wpAny _ _ (exec (Stmt.While _ _ _ _) _) _ _ _) | (with_reducible show wpAny _ _ (exec (Stmt.For _ _ _ _ _) _) _ _ _))))))))))))))); first | walk1 | (dsimp only; walk1)) | fail "no step")))
  rename News _ _ _ _ => N2
  refine' Does.use add_does ?B ?C ?F ?X ?N ?T ?hr ?hu ?_
  (case N => exact N2)
  (((case B => k_asm); (case C => assumption); (case F => k_asm); (case X => k_asm); (case T => k_asm); (case hr => (first | exact Nat.lt_of_le_of_lt (Nat.add_le_add_left (by decide) _) (by assumption) | omega | ktr_room)); (case hu => (first | exact Nat.lt_of_le_of_lt (Nat.add_le_add_left (by decide) _) (by assumption) | ktr_units | omega))))
  intro r9 nw9 h9 tk9 F9 N9 H9
  obtain ⟨⟨ts, rfl⟩, rfl⟩ := H9
  clear N2
  have hln : ¬ (((n1 : Int) != 1 + ((wd tx).cps.toList.count 10 : Nat)) = true) := by
    have : (wd tx).cps.toList = tx := by simp [wd]
    rw [this, hn1]; simp
  have hvl : vw.length = h + r := by rw [hvw'.length, List.length_map, dueL_length, List.length_append]; omega
  (((try (show wpAny _ _ _ _ _ _; k_fold)); repeat' (first | (k_unfold; (try dsimp only)) | ((fail_if_success ((first | (with_reducible show wpAny _ _ (call (Value.ref 102) _ _) _ _ _) | (with_reducible show wpAny _ _ (subscriptTail (Expr.Name (Str.ofString "words") _) _ _ _) _ _ _) | (with_reducible show wpAny _ _ (compareOp CmpOp.NotEq (Value.ref _) (Value.ref _)) _ _ _) | (with_reducible show wpAny _ _ (call (Value.ref 88) _ _) _ _ _) | (with_reducible show wpAny _ _ (call (Value.ref 143) _ _) _ _ _) | ((first | (with_reducible show wpAny _ _ (call (Value.ref 42) _ _) _ _ _) | ((first | (with_reducible show wpAny _ _ (call (Value.ref 122) _ _) _ _ _) | (with_reducible show wpAny _ _ (exec (Stmt.Assign [Expr.Name (Str.ofString "words") _] _ _) _) _ _ _) | ((first | (with_reducible show wpAny _ _ (eval (Expr.ListComp _ _ _ _) _) _ _ _) | ((first | (with_reducible show wpAny _ _ (call (Value.builtin "list.append") _ _) _ _ _) | ((first | (with_reducible show wpAny _ _ (call (Value.type "enumerate") _ _) _ _ _) | (first | (with_reducible show wpAny _ _ (call (Value.ref 65) _ _) _ _ _) | first | (with_reducible show wpAny _ _ (exec (Stmt.While _ _ _ _) _) _ _ _) | (with_reducible show wpAny _ _ (exec (Stmt.For _ _ _ _ _) _) _ _ _))))))))))))))); first | walk1 | (dsimp only; walk1)) | fail "no step")))
  rename News _ _ _ _ => N2
  rename Fr _ _ _ _ => F2
  refine slice_upto F2 N2 (by k_mem) (by omega) (by omega) ?_
  intro h4 lf F3 N3 hlf
  clear F2 N2
  (((try (show wpAny _ _ _ _ _ _; k_fold)); repeat' (first | (k_unfold; (try dsimp only)) | ((fail_if_success ((first | (with_reducible show wpAny _ _ (call (Value.ref 102) _ _) _ _ _) | (with_reducible show wpAny _ _ (subscriptTail (Expr.Name (Str.ofString "words") _) _ _ _) _ _ _) | (with_reducible show wpAny _ _ (compareOp CmpOp.NotEq (Value.ref _) (Value.ref _)) _ _ _) | (with_reducible show wpAny _ _ (call (Value.ref 88) _ _) _ _ _) | (with_reducible show wpAny _ _ (call (Value.ref 143) _ _) _ _ _) | ((first | (with_reducible show wpAny _ _ (call (Value.ref 42) _ _) _ _ _) | ((first | (with_reducible show wpAny _ _ (call (Value.ref 122) _ _) _ _ _) | (with_reducible show wpAny _ _ (exec (Stmt.Assign [Expr.Name (Str.ofString "words") _] _ _) _) _ _ _) | ((first | (with_reducible show wpAny _ _ (eval (Expr.ListComp _ _ _ _) _) _ _ _) | ((first | (with_reducible show wpAny _ _ (call (Value.builtin "list.append") _ _) _ _ _) | ((first | (with_reducible show wpAny _ _ (call (Value.type "enumerate") _ _) _ _ _) | (first | (with_reducible show wpAny _ _ (call (Value.ref 65) _ _) _ _ _) | first | (with_reducible show wpAny _ _ (exec (Stmt.While _ _ _ _) _) _ _ _) | (with_reducible show wpAny _ _ (exec (Stmt.For _ _ _ _ _) _) _ _ _))))))))))))))); first | walk1 | (dsimp only; walk1)) | fail "no step")))
  refine slice_from F3 N3 (by k_mem) (by omega) (by omega) ?_
  intro h5 lt F4 N4 hlt4
  clear F3 N3
  k_lt hlf
  k_lt hlt4
  (((try (show wpAny _ _ _ _ _ _; k_fold)); repeat' (first | (k_unfold; (try dsimp only)) | ((fail_if_success ((first | (with_reducible show wpAny _ _ (call (Value.ref 102) _ _) _ _ _) | (with_reducible show wpAny _ _ (subscriptTail (Expr.Name (Str.ofString "words") _) _ _ _) _ _ _) | (with_reducible show wpAny _ _ (compareOp CmpOp.NotEq (Value.ref _) (Value.ref _)) _ _ _) | (with_reducible show wpAny _ _ (call (Value.ref 88) _ _) _ _ _) | (with_reducible show wpAny _ _ (call (Value.ref 143) _ _) _ _ _) | ((first | (with_reducible show wpAny _ _ (call (Value.ref 42) _ _) _ _ _) | ((first | (with_reducible show wpAny _ _ (call (Value.ref 122) _ _) _ _ _) | (with_reducible show wpAny _ _ (exec (Stmt.Assign [Expr.Name (Str.ofString "words") _] _ _) _) _ _ _) | ((first | (with_reducible show wpAny _ _ (eval (Expr.ListComp _ _ _ _) _) _ _ _) | ((first | (with_reducible show wpAny _ _ (call (Value.builtin "list.append") _ _) _ _ _) | ((first | (with_reducible show wpAny _ _ (call (Value.type "enumerate") _ _) _ _ _) | (first | (with_reducible show wpAny _ _ (call (Value.ref 65) _ _) _ _ _) | first | (with_reducible show wpAny _ _ (exec (Stmt.While _ _ _ _) _) _ _ _) | (with_reducible show wpAny _ _ (exec (Stmt.For _ _ _ _ _) _) _ _ _))))))))))))))); first | walk1 | (dsimp only; walk1)) | fail "no step")))
  have hlfa : ∀ b ∈ a.all, b < lf := by
    obtain ⟨b1, b2, b3, b4, b5, b6, b7, b8, b9, b10, b11, _⟩ := hlf
    intro b hb
    simp only [LexA.all, List.mem_cons, List.not_mem_nil, or_false] at hb
    rcases hb with rfl | rfl | rfl | rfl | rfl | rfl | rfl | rfl | rfl | rfl | rfl <;> assumption
  have hlta : ∀ b ∈ a.all, b < lt := by
    obtain ⟨_, b1, b2, b3, b4, b5, b6, b7, b8, b9, b10, b11, _⟩ := hlt4
    intro b hb
    simp only [LexA.all, List.mem_cons, List.not_mem_nil, or_false] at hb
    rcases hb with rfl | rfl | rfl | rfl | rfl | rfl | rfl | rfl | rfl | rfl | rfl <;> assumption
  have hlflt : lf < lt := hlt4.1
  have hsz0 : ∀ x ∈ sz, 1 ≤ x := fun x hx => (hsz1.2 x hx).1
  have hst0 : ∀ x ∈ st, 1 ≤ x := fun x hx => (hst1.2 x hx).1
  obtain ⟨S, hS⟩ : ∃ S, S = sz.map Int.toNat := ⟨_, rfl⟩
  obtain ⟨C, hC⟩ : ∃ C, C = st.map Int.toNat := ⟨_, rfl⟩
  have zS : zs S = sz := by rw [hS]; exact zs_back hsz0
  have zC : zs C = st := by rw [hC]; exact zs_back hst0
  have hSl : S.length = h := by rw [hS, List.length_map]; exact hsz1.1
  have hCl : C.length = r := by rw [hC, List.length_map]; exact hst1.1
  have hW : ((dueL (sz ++ st)).map wd).map Str.length = S ++ C := by rw [dueL_lens, List.map_append, hS, hC]
  have hFW : (((dueL (sz ++ st)).map wd).take h).map Str.length = S := by rw [List.map_take, hW, ← hSl, List.take_left]
  have hTW : (((dueL (sz ++ st)).map wd).drop h).map Str.length = C := by rw [List.map_drop, hW, ← hSl, List.drop_left]
  have hwne : ∀ y ∈ (dueL (sz ++ st)).map wd, y ≠ Str.ofString "" := by
    intro y hy e
    obtain ⟨u, hu, rfl⟩ := List.mem_map.mp hy
    exact hdne u hu (by have := congrArg (fun z : Str => z.cps.toList) e; rw [empty_wd] at this; simpa [wd] using this)
  have hwlt : ∀ y ∈ (dueL (sz ++ st)).map wd, y.length < 2 ^ 10 := by
    intro y hy
    obtain ⟨u, hu, rfl⟩ := List.mem_map.mp hy
    have := dueL_le (sz ++ st) (fun x hx => by
      rcases List.mem_append.mp hx with h | h
      · exact (hsz1.2 x h).2
      · have := (hst1.2 x h).2; omega) u hu
    rw [wd_length]; omega
  have hvF := strs_take hvw' h
  have hvT := strs_drop hvw' h
  generalize hFWe : ((dueL (sz ++ st)).map wd).take h = FW at *
  generalize hTWe : ((dueL (sz ++ st)).map wd).drop h = TW at *
  have hFl : FW.length = h := by have := congrArg List.length hFW; rw [List.length_map] at this; omega
  have hTl : TW.length = r := by have := congrArg List.length hTW; rw [List.length_map] at this; omega
  have hFne : ∀ y ∈ FW, y ≠ Str.ofString "" := fun y hy => hwne y (List.mem_of_mem_take (hFWe ▸ hy))
  have hTne : ∀ y ∈ TW, y ≠ Str.ofString "" := fun y hy => hwne y (List.mem_of_mem_drop (hTWe ▸ hy))
  have hFlt : ∀ y ∈ FW, y.length < 2 ^ 10 := fun y hy => hwlt y (List.mem_of_mem_take (hFWe ▸ hy))
  have hTlt : ∀ y ∈ TW, y.length < 2 ^ 10 := fun y hy => hwlt y (List.mem_of_mem_drop (hTWe ▸ hy))
  have N5 := news_in1 (l := lexLed w9 a n1 tn1 [] 0 p1 tp1) (news_in1 (l := (lf, _) :: lexLed w9 a n1 tn1 [] 0 p1 tp1) N4)
  have N6 := news_sublist N5 (l' := lexLed w9 a n1 tn1 [] 0 p1 tp1 ++ [(lf, _), (lt, _), (lw, _), (Dt, _), (Dz, _), (l, _), (_, _), (_, o2), (_, o1), (_, _)]) (List.Sublist.append (List.Sublist.refl _) (by (repeat (first | exact List.Sublist.refl _ | refine List.Sublist.cons₂ _ ?_ | refine List.Sublist.cons _ ?_))))
  clear N5 N4
  have hoffF : OwnOff [(lf, listOf (vw.take h).toArray 0), (lt, listOf (vw.drop h).toArray 0), (lw, listOf vw.toArray nw0), (Dt, _), (Dz, _), (l, _), (_, _), (_, o2), (_, o1), (_, _)] a.all :=
    off_cons (off_notin hlfa) (off_cons (off_notin hlta) (off_cons (off_notin hlwa) (fun q hq => hoffa q ((by (repeat (first | exact List.Sublist.refl _ | refine List.Sublist.cons₂ _ ?_ | refine List.Sublist.cons _ ?_)) : List.Sublist _ _).subset hq))))
  refine' Does.use (law_seated_does (n := n1) (tn := tn1) (tp := tp1) (np := 0) (p := p1) (fams := FW) (tabs := TW) (own := (lw, listOf vw.toArray nw0) :: _) hup hrd hoffF (by omega) hdrop htl hvF hvT hFlt hTlt hTne (by omega) (by omega) (Nat.ne_of_lt hlflt)) ?B ?C ?F ?X ?N ?T ?hr ?hu ?_
  (case N => exact N6)
  (((case B => k_asm); (case C => assumption); (case F => k_asm); (case X => k_asm); (case T => k_asm); (case hr => (first | exact Nat.lt_of_le_of_lt (Nat.add_le_add_left (by decide) _) (by assumption) | omega | ktr_room)); (case hu => (first | exact Nat.lt_of_le_of_lt (Nat.add_le_add_left (by decide) _) (by assumption) | ktr_units | omega))))
  intro r9 nw9 h9 tk9 F9 N9 H9
  obtain ⟨lo, vo, no, p2, tn2, tp2, np2, rfl, rfl, hvo, hdrop2, hp2, hlo1, hlo2, hlo3, hlo4⟩ := H9
  rw [seated_most hFW hTW hTne] at hvo
  clear N6 F4
  (((try (show wpAny _ _ _ _ _ _; k_fold)); repeat' (first | (k_unfold; (try dsimp only)) | ((fail_if_success ((first | (with_reducible show wpAny _ _ (call (Value.ref 148) _ _) _ _ _) | (with_reducible show wpAny _ _ (call (Value.type "range") _ _) _ _ _) | ((first | (with_reducible show wpAny _ _ (call (Value.ref 102) _ _) _ _ _) | (with_reducible show wpAny _ _ (subscriptTail (Expr.Name (Str.ofString "words") _) _ _ _) _ _ _) | (with_reducible show wpAny _ _ (compareOp CmpOp.NotEq (Value.ref _) (Value.ref _)) _ _ _) | (with_reducible show wpAny _ _ (call (Value.ref 88) _ _) _ _ _) | (with_reducible show wpAny _ _ (call (Value.ref 143) _ _) _ _ _) | ((first | (with_reducible show wpAny _ _ (call (Value.ref 42) _ _) _ _ _) | ((first | (with_reducible show wpAny _ _ (call (Value.ref 122) _ _) _ _ _) | (with_reducible show wpAny _ _ (exec (Stmt.Assign [Expr.Name (Str.ofString "words") _] _ _) _) _ _ _) | ((first | (with_reducible show wpAny _ _ (eval (Expr.ListComp _ _ _ _) _) _ _ _) | ((first | (with_reducible show wpAny _ _ (call (Value.builtin "list.append") _ _) _ _ _) | ((first | (with_reducible show wpAny _ _ (call (Value.type "enumerate") _ _) _ _ _) | (first | (with_reducible show wpAny _ _ (call (Value.ref 65) _ _) _ _ _) | first | (with_reducible show wpAny _ _ (exec (Stmt.While _ _ _ _) _) _ _ _) | (with_reducible show wpAny _ _ (exec (Stmt.For _ _ _ _ _) _) _ _ _))))))))))))))))); first | walk1 | (dsimp only; walk1)) | fail "no step")))
  rename News _ _ _ _ => N6
  rename Fr _ _ _ _ => F6
  have N7 := news_out1 (l := (lo, _) :: (lexLed w9 a n1 tn2 [] np2 p2 tp2 ++ [(lf, _), (lt, _), (lw, _)])) N6
  dsimp only [lexLed, lexRest, readLed, List.cons_append, List.nil_append] at N7
  clear N6
  refine LCg.ListComp_U F6 (by with_unfolding_all rfl) (by decide) (by rfl) (by decide) (by rfl) ?_
  (((try (show wpAny _ _ _ _ _ _; k_fold)); repeat' (first | (k_unfold; (try dsimp only)) | ((fail_if_success ((first | (with_reducible show wpAny _ _ (call (Value.ref 148) _ _) _ _ _) | (with_reducible show wpAny _ _ (call (Value.type "range") _ _) _ _ _) | ((first | (with_reducible show wpAny _ _ (call (Value.ref 102) _ _) _ _ _) | (with_reducible show wpAny _ _ (subscriptTail (Expr.Name (Str.ofString "words") _) _ _ _) _ _ _) | (with_reducible show wpAny _ _ (compareOp CmpOp.NotEq (Value.ref _) (Value.ref _)) _ _ _) | (with_reducible show wpAny _ _ (call (Value.ref 88) _ _) _ _ _) | (with_reducible show wpAny _ _ (call (Value.ref 143) _ _) _ _ _) | ((first | (with_reducible show wpAny _ _ (call (Value.ref 42) _ _) _ _ _) | ((first | (with_reducible show wpAny _ _ (call (Value.ref 122) _ _) _ _ _) | (with_reducible show wpAny _ _ (exec (Stmt.Assign [Expr.Name (Str.ofString "words") _] _ _) _) _ _ _) | ((first | (with_reducible show wpAny _ _ (eval (Expr.ListComp _ _ _ _) _) _ _ _) | ((first | (with_reducible show wpAny _ _ (call (Value.builtin "list.append") _ _) _ _ _) | ((first | (with_reducible show wpAny _ _ (call (Value.type "enumerate") _ _) _ _ _) | (first | (with_reducible show wpAny _ _ (call (Value.ref 65) _ _) _ _ _) | first | (with_reducible show wpAny _ _ (exec (Stmt.While _ _ _ _) _) _ _ _) | (with_reducible show wpAny _ _ (exec (Stmt.For _ _ _ _ _) _) _ _ _))))))))))))))))); first | walk1 | (dsimp only; walk1)) | fail "no step")))
  walk1
  rename IsRange _ _ _ _ _ _ _ _ => hR
  rename News _ _ _ _ => N8
  rename Fr _ _ _ _ => F8

  refine LCg.CompSrc.range rfl F8 N8 hR (small_range ⟨by omega, by omega⟩ ⟨by omega, by omega⟩) (size_range (n := h) (by omega)) (by rw [sizeLine_eq]; omega) ?_
  intro g
  refine range_rest (fun i => ((most (S.take (i + 1)) C : Nat) : Int)) ?_ ?_
  · intro i t I oI C2 oC D2 m₂ ys2 h6 tk6 E' hi hC2 hx2 F2 N2 off ne mk
    clear F8 N8 hR
    (((try (show wpAny _ _ _ _ _ _; k_fold)); repeat' (first | (k_unfold; (try dsimp only)) | ((fail_if_success ((first | (with_reducible show wpAny _ _ (call (Value.ref 148) _ _) _ _ _) | (with_reducible show wpAny _ _ (call (Value.type "range") _ _) _ _ _) | ((first | (with_reducible show wpAny _ _ (call (Value.ref 102) _ _) _ _ _) | (with_reducible show wpAny _ _ (subscriptTail (Expr.Name (Str.ofString "words") _) _ _ _) _ _ _) | (with_reducible show wpAny _ _ (compareOp CmpOp.NotEq (Value.ref _) (Value.ref _)) _ _ _) | (with_reducible show wpAny _ _ (call (Value.ref 88) _ _) _ _ _) | (with_reducible show wpAny _ _ (call (Value.ref 143) _ _) _ _ _) | ((first | (with_reducible show wpAny _ _ (call (Value.ref 42) _ _) _ _ _) | ((first | (with_reducible show wpAny _ _ (call (Value.ref 122) _ _) _ _ _) | (with_reducible show wpAny _ _ (exec (Stmt.Assign [Expr.Name (Str.ofString "words") _] _ _) _) _ _ _) | ((first | (with_reducible show wpAny _ _ (eval (Expr.ListComp _ _ _ _) _) _ _ _) | ((first | (with_reducible show wpAny _ _ (call (Value.builtin "list.append") _ _) _ _ _) | ((first | (with_reducible show wpAny _ _ (call (Value.type "enumerate") _ _) _ _ _) | (first | (with_reducible show wpAny _ _ (call (Value.ref 65) _ _) _ _ _) | first | (with_reducible show wpAny _ _ (exec (Stmt.While _ _ _ _) _) _ _ _) | (with_reducible show wpAny _ _ (exec (Stmt.For _ _ _ _ _) _) _ _ _))))))))))))))))); first | walk1 | (dsimp only; walk1)) | fail "no step")))
    rename IntsAre _ _ => hI9
    rename News _ _ _ _ => N3
    rename Fr _ _ _ _ => F3
    rename_i D9 ws9 _ _ _ _
    have hI8 : IntsAre ws9 (zs (S.take (i + 1))) := by
      have e : zs (S.take (i + 1)) = sz.take (1 + (i : Int)).toNat := by
        rw [← zS]; unfold zs
        rw [List.map_take, show (1 + (i : Int)).toNat = i + 1 by omega]
      rw [e]; exact hI9
    refine' Does.use (law_most_does (lt := Dt) (n := 0) (n' := ys.length) (C := C) (own := (I, oI) :: (C2, oC) :: (D2, LCg.lst ys2) :: _) hI8 (by rw [zC]; exact hst) (by rw [List.length_take]; omega) (by omega)) ?B ?C ?F ?X ?N ?T ?hr ?hu ?_
    (case N =>
      have N3' := news_swap (news_out1 (l := [(_, _), (I, oI), (C2, oC), (D2, LCg.lst ys2)]) N3)
      exact N3')
    (((case B => k_asm); (case C => assumption); (case F => k_asm); (case X => k_asm); (case T => k_asm); (case hr => (first | exact Nat.lt_of_le_of_lt (Nat.add_le_add_left (by decide) _) (by assumption) | omega | ktr_room)); (case hu => (first | exact Nat.lt_of_le_of_lt (Nat.add_le_add_left (by decide) _) (by assumption) | ktr_units | omega))))
    intro r9 nw9 h9 tk9 F9 N9 H9
    obtain ⟨t9, rfl, rfl⟩ := H9
    have N10 := news_in1 (l := [(I, oI), (C2, oC), (D2, LCg.lst ys2)]) (news_sub N9 fun p hp => .tail _ hp)
    exact LCg.CompEnd.intro F9 N10 _ (fun _ h => h) off trivial ⟨rfl, _, rfl⟩
  · intro ys2 hys2
    unfold LCg.FinE
    intro D2 h6 tk6 F2 N2 off1
    dsimp only at F2 N2 ⊢
    clear F8 N8 hR
    rw [hSl] at hvo
    refine ke_ne_ints (News.isList N2 (by k_mem)) (News.isList N2 (.head _)) hvo hys2 (by units_room) ?_
    rw [decide_eq_true rfl]
    (((try (show wpAny _ _ _ _ _ _; k_fold)); repeat' (first | (k_unfold; (try dsimp only)) | ((fail_if_success ((first | (with_reducible show wpAny _ _ (call (Value.ref 148) _ _) _ _ _) | (with_reducible show wpAny _ _ (call (Value.type "range") _ _) _ _ _) | ((first | (with_reducible show wpAny _ _ (call (Value.ref 102) _ _) _ _ _) | (with_reducible show wpAny _ _ (subscriptTail (Expr.Name (Str.ofString "words") _) _ _ _) _ _ _) | (with_reducible show wpAny _ _ (compareOp CmpOp.NotEq (Value.ref _) (Value.ref _)) _ _ _) | (with_reducible show wpAny _ _ (call (Value.ref 88) _ _) _ _ _) | (with_reducible show wpAny _ _ (call (Value.ref 143) _ _) _ _ _) | ((first | (with_reducible show wpAny _ _ (call (Value.ref 42) _ _) _ _ _) | ((first | (with_reducible show wpAny _ _ (call (Value.ref 122) _ _) _ _ _) | (with_reducible show wpAny _ _ (exec (Stmt.Assign [Expr.Name (Str.ofString "words") _] _ _) _) _ _ _) | ((first | (with_reducible show wpAny _ _ (eval (Expr.ListComp _ _ _ _) _) _ _ _) | ((first | (with_reducible show wpAny _ _ (call (Value.builtin "list.append") _ _) _ _ _) | ((first | (with_reducible show wpAny _ _ (call (Value.type "enumerate") _ _) _ _ _) | (first | (with_reducible show wpAny _ _ (call (Value.ref 65) _ _) _ _ _) | first | (with_reducible show wpAny _ _ (exec (Stmt.While _ _ _ _) _) _ _ _) | (with_reducible show wpAny _ _ (exec (Stmt.For _ _ _ _ _) _) _ _ _))))))))))))))))); first | walk1 | (dsimp only; walk1)) | fail "no step")))
    refine slice_from F2 N2 (by k_mem) (by omega) (by omega) ?_
    intro h4 lf2 F3 N3 hlf2
    k_lt hlf2
    clear F2 N2
    (((try (show wpAny _ _ _ _ _ _; k_fold)); repeat' (first | (k_unfold; (try dsimp only)) | ((fail_if_success ((first | (with_reducible show wpAny _ _ (call (Value.ref 148) _ _) _ _ _) | (with_reducible show wpAny _ _ (call (Value.type "range") _ _) _ _ _) | ((first | (with_reducible show wpAny _ _ (call (Value.ref 102) _ _) _ _ _) | (with_reducible show wpAny _ _ (subscriptTail (Expr.Name (Str.ofString "words") _) _ _ _) _ _ _) | (with_reducible show wpAny _ _ (compareOp CmpOp.NotEq (Value.ref _) (Value.ref _)) _ _ _) | (with_reducible show wpAny _ _ (call (Value.ref 88) _ _) _ _ _) | (with_reducible show wpAny _ _ (call (Value.ref 143) _ _) _ _ _) | ((first | (with_reducible show wpAny _ _ (call (Value.ref 42) _ _) _ _ _) | ((first | (with_reducible show wpAny _ _ (call (Value.ref 122) _ _) _ _ _) | (with_reducible show wpAny _ _ (exec (Stmt.Assign [Expr.Name (Str.ofString "words") _] _ _) _) _ _ _) | ((first | (with_reducible show wpAny _ _ (eval (Expr.ListComp _ _ _ _) _) _ _ _) | ((first | (with_reducible show wpAny _ _ (call (Value.builtin "list.append") _ _) _ _ _) | ((first | (with_reducible show wpAny _ _ (call (Value.type "enumerate") _ _) _ _ _) | (first | (with_reducible show wpAny _ _ (call (Value.ref 65) _ _) _ _ _) | first | (with_reducible show wpAny _ _ (exec (Stmt.While _ _ _ _) _) _ _ _) | (with_reducible show wpAny _ _ (exec (Stmt.For _ _ _ _ _) _) _ _ _))))))))))))))))); first | walk1 | (dsimp only; walk1)) | fail "no step")))
    refine slice_upto F3 N3 (by k_mem) (by omega) (by omega) ?_
    intro h5 lt2 F4 N4 hlt2
    k_lt hlt2
    clear F3 N3
    (((try (show wpAny _ _ _ _ _ _; k_fold)); repeat' (first | (k_unfold; (try dsimp only)) | ((fail_if_success ((first | (with_reducible show wpAny _ _ (call (Value.ref 148) _ _) _ _ _) | (with_reducible show wpAny _ _ (call (Value.type "range") _ _) _ _ _) | ((first | (with_reducible show wpAny _ _ (call (Value.ref 102) _ _) _ _ _) | (with_reducible show wpAny _ _ (subscriptTail (Expr.Name (Str.ofString "words") _) _ _ _) _ _ _) | (with_reducible show wpAny _ _ (compareOp CmpOp.NotEq (Value.ref _) (Value.ref _)) _ _ _) | (with_reducible show wpAny _ _ (call (Value.ref 88) _ _) _ _ _) | (with_reducible show wpAny _ _ (call (Value.ref 143) _ _) _ _ _) | ((first | (with_reducible show wpAny _ _ (call (Value.ref 42) _ _) _ _ _) | ((first | (with_reducible show wpAny _ _ (call (Value.ref 122) _ _) _ _ _) | (with_reducible show wpAny _ _ (exec (Stmt.Assign [Expr.Name (Str.ofString "words") _] _ _) _) _ _ _) | ((first | (with_reducible show wpAny _ _ (eval (Expr.ListComp _ _ _ _) _) _ _ _) | ((first | (with_reducible show wpAny _ _ (call (Value.builtin "list.append") _ _) _ _ _) | ((first | (with_reducible show wpAny _ _ (call (Value.type "enumerate") _ _) _ _ _) | (first | (with_reducible show wpAny _ _ (call (Value.ref 65) _ _) _ _ _) | first | (with_reducible show wpAny _ _ (exec (Stmt.While _ _ _ _) _) _ _ _) | (with_reducible show wpAny _ _ (exec (Stmt.For _ _ _ _ _) _) _ _ _))))))))))))))))); first | walk1 | (dsimp only; walk1)) | fail "no step")))
    have hlf2a : ∀ b ∈ a.all, b < lf2 := by
      obtain ⟨_, _, _, b1, b2, b3, b4, b5, b6, b7, b8, b9, b10, b11, _⟩ := hlf2
      intro b hb
      simp only [LexA.all, List.mem_cons, List.not_mem_nil, or_false] at hb
      rcases hb with rfl | rfl | rfl | rfl | rfl | rfl | rfl | rfl | rfl | rfl | rfl <;> assumption
    have hlt2a : ∀ b ∈ a.all, b < lt2 := by
      obtain ⟨_, _, _, _, b1, b2, b3, b4, b5, b6, b7, b8, b9, b10, b11, _⟩ := hlt2
      intro b hb
      simp only [LexA.all, List.mem_cons, List.not_mem_nil, or_false] at hb
      rcases hb with rfl | rfl | rfl | rfl | rfl | rfl | rfl | rfl | rfl | rfl | rfl <;> assumption
    have hlf2t : lf2 < lt2 := hlt2.1
    have N5 := news_sublist N4 (l' := [(lt2, _), (lf2, _), (Dt, _), (a.l, _), (a.x, _), (a.d, _), (a.l2, _), (a.x2, _), (a.d2, _), (a.f, _), (a.c, _), (a.pl, _), (a.cp, _), (a.ct, _), (lw, _), (Dz, _), (l, _), (_, _), (_, o2), (_, o1), (_, _)]) (by (repeat (first | exact List.Sublist.refl _ | refine List.Sublist.cons₂ _ ?_ | refine List.Sublist.cons _ ?_)))
    have N6 := news_in1 (l := (Dt, _) :: lexLed w9 a n1 tn2 [] np2 p2 tp2) (news_in1 (l := (lf2, _) :: (Dt, _) :: lexLed w9 a n1 tn2 [] np2 p2 tp2) N5)
    have N7 := news_in1 (l := lexLed w9 a n1 tn2 [] np2 p2 tp2 ++ [(lf2, _), (lt2, _), (lw, _)]) N6
    clear N4 N5 N6
    have hoffG : OwnOff [(lf2, listOf (vw.drop h).toArray 0), (lt2, listOf (vw.take h).toArray 0), (lw, listOf vw.toArray nw0), (Dt, _), (Dz, _), (l, _), (_, _), (_, o2), (_, o1), (_, _)] a.all :=
      off_cons (off_notin hlf2a) (off_cons (off_notin hlt2a) (fun q hq => hoffF q (.tail _ (.tail _ hq))))
    refine' Does.use (law_seated_does (n := n1) (tn := tn2) (tp := tp2) (np := np2) (p := p2) (fams := TW) (tabs := FW) (own := (lw, listOf vw.toArray nw0) :: (Dt, _) :: (Dz, _) :: _) hup hrd hoffG (by omega) hdrop2 htl hvT hvF hTlt hFlt hFne (by omega) (by omega) (Nat.ne_of_lt hlf2t)) ?B ?C ?F ?X ?N ?T ?hr ?hu ?_
    (case N => exact N7)
    (((case B => k_asm); (case C => assumption); (case F => k_asm); (case X => k_asm); (case T => k_asm); (case hr => (first | exact Nat.lt_of_le_of_lt (Nat.add_le_add_left (by decide) _) (by assumption) | omega | ktr_room)); (case hu => (first | exact Nat.lt_of_le_of_lt (Nat.add_le_add_left (by decide) _) (by assumption) | ktr_units | omega))))
    intro r9 nw9 h9 tk9 F9 N9 H9
    obtain ⟨lo2, vo2, no2, p3, tn3, tp3, np3, rfl, rfl, hvo2, hdrop3, hp3, hlo5, hlo6, hlo7, hlo8⟩ := H9
    rw [seated_most hTW hFW hFne, hCl] at hvo2
    clear N7 F4
    (((try (show wpAny _ _ _ _ _ _; k_fold)); repeat' (first | (k_unfold; (try dsimp only)) | ((fail_if_success ((first | (with_reducible show wpAny _ _ (call (Value.ref 148) _ _) _ _ _) | (with_reducible show wpAny _ _ (call (Value.type "range") _ _) _ _ _) | ((first | (with_reducible show wpAny _ _ (call (Value.ref 102) _ _) _ _ _) | (with_reducible show wpAny _ _ (subscriptTail (Expr.Name (Str.ofString "words") _) _ _ _) _ _ _) | (with_reducible show wpAny _ _ (compareOp CmpOp.NotEq (Value.ref _) (Value.ref _)) _ _ _) | (with_reducible show wpAny _ _ (call (Value.ref 88) _ _) _ _ _) | (with_reducible show wpAny _ _ (call (Value.ref 143) _ _) _ _ _) | ((first | (with_reducible show wpAny _ _ (call (Value.ref 42) _ _) _ _ _) | ((first | (with_reducible show wpAny _ _ (call (Value.ref 122) _ _) _ _ _) | (with_reducible show wpAny _ _ (exec (Stmt.Assign [Expr.Name (Str.ofString "words") _] _ _) _) _ _ _) | ((first | (with_reducible show wpAny _ _ (eval (Expr.ListComp _ _ _ _) _) _ _ _) | ((first | (with_reducible show wpAny _ _ (call (Value.builtin "list.append") _ _) _ _ _) | ((first | (with_reducible show wpAny _ _ (call (Value.type "enumerate") _ _) _ _ _) | (first | (with_reducible show wpAny _ _ (call (Value.ref 65) _ _) _ _ _) | first | (with_reducible show wpAny _ _ (exec (Stmt.While _ _ _ _) _) _ _ _) | (with_reducible show wpAny _ _ (exec (Stmt.For _ _ _ _ _) _) _ _ _))))))))))))))))); first | walk1 | (dsimp only; walk1)) | fail "no step")))
    rename News _ _ _ _ => N6
    rename Fr _ _ _ _ => F6
    have N7 := news_out1 (l := (lo2, _) :: (lexLed w9 a n1 tn3 [] np3 p3 tp3 ++ [(lf2, _), (lt2, _), (lw, _), (Dt, _)])) N6
    dsimp only [lexLed, lexRest, readLed, List.cons_append, List.nil_append] at N7
    clear N6
    refine LCg.ListComp_U F6 (by with_unfolding_all rfl) (by decide) (by rfl) (by decide) (by rfl) ?_
    (((try (show wpAny _ _ _ _ _ _; k_fold)); repeat' (first | (k_unfold; (try dsimp only)) | ((fail_if_success ((first | (with_reducible show wpAny _ _ (call (Value.ref 148) _ _) _ _ _) | (with_reducible show wpAny _ _ (call (Value.type "range") _ _) _ _ _) | ((first | (with_reducible show wpAny _ _ (call (Value.ref 102) _ _) _ _ _) | (with_reducible show wpAny _ _ (subscriptTail (Expr.Name (Str.ofString "words") _) _ _ _) _ _ _) | (with_reducible show wpAny _ _ (compareOp CmpOp.NotEq (Value.ref _) (Value.ref _)) _ _ _) | (with_reducible show wpAny _ _ (call (Value.ref 88) _ _) _ _ _) | (with_reducible show wpAny _ _ (call (Value.ref 143) _ _) _ _ _) | ((first | (with_reducible show wpAny _ _ (call (Value.ref 42) _ _) _ _ _) | ((first | (with_reducible show wpAny _ _ (call (Value.ref 122) _ _) _ _ _) | (with_reducible show wpAny _ _ (exec (Stmt.Assign [Expr.Name (Str.ofString "words") _] _ _) _) _ _ _) | ((first | (with_reducible show wpAny _ _ (eval (Expr.ListComp _ _ _ _) _) _ _ _) | ((first | (with_reducible show wpAny _ _ (call (Value.builtin "list.append") _ _) _ _ _) | ((first | (with_reducible show wpAny _ _ (call (Value.type "enumerate") _ _) _ _ _) | (first | (with_reducible show wpAny _ _ (call (Value.ref 65) _ _) _ _ _) | first | (with_reducible show wpAny _ _ (exec (Stmt.While _ _ _ _) _) _ _ _) | (with_reducible show wpAny _ _ (exec (Stmt.For _ _ _ _ _) _) _ _ _))))))))))))))))); first | walk1 | (dsimp only; walk1)) | fail "no step")))
    walk1
    rename IsRange _ _ _ _ _ _ _ _ => hR
    rename News _ _ _ _ => N8
    rename Fr _ _ _ _ => F8
    refine LCg.CompSrc.range rfl F8 N8 hR (small_range ⟨by omega, by omega⟩ ⟨by omega, by omega⟩) (size_range (n := r) (by omega)) (by rw [sizeLine_eq]; omega) ?_
    intro g
    refine range_rest (fun i => ((most (C.take (i + 1)) S : Nat) : Int)) ?_ ?_
    · intro i t I oI C2 oC D2 m₂ ys2 h6 tk6 E' hi hC2 hx2 F2 N2 off ne mk
      clear F8 N8 hR
      (((try (show wpAny _ _ _ _ _ _; k_fold)); repeat' (first | (k_unfold; (try dsimp only)) | ((fail_if_success ((first | (with_reducible show wpAny _ _ (call (Value.ref 148) _ _) _ _ _) | (with_reducible show wpAny _ _ (call (Value.type "range") _ _) _ _ _) | ((first | (with_reducible show wpAny _ _ (call (Value.ref 102) _ _) _ _ _) | (with_reducible show wpAny _ _ (subscriptTail (Expr.Name (Str.ofString "words") _) _ _ _) _ _ _) | (with_reducible show wpAny _ _ (compareOp CmpOp.NotEq (Value.ref _) (Value.ref _)) _ _ _) | (with_reducible show wpAny _ _ (call (Value.ref 88) _ _) _ _ _) | (with_reducible show wpAny _ _ (call (Value.ref 143) _ _) _ _ _) | ((first | (with_reducible show wpAny _ _ (call (Value.ref 42) _ _) _ _ _) | ((first | (with_reducible show wpAny _ _ (call (Value.ref 122) _ _) _ _ _) | (with_reducible show wpAny _ _ (exec (Stmt.Assign [Expr.Name (Str.ofString "words") _] _ _) _) _ _ _) | ((first | (with_reducible show wpAny _ _ (eval (Expr.ListComp _ _ _ _) _) _ _ _) | ((first | (with_reducible show wpAny _ _ (call (Value.builtin "list.append") _ _) _ _ _) | ((first | (with_reducible show wpAny _ _ (call (Value.type "enumerate") _ _) _ _ _) | (first | (with_reducible show wpAny _ _ (call (Value.ref 65) _ _) _ _ _) | first | (with_reducible show wpAny _ _ (exec (Stmt.While _ _ _ _) _) _ _ _) | (with_reducible show wpAny _ _ (exec (Stmt.For _ _ _ _ _) _) _ _ _))))))))))))))))); first | walk1 | (dsimp only; walk1)) | fail "no step")))
      rename IntsAre _ _ => hI9
      rename News _ _ _ _ => N3
      rename Fr _ _ _ _ => F3
      rename_i D9 ws9 _ _ _ _
      have hI8 : IntsAre ws9 (zs (C.take (i + 1))) := by
        have e : zs (C.take (i + 1)) = st.take (1 + (i : Int)).toNat := by
          rw [← zC]; unfold zs
          rw [List.map_take, show (1 + (i : Int)).toNat = i + 1 by omega]
        rw [e]; exact hI9
      refine' Does.use (law_most_does (lt := Dz) (n := 0) (n' := yz.length) (C := S) (own := (I, oI) :: (C2, oC) :: (D2, LCg.lst ys2) :: _) hI8 (by rw [zS]; exact hsz) (by rw [List.length_take]; omega) (by omega)) ?B ?C ?F ?X ?N ?T ?hr ?hu ?_
      (case N =>
        have N3' := news_swap (news_out1 (l := [(_, _), (I, oI), (C2, oC), (D2, LCg.lst ys2)]) N3)
        exact N3')
      (((case B => k_asm); (case C => assumption); (case F => k_asm); (case X => k_asm); (case T => k_asm); (case hr => (first | exact Nat.lt_of_le_of_lt (Nat.add_le_add_left (by decide) _) (by assumption) | omega | ktr_room)); (case hu => (first | exact Nat.lt_of_le_of_lt (Nat.add_le_add_left (by decide) _) (by assumption) | ktr_units | omega))))
      intro r9 nw9 h9 tk9 F9 N9 H9
      obtain ⟨t9, rfl, rfl⟩ := H9
      have N10 := news_in1 (l := [(I, oI), (C2, oC), (D2, LCg.lst ys2)]) (news_sub N9 fun p hp => .tail _ hp)
      exact LCg.CompEnd.intro F9 N10 _ (fun _ h => h) off trivial ⟨rfl, _, rfl⟩
    · intro ys2 hys2
      unfold LCg.FinE
      intro D2 h6 tk6 F2 N2 off1
      dsimp only at F2 N2 ⊢
      clear F8 N8 hR
      refine ke_ne_ints (News.isList N2 (by k_mem)) (News.isList N2 (.head _)) hvo2 hys2 (by units_room) ?_
      rw [decide_eq_true rfl]
      (((try (show wpAny _ _ _ _ _ _; k_fold)); repeat' (first | (k_unfold; (try dsimp only)) | ((fail_if_success ((first | (with_reducible show wpAny _ _ (call (Value.ref 148) _ _) _ _ _) | (with_reducible show wpAny _ _ (call (Value.type "range") _ _) _ _ _) | ((first | (with_reducible show wpAny _ _ (call (Value.ref 102) _ _) _ _ _) | (with_reducible show wpAny _ _ (subscriptTail (Expr.Name (Str.ofString "words") _) _ _ _) _ _ _) | (with_reducible show wpAny _ _ (compareOp CmpOp.NotEq (Value.ref _) (Value.ref _)) _ _ _) | (with_reducible show wpAny _ _ (call (Value.ref 88) _ _) _ _ _) | (with_reducible show wpAny _ _ (call (Value.ref 143) _ _) _ _ _) | ((first | (with_reducible show wpAny _ _ (call (Value.ref 42) _ _) _ _ _) | ((first | (with_reducible show wpAny _ _ (call (Value.ref 122) _ _) _ _ _) | (with_reducible show wpAny _ _ (exec (Stmt.Assign [Expr.Name (Str.ofString "words") _] _ _) _) _ _ _) | ((first | (with_reducible show wpAny _ _ (eval (Expr.ListComp _ _ _ _) _) _ _ _) | ((first | (with_reducible show wpAny _ _ (call (Value.builtin "list.append") _ _) _ _ _) | ((first | (with_reducible show wpAny _ _ (call (Value.type "enumerate") _ _) _ _ _) | (first | (with_reducible show wpAny _ _ (call (Value.ref 65) _ _) _ _ _) | first | (with_reducible show wpAny _ _ (exec (Stmt.While _ _ _ _) _) _ _ _) | (with_reducible show wpAny _ _ (exec (Stmt.For _ _ _ _ _) _) _ _ _))))))))))))))))); first | walk1 | (dsimp only; walk1)) | fail "no step")))
      refine slice_from F2 N2 (by k_mem) (by omega) (by omega) ?_
      intro h4 lf3 F3 N3 hlf3
      k_lt hlf3
      clear F2 N2
      (((try (show wpAny _ _ _ _ _ _; k_fold)); repeat' (first | (k_unfold; (try dsimp only)) | ((fail_if_success ((first | (with_reducible show wpAny _ _ (call (Value.ref 136) _ _) _ _ _) | (with_reducible show wpAny _ _ (call (Value.ref 74) _ _) _ _ _) | (with_reducible show wpAny _ _ (call (Value.ref 95) _ _) _ _ _) | (with_reducible show ite _ _ _) | ((first | (with_reducible show wpAny _ _ (call (Value.ref 148) _ _) _ _ _) | (with_reducible show wpAny _ _ (call (Value.type "range") _ _) _ _ _) | ((first | (with_reducible show wpAny _ _ (call (Value.ref 102) _ _) _ _ _) | (with_reducible show wpAny _ _ (subscriptTail (Expr.Name (Str.ofString "words") _) _ _ _) _ _ _) | (with_reducible show wpAny _ _ (compareOp CmpOp.NotEq (Value.ref _) (Value.ref _)) _ _ _) | (with_reducible show wpAny _ _ (call (Value.ref 88) _ _) _ _ _) | (with_reducible show wpAny _ _ (call (Value.ref 143) _ _) _ _ _) | ((first | (with_reducible show wpAny _ _ (call (Value.ref 42) _ _) _ _ _) | ((first | (with_reducible show wpAny _ _ (call (Value.ref 122) _ _) _ _ _) | (with_reducible show wpAny _ _ (exec (Stmt.Assign [Expr.Name (Str.ofString "words") _] _ _) _) _ _ _) | ((first | (with_reducible show wpAny _ _ (eval (Expr.ListComp _ _ _ _) _) _ _ _) | ((first | (with_reducible show wpAny _ _ (call (Value.builtin "list.append") _ _) _ _ _) | ((first | (with_reducible show wpAny _ _ (call (Value.type "enumerate") _ _) _ _ _) | (first | (with_reducible show wpAny _ _ (call (Value.ref 65) _ _) _ _ _) | first | (with_reducible show wpAny _ _ (exec (Stmt.While _ _ _ _) _) _ _ _) | (with_reducible show wpAny _ _ (exec (Stmt.For _ _ _ _ _) _) _ _ _))))))))))))))))))); first | walk1 | (dsimp only; walk1)) | fail "no step")))
      refine' Does.use (law_row_does (nv := 0) (own := (D2, _) :: _) hvT hTlt (by omega)) ?B ?C ?F ?X ?N ?T ?hr ?hu ?_
      (case N => exact N3)
      (((case B => k_asm); (case C => assumption); (case F => k_asm); (case X => k_asm); (case T => k_asm); (case hr => (first | exact Nat.lt_of_le_of_lt (Nat.add_le_add_left (by decide) _) (by assumption) | omega | ktr_room)); (case hu => (first | exact Nat.lt_of_le_of_lt (Nat.add_le_add_left (by decide) _) (by assumption) | ktr_units | omega))))
      intro r9 nw9 h9 tk9 F9 N9 H9
      obtain ⟨lr, vr, nr, rfl, rfl, hvr, hlr1, hlr2⟩ := H9
      have N5 := news_sublist N9 (l' := [(lr, _), (Dt, _), (l, _), (_, _), (_, o2), (_, o1), (124, _)]) (by (repeat (first | exact List.Sublist.refl _ | refine List.Sublist.cons₂ _ ?_ | refine List.Sublist.cons _ ?_)))
      have hlr3 := allLt_mem hlr2
      have g1 : @LT.lt Nat instLTNat Dt lr := hlr3 (Dt, LCg.lst ys) (by k_mem)
      have g2 : @LT.lt Nat instLTNat l lr := hlr3 (l, ol) (by k_mem)
      clear N3 F3 N9 hlr3
      (((try (show wpAny _ _ _ _ _ _; k_fold)); repeat' (first | (k_unfold; (try dsimp only)) | ((fail_if_success ((first | (with_reducible show wpAny _ _ (call (Value.ref 136) _ _) _ _ _) | (with_reducible show wpAny _ _ (call (Value.ref 74) _ _) _ _ _) | (with_reducible show wpAny _ _ (call (Value.ref 95) _ _) _ _ _) | (with_reducible show ite _ _ _) | ((first | (with_reducible show wpAny _ _ (call (Value.ref 148) _ _) _ _ _) | (with_reducible show wpAny _ _ (call (Value.type "range") _ _) _ _ _) | ((first | (with_reducible show wpAny _ _ (call (Value.ref 102) _ _) _ _ _) | (with_reducible show wpAny _ _ (subscriptTail (Expr.Name (Str.ofString "words") _) _ _ _) _ _ _) | (with_reducible show wpAny _ _ (compareOp CmpOp.NotEq (Value.ref _) (Value.ref _)) _ _ _) | (with_reducible show wpAny _ _ (call (Value.ref 88) _ _) _ _ _) | (with_reducible show wpAny _ _ (call (Value.ref 143) _ _) _ _ _) | ((first | (with_reducible show wpAny _ _ (call (Value.ref 42) _ _) _ _ _) | ((first | (with_reducible show wpAny _ _ (call (Value.ref 122) _ _) _ _ _) | (with_reducible show wpAny _ _ (exec (Stmt.Assign [Expr.Name (Str.ofString "words") _] _ _) _) _ _ _) | ((first | (with_reducible show wpAny _ _ (eval (Expr.ListComp _ _ _ _) _) _ _ _) | ((first | (with_reducible show wpAny _ _ (call (Value.builtin "list.append") _ _) _ _ _) | ((first | (with_reducible show wpAny _ _ (call (Value.type "enumerate") _ _) _ _ _) | (first | (with_reducible show wpAny _ _ (call (Value.ref 65) _ _) _ _ _) | first | (with_reducible show wpAny _ _ (exec (Stmt.While _ _ _ _) _) _ _ _) | (with_reducible show wpAny _ _ (exec (Stmt.For _ _ _ _ _) _) _ _ _))))))))))))))))))); first | walk1 | (dsimp only; walk1)) | fail "no step")))
      rename News _ _ _ _ => N6
      rename Fr _ _ _ _ => F6
      refine For_any F6 ?_
      (((try (show wpAny _ _ _ _ _ _; k_fold)); repeat' (first | (k_unfold; (try dsimp only)) | ((fail_if_success ((first | (with_reducible show wpAny _ _ (call (Value.ref 136) _ _) _ _ _) | (with_reducible show wpAny _ _ (call (Value.ref 74) _ _) _ _ _) | (with_reducible show wpAny _ _ (call (Value.ref 95) _ _) _ _ _) | (with_reducible show ite _ _ _) | ((first | (with_reducible show wpAny _ _ (call (Value.ref 148) _ _) _ _ _) | (with_reducible show wpAny _ _ (call (Value.type "range") _ _) _ _ _) | ((first | (with_reducible show wpAny _ _ (call (Value.ref 102) _ _) _ _ _) | (with_reducible show wpAny _ _ (subscriptTail (Expr.Name (Str.ofString "words") _) _ _ _) _ _ _) | (with_reducible show wpAny _ _ (compareOp CmpOp.NotEq (Value.ref _) (Value.ref _)) _ _ _) | (with_reducible show wpAny _ _ (call (Value.ref 88) _ _) _ _ _) | (with_reducible show wpAny _ _ (call (Value.ref 143) _ _) _ _ _) | ((first | (with_reducible show wpAny _ _ (call (Value.ref 42) _ _) _ _ _) | ((first | (with_reducible show wpAny _ _ (call (Value.ref 122) _ _) _ _ _) | (with_reducible show wpAny _ _ (exec (Stmt.Assign [Expr.Name (Str.ofString "words") _] _ _) _) _ _ _) | ((first | (with_reducible show wpAny _ _ (eval (Expr.ListComp _ _ _ _) _) _ _ _) | ((first | (with_reducible show wpAny _ _ (call (Value.builtin "list.append") _ _) _ _ _) | ((first | (with_reducible show wpAny _ _ (call (Value.type "enumerate") _ _) _ _ _) | (first | (with_reducible show wpAny _ _ (call (Value.ref 65) _ _) _ _ _) | first | (with_reducible show wpAny _ _ (exec (Stmt.While _ _ _ _) _) _ _ _) | (with_reducible show wpAny _ _ (exec (Stmt.For _ _ _ _ _) _) _ _ _))))))))))))))))))); first | walk1 | (dsimp only; walk1)) | fail "no step")))
      walk1
      rename IsRange _ _ _ _ _ _ _ _ => hR
      rename News _ _ _ _ => N8
      rename Fr _ _ _ _ => F8
      have hrow := foldl_insW (ws := TW) RowOk.nil hTlt
      have hrowl : (rowW TW).length = r := by have := hrow.2; rw [List.length_nil, Nat.zero_add, hTl] at this; exact this
      have hc0 : capN C 0 = 0 := by
        have : ∀ T : List Nat, capN T 0 = 0 := by
          intro T
          induction T with
          | nil => rfl
          | cons x r ih => show min x 0 + capN r 0 = 0; rw [ih]; omega
        exact this C
      refine iter_rangeM rfl hR (small_range ⟨by omega, by omega⟩ ⟨by omega, by omega⟩) (n := h) (size_range (by omega)) (fun i m nw => InvK lr Dt l r vr nr C tr _ _ _ [(_, o2), (_, o1), (124, _)] i m nw) F8 N8
        ⟨_, _, _, by assumption, rfl, (show _ = some (Value.int ((0 : Nat) : Int) _) from rfl).trans (congrArg (fun k : Nat => some (Value.int (k : Int) _)) hc0.symm), rfl, rfl⟩ ?_ ?_
      · rintro it io i ti m₁ nw₁ h₁ tk₁ hlow hne hi ⟨oK, cK, tg, dK, rfl, e1, e2, e3⟩ F₁ N₁
        replace F₁ := frKnow F₁ [(Str.ofString "got", .int (capN C i : Nat) tg), (Str.ofString "row", .ref lr), (Str.ofString "rooms", .int (r : Int) tr)] (by simp [e1, e2, e3])
        have q1 : @LT.lt Nat instLTNat _ it := hlow _ (.head _)
        have q2 : @LT.lt Nat instLTNat _ it := hlow _ (.tail _ (.head _))
        have q3 : @LT.lt Nat instLTNat _ it := hlow _ (.tail _ (.tail _ (.head _)))
        have q4 : @LT.lt Nat instLTNat _ it := hlow _ (.tail _ (.tail _ (.tail _ (.head _))))
        dsimp only at q1 q2 q3 q4
        clear F8 N8 hR
        (((try (show wpAny _ _ _ _ _ _; k_fold)); repeat' (first | (k_unfold; (try dsimp only)) | ((fail_if_success ((first | (with_reducible show wpAny _ _ (call (Value.ref 136) _ _) _ _ _) | (with_reducible show wpAny _ _ (call (Value.ref 74) _ _) _ _ _) | (with_reducible show wpAny _ _ (call (Value.ref 95) _ _) _ _ _) | (with_reducible show ite _ _ _) | ((first | (with_reducible show wpAny _ _ (call (Value.ref 148) _ _) _ _ _) | (with_reducible show wpAny _ _ (call (Value.type "range") _ _) _ _ _) | ((first | (with_reducible show wpAny _ _ (call (Value.ref 102) _ _) _ _ _) | (with_reducible show wpAny _ _ (subscriptTail (Expr.Name (Str.ofString "words") _) _ _ _) _ _ _) | (with_reducible show wpAny _ _ (compareOp CmpOp.NotEq (Value.ref _) (Value.ref _)) _ _ _) | (with_reducible show wpAny _ _ (call (Value.ref 88) _ _) _ _ _) | (with_reducible show wpAny _ _ (call (Value.ref 143) _ _) _ _ _) | ((first | (with_reducible show wpAny _ _ (call (Value.ref 42) _ _) _ _ _) | ((first | (with_reducible show wpAny _ _ (call (Value.ref 122) _ _) _ _ _) | (with_reducible show wpAny _ _ (exec (Stmt.Assign [Expr.Name (Str.ofString "words") _] _ _) _) _ _ _) | ((first | (with_reducible show wpAny _ _ (eval (Expr.ListComp _ _ _ _) _) _ _ _) | ((first | (with_reducible show wpAny _ _ (call (Value.builtin "list.append") _ _) _ _ _) | ((first | (with_reducible show wpAny _ _ (call (Value.type "enumerate") _ _) _ _ _) | (first | (with_reducible show wpAny _ _ (call (Value.ref 65) _ _) _ _ _) | first | (with_reducible show wpAny _ _ (exec (Stmt.While _ _ _ _) _) _ _ _) | (with_reducible show wpAny _ _ (exec (Stmt.For _ _ _ _ _) _) _ _ _))))))))))))))))))); first | walk1 | (dsimp only; walk1)) | fail "no step")))
        rename News _ _ _ _ => N2
        refine' Does.use (bisect2_does (l := lr) (vs := vr) (n := nr) (ws := rowW TW) ?hl hvr hvr.length (by omega) hrow.1.2 hrow.1.1) ?B ?C ?F ?X ?N ?T ?hr ?hu ?_
        (case N => exact N2)
        (case hl => k_mem)
        (((case B => k_asm); (case C => assumption); (case F => k_asm); (case X => k_asm); (case T => k_asm); (case hr => (first | exact Nat.lt_of_le_of_lt (Nat.add_le_add_left (by decide) _) (by assumption) | omega | ktr_room)); (case hu => (first | exact Nat.lt_of_le_of_lt (Nat.add_le_add_left (by decide) _) (by assumption) | ktr_units | omega))))
        intro r9 nw9 h9 tk9 F9 N9 H9
        obtain ⟨⟨tq, rfl⟩, rfl⟩ := H9
        clear N2
        (((try (show wpAny _ _ _ _ _ _; k_fold)); repeat' (first | (k_unfold; (try dsimp only)) | ((fail_if_success ((first | (with_reducible show wpAny _ _ (call (Value.ref 136) _ _) _ _ _) | (with_reducible show wpAny _ _ (call (Value.ref 74) _ _) _ _ _) | (with_reducible show wpAny _ _ (call (Value.ref 95) _ _) _ _ _) | (with_reducible show ite _ _ _) | ((first | (with_reducible show wpAny _ _ (call (Value.ref 148) _ _) _ _ _) | (with_reducible show wpAny _ _ (call (Value.type "range") _ _) _ _ _) | ((first | (with_reducible show wpAny _ _ (call (Value.ref 102) _ _) _ _ _) | (with_reducible show wpAny _ _ (subscriptTail (Expr.Name (Str.ofString "words") _) _ _ _) _ _ _) | (with_reducible show wpAny _ _ (compareOp CmpOp.NotEq (Value.ref _) (Value.ref _)) _ _ _) | (with_reducible show wpAny _ _ (call (Value.ref 88) _ _) _ _ _) | (with_reducible show wpAny _ _ (call (Value.ref 143) _ _) _ _ _) | ((first | (with_reducible show wpAny _ _ (call (Value.ref 42) _ _) _ _ _) | ((first | (with_reducible show wpAny _ _ (call (Value.ref 122) _ _) _ _ _) | (with_reducible show wpAny _ _ (exec (Stmt.Assign [Expr.Name (Str.ofString "words") _] _ _) _) _ _ _) | ((first | (with_reducible show wpAny _ _ (eval (Expr.ListComp _ _ _ _) _) _ _ _) | ((first | (with_reducible show wpAny _ _ (call (Value.builtin "list.append") _ _) _ _ _) | ((first | (with_reducible show wpAny _ _ (call (Value.type "enumerate") _ _) _ _ _) | (first | (with_reducible show wpAny _ _ (call (Value.ref 65) _ _) _ _ _) | first | (with_reducible show wpAny _ _ (exec (Stmt.While _ _ _ _) _) _ _ _) | (with_reducible show wpAny _ _ (exec (Stmt.For _ _ _ _ _) _) _ _ _))))))))))))))))))); first | walk1 | (dsimp only; walk1)) | fail "no step")))
        rename News _ _ _ _ => N2
        refine' Does.use sub_does ?B ?C ?F ?X ?N ?T ?hr ?hu ?_
        (case N => exact N2)
        (((case B => k_asm); (case C => assumption); (case F => k_asm); (case X => k_asm); (case T => k_asm); (case hr => (first | exact Nat.lt_of_le_of_lt (Nat.add_le_add_left (by decide) _) (by assumption) | omega | ktr_room)); (case hu => (first | exact Nat.lt_of_le_of_lt (Nat.add_le_add_left (by decide) _) (by assumption) | ktr_units | omega))))
        intro r9 nw9 h9 tk9 F9 N9 H9
        obtain ⟨⟨ts, rfl⟩, rfl⟩ := H9
        clear N2
        (((try (show wpAny _ _ _ _ _ _; k_fold)); repeat' (first | (k_unfold; (try dsimp only)) | ((fail_if_success ((first | (with_reducible show wpAny _ _ (call (Value.ref 136) _ _) _ _ _) | (with_reducible show wpAny _ _ (call (Value.ref 74) _ _) _ _ _) | (with_reducible show wpAny _ _ (call (Value.ref 95) _ _) _ _ _) | (with_reducible show ite _ _ _) | ((first | (with_reducible show wpAny _ _ (call (Value.ref 148) _ _) _ _ _) | (with_reducible show wpAny _ _ (call (Value.type "range") _ _) _ _ _) | ((first | (with_reducible show wpAny _ _ (call (Value.ref 102) _ _) _ _ _) | (with_reducible show wpAny _ _ (subscriptTail (Expr.Name (Str.ofString "words") _) _ _ _) _ _ _) | (with_reducible show wpAny _ _ (compareOp CmpOp.NotEq (Value.ref _) (Value.ref _)) _ _ _) | (with_reducible show wpAny _ _ (call (Value.ref 88) _ _) _ _ _) | (with_reducible show wpAny _ _ (call (Value.ref 143) _ _) _ _ _) | ((first | (with_reducible show wpAny _ _ (call (Value.ref 42) _ _) _ _ _) | ((first | (with_reducible show wpAny _ _ (call (Value.ref 122) _ _) _ _ _) | (with_reducible show wpAny _ _ (exec (Stmt.Assign [Expr.Name (Str.ofString "words") _] _ _) _) _ _ _) | ((first | (with_reducible show wpAny _ _ (eval (Expr.ListComp _ _ _ _) _) _ _ _) | ((first | (with_reducible show wpAny _ _ (call (Value.builtin "list.append") _ _) _ _ _) | ((first | (with_reducible show wpAny _ _ (call (Value.type "enumerate") _ _) _ _ _) | (first | (with_reducible show wpAny _ _ (call (Value.ref 65) _ _) _ _ _) | first | (with_reducible show wpAny _ _ (exec (Stmt.While _ _ _ _) _) _ _ _) | (with_reducible show wpAny _ _ (exec (Stmt.For _ _ _ _ _) _) _ _ _))))))))))))))))))); first | walk1 | (dsimp only; walk1)) | fail "no step")))
        rename News _ _ _ _ => N2
        refine' Does.use add_does ?B ?C ?F ?X ?N ?T ?hr ?hu ?_
        (case N => exact N2)
        (((case B => k_asm); (case C => assumption); (case F => k_asm); (case X => k_asm); (case T => k_asm); (case hr => (first | exact Nat.lt_of_le_of_lt (Nat.add_le_add_left (by decide) _) (by assumption) | omega | ktr_room)); (case hu => (first | exact Nat.lt_of_le_of_lt (Nat.add_le_add_left (by decide) _) (by assumption) | ktr_units | omega))))
        intro r9 nw9 h9 tk9 F9 N9 H9
        obtain ⟨⟨ta, rfl⟩, rfl⟩ := H9
        clear N2
        (((try (show wpAny _ _ _ _ _ _; k_fold)); repeat' (first | (k_unfold; (try dsimp only)) | ((fail_if_success ((first | (with_reducible show wpAny _ _ (call (Value.ref 136) _ _) _ _ _) | (with_reducible show wpAny _ _ (call (Value.ref 74) _ _) _ _ _) | (with_reducible show wpAny _ _ (call (Value.ref 95) _ _) _ _ _) | (with_reducible show ite _ _ _) | ((first | (with_reducible show wpAny _ _ (call (Value.ref 148) _ _) _ _ _) | (with_reducible show wpAny _ _ (call (Value.type "range") _ _) _ _ _) | ((first | (with_reducible show wpAny _ _ (call (Value.ref 102) _ _) _ _ _) | (with_reducible show wpAny _ _ (subscriptTail (Expr.Name (Str.ofString "words") _) _ _ _) _ _ _) | (with_reducible show wpAny _ _ (compareOp CmpOp.NotEq (Value.ref _) (Value.ref _)) _ _ _) | (with_reducible show wpAny _ _ (call (Value.ref 88) _ _) _ _ _) | (with_reducible show wpAny _ _ (call (Value.ref 143) _ _) _ _ _) | ((first | (with_reducible show wpAny _ _ (call (Value.ref 42) _ _) _ _ _) | ((first | (with_reducible show wpAny _ _ (call (Value.ref 122) _ _) _ _ _) | (with_reducible show wpAny _ _ (exec (Stmt.Assign [Expr.Name (Str.ofString "words") _] _ _) _) _ _ _) | ((first | (with_reducible show wpAny _ _ (eval (Expr.ListComp _ _ _ _) _) _ _ _) | ((first | (with_reducible show wpAny _ _ (call (Value.builtin "list.append") _ _) _ _ _) | ((first | (with_reducible show wpAny _ _ (call (Value.type "enumerate") _ _) _ _ _) | (first | (with_reducible show wpAny _ _ (call (Value.ref 65) _ _) _ _ _) | first | (with_reducible show wpAny _ _ (exec (Stmt.While _ _ _ _) _) _ _ _) | (with_reducible show wpAny _ _ (exec (Stmt.For _ _ _ _ _) _) _ _ _))))))))))))))))))); first | walk1 | (dsimp only; walk1)) | fail "no step")))
        walk1
        (((try (show wpAny _ _ _ _ _ _; k_fold)); repeat' (first | (k_unfold; (try dsimp only)) | ((fail_if_success ((first | (with_reducible show wpAny _ _ (call (Value.ref 136) _ _) _ _ _) | (with_reducible show wpAny _ _ (call (Value.ref 74) _ _) _ _ _) | (with_reducible show wpAny _ _ (call (Value.ref 95) _ _) _ _ _) | (with_reducible show ite _ _ _) | ((first | (with_reducible show wpAny _ _ (call (Value.ref 148) _ _) _ _ _) | (with_reducible show wpAny _ _ (call (Value.type "range") _ _) _ _ _) | ((first | (with_reducible show wpAny _ _ (call (Value.ref 102) _ _) _ _ _) | (with_reducible show wpAny _ _ (subscriptTail (Expr.Name (Str.ofString "words") _) _ _ _) _ _ _) | (with_reducible show wpAny _ _ (compareOp CmpOp.NotEq (Value.ref _) (Value.ref _)) _ _ _) | (with_reducible show wpAny _ _ (call (Value.ref 88) _ _) _ _ _) | (with_reducible show wpAny _ _ (call (Value.ref 143) _ _) _ _ _) | ((first | (with_reducible show wpAny _ _ (call (Value.ref 42) _ _) _ _ _) | ((first | (with_reducible show wpAny _ _ (call (Value.ref 122) _ _) _ _ _) | (with_reducible show wpAny _ _ (exec (Stmt.Assign [Expr.Name (Str.ofString "words") _] _ _) _) _ _ _) | ((first | (with_reducible show wpAny _ _ (eval (Expr.ListComp _ _ _ _) _) _ _ _) | ((first | (with_reducible show wpAny _ _ (call (Value.builtin "list.append") _ _) _ _ _) | ((first | (with_reducible show wpAny _ _ (call (Value.type "enumerate") _ _) _ _ _) | (first | (with_reducible show wpAny _ _ (call (Value.ref 65) _ _) _ _ _) | first | (with_reducible show wpAny _ _ (exec (Stmt.While _ _ _ _) _) _ _ _) | (with_reducible show wpAny _ _ (exec (Stmt.For _ _ _ _ _) _) _ _ _))))))))))))))))))); first | walk1 | (dsimp only; walk1)) | fail "no step")))
        have hg0 : ∀ t, capG (rowW TW) t = capN C t := fun t => by rw [capG_rowW, capG_capN, hTW]
        have hgot : (capN C i : Int) + ((r : Int) - ((rowW TW).countP fun y => (y.length : Int) < 1 + (i : Int) : Nat)) = (capN C (i + 1) : Nat) := by
          have := capG_succ (rowW TW) i
          rw [hg0, hg0, hrowl, show ((i + 1 : Nat) : Int) = 1 + (i : Int) by omega] at this
          omega
        have hsum : (st.map fun k' => if 1 + (i : Int) < k' then 1 + (i : Int) else k').sum = (capN C (i + 1) : Nat) := by
          rw [← ints_cap, zC]
          congr 1
          apply List.map_congr_left
          intro c _
          split <;> omega
        refine ite_neg (by rw [hgot, hsum]; simp) ?_
        (((try (show wpAny _ _ _ _ _ _; k_fold)); repeat' (first | (k_unfold; (try dsimp only)) | ((fail_if_success ((first | (with_reducible show wpAny _ _ (call (Value.ref 136) _ _) _ _ _) | (with_reducible show wpAny _ _ (call (Value.ref 74) _ _) _ _ _) | (with_reducible show wpAny _ _ (call (Value.ref 95) _ _) _ _ _) | (with_reducible show ite _ _ _) | ((first | (with_reducible show wpAny _ _ (call (Value.ref 148) _ _) _ _ _) | (with_reducible show wpAny _ _ (call (Value.type "range") _ _) _ _ _) | ((first | (with_reducible show wpAny _ _ (call (Value.ref 102) _ _) _ _ _) | (with_reducible show wpAny _ _ (subscriptTail (Expr.Name (Str.ofString "words") _) _ _ _) _ _ _) | (with_reducible show wpAny _ _ (compareOp CmpOp.NotEq (Value.ref _) (Value.ref _)) _ _ _) | (with_reducible show wpAny _ _ (call (Value.ref 88) _ _) _ _ _) | (with_reducible show wpAny _ _ (call (Value.ref 143) _ _) _ _ _) | ((first | (with_reducible show wpAny _ _ (call (Value.ref 42) _ _) _ _ _) | ((first | (with_reducible show wpAny _ _ (call (Value.ref 122) _ _) _ _ _) | (with_reducible show wpAny _ _ (exec (Stmt.Assign [Expr.Name (Str.ofString "words") _] _ _) _) _ _ _) | ((first | (with_reducible show wpAny _ _ (eval (Expr.ListComp _ _ _ _) _) _ _ _) | ((first | (with_reducible show wpAny _ _ (call (Value.builtin "list.append") _ _) _ _ _) | ((first | (with_reducible show wpAny _ _ (call (Value.type "enumerate") _ _) _ _ _) | (first | (with_reducible show wpAny _ _ (call (Value.ref 65) _ _) _ _ _) | first | (with_reducible show wpAny _ _ (exec (Stmt.While _ _ _ _) _) _ _ _) | (with_reducible show wpAny _ _ (exec (Stmt.For _ _ _ _ _) _) _ _ _))))))))))))))))))); first | walk1 | (dsimp only; walk1)) | fail "no step")))
        dsimp only [TurnEnd]
        rename News _ _ _ _ => N5
        refine ⟨_, _, _, _, rfl, by assumption, news_sub N5 (fun p hp => .tail _ hp), ⟨_, _, _, by assumption, rfl, congrArg (fun z => some (Value.int z _)) hgot, rfl, rfl⟩, ?_⟩
        k_all
      · rintro m₁ nw₁ h₁ tk₁ ⟨oK, cK, tg, dK, rfl, e1, e2, e3⟩ F₁ N₁
        clear F8 N8 hR
        dsimp only
        walk1
        walk1
        walk1
        dsimp only
        exact hQ _ _ _ _ (by assumption) (by assumption) (by k_mem)
theorem main_holds : PySem.Challenge.rw_sw0031_01.Holds := by
  refine hd (by rfl) (by rfl) (by rfl) ?_
  k_go0
  (((try (show wpAny _ _ _ _ _ _; k_fold)); repeat' (first | (k_unfold; (try dsimp only)) | ((fail_if_success ((first | (with_reducible show wpAny _ _ (call (Value.type "enumerate") _ _) _ _ _) | (first | (with_reducible show wpAny _ _ (call (Value.ref 65) _ _) _ _ _) | first | (with_reducible show wpAny _ _ (exec (Stmt.While _ _ _ _) _) _ _ _) | (with_reducible show wpAny _ _ (exec (Stmt.For _ _ _ _ _) _) _ _ _))))); first | walk1 | (dsimp only; walk1)) | fail "no step")))
  refine For_enum ?_
  (((try (show wpAny _ _ _ _ _ _; k_fold)); repeat' (first | (k_unfold; (try dsimp only)) | ((fail_if_success ((first | (with_reducible show wpAny _ _ (call (Value.type "enumerate") _ _) _ _ _) | (first | (with_reducible show wpAny _ _ (call (Value.ref 65) _ _) _ _ _) | first | (with_reducible show wpAny _ _ (exec (Stmt.While _ _ _ _) _) _ _ _) | (with_reducible show wpAny _ _ (exec (Stmt.For _ _ _ _ _) _) _ _ _))))); first | walk1 | (dsimp only; walk1)) | fail "no step")))
  rename_i l _ l1 _ D ws' _ F1 N1 hws hlen hle hlt
  refine enum_listM (vs := ws') (n := 0) F1 N1 rfl rfl rfl rfl rfl (fun i m nw => ∃ (vs : List Value) (n : Nat) (ns : List Int), nw = (D, listOf ws'.toArray 0) :: (l, listOf vs.toArray n) :: [_, _, _, _] ∧ IntsAre vs ns ∧ ns.length = 9 ∧ m (Str.ofString "totals") = some (.ref l))
    ⟨_, _, [180, 0, 1, 2, 3, 1, 0, 2, 3], rfl, by repeat' constructor, rfl, rfl⟩ (fun i m nw hJ => by obtain ⟨vs, n, ns, rfl, _⟩ := hJ; exact .head _) ?_ ?_
  · rintro e eo it io i v ti m₁ nw₁ h₁ tk₁ hlow hne hei hv ⟨vs, n, ns, rfl, hns, h9, em⟩ F₂ N₂
    obtain ⟨k, t, rfl, hk⟩ := ints_item hws i v hv
    have F₃ := frKnow F₂ [(Str.ofString "totals", .ref l)] (List.forall_mem_cons.mpr ⟨em, nofun⟩)
    clear F₂ F1 N1
    (((try (show wpAny _ _ _ _ _ _; k_fold)); repeat' (first | (k_unfold; (try dsimp only)) | ((fail_if_success ((first | (with_reducible show wpAny _ _ (call (Value.type "enumerate") _ _) _ _ _) | (first | (with_reducible show wpAny _ _ (call (Value.ref 65) _ _) _ _ _) | first | (with_reducible show wpAny _ _ (exec (Stmt.While _ _ _ _) _) _ _ _) | (with_reducible show wpAny _ _ (exec (Stmt.For _ _ _ _ _) _) _ _ _))))); first | walk1 | (dsimp only; walk1)) | fail "no step")))
    rename News _ _ _ _ => N4
    rename Fr _ _ _ _ => F4
    have hfm : 0 ≤ (i : Int).fmod 9 ∧ (i : Int).fmod 9 < 9 := by rw [Int.fmod_eq_emod_of_nonneg _ (by decide)]; omega
    refine ksa_set (D := l) F4 (news_out1 (l := [(e, eo), (it, io), (D, listOf ws'.toArray 0)]) N4) (.head ?_) hns hfm.1 (by rw [h9]; exact hfm.2) (by omega) ?_
    · intro q hq
      simp only [List.mem_append, List.mem_cons, List.not_mem_nil, or_false] at hq
      have q1 := (hne (l, listOf vs.toArray n) (.tail _ (.head _)))
      rcases hq with (rfl | rfl | rfl) | (rfl | rfl | rfl | rfl)
      · exact Ne.symm q1.2
      · exact Ne.symm q1.1
      · exact Nat.ne_of_gt hlt.1
      · exact Nat.ne_of_lt l1.1
      · exact Nat.ne_of_lt l1.2.1
      · exact Nat.ne_of_lt l1.2.2.1
      · exact Nat.ne_of_lt l1.2.2.2
    · intro h5 F5 N5 hi5 hl5 _
      replace N5 := news_in1 N5
      clear F4 N4
      (((try (show wpAny _ _ _ _ _ _; k_fold)); repeat' (first | (k_unfold; (try dsimp only)) | ((fail_if_success ((first | (with_reducible show wpAny _ _ (call (Value.type "enumerate") _ _) _ _ _) | (first | (with_reducible show wpAny _ _ (call (Value.ref 65) _ _) _ _ _) | first | (with_reducible show wpAny _ _ (exec (Stmt.While _ _ _ _) _) _ _ _) | (with_reducible show wpAny _ _ (exec (Stmt.For _ _ _ _ _) _) _ _ _))))); first | walk1 | (dsimp only; walk1)) | fail "no step")))
      dsimp only [TurnEnd]
      refine ⟨_, _, _, _, rfl, by assumption, by assumption, ⟨_, n, _, rfl, hi5, by rw [hl5]; exact h9, rfl⟩, ?_⟩
      intro q hq
      rcases List.mem_cons.mp hq with rfl | hq
      · exact hne _ (.head _)
      rcases List.mem_cons.mp hq with rfl | hq
      · exact hne (l, listOf vs.toArray n) (.tail _ (.head _))
      · exact hne _ (.tail _ (.tail _ hq))
  · rintro m₁ nw₁ h₁ tk₁ ⟨vs, n, ns, rfl, hns, h9, em⟩ F₂ N₂
    have F₃ := frKnow F₂ [(Str.ofString "totals", .ref l)] (List.forall_mem_cons.mpr ⟨em, nofun⟩)
    clear F₂ F1 N1
    obtain ⟨t0, t1, t2, t3, t4, t5, t6, t7, t8, rfl⟩ := nine h9
    dsimp only
    (((try (show wpAny _ _ _ _ _ _; k_fold)); repeat' (first | (k_unfold; (try dsimp only)) | ((fail_if_success ((first | (with_reducible show wpAny _ _ (call (Value.type "enumerate") _ _) _ _ _) | (first | (with_reducible show wpAny _ _ (call (Value.ref 65) _ _) _ _ _) | first | (with_reducible show wpAny _ _ (exec (Stmt.While _ _ _ _) _) _ _ _) | (with_reducible show wpAny _ _ (exec (Stmt.For _ _ _ _ _) _) _ _ _))))); first | walk1 | (dsimp only; walk1)) | fail "no step")))
    rename (IntsAre _ (List.map (fun k' : Int => 1 + Int.fmod k' 5) _)) => hsz
    rename (IntsAre _ (List.map (fun k' : Int => 1 + Int.fmod k' 4) _)) => hst
    rename News _ _ _ _ => N1
    rename Fr _ _ _ _ => F1
    obtain ⟨h, hh⟩ : ∃ h : Nat, h = 3 + (t0.fmod 2).toNat := ⟨_, rfl⟩
    obtain ⟨r, hr⟩ : ∃ r : Nat, r = 3 + ((t0.fdiv 2).fmod 2).toNat := ⟨_, rfl⟩
    have b0 := fmod2 t0
    have b1 := fmod2 (t0.fdiv 2)
    have hhe : (3 : Int) + ([t0, t1, t2, t3, t4, t5, t6, t7, t8].getD (Int.toNat 0) 0).fmod 2 = (h : Int) := by
      show (3 : Int) + t0.fmod 2 = _
      omega
    have hre : (3 : Int) + (([t0, t1, t2, t3, t4, t5, t6, t7, t8].getD (Int.toNat 0) 0).fdiv 2).fmod 2 = (r : Int) := by
      show (3 : Int) + (t0.fdiv 2).fmod 2 = _
      omega
    replace F1 := frKnow F1 [(Str.ofString "homes", .int (h : Int) _), (Str.ofString "rooms", .int (r : Int) _)] (List.forall_mem_cons.mpr ⟨congrArg (fun z => some (Value.int z _)) hhe, List.forall_mem_cons.mpr ⟨congrArg (fun z => some (Value.int z _)) hre, nofun⟩⟩)
    obtain ⟨sz, hszE⟩ : ∃ z, z = List.map (fun k' : Int => 1 + k'.fmod 5) (List.take h [t1, t2, t3, t4, t5, t6, t7, t8]) := ⟨_, rfl⟩
    obtain ⟨st, hstE⟩ : ∃ z, z = List.map (fun k' : Int => 1 + k'.fmod 4) (List.take r [t5, t6, t7, t8]) := ⟨_, rfl⟩
    have hsz1 := sized5 h [t1, t2, t3, t4, t5, t6, t7, t8] (by simp; omega)
    have hst1 := sized4 r [t5, t6, t7, t8] (by simp; omega)
    rw [← hszE] at hsz1
    rw [← hstE] at hst1
    replace hsz := ints_cut hsz (show min (1 + (3 + t0.fmod 2)).toNat 9 - 1 = h by omega) hszE
    replace hst := ints_cut hst (show min (5 + (3 + (t0.fdiv 2).fmod 2)).toNat 9 - 5 = r by omega) hstE
    clear hhe hre
    rename_i D3 ws1 _ hI1 hC1 l12 q1 q2 q3 q4 q5 q6 _ yz hB1 hL1 Dz _ _ q7 _ o1 dz _ D1 ws0 _ hI0 hC0 l11 r1 r2 r3 r4 r5 r6 r7 r8 r9 r10 _ hB0 hL0 Dt _ _ o1t _ o2 dt _ ld _ ll _
    obtain ⟨ll1, ll2, ll3, ll4, ll5, ll6, ll7, ll8, ll9, ll10⟩ := ll
    have N2 := news_sublist N1 (l' := [(ld, listOf #[] 0), (Dt, LCg.lst ys), (Dz, LCg.lst yz), (l, listOf vs.toArray n), (_, _), (_, o2), (_, o1), (124, tabObj #[])]) (by (repeat (first | exact List.Sublist.refl _ | refine List.Sublist.cons₂ _ ?_ | refine List.Sublist.cons _ ?_)))
    clear hI1 hC1 l12 q1 q2 q3 q4 q5 q6 hB1 hL1 hI0 hC0 l11 r1 r2 r3 r4 r5 r6 r7 r8 r9 r10 hB0 hL0 N1
    have h34 : 3 ≤ h ∧ h ≤ 4 := by omega
    have r34 : 3 ≤ r ∧ r ≤ 4 := by omega
    clear hh hr b0 b1 hszE hstE hlen hle hlt
    refine For_enum ?_
    (((try (show wpAny _ _ _ _ _ _; k_fold)); repeat' (first | (k_unfold; (try dsimp only)) | ((fail_if_success ((first | (with_reducible show wpAny _ _ (call (Value.builtin "list.append") _ _) _ _ _) | ((first | (with_reducible show wpAny _ _ (call (Value.type "enumerate") _ _) _ _ _) | (first | (with_reducible show wpAny _ _ (call (Value.ref 65) _ _) _ _ _) | first | (with_reducible show wpAny _ _ (exec (Stmt.While _ _ _ _) _) _ _ _) | (with_reducible show wpAny _ _ (exec (Stmt.For _ _ _ _ _) _) _ _ _))))))); first | walk1 | (dsimp only; walk1)) | fail "no step")))
    rename_i DS wsm _ F1 N1 hsm lS
    have hnl : (sz ++ st).length ≤ 8 := by rw [List.length_append, hsz1.1, hst1.1]; omega
    refine enum_listM (vs := wsm) (n := 0) F1 N1 rfl rfl rfl rfl rfl (fun i m nw => InvD ld l h r DS wsm (dueW (sz ++ st)) [(Dt, LCg.lst ys), (Dz, LCg.lst yz), (l, listOf vs.toArray n), (_, _), (_, o2), (_, o1), (124, tabObj #[])] i m nw)
      ⟨[], 0, _, _, rfl, .nil, rfl, rfl, rfl, rfl⟩ (fun i m nw hJ => by obtain ⟨vd, nd, th, tr, rfl, _⟩ := hJ; exact .head _) ?_ ?_
    · rintro e eo it io i v ti m₁ nw₁ h₁ tk₁ hlow hne hei hv ⟨vd, nd, th, tr, rfl, hvd, e1, e2, e3, e4⟩ F₂ N₂
      obtain ⟨k, t, rfl, hk⟩ := ints_item hsm i v hv
      have hil : i < 8 := by have := (List.getElem?_eq_some_iff.mp hk).1; omega
      have hkb := sizes_at hsz1.2 hst1.2 hk
      have F₃ := frKnow F₂ [(Str.ofString "totals", .ref l), (Str.ofString "due", .ref ld), (Str.ofString "homes", .int (h : Int) th), (Str.ofString "rooms", .int (r : Int) tr)] (List.forall_mem_cons.mpr ⟨e1, List.forall_mem_cons.mpr ⟨e2, List.forall_mem_cons.mpr ⟨e3, List.forall_mem_cons.mpr ⟨e4, nofun⟩⟩⟩⟩)
      clear F₂ F1 N1
      (((try (show wpAny _ _ _ _ _ _; k_fold)); repeat' (first | (k_unfold; (try dsimp only)) | ((fail_if_success ((first | (with_reducible show wpAny _ _ (call (Value.builtin "list.append") _ _) _ _ _) | ((first | (with_reducible show wpAny _ _ (call (Value.type "enumerate") _ _) _ _ _) | (first | (with_reducible show wpAny _ _ (call (Value.ref 65) _ _) _ _ _) | first | (with_reducible show wpAny _ _ (exec (Stmt.While _ _ _ _) _) _ _ _) | (with_reducible show wpAny _ _ (exec (Stmt.For _ _ _ _ _) _) _ _ _))))))); first | walk1 | (dsimp only; walk1)) | fail "no step")))
      rename News _ _ _ _ => N4
      rename Fr _ _ _ _ => F4
      refine append_own (l := ld) F4 (news_out1 (l := [(e, eo), (it, io), (DS, listOf wsm.toArray 0)]) N4) ?_ (by rw [hvd.length, List.length_take]; omega) ?_
      · intro q hq
        simp only [List.mem_append, List.mem_cons, List.not_mem_nil, or_false] at hq
        have q1 := (hne (ld, listOf vd.toArray nd) (.tail _ (.head _)))
        rcases hq with (rfl | rfl | rfl) | (rfl | rfl | rfl | rfl | rfl | rfl | rfl)
        · exact Ne.symm q1.2
        · exact Ne.symm q1.1
        · exact Nat.ne_of_gt lS.1
        · exact Nat.ne_of_lt ll1
        · exact Nat.ne_of_lt ll3
        · exact Nat.ne_of_lt ll6
        · exact Nat.ne_of_lt ll7
        · exact Nat.ne_of_lt ll8
        · exact Nat.ne_of_lt ll9
        · exact Nat.ne_of_lt ll10
      · intro h5 F5 N5
        replace N5 := news_in1 N5
        clear F4 N4
        (((try (show wpAny _ _ _ _ _ _; k_fold)); repeat' (first | (k_unfold; (try dsimp only)) | ((fail_if_success ((first | (with_reducible show wpAny _ _ (call (Value.builtin "list.append") _ _) _ _ _) | ((first | (with_reducible show wpAny _ _ (call (Value.type "enumerate") _ _) _ _ _) | (first | (with_reducible show wpAny _ _ (call (Value.ref 65) _ _) _ _ _) | first | (with_reducible show wpAny _ _ (exec (Stmt.While _ _ _ _) _) _ _ _) | (with_reducible show wpAny _ _ (exec (Stmt.For _ _ _ _ _) _) _ _ _))))))); first | walk1 | (dsimp only; walk1)) | fail "no step")))
        dsimp only [TurnEnd]
        refine ⟨_, _, _, _, rfl, by assumption, by assumption, ⟨_, _, th, tr, rfl, ?_, rfl, rfl, rfl, rfl⟩, ?_⟩
        · rw [due_word hil, List.take_add_one, dueW_at hk]
          exact hvd.append' (strs_cons .nil)
        · intro q hq
          rcases List.mem_cons.mp hq with rfl | hq
          · exact hne _ (.head _)
          rcases List.mem_cons.mp hq with rfl | hq
          · exact hne (ld, listOf vd.toArray nd) (.tail _ (.head _))
          · exact hne _ (.tail _ (.tail _ hq))
    · rintro m₁ nw₁ h₁ tk₁ ⟨vd, nd, th, tr, rfl, hvd, e1, e2, e3, e4⟩ F₂ N₂
      have F₃ := frKnow F₂ [(Str.ofString "totals", .ref l), (Str.ofString "due", .ref ld), (Str.ofString "homes", .int (h : Int) th), (Str.ofString "rooms", .int (r : Int) tr)] (List.forall_mem_cons.mpr ⟨e1, List.forall_mem_cons.mpr ⟨e2, List.forall_mem_cons.mpr ⟨e3, List.forall_mem_cons.mpr ⟨e4, nofun⟩⟩⟩⟩)
      have hdl : (dueW (sz ++ st)).take wsm.length = dueW (sz ++ st) := by rw [hsm.length, ← dueW_length, List.take_length]
      rw [hdl] at hvd
      replace N₂ := news_sublist N₂ (l' := [(ld, listOf vd.toArray nd), (Dt, LCg.lst ys), (Dz, LCg.lst yz), (l, listOf vs.toArray n), (_, _), (_, o2), (_, o1), (124, tabObj #[])]) (by (repeat (first | exact List.Sublist.refl _ | refine List.Sublist.cons₂ _ ?_ | refine List.Sublist.cons _ ?_)))
      clear F₂ F1 N1 lS ll2 ll4 ll5 hsm hdl
      dsimp only
      (((try (show wpAny _ _ _ _ _ _; k_fold)); repeat' (first | (k_unfold; (try dsimp only)) | ((fail_if_success ((first | (with_reducible show wpAny _ _ (call (Value.builtin "list.append") _ _) _ _ _) | ((first | (with_reducible show wpAny _ _ (call (Value.type "enumerate") _ _) _ _ _) | (first | (with_reducible show wpAny _ _ (call (Value.ref 65) _ _) _ _ _) | first | (with_reducible show wpAny _ _ (exec (Stmt.While _ _ _ _) _) _ _ _) | (with_reducible show wpAny _ _ (exec (Stmt.For _ _ _ _ _) _) _ _ _))))))); first | walk1 | (dsimp only; walk1)) | fail "no step")))
      rename_i lp _ lpl _ F1 N1
      refine For_enum ?_
      (((try (show wpAny _ _ _ _ _ _; k_fold)); repeat' (first | (k_unfold; (try dsimp only)) | ((fail_if_success ((first | (with_reducible show wpAny _ _ (call (Value.ref 122) _ _) _ _ _) | (with_reducible show wpAny _ _ (exec (Stmt.Assign [Expr.Name (Str.ofString "words") _] _ _) _) _ _ _) | ((first | (with_reducible show wpAny _ _ (eval (Expr.ListComp _ _ _ _) _) _ _ _) | ((first | (with_reducible show wpAny _ _ (call (Value.builtin "list.append") _ _) _ _ _) | ((first | (with_reducible show wpAny _ _ (call (Value.type "enumerate") _ _) _ _ _) | (first | (with_reducible show wpAny _ _ (call (Value.ref 65) _ _) _ _ _) | first | (with_reducible show wpAny _ _ (exec (Stmt.While _ _ _ _) _) _ _ _) | (with_reducible show wpAny _ _ (exec (Stmt.For _ _ _ _ _) _) _ _ _))))))))))); first | walk1 | (dsimp only; walk1)) | fail "no step")))
      refine enum_listM (vs := vd) (n := nd) F1 N1 rfl rfl rfl rfl rfl (fun i m nw => InvQ lp ld l h r (dueL (sz ++ st)) [(ld, listOf vd.toArray nd), (Dt, LCg.lst ys), (Dz, LCg.lst yz), (l, listOf vs.toArray n), (_, _), (_, o2), (_, o1), (124, tabObj #[])] i m nw)
        ⟨[], 0, [], _, _, rfl, .nil, rfl, nofun, rfl, rfl, rfl, rfl, rfl⟩ (fun i m nw hJ => by obtain ⟨vp, np, ps, th, tr, rfl, _⟩ := hJ; exact .tail _ (.head _)) ?_ ?_
      · rintro e eo it io i v ti m₁ nw₁ h₁ tk₁ hlow hne hei hv ⟨vp, np, ps, th, tr, rfl, hvp, hpl, hpw, e1, e2, e3, e4, e5⟩ F₂ N₂
        obtain ⟨y, t, rfl, hy⟩ := hvd.item i v hv
        have F₃ := frKnow F₂ [(Str.ofString "totals", .ref l), (Str.ofString "due", .ref ld), (Str.ofString "homes", .int (h : Int) th), (Str.ofString "rooms", .int (r : Int) tr), (Str.ofString "pieces", .ref lp)] (List.forall_mem_cons.mpr ⟨e1, List.forall_mem_cons.mpr ⟨e2, List.forall_mem_cons.mpr ⟨e3, List.forall_mem_cons.mpr ⟨e4, List.forall_mem_cons.mpr ⟨e5, nofun⟩⟩⟩⟩⟩)
        have hil : i < (sz ++ st).length := by rw [← dueW_length]; exact (List.getElem?_eq_some_iff.mp hy).1
        have hi8 : i < 8 := by omega
        clear F₂ F1 N1
        (((try (show wpAny _ _ _ _ _ _; k_fold)); repeat' (first | (k_unfold; (try dsimp only)) | ((fail_if_success ((first | (with_reducible show wpAny _ _ (call (Value.ref 122) _ _) _ _ _) | (with_reducible show wpAny _ _ (exec (Stmt.Assign [Expr.Name (Str.ofString "words") _] _ _) _) _ _ _) | ((first | (with_reducible show wpAny _ _ (eval (Expr.ListComp _ _ _ _) _) _ _ _) | ((first | (with_reducible show wpAny _ _ (call (Value.builtin "list.append") _ _) _ _ _) | ((first | (with_reducible show wpAny _ _ (call (Value.type "enumerate") _ _) _ _ _) | (first | (with_reducible show wpAny _ _ (call (Value.ref 65) _ _) _ _ _) | first | (with_reducible show wpAny _ _ (exec (Stmt.While _ _ _ _) _) _ _ _) | (with_reducible show wpAny _ _ (exec (Stmt.For _ _ _ _ _) _) _ _ _))))))))))); first | walk1 | (dsimp only; walk1)) | fail "no step")))
        obtain ⟨k, hk⟩ : ∃ k, (sz ++ st)[i]? = some k := ⟨_, List.getElem?_eq_getElem hil⟩
        have hkb := sizes_at hsz1.2 hst1.2 hk
        have hyk : y = wd (List.replicate k.toNat (sgn i)) := by
          have := dueW_at hk
          rw [hy] at this
          exact Option.some.inj this
        subst hyk
        have hcl : (wd (List.replicate k.toNat (sgn i))).cps.toList = List.replicate k.toNat (sgn i) := by simp [wd]
        refine' Does.use (written_does (x := wd (List.replicate k.toNat (sgn i))) (by rw [wd_length, List.length_replicate]; omega) (by rw [hcl]; intro c hc; rw [(List.mem_replicate.mp hc).2]; exact sgn_mem i hi8)) ?B ?C ?F ?X ?N ?T ?hr ?hu ?_
        (((case B => k_asm); (case C => assumption); (case F => k_asm); (case X => k_asm); (case N => k_asm); (case T => k_asm); (case hr => (first | exact Nat.lt_of_le_of_lt (Nat.add_le_add_left (by decide) _) (by assumption) | omega | ktr_room)); (case hu => (first | exact Nat.lt_of_le_of_lt (Nat.add_le_add_left (by decide) _) (by assumption) | ktr_units | omega))))
        intro r9 nw9 h9 tk9 F9 N9 H9
        obtain ⟨t9, rfl, rfl⟩ := H9
        generalize hbq : (((([t0, t1, t2, t3, t4, t5, t6, t7, t8].getD (Int.toNat 0) 0).fdiv 4).fdiv (2 ^ ((i : Int)).toNat)).fmod 2 == 1) = bq at *
        rw [hcl] at *
        (((try (show wpAny _ _ _ _ _ _; k_fold)); repeat' (first | (k_unfold; (try dsimp only)) | ((fail_if_success ((first | (with_reducible show wpAny _ _ (call (Value.ref 122) _ _) _ _ _) | (with_reducible show wpAny _ _ (exec (Stmt.Assign [Expr.Name (Str.ofString "words") _] _ _) _) _ _ _) | ((first | (with_reducible show wpAny _ _ (eval (Expr.ListComp _ _ _ _) _) _ _ _) | ((first | (with_reducible show wpAny _ _ (call (Value.builtin "list.append") _ _) _ _ _) | ((first | (with_reducible show wpAny _ _ (call (Value.type "enumerate") _ _) _ _ _) | (first | (with_reducible show wpAny _ _ (call (Value.ref 65) _ _) _ _ _) | first | (with_reducible show wpAny _ _ (exec (Stmt.While _ _ _ _) _) _ _ _) | (with_reducible show wpAny _ _ (exec (Stmt.For _ _ _ _ _) _) _ _ _))))))))))); first | walk1 | (dsimp only; walk1)) | fail "no step")))
        rename News _ _ _ _ => N4
        rename Fr _ _ _ _ => F4
        have q1 := (hne (lp, listOf vp.toArray np) (.head _))
        have hvl : vp.length < 2 ^ 19 := by
          have := pieceL_len ((dueL (sz ++ st)).take i) ps
          rw [hvp.length, List.length_map]
          omega
        refine append_own (l := lp) F4 (news_out1 (l := [(e, eo), (it, io)]) N4) ?_ (by omega) ?_
        · intro q hq
          simp only [List.mem_append, List.mem_cons, List.not_mem_nil, or_false] at hq
          rcases hq with (rfl | rfl) | (rfl | rfl | rfl | rfl | rfl | rfl | rfl | rfl)
          · exact Ne.symm q1.2
          · exact Ne.symm q1.1
          · exact Nat.ne_of_lt lpl.1
          · exact Nat.ne_of_lt lpl.2.1
          · exact Nat.ne_of_lt lpl.2.2.1
          · exact Nat.ne_of_lt lpl.2.2.2.1
          · exact Nat.ne_of_lt lpl.2.2.2.2.1
          · exact Nat.ne_of_lt lpl.2.2.2.2.2.1
          · exact Nat.ne_of_lt lpl.2.2.2.2.2.2.1
          · exact Nat.ne_of_lt lpl.2.2.2.2.2.2.2
        intro h5 F5 N5
        replace N5 := news_in1 N5
        clear F4 N4
        have hfm := fmod4 (t0 + (i : Int))
        (((try (show wpAny _ _ _ _ _ _; k_fold)); repeat' (first | (k_unfold; (try dsimp only)) | ((fail_if_success ((first | (with_reducible show wpAny _ _ (call (Value.ref 122) _ _) _ _ _) | (with_reducible show wpAny _ _ (exec (Stmt.Assign [Expr.Name (Str.ofString "words") _] _ _) _) _ _ _) | ((first | (with_reducible show wpAny _ _ (eval (Expr.ListComp _ _ _ _) _) _ _ _) | ((first | (with_reducible show wpAny _ _ (call (Value.builtin "list.append") _ _) _ _ _) | ((first | (with_reducible show wpAny _ _ (call (Value.type "enumerate") _ _) _ _ _) | (first | (with_reducible show wpAny _ _ (call (Value.ref 65) _ _) _ _ _) | first | (with_reducible show wpAny _ _ (exec (Stmt.While _ _ _ _) _) _ _ _) | (with_reducible show wpAny _ _ (exec (Stmt.For _ _ _ _ _) _) _ _ _))))))))))); first | walk1 | (dsimp only; walk1)) | fail "no step")))
        rename News _ _ _ _ => N4
        rename Fr _ _ _ _ => F4
        refine append_own (l := lp) F4 (news_out1 (l := [(e, eo), (it, io)]) N4) ?_ (by simp; omega) ?_
        · intro q hq
          simp only [List.mem_append, List.mem_cons, List.not_mem_nil, or_false] at hq
          rcases hq with (rfl | rfl) | (rfl | rfl | rfl | rfl | rfl | rfl | rfl | rfl)
          · exact Ne.symm q1.2
          · exact Ne.symm q1.1
          · exact Nat.ne_of_lt lpl.1
          · exact Nat.ne_of_lt lpl.2.1
          · exact Nat.ne_of_lt lpl.2.2.1
          · exact Nat.ne_of_lt lpl.2.2.2.1
          · exact Nat.ne_of_lt lpl.2.2.2.2.1
          · exact Nat.ne_of_lt lpl.2.2.2.2.2.1
          · exact Nat.ne_of_lt lpl.2.2.2.2.2.2.1
          · exact Nat.ne_of_lt lpl.2.2.2.2.2.2.2
        intro h6 F6 N6
        replace N6 := news_in1 N6
        clear F4 N4
        (((try (show wpAny _ _ _ _ _ _; k_fold)); repeat' (first | (k_unfold; (try dsimp only)) | ((fail_if_success ((first | (with_reducible show wpAny _ _ (call (Value.ref 122) _ _) _ _ _) | (with_reducible show wpAny _ _ (exec (Stmt.Assign [Expr.Name (Str.ofString "words") _] _ _) _) _ _ _) | ((first | (with_reducible show wpAny _ _ (eval (Expr.ListComp _ _ _ _) _) _ _ _) | ((first | (with_reducible show wpAny _ _ (call (Value.builtin "list.append") _ _) _ _ _) | ((first | (with_reducible show wpAny _ _ (call (Value.type "enumerate") _ _) _ _ _) | (first | (with_reducible show wpAny _ _ (call (Value.ref 65) _ _) _ _ _) | first | (with_reducible show wpAny _ _ (exec (Stmt.While _ _ _ _) _) _ _ _) | (with_reducible show wpAny _ _ (exec (Stmt.For _ _ _ _ _) _) _ _ _))))))))))); first | walk1 | (dsimp only; walk1)) | fail "no step")))
        dsimp only [TurnEnd]
        obtain ⟨c, hc, hcw⟩ := sep_word (a := t0 + (i : Int))
        refine ⟨_, _, _, _, rfl, by assumption, by assumption, ⟨_, _, ps ++ [(bq, c)], th, tr, rfl, ?_, by simp [hpl], ?_, rfl, rfl, rfl, rfl, rfl⟩, ?_⟩
        · rw [List.take_add_one, dueL_at hk]
          rw [Option.toList_some, pieceL_snoc (by rw [List.length_take, dueL_length, hpl]; omega), List.map_append, List.append_assoc]
          refine hvp.append' (strs_cons ?_)
          show StrsAre [Value.str (Txt.item (Str.ofString " \n\t\r") ((t0 + (i : Int)).fmod 4)) _] [wd [c]]
          rw [hc]
          exact strs_cons .nil
        · intro p hp
          rcases List.mem_append.mp hp with hp | hp
          · exact hpw p hp
          · obtain rfl := List.mem_singleton.mp hp; exact hcw
        · intro q hq
          rcases List.mem_cons.mp hq with rfl | hq
          · exact hne (lp, listOf vp.toArray np) (.head _)
          · exact hne _ (.tail _ hq)
      · rintro m₁ nw₁ h₁ tk₁ ⟨vp, np, ps, th, tr, rfl, hvp, hpl, hpw, e1, e2, e3, e4, e5⟩ F₂ N₂
        have F₃ := frKnow F₂ [(Str.ofString "totals", .ref l), (Str.ofString "due", .ref ld), (Str.ofString "homes", .int (h : Int) th), (Str.ofString "rooms", .int (r : Int) tr), (Str.ofString "pieces", .ref lp)] (List.forall_mem_cons.mpr ⟨e1, List.forall_mem_cons.mpr ⟨e2, List.forall_mem_cons.mpr ⟨e3, List.forall_mem_cons.mpr ⟨e4, List.forall_mem_cons.mpr ⟨e5, nofun⟩⟩⟩⟩⟩)
        have hdl : (dueL (sz ++ st)).take vd.length = dueL (sz ++ st) := by rw [hvd.length, dueW_length, ← dueL_length, List.take_length]
        rw [hdl] at hvp
        clear F₂ F1 N1 hdl
        dsimp only
        (((try (show wpAny _ _ _ _ _ _; k_fold)); repeat' (first | (k_unfold; (try dsimp only)) | ((fail_if_success ((first | (with_reducible show wpAny _ _ (call (Value.ref 122) _ _) _ _ _) | (with_reducible show wpAny _ _ (exec (Stmt.Assign [Expr.Name (Str.ofString "words") _] _ _) _) _ _ _) | ((first | (with_reducible show wpAny _ _ (eval (Expr.ListComp _ _ _ _) _) _ _ _) | ((first | (with_reducible show wpAny _ _ (call (Value.builtin "list.append") _ _) _ _ _) | ((first | (with_reducible show wpAny _ _ (call (Value.type "enumerate") _ _) _ _ _) | (first | (with_reducible show wpAny _ _ (call (Value.ref 65) _ _) _ _ _) | first | (with_reducible show wpAny _ _ (exec (Stmt.While _ _ _ _) _) _ _ _) | (with_reducible show wpAny _ _ (exec (Stmt.For _ _ _ _ _) _) _ _ _))))))))))); first | walk1 | (dsimp only; walk1)) | fail "no step")))
        have hpc := pieceL_size (dueL (sz ++ st)) ps (dueL_le (sz ++ st) (fun x hx => by rcases List.mem_append.mp hx with h | h; exact (hsz1.2 x h).2; have := (hst1.2 x h).2; omega))
        have hpn : (dueL (sz ++ st)).length ≤ 8 := by rw [dueL_length]; exact hnl
        refine join_list (News.isList N₂ (.head _)) hvp ?_ ?_
        · rw [empty_length, Nat.mul_zero]
          have := sum_wd' (pieceL (dueL (sz ++ st)) ps)
          omega
        · intro t' k'
          rw [join_wd]
          obtain ⟨tx, htx⟩ : ∃ z, z = (pieceL (dueL (sz ++ st)) ps).flatten := ⟨_, rfl⟩
          rw [← htx] at hpc ⊢
          have htl : (wd tx).length < 2 ^ 20 := by rw [wd_length]; omega
          replace N₂ := news_sublist N₂ (l' := [(ld, listOf vd.toArray nd), (Dt, LCg.lst ys), (Dz, LCg.lst yz), (l, listOf vs.toArray n), (_, _), (_, o2), (_, o1), (124, tabObj #[])]) (by (repeat (first | exact List.Sublist.refl _ | refine List.Sublist.cons₂ _ ?_ | refine List.Sublist.cons _ ?_)))
          (((try (show wpAny _ _ _ _ _ _; k_fold)); repeat' (first | (k_unfold; (try dsimp only)) | ((fail_if_success ((first | (with_reducible show wpAny _ _ (call (Value.ref 122) _ _) _ _ _) | (with_reducible show wpAny _ _ (exec (Stmt.Assign [Expr.Name (Str.ofString "words") _] _ _) _) _ _ _) | ((first | (with_reducible show wpAny _ _ (eval (Expr.ListComp _ _ _ _) _) _ _ _) | ((first | (with_reducible show wpAny _ _ (call (Value.builtin "list.append") _ _) _ _ _) | ((first | (with_reducible show wpAny _ _ (call (Value.type "enumerate") _ _) _ _ _) | (first | (with_reducible show wpAny _ _ (call (Value.ref 65) _ _) _ _ _) | first | (with_reducible show wpAny _ _ (exec (Stmt.While _ _ _ _) _) _ _ _) | (with_reducible show wpAny _ _ (exec (Stmt.For _ _ _ _ _) _) _ _ _))))))))))); first | walk1 | (dsimp only; walk1)) | fail "no step")))
          rename News _ _ _ _ => N1
          rename Fr _ _ _ _ => F1
          rename World => w9
          refine pack_lex (prog := PySem.Challenge.rw_sw0031_01.row.prog) (w := w9) (a := ⟨?pka1, ?pka2, ?pka3, ?pka4, ?pka5, ?pka6, ?pka7, ?pka8, ?pka9, ?pka10, ?pka11, ?pkb1, ?pkb5, ?pkb6, ?pkb7, ?pkb2, ?pkb3, ?pkb4, ?pkc1, ?pkc2, ?pkc3, ?pkc4, ?pkc5, ?pkc6, ?pkc7, ?pkc8, ?pkc9, ?pkc10, ?pkc11, ?pkc12, 0⟩) (tn := ?pkd1) (tp := ?pkd2) (rest := ?pkd3) (x := wd tx) N1 ?pke ?pkup ?pkrd ?pkoff ?pkmain
          case pke =>
            dsimp only [lexLed, lexRest, readLed, List.cons_append, List.nil_append]
            repeat (first | (refine List.cons_eq_cons.mpr ⟨by rfl, ?_⟩))
            rfl
          case pkup => refine ⟨?_, ?_, ?_, ?_, ?_, ?_, ?_, ?_, ?_, ?_⟩ <;> (dsimp only; omega)
          case pkrd =>
            intro p' tp t own hoff hp
            unfold Does
            intro p loose mean mg mb dp un gd cn sn ig ic sm a ccd cl outer A₀ base h₀ L m s Q E B CH F X N T hroom hunit hret
            dsimp only [readLed, List.cons_append, List.nil_append] at N hret
            k_dflt kn_enter
            (((try (show wpAny _ _ _ _ _ _; k_fold)); repeat' (first | (k_unfold; (try dsimp only)) | ((fail_if_success ((first | (with_reducible show wpAny _ _ (call (Value.ref 122) _ _) _ _ _) | (with_reducible show wpAny _ _ (exec (Stmt.Assign [Expr.Name (Str.ofString "words") _] _ _) _) _ _ _) | ((first | (with_reducible show wpAny _ _ (eval (Expr.ListComp _ _ _ _) _) _ _ _) | ((first | (with_reducible show wpAny _ _ (call (Value.builtin "list.append") _ _) _ _ _) | ((first | (with_reducible show wpAny _ _ (call (Value.type "enumerate") _ _) _ _ _) | (first | (with_reducible show wpAny _ _ (call (Value.ref 65) _ _) _ _ _) | first | (with_reducible show wpAny _ _ (exec (Stmt.While _ _ _ _) _) _ _ _) | (with_reducible show wpAny _ _ (exec (Stmt.For _ _ _ _ _) _) _ _ _))))))))))); first | walk1 | (dsimp only; walk1)) | fail "no step")))
            have e9 : ([[(p' : Int)].getD (Int.toNat 0) 0 + 1].getD (Int.toNat 0) 0 - 1) = (p' : Int) := by simp
            rw [e9]
            exact hret _ _ _ _ (by assumption) (by assumption) ⟨_, _, congrArg (fun z => Value.str z _) (slice1 (wd tx) p'), rfl⟩
          case pkoff =>
            intro q hq
            simp only [List.mem_cons, List.not_mem_nil, or_false] at hq
            rcases hq with rfl | rfl | rfl | rfl | rfl | rfl | rfl | rfl <;> (dsimp only; omega)
          case pkmain =>
            intro a tnl tpl hax N2 hup hrd hoffa
            clear N1
            dsimp only at hax
            rw [← hax] at F1
            dsimp only [lexLed, lexRest, readLed, List.cons_append, List.nil_append] at N2
            walk1
            (((try (show wpAny _ _ _ _ _ _; k_fold)); repeat' (first | (k_unfold; (try dsimp only)) | ((fail_if_success ((first | (with_reducible show wpAny _ _ (call (Value.ref 42) _ _) _ _ _) | ((first | (with_reducible show wpAny _ _ (call (Value.ref 122) _ _) _ _ _) | (with_reducible show wpAny _ _ (exec (Stmt.Assign [Expr.Name (Str.ofString "words") _] _ _) _) _ _ _) | ((first | (with_reducible show wpAny _ _ (eval (Expr.ListComp _ _ _ _) _) _ _ _) | ((first | (with_reducible show wpAny _ _ (call (Value.builtin "list.append") _ _) _ _ _) | ((first | (with_reducible show wpAny _ _ (call (Value.type "enumerate") _ _) _ _ _) | (first | (with_reducible show wpAny _ _ (call (Value.ref 65) _ _) _ _ _) | first | (with_reducible show wpAny _ _ (exec (Stmt.While _ _ _ _) _) _ _ _) | (with_reducible show wpAny _ _ (exec (Stmt.For _ _ _ _ _) _) _ _ _))))))))))))); first | walk1 | (dsimp only; walk1)) | fail "no step")))
            rename_i lw _ lwl _ F1 N1
            have hlwa : ∀ b ∈ a.all, b < lw := by
              obtain ⟨b1, b2, b3, b4, b5, b6, b7, b8, b9, b10, b11, _⟩ := lwl
              intro b hb
              simp only [LexA.all, List.mem_cons, List.not_mem_nil, or_false] at hb
              rcases hb with rfl | rfl | rfl | rfl | rfl | rfl | rfl | rfl | rfl | rfl | rfl <;> assumption
            obtain ⟨_, _, _, _, _, _, _, _, _, _, _, lw1, lw2, lw3, lw4, lw5, lw6, lw7, lw8⟩ := lwl
            have hdne : ∀ u ∈ dueL (sz ++ st), u ≠ [] := dueL_ne fun x hx => by
              rcases List.mem_append.mp hx with h | h
              · exact (hsz1.2 x h).1
              · exact (hst1.2 x h).1
            have hrem0 : Rem (wd tx) (1 + tx.count 10) [] (dueL (sz ++ st)) ps 0 1 :=
              ⟨by rw [List.drop_zero, List.nil_append, ← htx]; simp [wd], by rw [List.nil_append, ← htx], nofun, by rw [hpl, hvd.length, dueW_dueL, List.length_map], hpw, hdne⟩
            refine' Does.use (token_w_does (n := 1) (tn := tnl) (tp := tpl) (np := 0) (p := 0) (own := (lw, listOf #[] 0) :: _) hup hrd (off_cons (off_notin hlwa) hoffa) htl hrem0 (Nat.zero_le _)) ?B ?C ?F ?X ?N ?T ?hr ?hu ?_
            (case N => exact news_in1 (l := lexLed w9 a 1 tnl [] 0 0 tpl) N1)
            (((case B => k_asm); (case C => assumption); (case F => k_asm); (case X => k_asm); (case T => k_asm); (case hr => (first | exact Nat.lt_of_le_of_lt (Nat.add_le_add_left (by decide) _) (by assumption) | omega | ktr_room)); (case hu => (first | exact Nat.lt_of_le_of_lt (Nat.add_le_add_left (by decide) _) (by assumption) | ktr_units | omega))))
            intro r9 nw9 h9 tk9 F9 N9 H9
            obtain ⟨tb, tt, n1, tn1, p1, tp1, rfl, rfl, hnx, hp1⟩ := H9
            clear F1 N1
            (((try (show wpAny _ _ _ _ _ _; k_fold)); repeat' (first | (k_unfold; (try dsimp only)) | ((fail_if_success ((first | (with_reducible show wpAny _ _ (call (Value.ref 42) _ _) _ _ _) | ((first | (with_reducible show wpAny _ _ (call (Value.ref 122) _ _) _ _ _) | (with_reducible show wpAny _ _ (exec (Stmt.Assign [Expr.Name (Str.ofString "words") _] _ _) _) _ _ _) | ((first | (with_reducible show wpAny _ _ (eval (Expr.ListComp _ _ _ _) _) _ _ _) | ((first | (with_reducible show wpAny _ _ (call (Value.builtin "list.append") _ _) _ _ _) | ((first | (with_reducible show wpAny _ _ (call (Value.type "enumerate") _ _) _ _ _) | (first | (with_reducible show wpAny _ _ (call (Value.ref 65) _ _) _ _ _) | first | (with_reducible show wpAny _ _ (exec (Stmt.While _ _ _ _) _) _ _ _) | (with_reducible show wpAny _ _ (exec (Stmt.For _ _ _ _ _) _) _ _ _))))))))))))); first | walk1 | (dsimp only; walk1)) | fail "no step")))
            rename Fr _ _ _ _ => F6
            rename News _ _ _ _ => N6
            refine While_inv2 (fun k m nw => InvW w9 a lw ld h r th tr t' tx (dueL (sz ++ st)) _ k m nw) F6 N6
              ⟨[], dueL (sz ++ st), [], 0, tb, tt, n1, tn1, p1, tp1, rfl, rfl, .nil, rfl, hnx, hp1, rfl, rfl, rfl, rfl, rfl, rfl, rfl⟩ ?_
            clear F6 N6 hnx hp1
            rintro k m₁ nx h₁ tk₁ F₁ N₁ ⟨done, rs, vw, nw0, tb, tt, n1, tn1, p1, tp1, rfl, rfl, hvw, hdr, hnx, hp1, e0, e1, e2, e3, e4, e5, e6⟩
            replace F₁ := frKnow F₁ [(Str.ofString "lexer", .ref a.x), (Str.ofString "words", .ref lw), (Str.ofString "due", .ref ld), (Str.ofString "homes", .int (h : Int) th), (Str.ofString "rooms", .int (r : Int) tr), (Str.ofString "text", .str (wd tx) t'), (Str.ofString "word", .str tb tt)] (by simp [e0, e1, e2, e3, e4, e5, e6])
            rcases hnx with ⟨rfl, rfl, hn1, hdrop, hpb⟩ | ⟨t, ts', pre, ps', rfl, rfl, hrem⟩
            · dsimp only [lexLed, lexRest, readLed, List.cons_append, List.nil_append] at N₁
              repeat' (first | (k_unfold; (try dsimp only)) | ((fail_if_success (with_reducible show wpAny _ _ (execs (List.cons (Stmt.If _ _ _ _) _) _) _ _ _)); first | walk1 | (dsimp only; walk1)) | fail "no step")
              have hvw' : StrsAre vw ((dueL (sz ++ st)).map wd) := by rw [← hdr, List.append_nil]; exact hvw
              have hvd' : StrsAre vd ((dueL (sz ++ st)).map wd) := by rw [← dueW_dueL]; exact hvd
              have hasc : (wd tx).cps.all (· < 128) = true := wd_ascii (by rw [htx]; exact pieceL_lt dueL_lt hpw)
              rename Fr _ _ _ _ => F9
              rename News _ _ _ _ => N9
              rename CodeHd _ _ _ => C9
              refine tail_law (a := a) (tx := tx) (n1 := n1) (tn1 := tn1) (p1 := p1) (tp1 := tp1) (lw := lw) (ld := ld) (l := l) (Dt := Dt) (Dz := Dz) (nw0 := nw0) (nd := nd) (vw := vw) (vd := vd) (ys := ys) (yz := yz) (sz := sz) (st := st) (o1 := o1) (o2 := o2) rfl rfl (by assumption) C9 F9 (by assumption) N9 (by assumption) hup hrd htl hasc hpb hdrop hn1 hlwa hoffa hvw' hvd' hdne hsz1 hst1 hsz hst h34 r34 (by rfl) (by rfl) (by rfl) (by rfl) (by rfl) (by rfl) dz dt (by assumption) lw1 lw2 lw3 lw4 lw5 lw8 ll1 ll3 ll6 q7.2.2.1 q7.2.2.2.1 q7.2.2.2.2.1 q7.2.2.2.2.2.1 q7.2.2.2.2.2.2 o1t.2.1 o1t.2.2.2.2.1 o1t.2.2.2.2.2.1 o1t.2.2.2.2.2.2.1 o1t.2.2.2.2.2.2.2.1 o1t.2.2.2.2.2.2.2.2 l1.1 (by assumption) (by with_unfolding_all passes_own) ?_
              intro m9 nw9 h9 tk9 F8 N8 hm8
              clear F9 N9
              exact ⟨law_good (by assumption) F8, law_grown N8 hm8⟩
            · have htne : t ≠ [] := hdne t (by rw [← hdr]; exact List.mem_append_right _ (.head _))
              have hzb : (wd t != Str.ofString "") = true := by
                have : wd t ≠ Str.ofString "" := fun e => htne (by have := congrArg (fun z : Str => z.cps.toList) e; rw [empty_wd] at this; simpa [wd] using this)
                simpa using this
              have hdl : done.length ≤ 8 := by
                have := congrArg List.length hdr
                rw [List.length_append, dueL_length] at this
                omega
              dsimp only [lexLed, lexRest, readLed, List.cons_append, List.nil_append] at N₁
              (((try (show wpAny _ _ _ _ _ _; k_fold)); repeat' (first | (k_unfold; (try dsimp only)) | ((fail_if_success ((first | (with_reducible show wpAny _ _ (call (Value.ref 42) _ _) _ _ _) | ((first | (with_reducible show wpAny _ _ (call (Value.ref 122) _ _) _ _ _) | (with_reducible show wpAny _ _ (exec (Stmt.Assign [Expr.Name (Str.ofString "words") _] _ _) _) _ _ _) | ((first | (with_reducible show wpAny _ _ (eval (Expr.ListComp _ _ _ _) _) _ _ _) | ((first | (with_reducible show wpAny _ _ (call (Value.builtin "list.append") _ _) _ _ _) | ((first | (with_reducible show wpAny _ _ (call (Value.type "enumerate") _ _) _ _ _) | (first | (with_reducible show wpAny _ _ (call (Value.ref 65) _ _) _ _ _) | first | (with_reducible show wpAny _ _ (exec (Stmt.While _ _ _ _) _) _ _ _) | (with_reducible show wpAny _ _ (exec (Stmt.For _ _ _ _ _) _) _ _ _))))))))))))); first | walk1 | (dsimp only; walk1)) | fail "no step")))
              rename News _ _ _ _ => N4
              rename Fr _ _ _ _ => F4
              refine append_own (l := lw) F4 (news_out1 (l := lexLed w9 a n1 tn1 [] 0 p1 tp1) N4) ?_ (by rw [hvw.length, List.length_map]; omega) ?_
              · refine led_ne (off_notin hlwa) ?_
                intro q hq
                simp only [List.mem_cons, List.not_mem_nil, or_false] at hq
                rcases hq with rfl | rfl | rfl | rfl | rfl | rfl | rfl | rfl
                · exact Nat.ne_of_lt lw1
                · exact Nat.ne_of_lt lw2
                · exact Nat.ne_of_lt lw3
                · exact Nat.ne_of_lt lw4
                · exact Nat.ne_of_lt lw5
                · exact Nat.ne_of_lt lw6
                · exact Nat.ne_of_lt lw7
                · exact Nat.ne_of_lt lw8
              intro h5 F5 N5
              replace N5 := news_in1 N5
              dsimp only [lexLed, lexRest, readLed, List.cons_append, List.nil_append] at N5
              clear F4 N4
              (((try (show wpAny _ _ _ _ _ _; k_fold)); repeat' (first | (k_unfold; (try dsimp only)) | ((fail_if_success ((first | (with_reducible show wpAny _ _ (call (Value.ref 42) _ _) _ _ _) | ((first | (with_reducible show wpAny _ _ (call (Value.ref 122) _ _) _ _ _) | (with_reducible show wpAny _ _ (exec (Stmt.Assign [Expr.Name (Str.ofString "words") _] _ _) _) _ _ _) | ((first | (with_reducible show wpAny _ _ (eval (Expr.ListComp _ _ _ _) _) _ _ _) | ((first | (with_reducible show wpAny _ _ (call (Value.builtin "list.append") _ _) _ _ _) | ((first | (with_reducible show wpAny _ _ (call (Value.type "enumerate") _ _) _ _ _) | (first | (with_reducible show wpAny _ _ (call (Value.ref 65) _ _) _ _ _) | first | (with_reducible show wpAny _ _ (exec (Stmt.While _ _ _ _) _) _ _ _) | (with_reducible show wpAny _ _ (exec (Stmt.For _ _ _ _ _) _) _ _ _))))))))))))); first | walk1 | (dsimp only; walk1)) | fail "no step")))
              rename News _ _ _ _ => N4
              refine' Does.use (token_w_does (n := n1) (tn := tn1) (tp := tp1) (np := 0) (p := p1) (own := (lw, listOf (vw ++ [Value.str (wd t) tt]).toArray (nw0 + 1)) :: _) hup hrd (off_cons (off_notin hlwa) hoffa) htl hrem (hp1 nofun)) ?B ?C ?F ?X ?N ?T ?hr ?hu ?_
              (case N => exact N4)
              (((case B => k_asm); (case C => assumption); (case F => k_asm); (case X => k_asm); (case T => k_asm); (case hr => (first | exact Nat.lt_of_le_of_lt (Nat.add_le_add_left (by decide) _) (by assumption) | omega | ktr_room)); (case hu => (first | exact Nat.lt_of_le_of_lt (Nat.add_le_add_left (by decide) _) (by assumption) | ktr_units | omega))))
              intro r9 nw9 h9 tk9 F9 N9 H9
              obtain ⟨tb2, tt2, n2, tn2, p2, tp2, rfl, rfl, hnx2, hp2⟩ := H9
              clear N4
              (((try (show wpAny _ _ _ _ _ _; k_fold)); repeat' (first | (k_unfold; (try dsimp only)) | ((fail_if_success ((first | (with_reducible show wpAny _ _ (call (Value.ref 42) _ _) _ _ _) | ((first | (with_reducible show wpAny _ _ (call (Value.ref 122) _ _) _ _ _) | (with_reducible show wpAny _ _ (exec (Stmt.Assign [Expr.Name (Str.ofString "words") _] _ _) _) _ _ _) | ((first | (with_reducible show wpAny _ _ (eval (Expr.ListComp _ _ _ _) _) _ _ _) | ((first | (with_reducible show wpAny _ _ (call (Value.builtin "list.append") _ _) _ _ _) | ((first | (with_reducible show wpAny _ _ (call (Value.type "enumerate") _ _) _ _ _) | (first | (with_reducible show wpAny _ _ (call (Value.ref 65) _ _) _ _ _) | first | (with_reducible show wpAny _ _ (exec (Stmt.While _ _ _ _) _) _ _ _) | (with_reducible show wpAny _ _ (exec (Stmt.For _ _ _ _ _) _) _ _ _))))))))))))); first | walk1 | (dsimp only; walk1)) | fail "no step")))
              dsimp only [WhileStep2]
              refine ⟨_, _, _, _, _, rfl, by assumption, by assumption, Nat.lt_succ_self _, done ++ [t], ts', _, _, tb2, tt2, n2, tn2, p2, tp2, rfl, rfl, ?_, by rw [← hdr]; simp, hnx2, hp2, rfl, rfl, rfl, rfl, rfl, rfl, rfl⟩
              rw [List.map_append]
              exact hvw.append' (strs_cons .nil)
end Mine
theorem PySem.Challenge.cw_sw0031_01_holds : PySem.Challenge.rw_sw0031_01.Holds :=
  Mine.main_holds
