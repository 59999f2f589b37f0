import PyProof.Rows.All
import Wide.All
import OpenK.AllK
import Wide.FinOn
import PySem.Challenge.RW_xg0051_01
open PySem PySem.W PyProof.Rows PySem.Calls PySem.Spec
set_option Elab.async false
set_option maxRecDepth 100000
set_option maxHeartbeats 8000000
set_option linter.all false


set_option compiler.extract_closed false
namespace Mine
section
/- Frag -/
noncomputable def progBody : List Stmt := Challenge.rw_xg0051_01.row.prog.main.body
noncomputable def fnParts (l : List Stmt) (i : Nat) : Arguments × List Stmt × Scope := match l[i]? with
  | some (.FunctionDef _ a b _ _ _ sc _ _ _) => (a, b, sc)
  | _ => default
noncomputable def clsBody (l : List Stmt) (i : Nat) : List Stmt := match l[i]? with
  | some (.ClassDef _ _ _ b _ _ _ _ _ _ _) => b
  | _ => []
noncomputable def o2 (P : Params) : Obj := { cls := Value.none, data := Data.dict #[] }
noncomputable def o3 (P : Params) : Obj := { cls := Value.type "dict", data := Data.dict #[{ hash := PyData.keyHash P (Str.ofString "__name__"), key := Value.str (Str.ofString "__name__") 165, val := Value.str (Str.ofString "law_xg0051_01") 431 }, { hash := PyData.keyHash P (Str.ofString "__doc__"), key := Value.str (Str.ofString "__doc__") 166, val := Value.none }, { hash := PyData.keyHash P (Str.ofString "__package__"), key := Value.str (Str.ofString "__package__") 167, val := Value.none }, { hash := PyData.keyHash P (Str.ofString "__loader__"), key := Value.str (Str.ofString "__loader__") 168, val := Value.builtin "__main__.__loader__#opaque" }, { hash := PyData.keyHash P (Str.ofString "__spec__"), key := Value.str (Str.ofString "__spec__") 169, val := Value.none }, { hash := PyData.keyHash P (Str.ofString "__annotations__"), key := Value.str (Str.ofString "__annotations__") 170, val := Value.ref 6 }, { hash := PyData.keyHash P (Str.ofString "__builtins__"), key := Value.str (Str.ofString "__builtins__") 171, val := Value.ref 4 }, { hash := PyData.keyHash P (Str.ofString "__file__"), key := Value.str (Str.ofString "__file__") 173, val := Value.str (Str.ofString "/claim/cut.py") 172 }, { hash := PyData.keyHash P (Str.ofString "__cached__"), key := Value.str (Str.ofString "__cached__") 174, val := Value.none }, { hash := PyData.keyHash P (Str.ofString "_wall"), key := Value.str (Str.ofString "_wall") 193, val := Value.ref 21 }, { hash := PyData.keyHash P (Str.ofString "contains"), key := Value.str (Str.ofString "contains") 203, val := Value.ref 28 }, { hash := PyData.keyHash P (Str.ofString "countOf"), key := Value.str (Str.ofString "countOf") 213, val := Value.ref 35 }, { hash := PyData.keyHash P (Str.ofString "indexOf"), key := Value.str (Str.ofString "indexOf") 223, val := Value.ref 42 }, { hash := PyData.keyHash P (Str.ofString "EMPTYSTRING"), key := Value.str (Str.ofString "EMPTYSTRING") 227, val := Value.str (Str.ofString "") 226 }, { hash := PyData.keyHash P (Str.ofString "_Accumulator"), key := Value.str (Str.ofString "_Accumulator") 321, val := Value.ref 120 }, { hash := PyData.keyHash P (Str.ofString "TupleComp"), key := Value.str (Str.ofString "TupleComp") 365, val := Value.ref 148 }, { hash := PyData.keyHash P (Str.ofString "add_func_stats"), key := Value.str (Str.ofString "add_func_stats") 383, val := Value.ref 159 }, { hash := PyData.keyHash P (Str.ofString "add_callers"), key := Value.str (Str.ofString "add_callers") 394, val := Value.ref 166 }, { hash := PyData.keyHash P (Str.ofString "_MAX_STRING_SIZE"), key := Value.str (Str.ofString "_MAX_STRING_SIZE") 398, val := Value.int 40 397 }, { hash := PyData.keyHash P (Str.ofString "_MOVE_COST"), key := Value.str (Str.ofString "_MOVE_COST") 400, val := Value.int 2 399 }, { hash := PyData.keyHash P (Str.ofString "_CASE_COST"), key := Value.str (Str.ofString "_CASE_COST") 402, val := Value.int 1 401 }, { hash := PyData.keyHash P (Str.ofString "_substitution_cost"), key := Value.str (Str.ofString "_substitution_cost") 410, val := Value.ref 173 }, { hash := PyData.keyHash P (Str.ofString "_levenshtein_distance"), key := Value.str (Str.ofString "_levenshtein_distance") 430, val := Value.ref 180 }, { hash := PyData.keyHash P (Str.ofString "_law_word"), key := Value.str (Str.ofString "_law_word") 438, val := Value.ref 185 }, { hash := PyData.keyHash P (Str.ofString "_law_laid"), key := Value.str (Str.ofString "_law_laid") 444, val := Value.ref 190 }, { hash := PyData.keyHash P (Str.ofString "_law_moved"), key := Value.str (Str.ofString "_law_moved") 450, val := Value.ref 195 }, { hash := PyData.keyHash P (Str.ofString "_law_triangle"), key := Value.str (Str.ofString "_law_triangle") 465, val := Value.ref 202 }, { hash := PyData.keyHash P (Str.ofString "_law_turned"), key := Value.str (Str.ofString "_law_turned") 479, val := Value.ref 209 }, { hash := PyData.keyHash P (Str.ofString "_law_rows"), key := Value.str (Str.ofString "_law_rows") 492, val := Value.ref 216 }, { hash := PyData.keyHash P (Str.ofString "law"), key := Value.str (Str.ofString "law") 498, val := Value.ref 221 }] 30 }
noncomputable def o15 (P : Params) : Obj := { cls := Value.type "tuple", data := Data.seq #[] }
noncomputable def o17 (P : Params) : Obj := { cls := Value.type "tuple", data := Data.seq #[Value.str (Str.ofString "k") 190] }
noncomputable def o18 (P : Params) : Obj := { cls := Value.type "tuple", data := Data.seq #[] }
noncomputable def o20 (P : Params) : Obj := { cls := Value.type "code", data := Data.fields #[Value.str (Str.ofString "_wall") 187, Value.str (Str.ofString "_wall") 188, Value.str (Str.ofString "/claim/cut.py") 189, Value.int 1 0, Value.int 1 0, Value.int 0 0, Value.int 0 0, Value.int 3 0, Value.ref 15, Value.bool Bool.true, Value.int 181 0, Value.ref 16, Value.none, Value.ref 17, Value.ref 18, Value.ref 19, Value.int 191 0, Value.int 1 0, Value.str (Str.ofString "/claim/cut.py") 192] }
noncomputable def o21 (P : Params) : Obj := by
  refine (fun (fa : Arguments) (fb : List Stmt) (fs : Scope) (_ : fnParts progBody 0 = (fa, fb, fs)) => ({ cls := Value.type "function", data := Data.func { name := Str.ofString "_wall", qualname := Str.ofString "_wall", params := fa, body := FuncBody.stmts fb, scope := fs, globals := 3, closure := [], defaults := Value.none, kwdefaults := Value.none, pyModule := Value.str (Str.ofString "__main__") 164, code := Value.ref 20 } } : Obj)) ?fa ?fb ?fs ?fe
  rotate_left 3
  · conv => lhs; whnf
noncomputable def o22 (P : Params) : Obj := { cls := Value.type "tuple", data := Data.seq #[] }
noncomputable def o24 (P : Params) : Obj := { cls := Value.type "tuple", data := Data.seq #[Value.str (Str.ofString "a") 199, Value.str (Str.ofString "b") 200] }
noncomputable def o25 (P : Params) : Obj := { cls := Value.type "tuple", data := Data.seq #[] }
noncomputable def o27 (P : Params) : Obj := { cls := Value.type "code", data := Data.fields #[Value.str (Str.ofString "contains") 196, Value.str (Str.ofString "contains") 197, Value.str (Str.ofString "/claim/cut.py") 198, Value.int 5 0, Value.int 2 0, Value.int 0 0, Value.int 0 0, Value.int 3 0, Value.ref 22, Value.bool Bool.true, Value.int 181 0, Value.ref 23, Value.none, Value.ref 24, Value.ref 25, Value.ref 26, Value.int 201 0, Value.int 5 0, Value.str (Str.ofString "/claim/cut.py") 202] }
noncomputable def o28 (P : Params) : Obj := by
  refine (fun (fa : Arguments) (fb : List Stmt) (fs : Scope) (_ : fnParts progBody 2 = (fa, fb, fs)) => ({ cls := Value.type "function", data := Data.func { name := Str.ofString "contains", qualname := Str.ofString "contains", params := fa, body := FuncBody.stmts fb, scope := fs, globals := 3, closure := [], defaults := Value.none, kwdefaults := Value.none, pyModule := Value.str (Str.ofString "cpy313.operator") 194, code := Value.ref 27 } } : Obj)) ?fa ?fb ?fs ?fe
  rotate_left 3
  · conv => lhs; whnf
noncomputable def o29 (P : Params) : Obj := { cls := Value.type "tuple", data := Data.seq #[] }
noncomputable def o31 (P : Params) : Obj := { cls := Value.type "tuple", data := Data.seq #[Value.str (Str.ofString "a") 207, Value.str (Str.ofString "b") 208, Value.str (Str.ofString "count") 209, Value.str (Str.ofString "i") 210] }
noncomputable def o32 (P : Params) : Obj := { cls := Value.type "tuple", data := Data.seq #[] }
noncomputable def o34 (P : Params) : Obj := { cls := Value.type "code", data := Data.fields #[Value.str (Str.ofString "countOf") 204, Value.str (Str.ofString "countOf") 205, Value.str (Str.ofString "/claim/cut.py") 206, Value.int 7 0, Value.int 2 0, Value.int 0 0, Value.int 0 0, Value.int 3 0, Value.ref 29, Value.bool Bool.true, Value.int 181 0, Value.ref 30, Value.none, Value.ref 31, Value.ref 32, Value.ref 33, Value.int 211 0, Value.int 7 0, Value.str (Str.ofString "/claim/cut.py") 212] }
noncomputable def o35 (P : Params) : Obj := by
  refine (fun (fa : Arguments) (fb : List Stmt) (fs : Scope) (_ : fnParts progBody 3 = (fa, fb, fs)) => ({ cls := Value.type "function", data := Data.func { name := Str.ofString "countOf", qualname := Str.ofString "countOf", params := fa, body := FuncBody.stmts fb, scope := fs, globals := 3, closure := [], defaults := Value.none, kwdefaults := Value.none, pyModule := Value.str (Str.ofString "cpy313.operator") 194, code := Value.ref 34 } } : Obj)) ?fa ?fb ?fs ?fe
  rotate_left 3
  · conv => lhs; whnf
noncomputable def o36 (P : Params) : Obj := { cls := Value.type "tuple", data := Data.seq #[] }
noncomputable def o38 (P : Params) : Obj := { cls := Value.type "tuple", data := Data.seq #[Value.str (Str.ofString "a") 217, Value.str (Str.ofString "b") 218, Value.str (Str.ofString "i") 219, Value.str (Str.ofString "j") 220] }
noncomputable def o39 (P : Params) : Obj := { cls := Value.type "tuple", data := Data.seq #[] }
noncomputable def o41 (P : Params) : Obj := { cls := Value.type "code", data := Data.fields #[Value.str (Str.ofString "indexOf") 214, Value.str (Str.ofString "indexOf") 215, Value.str (Str.ofString "/claim/cut.py") 216, Value.int 13 0, Value.int 2 0, Value.int 0 0, Value.int 0 0, Value.int 3 0, Value.ref 36, Value.bool Bool.true, Value.int 181 0, Value.ref 37, Value.none, Value.ref 38, Value.ref 39, Value.ref 40, Value.int 221 0, Value.int 13 0, Value.str (Str.ofString "/claim/cut.py") 222] }
noncomputable def o42 (P : Params) : Obj := by
  refine (fun (fa : Arguments) (fb : List Stmt) (fs : Scope) (_ : fnParts progBody 4 = (fa, fb, fs)) => ({ cls := Value.type "function", data := Data.func { name := Str.ofString "indexOf", qualname := Str.ofString "indexOf", params := fa, body := FuncBody.stmts fb, scope := fs, globals := 3, closure := [], defaults := Value.none, kwdefaults := Value.none, pyModule := Value.str (Str.ofString "cpy313.operator") 194, code := Value.ref 41 } } : Obj)) ?fa ?fb ?fs ?fe
  rotate_left 3
  · conv => lhs; whnf
noncomputable def o43 (P : Params) : Obj := { cls := Value.type "tuple", data := Data.seq #[Value.type "list"] }
noncomputable def o46 (P : Params) : Obj := { cls := Value.type "cell", data := Data.cell (Option.some (Value.ref 120)) }
noncomputable def o51 (P : Params) : Obj := { cls := Value.type "tuple", data := Data.seq #[Value.int 0 240] }
noncomputable def o52 (P : Params) : Obj := { cls := Value.type "tuple", data := Data.seq #[Value.ref 46] }
noncomputable def o53 (P : Params) : Obj := { cls := Value.type "tuple", data := Data.seq #[Value.str (Str.ofString "__class__") 244] }
noncomputable def o55 (P : Params) : Obj := { cls := Value.type "tuple", data := Data.seq #[Value.str (Str.ofString "self") 245, Value.str (Str.ofString "initial_size") 246] }
noncomputable def o56 (P : Params) : Obj := { cls := Value.type "tuple", data := Data.seq #[] }
noncomputable def o58 (P : Params) : Obj := { cls := Value.type "code", data := Data.fields #[Value.str (Str.ofString "__init__") 241, Value.str (Str.ofString "_Accumulator.__init__") 242, Value.str (Str.ofString "/claim/cut.py") 243, Value.int 23 0, Value.int 2 0, Value.int 0 0, Value.int 0 0, Value.int 3 0, Value.ref 53, Value.bool Bool.true, Value.int 181 0, Value.ref 54, Value.none, Value.ref 55, Value.ref 56, Value.ref 57, Value.int 247 0, Value.int 23 0, Value.str (Str.ofString "/claim/cut.py") 248] }
noncomputable def o59 (P : Params) : Obj := by
  refine (fun (fa : Arguments) (fb : List Stmt) (fs : Scope) (_ : fnParts (clsBody progBody 7) 0 = (fa, fb, fs)) => ({ cls := Value.type "function", data := Data.func { name := Str.ofString "__init__", qualname := Str.ofString "_Accumulator.__init__", params := fa, body := FuncBody.stmts fb, scope := fs, globals := 3, closure := [(Str.ofString "__class__", 46)], defaults := Value.ref 51, kwdefaults := Value.none, pyModule := Value.str (Str.ofString "cpy313.email.header") 224, code := Value.ref 58, closureTuple := Value.ref 52 } } : Obj)) ?fa ?fb ?fs ?fe
  rotate_left 3
  · conv => lhs; whnf
noncomputable def o60 (P : Params) : Obj := { cls := Value.type "tuple", data := Data.seq #[] }
noncomputable def o62 (P : Params) : Obj := { cls := Value.type "tuple", data := Data.seq #[Value.str (Str.ofString "self") 253, Value.str (Str.ofString "fws") 254, Value.str (Str.ofString "string") 255] }
noncomputable def o63 (P : Params) : Obj := { cls := Value.type "tuple", data := Data.seq #[] }
noncomputable def o65 (P : Params) : Obj := { cls := Value.type "code", data := Data.fields #[Value.str (Str.ofString "push") 250, Value.str (Str.ofString "_Accumulator.push") 251, Value.str (Str.ofString "/claim/cut.py") 252, Value.int 27 0, Value.int 3 0, Value.int 0 0, Value.int 0 0, Value.int 3 0, Value.ref 60, Value.bool Bool.true, Value.int 181 0, Value.ref 61, Value.none, Value.ref 62, Value.ref 63, Value.ref 64, Value.int 256 0, Value.int 27 0, Value.str (Str.ofString "/claim/cut.py") 257] }
noncomputable def o66 (P : Params) : Obj := by
  refine (fun (fa : Arguments) (fb : List Stmt) (fs : Scope) (_ : fnParts (clsBody progBody 7) 1 = (fa, fb, fs)) => ({ cls := Value.type "function", data := Data.func { name := Str.ofString "push", qualname := Str.ofString "_Accumulator.push", params := fa, body := FuncBody.stmts fb, scope := fs, globals := 3, closure := [], defaults := Value.none, kwdefaults := Value.none, pyModule := Value.str (Str.ofString "cpy313.email.header") 224, code := Value.ref 65 } } : Obj)) ?fa ?fb ?fs ?fe
  rotate_left 3
  · conv => lhs; whnf
noncomputable def o67 (P : Params) : Obj := { cls := Value.type "tuple", data := Data.seq #[Value.int 0 259] }
noncomputable def o68 (P : Params) : Obj := { cls := Value.type "tuple", data := Data.seq #[] }
noncomputable def o70 (P : Params) : Obj := { cls := Value.type "tuple", data := Data.seq #[Value.str (Str.ofString "self") 263, Value.str (Str.ofString "i") 264, Value.str (Str.ofString "popped") 265] }
noncomputable def o71 (P : Params) : Obj := { cls := Value.type "tuple", data := Data.seq #[] }
noncomputable def o73 (P : Params) : Obj := { cls := Value.type "code", data := Data.fields #[Value.str (Str.ofString "pop_from") 260, Value.str (Str.ofString "_Accumulator.pop_from") 261, Value.str (Str.ofString "/claim/cut.py") 262, Value.int 30 0, Value.int 2 0, Value.int 0 0, Value.int 0 0, Value.int 3 0, Value.ref 68, Value.bool Bool.true, Value.int 181 0, Value.ref 69, Value.none, Value.ref 70, Value.ref 71, Value.ref 72, Value.int 266 0, Value.int 30 0, Value.str (Str.ofString "/claim/cut.py") 267] }
noncomputable def o74 (P : Params) : Obj := by
  refine (fun (fa : Arguments) (fb : List Stmt) (fs : Scope) (_ : fnParts (clsBody progBody 7) 2 = (fa, fb, fs)) => ({ cls := Value.type "function", data := Data.func { name := Str.ofString "pop_from", qualname := Str.ofString "_Accumulator.pop_from", params := fa, body := FuncBody.stmts fb, scope := fs, globals := 3, closure := [], defaults := Value.ref 67, kwdefaults := Value.none, pyModule := Value.str (Str.ofString "cpy313.email.header") 224, code := Value.ref 73 } } : Obj)) ?fa ?fb ?fs ?fe
  rotate_left 3
  · conv => lhs; whnf
noncomputable def o75 (P : Params) : Obj := { cls := Value.type "tuple", data := Data.seq #[] }
noncomputable def o77 (P : Params) : Obj := { cls := Value.type "tuple", data := Data.seq #[Value.str (Str.ofString "self") 272] }
noncomputable def o78 (P : Params) : Obj := { cls := Value.type "tuple", data := Data.seq #[] }
noncomputable def o80 (P : Params) : Obj := { cls := Value.type "code", data := Data.fields #[Value.str (Str.ofString "pop") 269, Value.str (Str.ofString "_Accumulator.pop") 270, Value.str (Str.ofString "/claim/cut.py") 271, Value.int 35 0, Value.int 1 0, Value.int 0 0, Value.int 0 0, Value.int 3 0, Value.ref 75, Value.bool Bool.true, Value.int 181 0, Value.ref 76, Value.none, Value.ref 77, Value.ref 78, Value.ref 79, Value.int 273 0, Value.int 35 0, Value.str (Str.ofString "/claim/cut.py") 274] }
noncomputable def o81 (P : Params) : Obj := by
  refine (fun (fa : Arguments) (fb : List Stmt) (fs : Scope) (_ : fnParts (clsBody progBody 7) 3 = (fa, fb, fs)) => ({ cls := Value.type "function", data := Data.func { name := Str.ofString "pop", qualname := Str.ofString "_Accumulator.pop", params := fa, body := FuncBody.stmts fb, scope := fs, globals := 3, closure := [], defaults := Value.none, kwdefaults := Value.none, pyModule := Value.str (Str.ofString "cpy313.email.header") 224, code := Value.ref 80 } } : Obj)) ?fa ?fb ?fs ?fe
  rotate_left 3
  · conv => lhs; whnf
noncomputable def o82 (P : Params) : Obj := { cls := Value.type "tuple", data := Data.seq #[] }
noncomputable def o84 (P : Params) : Obj := { cls := Value.type "tuple", data := Data.seq #[Value.str (Str.ofString "self") 279] }
noncomputable def o85 (P : Params) : Obj := { cls := Value.type "tuple", data := Data.seq #[] }
noncomputable def o87 (P : Params) : Obj := { cls := Value.type "code", data := Data.fields #[Value.str (Str.ofString "__len__") 276, Value.str (Str.ofString "_Accumulator.__len__") 277, Value.str (Str.ofString "/claim/cut.py") 278, Value.int 38 0, Value.int 1 0, Value.int 0 0, Value.int 0 0, Value.int 3 0, Value.ref 82, Value.bool Bool.true, Value.int 181 0, Value.ref 83, Value.none, Value.ref 84, Value.ref 85, Value.ref 86, Value.int 280 0, Value.int 38 0, Value.str (Str.ofString "/claim/cut.py") 281] }
noncomputable def o88 (P : Params) : Obj := by
  refine (fun (fa : Arguments) (fb : List Stmt) (fs : Scope) (_ : fnParts (clsBody progBody 7) 4 = (fa, fb, fs)) => ({ cls := Value.type "function", data := Data.func { name := Str.ofString "__len__", qualname := Str.ofString "_Accumulator.__len__", params := fa, body := FuncBody.stmts fb, scope := fs, globals := 3, closure := [], defaults := Value.none, kwdefaults := Value.none, pyModule := Value.str (Str.ofString "cpy313.email.header") 224, code := Value.ref 87 } } : Obj)) ?fa ?fb ?fs ?fe
  rotate_left 3
  · conv => lhs; whnf
noncomputable def o89 (P : Params) : Obj := { cls := Value.type "tuple", data := Data.seq #[] }
noncomputable def o91 (P : Params) : Obj := { cls := Value.type "tuple", data := Data.seq #[Value.str (Str.ofString "self") 286] }
noncomputable def o92 (P : Params) : Obj := { cls := Value.type "tuple", data := Data.seq #[] }
noncomputable def o94 (P : Params) : Obj := { cls := Value.type "code", data := Data.fields #[Value.str (Str.ofString "__str__") 283, Value.str (Str.ofString "_Accumulator.__str__") 284, Value.str (Str.ofString "/claim/cut.py") 285, Value.int 41 0, Value.int 1 0, Value.int 0 0, Value.int 0 0, Value.int 3 0, Value.ref 89, Value.bool Bool.true, Value.int 181 0, Value.ref 90, Value.none, Value.ref 91, Value.ref 92, Value.ref 93, Value.int 287 0, Value.int 41 0, Value.str (Str.ofString "/claim/cut.py") 288] }
noncomputable def o95 (P : Params) : Obj := by
  refine (fun (fa : Arguments) (fb : List Stmt) (fs : Scope) (_ : fnParts (clsBody progBody 7) 5 = (fa, fb, fs)) => ({ cls := Value.type "function", data := Data.func { name := Str.ofString "__str__", qualname := Str.ofString "_Accumulator.__str__", params := fa, body := FuncBody.stmts fb, scope := fs, globals := 3, closure := [], defaults := Value.none, kwdefaults := Value.none, pyModule := Value.str (Str.ofString "cpy313.email.header") 224, code := Value.ref 94 } } : Obj)) ?fa ?fb ?fs ?fe
  rotate_left 3
  · conv => lhs; whnf
noncomputable def o96 (P : Params) : Obj := { cls := Value.type "tuple", data := Data.seq #[Value.none] }
noncomputable def o97 (P : Params) : Obj := { cls := Value.type "tuple", data := Data.seq #[] }
noncomputable def o99 (P : Params) : Obj := { cls := Value.type "tuple", data := Data.seq #[Value.str (Str.ofString "self") 293, Value.str (Str.ofString "startval") 294] }
noncomputable def o100 (P : Params) : Obj := { cls := Value.type "tuple", data := Data.seq #[] }
noncomputable def o102 (P : Params) : Obj := { cls := Value.type "code", data := Data.fields #[Value.str (Str.ofString "reset") 290, Value.str (Str.ofString "_Accumulator.reset") 291, Value.str (Str.ofString "/claim/cut.py") 292, Value.int 44 0, Value.int 2 0, Value.int 0 0, Value.int 0 0, Value.int 3 0, Value.ref 97, Value.bool Bool.true, Value.int 181 0, Value.ref 98, Value.none, Value.ref 99, Value.ref 100, Value.ref 101, Value.int 295 0, Value.int 44 0, Value.str (Str.ofString "/claim/cut.py") 296] }
noncomputable def o103 (P : Params) : Obj := by
  refine (fun (fa : Arguments) (fb : List Stmt) (fs : Scope) (_ : fnParts (clsBody progBody 7) 6 = (fa, fb, fs)) => ({ cls := Value.type "function", data := Data.func { name := Str.ofString "reset", qualname := Str.ofString "_Accumulator.reset", params := fa, body := FuncBody.stmts fb, scope := fs, globals := 3, closure := [], defaults := Value.ref 96, kwdefaults := Value.none, pyModule := Value.str (Str.ofString "cpy313.email.header") 224, code := Value.ref 102 } } : Obj)) ?fa ?fb ?fs ?fe
  rotate_left 3
  · conv => lhs; whnf
noncomputable def o104 (P : Params) : Obj := { cls := Value.type "tuple", data := Data.seq #[] }
noncomputable def o106 (P : Params) : Obj := { cls := Value.type "tuple", data := Data.seq #[Value.str (Str.ofString "self") 301] }
noncomputable def o107 (P : Params) : Obj := { cls := Value.type "tuple", data := Data.seq #[] }
noncomputable def o109 (P : Params) : Obj := { cls := Value.type "code", data := Data.fields #[Value.str (Str.ofString "is_onlyws") 298, Value.str (Str.ofString "_Accumulator.is_onlyws") 299, Value.str (Str.ofString "/claim/cut.py") 300, Value.int 47 0, Value.int 1 0, Value.int 0 0, Value.int 0 0, Value.int 3 0, Value.ref 104, Value.bool Bool.true, Value.int 181 0, Value.ref 105, Value.none, Value.ref 106, Value.ref 107, Value.ref 108, Value.int 302 0, Value.int 47 0, Value.str (Str.ofString "/claim/cut.py") 303] }
noncomputable def o110 (P : Params) : Obj := by
  refine (fun (fa : Arguments) (fb : List Stmt) (fs : Scope) (_ : fnParts (clsBody progBody 7) 7 = (fa, fb, fs)) => ({ cls := Value.type "function", data := Data.func { name := Str.ofString "is_onlyws", qualname := Str.ofString "_Accumulator.is_onlyws", params := fa, body := FuncBody.stmts fb, scope := fs, globals := 3, closure := [], defaults := Value.none, kwdefaults := Value.none, pyModule := Value.str (Str.ofString "cpy313.email.header") 224, code := Value.ref 109 } } : Obj)) ?fa ?fb ?fs ?fe
  rotate_left 3
  · conv => lhs; whnf
noncomputable def o111 (P : Params) : Obj := { cls := Value.type "tuple", data := Data.seq #[] }
noncomputable def o113 (P : Params) : Obj := { cls := Value.type "tuple", data := Data.seq #[Value.str (Str.ofString "self") 308] }
noncomputable def o114 (P : Params) : Obj := { cls := Value.type "tuple", data := Data.seq #[] }
noncomputable def o116 (P : Params) : Obj := { cls := Value.type "code", data := Data.fields #[Value.str (Str.ofString "part_count") 305, Value.str (Str.ofString "_Accumulator.part_count") 306, Value.str (Str.ofString "/claim/cut.py") 307, Value.int 50 0, Value.int 1 0, Value.int 0 0, Value.int 0 0, Value.int 3 0, Value.ref 111, Value.bool Bool.true, Value.int 181 0, Value.ref 112, Value.none, Value.ref 113, Value.ref 114, Value.ref 115, Value.int 309 0, Value.int 50 0, Value.str (Str.ofString "/claim/cut.py") 310] }
noncomputable def o117 (P : Params) : Obj := by
  refine (fun (fa : Arguments) (fb : List Stmt) (fs : Scope) (_ : fnParts (clsBody progBody 7) 8 = (fa, fb, fs)) => ({ cls := Value.type "function", data := Data.func { name := Str.ofString "part_count", qualname := Str.ofString "_Accumulator.part_count", params := fa, body := FuncBody.stmts fb, scope := fs, globals := 3, closure := [], defaults := Value.none, kwdefaults := Value.none, pyModule := Value.str (Str.ofString "cpy313.email.header") 224, code := Value.ref 116 } } : Obj)) ?fa ?fb ?fs ?fe
  rotate_left 3
  · conv => lhs; whnf
noncomputable def o118 (P : Params) : Obj := { cls := Value.type "tuple", data := Data.seq #[Value.str (Str.ofString "_initial_size") 312] }
noncomputable def o119 (P : Params) : Obj := { cls := Value.type "dict", data := Data.dict #[{ hash := PyData.keyHash P (Str.ofString "__module__"), key := Value.str (Str.ofString "__module__") 235, val := Value.str (Str.ofString "cpy313.email.header") 224 }, { hash := PyData.keyHash P (Str.ofString "__firstlineno__"), key := Value.str (Str.ofString "__firstlineno__") 239, val := Value.int 21 238 }, { hash := PyData.keyHash P (Str.ofString "__init__"), key := Value.str (Str.ofString "__init__") 249, val := Value.ref 59 }, { hash := PyData.keyHash P (Str.ofString "push"), key := Value.str (Str.ofString "push") 258, val := Value.ref 66 }, { hash := PyData.keyHash P (Str.ofString "pop_from"), key := Value.str (Str.ofString "pop_from") 268, val := Value.ref 74 }, { hash := PyData.keyHash P (Str.ofString "pop"), key := Value.str (Str.ofString "pop") 275, val := Value.ref 81 }, { hash := PyData.keyHash P (Str.ofString "__len__"), key := Value.str (Str.ofString "__len__") 282, val := Value.ref 88 }, { hash := PyData.keyHash P (Str.ofString "__str__"), key := Value.str (Str.ofString "__str__") 289, val := Value.ref 95 }, { hash := PyData.keyHash P (Str.ofString "reset"), key := Value.str (Str.ofString "reset") 297, val := Value.ref 103 }, { hash := PyData.keyHash P (Str.ofString "is_onlyws"), key := Value.str (Str.ofString "is_onlyws") 304, val := Value.ref 110 }, { hash := PyData.keyHash P (Str.ofString "part_count"), key := Value.str (Str.ofString "part_count") 311, val := Value.ref 117 }, { hash := PyData.keyHash P (Str.ofString "__static_attributes__"), key := Value.str (Str.ofString "__static_attributes__") 313, val := Value.ref 118 }, { hash := PyData.keyHash P (Str.ofString "__dict__"), key := Value.str (Str.ofString "__dict__") 316, val := Value.ref 121 }, { hash := PyData.keyHash P (Str.ofString "__weakref__"), key := Value.str (Str.ofString "__weakref__") 318, val := Value.ref 122 }, { hash := PyData.keyHash P (Str.ofString "__doc__"), key := Value.str (Str.ofString "__doc__") 319, val := Value.none }] 5 }
noncomputable def o120 (P : Params) : Obj := { cls := Value.type "type", data := Data.cls { name := Str.ofString "_Accumulator", bases := [Value.type "list"], mro := [Value.ref 120, Value.type "list", Value.type "object"], ns := 119, qualname := Str.ofString "_Accumulator" }, slots := #[Option.some (Value.ref 43), Option.none, Option.some (Value.str (Str.ofString "_Accumulator") 228), Option.some (Value.str (Str.ofString "_Accumulator") 236), Option.some (Value.builtin "list.__new__"), Option.some (Value.bool Bool.true)] }
noncomputable def o121 (P : Params) : Obj := { cls := Value.type "getset_descriptor", data := Data.fields #[Value.str (Str.ofString "__dict__") 315, Value.ref 120, Value.builtin "function.__dict__", Value.builtin "function.__dict__#set"] }
noncomputable def o122 (P : Params) : Obj := { cls := Value.type "getset_descriptor", data := Data.fields #[Value.str (Str.ofString "__weakref__") 317, Value.ref 120, Value.builtin "ExceptionGroup.__weakref__", Value.none] }
noncomputable def o132 (P : Params) : Obj := { cls := Value.type "tuple", data := Data.seq #[] }
noncomputable def o134 (P : Params) : Obj := { cls := Value.type "tuple", data := Data.seq #[Value.str (Str.ofString "self") 339, Value.str (Str.ofString "comp_select_list") 340] }
noncomputable def o135 (P : Params) : Obj := { cls := Value.type "tuple", data := Data.seq #[] }
noncomputable def o137 (P : Params) : Obj := { cls := Value.type "code", data := Data.fields #[Value.str (Str.ofString "__init__") 336, Value.str (Str.ofString "TupleComp.__init__") 337, Value.str (Str.ofString "/claim/cut.py") 338, Value.int 55 0, Value.int 2 0, Value.int 0 0, Value.int 0 0, Value.int 3 0, Value.ref 132, Value.bool Bool.true, Value.int 181 0, Value.ref 133, Value.none, Value.ref 134, Value.ref 135, Value.ref 136, Value.int 341 0, Value.int 55 0, Value.str (Str.ofString "/claim/cut.py") 342] }
noncomputable def o138 (P : Params) : Obj := by
  refine (fun (fa : Arguments) (fb : List Stmt) (fs : Scope) (_ : fnParts (clsBody progBody 9) 0 = (fa, fb, fs)) => ({ cls := Value.type "function", data := Data.func { name := Str.ofString "__init__", qualname := Str.ofString "TupleComp.__init__", params := fa, body := FuncBody.stmts fb, scope := fs, globals := 3, closure := [], defaults := Value.none, kwdefaults := Value.none, pyModule := Value.str (Str.ofString "cpy313.pstats") 322, code := Value.ref 137 } } : Obj)) ?fa ?fb ?fs ?fe
  rotate_left 3
  · conv => lhs; whnf
noncomputable def o139 (P : Params) : Obj := { cls := Value.type "tuple", data := Data.seq #[] }
noncomputable def o141 (P : Params) : Obj := { cls := Value.type "tuple", data := Data.seq #[Value.str (Str.ofString "self") 347, Value.str (Str.ofString "left") 348, Value.str (Str.ofString "right") 349, Value.str (Str.ofString "index") 350, Value.str (Str.ofString "direction") 351, Value.str (Str.ofString "l") 352, Value.str (Str.ofString "r") 353] }
noncomputable def o142 (P : Params) : Obj := { cls := Value.type "tuple", data := Data.seq #[] }
noncomputable def o144 (P : Params) : Obj := { cls := Value.type "code", data := Data.fields #[Value.str (Str.ofString "compare") 344, Value.str (Str.ofString "TupleComp.compare") 345, Value.str (Str.ofString "/claim/cut.py") 346, Value.int 58 0, Value.int 3 0, Value.int 0 0, Value.int 0 0, Value.int 3 0, Value.ref 139, Value.bool Bool.true, Value.int 181 0, Value.ref 140, Value.none, Value.ref 141, Value.ref 142, Value.ref 143, Value.int 354 0, Value.int 58 0, Value.str (Str.ofString "/claim/cut.py") 355] }
noncomputable def o145 (P : Params) : Obj := by
  refine (fun (fa : Arguments) (fb : List Stmt) (fs : Scope) (_ : fnParts (clsBody progBody 9) 1 = (fa, fb, fs)) => ({ cls := Value.type "function", data := Data.func { name := Str.ofString "compare", qualname := Str.ofString "TupleComp.compare", params := fa, body := FuncBody.stmts fb, scope := fs, globals := 3, closure := [], defaults := Value.none, kwdefaults := Value.none, pyModule := Value.str (Str.ofString "cpy313.pstats") 322, code := Value.ref 144 } } : Obj)) ?fa ?fb ?fs ?fe
  rotate_left 3
  · conv => lhs; whnf
noncomputable def o146 (P : Params) : Obj := { cls := Value.type "tuple", data := Data.seq #[Value.str (Str.ofString "comp_select_list") 357] }
noncomputable def o147 (P : Params) : Obj := { cls := Value.type "dict", data := Data.dict #[{ hash := PyData.keyHash P (Str.ofString "__module__"), key := Value.str (Str.ofString "__module__") 331, val := Value.str (Str.ofString "cpy313.pstats") 322 }, { hash := PyData.keyHash P (Str.ofString "__firstlineno__"), key := Value.str (Str.ofString "__firstlineno__") 335, val := Value.int 53 334 }, { hash := PyData.keyHash P (Str.ofString "__init__"), key := Value.str (Str.ofString "__init__") 343, val := Value.ref 138 }, { hash := PyData.keyHash P (Str.ofString "compare"), key := Value.str (Str.ofString "compare") 356, val := Value.ref 145 }, { hash := PyData.keyHash P (Str.ofString "__static_attributes__"), key := Value.str (Str.ofString "__static_attributes__") 358, val := Value.ref 146 }, { hash := PyData.keyHash P (Str.ofString "__dict__"), key := Value.str (Str.ofString "__dict__") 360, val := Value.ref 149 }, { hash := PyData.keyHash P (Str.ofString "__weakref__"), key := Value.str (Str.ofString "__weakref__") 362, val := Value.ref 150 }, { hash := PyData.keyHash P (Str.ofString "__doc__"), key := Value.str (Str.ofString "__doc__") 363, val := Value.none }] 4 }
noncomputable def o148 (P : Params) : Obj := { cls := Value.type "type", data := Data.cls { name := Str.ofString "TupleComp", bases := [Value.type "object"], mro := [Value.ref 148, Value.type "object"], ns := 147, qualname := Str.ofString "TupleComp" }, slots := #[Option.none, Option.none, Option.some (Value.str (Str.ofString "TupleComp") 324), Option.some (Value.str (Str.ofString "TupleComp") 332), Option.some (Value.builtin "object.__new__"), Option.some (Value.bool Bool.true)] }
noncomputable def o149 (P : Params) : Obj := { cls := Value.type "getset_descriptor", data := Data.fields #[Value.str (Str.ofString "__dict__") 359, Value.ref 148, Value.builtin "function.__dict__", Value.builtin "function.__dict__#set"] }
noncomputable def o150 (P : Params) : Obj := { cls := Value.type "getset_descriptor", data := Data.fields #[Value.str (Str.ofString "__weakref__") 361, Value.ref 148, Value.builtin "ExceptionGroup.__weakref__", Value.none] }
noncomputable def o153 (P : Params) : Obj := { cls := Value.type "tuple", data := Data.seq #[] }
noncomputable def o155 (P : Params) : Obj := { cls := Value.type "tuple", data := Data.seq #[Value.str (Str.ofString "target") 369, Value.str (Str.ofString "source") 370, Value.str (Str.ofString "cc") 371, Value.str (Str.ofString "nc") 372, Value.str (Str.ofString "tt") 373, Value.str (Str.ofString "ct") 374, Value.str (Str.ofString "callers") 375, Value.str (Str.ofString "t_cc") 376, Value.str (Str.ofString "t_nc") 377, Value.str (Str.ofString "t_tt") 378, Value.str (Str.ofString "t_ct") 379, Value.str (Str.ofString "t_callers") 380] }
noncomputable def o156 (P : Params) : Obj := { cls := Value.type "tuple", data := Data.seq #[] }
noncomputable def o158 (P : Params) : Obj := { cls := Value.type "code", data := Data.fields #[Value.str (Str.ofString "add_func_stats") 366, Value.str (Str.ofString "add_func_stats") 367, Value.str (Str.ofString "/claim/cut.py") 368, Value.int 67 0, Value.int 2 0, Value.int 0 0, Value.int 0 0, Value.int 3 0, Value.ref 153, Value.bool Bool.true, Value.int 181 0, Value.ref 154, Value.none, Value.ref 155, Value.ref 156, Value.ref 157, Value.int 381 0, Value.int 67 0, Value.str (Str.ofString "/claim/cut.py") 382] }
noncomputable def o159 (P : Params) : Obj := by
  refine (fun (fa : Arguments) (fb : List Stmt) (fs : Scope) (_ : fnParts progBody 10 = (fa, fb, fs)) => ({ cls := Value.type "function", data := Data.func { name := Str.ofString "add_func_stats", qualname := Str.ofString "add_func_stats", params := fa, body := FuncBody.stmts fb, scope := fs, globals := 3, closure := [], defaults := Value.none, kwdefaults := Value.none, pyModule := Value.str (Str.ofString "cpy313.pstats") 322, code := Value.ref 158 } } : Obj)) ?fa ?fb ?fs ?fe
  rotate_left 3
  · conv => lhs; whnf
noncomputable def o160 (P : Params) : Obj := { cls := Value.type "tuple", data := Data.seq #[] }
noncomputable def o162 (P : Params) : Obj := { cls := Value.type "tuple", data := Data.seq #[Value.str (Str.ofString "target") 387, Value.str (Str.ofString "source") 388, Value.str (Str.ofString "new_callers") 389, Value.str (Str.ofString "func") 390, Value.str (Str.ofString "caller") 391] }
noncomputable def o163 (P : Params) : Obj := { cls := Value.type "tuple", data := Data.seq #[] }
noncomputable def o165 (P : Params) : Obj := { cls := Value.type "code", data := Data.fields #[Value.str (Str.ofString "add_callers") 384, Value.str (Str.ofString "add_callers") 385, Value.str (Str.ofString "/claim/cut.py") 386, Value.int 71 0, Value.int 2 0, Value.int 0 0, Value.int 0 0, Value.int 3 0, Value.ref 160, Value.bool Bool.true, Value.int 181 0, Value.ref 161, Value.none, Value.ref 162, Value.ref 163, Value.ref 164, Value.int 392 0, Value.int 71 0, Value.str (Str.ofString "/claim/cut.py") 393] }
noncomputable def o166 (P : Params) : Obj := by
  refine (fun (fa : Arguments) (fb : List Stmt) (fs : Scope) (_ : fnParts progBody 11 = (fa, fb, fs)) => ({ cls := Value.type "function", data := Data.func { name := Str.ofString "add_callers", qualname := Str.ofString "add_callers", params := fa, body := FuncBody.stmts fb, scope := fs, globals := 3, closure := [], defaults := Value.none, kwdefaults := Value.none, pyModule := Value.str (Str.ofString "cpy313.pstats") 322, code := Value.ref 165 } } : Obj)) ?fa ?fb ?fs ?fe
  rotate_left 3
  · conv => lhs; whnf
noncomputable def o167 (P : Params) : Obj := { cls := Value.type "tuple", data := Data.seq #[] }
noncomputable def o169 (P : Params) : Obj := { cls := Value.type "tuple", data := Data.seq #[Value.str (Str.ofString "ch_a") 406, Value.str (Str.ofString "ch_b") 407] }
noncomputable def o170 (P : Params) : Obj := { cls := Value.type "tuple", data := Data.seq #[] }
noncomputable def o172 (P : Params) : Obj := { cls := Value.type "code", data := Data.fields #[Value.str (Str.ofString "_substitution_cost") 403, Value.str (Str.ofString "_substitution_cost") 404, Value.str (Str.ofString "/claim/cut.py") 405, Value.int 88 0, Value.int 2 0, Value.int 0 0, Value.int 0 0, Value.int 3 0, Value.ref 167, Value.bool Bool.true, Value.int 181 0, Value.ref 168, Value.none, Value.ref 169, Value.ref 170, Value.ref 171, Value.int 408 0, Value.int 88 0, Value.str (Str.ofString "/claim/cut.py") 409] }
noncomputable def o173 (P : Params) : Obj := by
  refine (fun (fa : Arguments) (fb : List Stmt) (fs : Scope) (_ : fnParts progBody 16 = (fa, fb, fs)) => ({ cls := Value.type "function", data := Data.func { name := Str.ofString "_substitution_cost", qualname := Str.ofString "_substitution_cost", params := fa, body := FuncBody.stmts fb, scope := fs, globals := 3, closure := [], defaults := Value.none, kwdefaults := Value.none, pyModule := Value.str (Str.ofString "cpy313.traceback") 395, code := Value.ref 172 } } : Obj)) ?fa ?fb ?fs ?fe
  rotate_left 3
  · conv => lhs; whnf
noncomputable def o174 (P : Params) : Obj := { cls := Value.type "tuple", data := Data.seq #[] }
noncomputable def o176 (P : Params) : Obj := { cls := Value.type "tuple", data := Data.seq #[Value.str (Str.ofString "a") 414, Value.str (Str.ofString "b") 415, Value.str (Str.ofString "max_cost") 416, Value.str (Str.ofString "pre") 417, Value.str (Str.ofString "post") 418, Value.str (Str.ofString "row") 419, Value.str (Str.ofString "result") 420, Value.str (Str.ofString "bindex") 421, Value.str (Str.ofString "bchar") 422, Value.str (Str.ofString "distance") 423, Value.str (Str.ofString "minimum") 424, Value.str (Str.ofString "index") 425, Value.str (Str.ofString "substitute") 426, Value.str (Str.ofString "insert_delete") 427] }
noncomputable def o177 (P : Params) : Obj := { cls := Value.type "tuple", data := Data.seq #[] }
noncomputable def o179 (P : Params) : Obj := { cls := Value.type "code", data := Data.fields #[Value.str (Str.ofString "_levenshtein_distance") 411, Value.str (Str.ofString "_levenshtein_distance") 412, Value.str (Str.ofString "/claim/cut.py") 413, Value.int 94 0, Value.int 3 0, Value.int 0 0, Value.int 0 0, Value.int 3 0, Value.ref 174, Value.bool Bool.true, Value.int 181 0, Value.ref 175, Value.none, Value.ref 176, Value.ref 177, Value.ref 178, Value.int 428 0, Value.int 94 0, Value.str (Str.ofString "/claim/cut.py") 429] }
noncomputable def o180 (P : Params) : Obj := by
  refine (fun (fa : Arguments) (fb : List Stmt) (fs : Scope) (_ : fnParts progBody 17 = (fa, fb, fs)) => ({ cls := Value.type "function", data := Data.func { name := Str.ofString "_levenshtein_distance", qualname := Str.ofString "_levenshtein_distance", params := fa, body := FuncBody.stmts fb, scope := fs, globals := 3, closure := [], defaults := Value.none, kwdefaults := Value.none, pyModule := Value.str (Str.ofString "cpy313.traceback") 395, code := Value.ref 179 } } : Obj)) ?fa ?fb ?fs ?fe
  rotate_left 3
  · conv => lhs; whnf
noncomputable def o181 (P : Params) : Obj := { cls := Value.type "tuple", data := Data.seq #[] }
noncomputable def o184 (P : Params) : Obj := { cls := Value.type "code", data := Data.fields #[Value.str (Str.ofString "_law_word") 433, Value.str (Str.ofString "_law_word") 434, Value.str (Str.ofString "/claim/cut.py") 435, Value.int 133 0, Value.int 1 0, Value.int 0 0, Value.int 0 0, Value.int 3 0, Value.ref 181, Value.bool Bool.true, Value.int 181 0, Value.ref 182, Value.none, Value.none, Value.none, Value.ref 183, Value.int 436 0, Value.int 133 0, Value.str (Str.ofString "/claim/cut.py") 437] }
noncomputable def o185 (P : Params) : Obj := by
  refine (fun (fa : Arguments) (fb : List Stmt) (fs : Scope) (_ : fnParts progBody 19 = (fa, fb, fs)) => ({ cls := Value.type "function", data := Data.func { name := Str.ofString "_law_word", qualname := Str.ofString "_law_word", params := fa, body := FuncBody.stmts fb, scope := fs, globals := 3, closure := [], defaults := Value.none, kwdefaults := Value.none, pyModule := Value.str (Str.ofString "law_xg0051_01") 431, code := Value.ref 184 } } : Obj)) ?fa ?fb ?fs ?fe
  rotate_left 3
  · conv => lhs; whnf
noncomputable def o186 (P : Params) : Obj := { cls := Value.type "tuple", data := Data.seq #[] }
noncomputable def o189 (P : Params) : Obj := { cls := Value.type "code", data := Data.fields #[Value.str (Str.ofString "_law_laid") 439, Value.str (Str.ofString "_law_laid") 440, Value.str (Str.ofString "/claim/cut.py") 441, Value.int 138 0, Value.int 2 0, Value.int 0 0, Value.int 0 0, Value.int 3 0, Value.ref 186, Value.bool Bool.true, Value.int 181 0, Value.ref 187, Value.none, Value.none, Value.none, Value.ref 188, Value.int 442 0, Value.int 138 0, Value.str (Str.ofString "/claim/cut.py") 443] }
noncomputable def o190 (P : Params) : Obj := by
  refine (fun (fa : Arguments) (fb : List Stmt) (fs : Scope) (_ : fnParts progBody 20 = (fa, fb, fs)) => ({ cls := Value.type "function", data := Data.func { name := Str.ofString "_law_laid", qualname := Str.ofString "_law_laid", params := fa, body := FuncBody.stmts fb, scope := fs, globals := 3, closure := [], defaults := Value.none, kwdefaults := Value.none, pyModule := Value.str (Str.ofString "law_xg0051_01") 431, code := Value.ref 189 } } : Obj)) ?fa ?fb ?fs ?fe
  rotate_left 3
  · conv => lhs; whnf
noncomputable def o191 (P : Params) : Obj := { cls := Value.type "tuple", data := Data.seq #[] }
noncomputable def o194 (P : Params) : Obj := { cls := Value.type "code", data := Data.fields #[Value.str (Str.ofString "_law_moved") 445, Value.str (Str.ofString "_law_moved") 446, Value.str (Str.ofString "/claim/cut.py") 447, Value.int 153 0, Value.int 4 0, Value.int 0 0, Value.int 0 0, Value.int 3 0, Value.ref 191, Value.bool Bool.true, Value.int 181 0, Value.ref 192, Value.none, Value.none, Value.none, Value.ref 193, Value.int 448 0, Value.int 153 0, Value.str (Str.ofString "/claim/cut.py") 449] }
noncomputable def o195 (P : Params) : Obj := by
  refine (fun (fa : Arguments) (fb : List Stmt) (fs : Scope) (_ : fnParts progBody 21 = (fa, fb, fs)) => ({ cls := Value.type "function", data := Data.func { name := Str.ofString "_law_moved", qualname := Str.ofString "_law_moved", params := fa, body := FuncBody.stmts fb, scope := fs, globals := 3, closure := [], defaults := Value.none, kwdefaults := Value.none, pyModule := Value.str (Str.ofString "law_xg0051_01") 431, code := Value.ref 194 } } : Obj)) ?fa ?fb ?fs ?fe
  rotate_left 3
  · conv => lhs; whnf
noncomputable def o196 (P : Params) : Obj := { cls := Value.type "tuple", data := Data.seq #[] }
noncomputable def o198 (P : Params) : Obj := { cls := Value.type "tuple", data := Data.seq #[Value.str (Str.ofString "word") 454, Value.str (Str.ofString "most") 455, Value.str (Str.ofString "least") 456, Value.str (Str.ofString "x") 457, Value.str (Str.ofString "here") 458, Value.str (Str.ofString "first") 459, Value.str (Str.ofString "third") 460, Value.str (Str.ofString "upper") 461, Value.str (Str.ofString "zeros") 462] }
noncomputable def o199 (P : Params) : Obj := { cls := Value.type "tuple", data := Data.seq #[] }
noncomputable def o201 (P : Params) : Obj := { cls := Value.type "code", data := Data.fields #[Value.str (Str.ofString "_law_triangle") 451, Value.str (Str.ofString "_law_triangle") 452, Value.str (Str.ofString "/claim/cut.py") 453, Value.int 169 0, Value.int 1 0, Value.int 0 0, Value.int 0 0, Value.int 3 0, Value.ref 196, Value.bool Bool.true, Value.int 181 0, Value.ref 197, Value.none, Value.ref 198, Value.ref 199, Value.ref 200, Value.int 463 0, Value.int 169 0, Value.str (Str.ofString "/claim/cut.py") 464] }
noncomputable def o202 (P : Params) : Obj := by
  refine (fun (fa : Arguments) (fb : List Stmt) (fs : Scope) (_ : fnParts progBody 22 = (fa, fb, fs)) => ({ cls := Value.type "function", data := Data.func { name := Str.ofString "_law_triangle", qualname := Str.ofString "_law_triangle", params := fa, body := FuncBody.stmts fb, scope := fs, globals := 3, closure := [], defaults := Value.none, kwdefaults := Value.none, pyModule := Value.str (Str.ofString "law_xg0051_01") 431, code := Value.ref 201 } } : Obj)) ?fa ?fb ?fs ?fe
  rotate_left 3
  · conv => lhs; whnf
noncomputable def o203 (P : Params) : Obj := { cls := Value.type "tuple", data := Data.seq #[] }
noncomputable def o205 (P : Params) : Obj := { cls := Value.type "tuple", data := Data.seq #[Value.str (Str.ofString "triangle") 469, Value.str (Str.ofString "low") 470, Value.str (Str.ofString "first") 471, Value.str (Str.ofString "second") 472, Value.str (Str.ofString "third") 473, Value.str (Str.ofString "upper") 474, Value.str (Str.ofString "lower") 475, Value.str (Str.ofString "top") 476] }
noncomputable def o206 (P : Params) : Obj := { cls := Value.type "tuple", data := Data.seq #[] }
noncomputable def o208 (P : Params) : Obj := { cls := Value.type "code", data := Data.fields #[Value.str (Str.ofString "_law_turned") 466, Value.str (Str.ofString "_law_turned") 467, Value.str (Str.ofString "/claim/cut.py") 468, Value.int 182 0, Value.int 2 0, Value.int 0 0, Value.int 0 0, Value.int 3 0, Value.ref 203, Value.bool Bool.true, Value.int 181 0, Value.ref 204, Value.none, Value.ref 205, Value.ref 206, Value.ref 207, Value.int 477 0, Value.int 182 0, Value.str (Str.ofString "/claim/cut.py") 478] }
noncomputable def o209 (P : Params) : Obj := by
  refine (fun (fa : Arguments) (fb : List Stmt) (fs : Scope) (_ : fnParts progBody 23 = (fa, fb, fs)) => ({ cls := Value.type "function", data := Data.func { name := Str.ofString "_law_turned", qualname := Str.ofString "_law_turned", params := fa, body := FuncBody.stmts fb, scope := fs, globals := 3, closure := [], defaults := Value.none, kwdefaults := Value.none, pyModule := Value.str (Str.ofString "law_xg0051_01") 431, code := Value.ref 208 } } : Obj)) ?fa ?fb ?fs ?fe
  rotate_left 3
  · conv => lhs; whnf
noncomputable def o210 (P : Params) : Obj := { cls := Value.type "tuple", data := Data.seq #[] }
noncomputable def o212 (P : Params) : Obj := { cls := Value.type "tuple", data := Data.seq #[Value.str (Str.ofString "triangle") 483, Value.str (Str.ofString "first") 484, Value.str (Str.ofString "second") 485, Value.str (Str.ofString "third") 486, Value.str (Str.ofString "upper") 487, Value.str (Str.ofString "lower") 488, Value.str (Str.ofString "top") 489] }
noncomputable def o213 (P : Params) : Obj := { cls := Value.type "tuple", data := Data.seq #[] }
noncomputable def o215 (P : Params) : Obj := { cls := Value.type "code", data := Data.fields #[Value.str (Str.ofString "_law_rows") 480, Value.str (Str.ofString "_law_rows") 481, Value.str (Str.ofString "/claim/cut.py") 482, Value.int 187 0, Value.int 1 0, Value.int 0 0, Value.int 0 0, Value.int 3 0, Value.ref 210, Value.bool Bool.true, Value.int 181 0, Value.ref 211, Value.none, Value.ref 212, Value.ref 213, Value.ref 214, Value.int 490 0, Value.int 187 0, Value.str (Str.ofString "/claim/cut.py") 491] }
noncomputable def o216 (P : Params) : Obj := by
  refine (fun (fa : Arguments) (fb : List Stmt) (fs : Scope) (_ : fnParts progBody 24 = (fa, fb, fs)) => ({ cls := Value.type "function", data := Data.func { name := Str.ofString "_law_rows", qualname := Str.ofString "_law_rows", params := fa, body := FuncBody.stmts fb, scope := fs, globals := 3, closure := [], defaults := Value.none, kwdefaults := Value.none, pyModule := Value.str (Str.ofString "law_xg0051_01") 431, code := Value.ref 215 } } : Obj)) ?fa ?fb ?fs ?fe
  rotate_left 3
  · conv => lhs; whnf
noncomputable def o217 (P : Params) : Obj := { cls := Value.type "tuple", data := Data.seq #[] }
noncomputable def o220 (P : Params) : Obj := { cls := Value.type "code", data := Data.fields #[Value.str (Str.ofString "law") 493, Value.str (Str.ofString "law") 494, Value.str (Str.ofString "/claim/cut.py") 495, Value.int 190 0, Value.int 1 0, Value.int 0 0, Value.int 0 0, Value.int 3 0, Value.ref 217, Value.bool Bool.true, Value.int 181 0, Value.ref 218, Value.none, Value.none, Value.none, Value.ref 219, Value.int 496 0, Value.int 190 0, Value.str (Str.ofString "/claim/cut.py") 497] }
noncomputable def o221 (P : Params) : Obj := by
  refine (fun (fa : Arguments) (fb : List Stmt) (fs : Scope) (_ : fnParts progBody 25 = (fa, fb, fs)) => ({ cls := Value.type "function", data := Data.func { name := Str.ofString "law", qualname := Str.ofString "law", params := fa, body := FuncBody.stmts fb, scope := fs, globals := 3, closure := [], defaults := Value.none, kwdefaults := Value.none, pyModule := Value.str (Str.ofString "law_xg0051_01") 431, code := Value.ref 220 } } : Obj)) ?fa ?fb ?fs ?fe
  rotate_left 3
  · conv => lhs; whnf
noncomputable def heapK (P : Params) : Frag := (nat_lit 2, o2 P) :: (nat_lit 3, o3 P) :: (nat_lit 15, o15 P) :: (nat_lit 17, o17 P) :: (nat_lit 18, o18 P) :: (nat_lit 20, o20 P) :: (nat_lit 21, o21 P) :: (nat_lit 22, o22 P) :: (nat_lit 24, o24 P) :: (nat_lit 25, o25 P) :: (nat_lit 27, o27 P) :: (nat_lit 28, o28 P) :: (nat_lit 29, o29 P) :: (nat_lit 31, o31 P) :: (nat_lit 32, o32 P) :: (nat_lit 34, o34 P) :: (nat_lit 35, o35 P) :: (nat_lit 36, o36 P) :: (nat_lit 38, o38 P) :: (nat_lit 39, o39 P) :: (nat_lit 41, o41 P) :: (nat_lit 42, o42 P) :: (nat_lit 43, o43 P) :: (nat_lit 46, o46 P) :: (nat_lit 51, o51 P) :: (nat_lit 52, o52 P) :: (nat_lit 53, o53 P) :: (nat_lit 55, o55 P) :: (nat_lit 56, o56 P) :: (nat_lit 58, o58 P) :: (nat_lit 59, o59 P) :: (nat_lit 60, o60 P) :: (nat_lit 62, o62 P) :: (nat_lit 63, o63 P) :: (nat_lit 65, o65 P) :: (nat_lit 66, o66 P) :: (nat_lit 67, o67 P) :: (nat_lit 68, o68 P) :: (nat_lit 70, o70 P) :: (nat_lit 71, o71 P) :: (nat_lit 73, o73 P) :: (nat_lit 74, o74 P) :: (nat_lit 75, o75 P) :: (nat_lit 77, o77 P) :: (nat_lit 78, o78 P) :: (nat_lit 80, o80 P) :: (nat_lit 81, o81 P) :: (nat_lit 82, o82 P) :: (nat_lit 84, o84 P) :: (nat_lit 85, o85 P) :: (nat_lit 87, o87 P) :: (nat_lit 88, o88 P) :: (nat_lit 89, o89 P) :: (nat_lit 91, o91 P) :: (nat_lit 92, o92 P) :: (nat_lit 94, o94 P) :: (nat_lit 95, o95 P) :: (nat_lit 96, o96 P) :: (nat_lit 97, o97 P) :: (nat_lit 99, o99 P) :: (nat_lit 100, o100 P) :: (nat_lit 102, o102 P) :: (nat_lit 103, o103 P) :: (nat_lit 104, o104 P) :: (nat_lit 106, o106 P) :: (nat_lit 107, o107 P) :: (nat_lit 109, o109 P) :: (nat_lit 110, o110 P) :: (nat_lit 111, o111 P) :: (nat_lit 113, o113 P) :: (nat_lit 114, o114 P) :: (nat_lit 116, o116 P) :: (nat_lit 117, o117 P) :: (nat_lit 118, o118 P) :: (nat_lit 119, o119 P) :: (nat_lit 120, o120 P) :: (nat_lit 121, o121 P) :: (nat_lit 122, o122 P) :: (nat_lit 132, o132 P) :: (nat_lit 134, o134 P) :: (nat_lit 135, o135 P) :: (nat_lit 137, o137 P) :: (nat_lit 138, o138 P) :: (nat_lit 139, o139 P) :: (nat_lit 141, o141 P) :: (nat_lit 142, o142 P) :: (nat_lit 144, o144 P) :: (nat_lit 145, o145 P) :: (nat_lit 146, o146 P) :: (nat_lit 147, o147 P) :: (nat_lit 148, o148 P) :: (nat_lit 149, o149 P) :: (nat_lit 150, o150 P) :: (nat_lit 153, o153 P) :: (nat_lit 155, o155 P) :: (nat_lit 156, o156 P) :: (nat_lit 158, o158 P) :: (nat_lit 159, o159 P) :: (nat_lit 160, o160 P) :: (nat_lit 162, o162 P) :: (nat_lit 163, o163 P) :: (nat_lit 165, o165 P) :: (nat_lit 166, o166 P) :: (nat_lit 167, o167 P) :: (nat_lit 169, o169 P) :: (nat_lit 170, o170 P) :: (nat_lit 172, o172 P) :: (nat_lit 173, o173 P) :: (nat_lit 174, o174 P) :: (nat_lit 176, o176 P) :: (nat_lit 177, o177 P) :: (nat_lit 179, o179 P) :: (nat_lit 180, o180 P) :: (nat_lit 181, o181 P) :: (nat_lit 184, o184 P) :: (nat_lit 185, o185 P) :: (nat_lit 186, o186 P) :: (nat_lit 189, o189 P) :: (nat_lit 190, o190 P) :: (nat_lit 191, o191 P) :: (nat_lit 194, o194 P) :: (nat_lit 195, o195 P) :: (nat_lit 196, o196 P) :: (nat_lit 198, o198 P) :: (nat_lit 199, o199 P) :: (nat_lit 201, o201 P) :: (nat_lit 202, o202 P) :: (nat_lit 203, o203 P) :: (nat_lit 205, o205 P) :: (nat_lit 206, o206 P) :: (nat_lit 208, o208 P) :: (nat_lit 209, o209 P) :: (nat_lit 210, o210 P) :: (nat_lit 212, o212 P) :: (nat_lit 213, o213 P) :: (nat_lit 215, o215 P) :: (nat_lit 216, o216 P) :: (nat_lit 217, o217 P) :: (nat_lit 220, o220 P) :: (nat_lit 221, o221 P) :: []
noncomputable def chunk0 (P : Params) : Frag := [(nat_lit 2, o2 P), (nat_lit 3, o3 P), (nat_lit 15, o15 P), (nat_lit 17, o17 P), (nat_lit 18, o18 P), (nat_lit 20, o20 P), (nat_lit 21, o21 P), (nat_lit 22, o22 P), (nat_lit 24, o24 P), (nat_lit 25, o25 P), (nat_lit 27, o27 P), (nat_lit 28, o28 P)]
noncomputable def chunk1 (P : Params) : Frag := [(nat_lit 29, o29 P), (nat_lit 31, o31 P), (nat_lit 32, o32 P), (nat_lit 34, o34 P), (nat_lit 35, o35 P), (nat_lit 36, o36 P), (nat_lit 38, o38 P), (nat_lit 39, o39 P), (nat_lit 41, o41 P), (nat_lit 42, o42 P), (nat_lit 43, o43 P), (nat_lit 46, o46 P)]
noncomputable def chunk2 (P : Params) : Frag := [(nat_lit 51, o51 P), (nat_lit 52, o52 P), (nat_lit 53, o53 P), (nat_lit 55, o55 P), (nat_lit 56, o56 P), (nat_lit 58, o58 P), (nat_lit 59, o59 P), (nat_lit 60, o60 P), (nat_lit 62, o62 P), (nat_lit 63, o63 P), (nat_lit 65, o65 P), (nat_lit 66, o66 P)]
noncomputable def chunk3 (P : Params) : Frag := [(nat_lit 67, o67 P), (nat_lit 68, o68 P), (nat_lit 70, o70 P), (nat_lit 71, o71 P), (nat_lit 73, o73 P), (nat_lit 74, o74 P), (nat_lit 75, o75 P), (nat_lit 77, o77 P), (nat_lit 78, o78 P), (nat_lit 80, o80 P), (nat_lit 81, o81 P), (nat_lit 82, o82 P)]
noncomputable def chunk4 (P : Params) : Frag := [(nat_lit 84, o84 P), (nat_lit 85, o85 P), (nat_lit 87, o87 P), (nat_lit 88, o88 P), (nat_lit 89, o89 P), (nat_lit 91, o91 P), (nat_lit 92, o92 P), (nat_lit 94, o94 P), (nat_lit 95, o95 P), (nat_lit 96, o96 P), (nat_lit 97, o97 P), (nat_lit 99, o99 P)]
noncomputable def chunk5 (P : Params) : Frag := [(nat_lit 100, o100 P), (nat_lit 102, o102 P), (nat_lit 103, o103 P), (nat_lit 104, o104 P), (nat_lit 106, o106 P), (nat_lit 107, o107 P), (nat_lit 109, o109 P), (nat_lit 110, o110 P), (nat_lit 111, o111 P), (nat_lit 113, o113 P), (nat_lit 114, o114 P), (nat_lit 116, o116 P)]
noncomputable def chunk6 (P : Params) : Frag := [(nat_lit 117, o117 P), (nat_lit 118, o118 P), (nat_lit 119, o119 P), (nat_lit 120, o120 P), (nat_lit 121, o121 P), (nat_lit 122, o122 P), (nat_lit 132, o132 P), (nat_lit 134, o134 P), (nat_lit 135, o135 P), (nat_lit 137, o137 P), (nat_lit 138, o138 P), (nat_lit 139, o139 P)]
noncomputable def chunk7 (P : Params) : Frag := [(nat_lit 141, o141 P), (nat_lit 142, o142 P), (nat_lit 144, o144 P), (nat_lit 145, o145 P), (nat_lit 146, o146 P), (nat_lit 147, o147 P), (nat_lit 148, o148 P), (nat_lit 149, o149 P), (nat_lit 150, o150 P), (nat_lit 153, o153 P), (nat_lit 155, o155 P), (nat_lit 156, o156 P)]
noncomputable def chunk8 (P : Params) : Frag := [(nat_lit 158, o158 P), (nat_lit 159, o159 P), (nat_lit 160, o160 P), (nat_lit 162, o162 P), (nat_lit 163, o163 P), (nat_lit 165, o165 P), (nat_lit 166, o166 P), (nat_lit 167, o167 P), (nat_lit 169, o169 P), (nat_lit 170, o170 P), (nat_lit 172, o172 P), (nat_lit 173, o173 P)]
noncomputable def chunk9 (P : Params) : Frag := [(nat_lit 174, o174 P), (nat_lit 176, o176 P), (nat_lit 177, o177 P), (nat_lit 179, o179 P), (nat_lit 180, o180 P), (nat_lit 181, o181 P), (nat_lit 184, o184 P), (nat_lit 185, o185 P), (nat_lit 186, o186 P), (nat_lit 189, o189 P), (nat_lit 190, o190 P), (nat_lit 191, o191 P)]
noncomputable def chunk10 (P : Params) : Frag := [(nat_lit 194, o194 P), (nat_lit 195, o195 P), (nat_lit 196, o196 P), (nat_lit 198, o198 P), (nat_lit 199, o199 P), (nat_lit 201, o201 P), (nat_lit 202, o202 P), (nat_lit 203, o203 P), (nat_lit 205, o205 P), (nat_lit 206, o206 P), (nat_lit 208, o208 P), (nat_lit 209, o209 P)]
noncomputable def chunk11 (P : Params) : Frag := [(nat_lit 210, o210 P), (nat_lit 212, o212 P), (nat_lit 213, o213 P), (nat_lit 215, o215 P), (nat_lit 216, o216 P), (nat_lit 217, o217 P), (nat_lit 220, o220 P), (nat_lit 221, o221 P)]
noncomputable def heapC (P : Params) : Frag := chunk0 P ++ (chunk1 P ++ (chunk2 P ++ (chunk3 P ++ (chunk4 P ++ (chunk5 P ++ (chunk6 P ++ (chunk7 P ++ (chunk8 P ++ (chunk9 P ++ (chunk10 P ++ (chunk11 P)))))))))))

end
theorem kf_all {w : World} {h : Heap} (X : (Mine.heapK w.params).In h) : Challenge.rw_xg0051_01.row.prog = Challenge.rw_xg0051_01.row.prog ∧ (Mine.heapK w.params).In h := by
  k_fill
  exact ⟨rfl, X⟩

end Mine
local macro_rules | `(tactic| walk_at "introQ") => do { let n := (← read).currMacroScope; let q := Lean.mkIdent (Lean.Name.mkSimple s!"Qh{n}"); let h := Lean.mkIdent (Lean.Name.mkSimple s!"Hh{n}"); `(tactic| intro $q:ident $h:ident) }
local macro_rules | `(tactic| walk_at "go") => `(tactic| repeat' walk_at "one")
namespace Mine
section
/- Head -/
noncomputable def heapX (P : Params) : Frag := (90, { cls := .none, data := .fields #[] }) :: heapC P
noncomputable def viewV : Program := view Challenge.rw_xg0051_01.row.prog [0, 2, 3, 4, 6, 7, 9, 10, 11, 13, 14, 15, 16, 17, 19, 20, 21, 22, 23, 24, 25]
noncomputable def headHook : Hook := kHook heapX [90, 2, 3, 15, 17, 18, 20, 21, 22, 24, 25, 27, 28, 29, 31, 32, 34, 35, 36, 38, 39, 41, 42, 43, 46, 51, 52, 53, 55, 56, 58, 59, 60, 62, 63, 65, 66, 67, 68, 70, 71, 73, 74, 75, 77, 78, 80, 81, 82, 84, 85, 87, 88, 89, 91, 92, 94, 95, 96, 97, 99, 100, 102, 103, 104, 106, 107, 109, 110, 111, 113, 114, 116, 117, 118, 119, 120, 121, 122, 132, 134, 135, 137, 138, 139, 141, 142, 144, 145, 146, 147, 148, 149, 150, 153, 155, 156, 158, 159, 160, 162, 163, 165, 166, 167, 169, 170, 172, 173, 174, 176, 177, 179, 180, 181, 184, 185, 186, 189, 190, 191, 194, 195, 196, 198, 199, 201, 202, 203, 205, 206, 208, 209, 210, 212, 213, 215, 216, 217, 220, 221] (fun _ => by kernel_rfl)
theorem headLeft : LeftO Challenge.rw_xg0051_01.row.prog viewV ["_Accumulator"] (fun s => xlAt viewV [] s && recOk (RowW.records Challenge.rw_xg0051_01.row.toRowW) s) headHook.obs headHook.val 2766 := by
  intro w
  unfold openEnds topFrom
  rw [PySem.W.Fast.te14082659384304107361, PySem.W.Fast.te14364793385576792824]
  kernel_rfl
theorem saidOk : PySem.Challenge.rw_xg0051_01.wellSaid = true := by
  rw [PySem.W.Fast.te9446332074065402090]
  kernel_rfl

end
section
/- Om -/
theorem omS {a b : Nat} (h : a ≤ b) : a ≤ b + 1 := Nat.le_succ_of_le h
theorem omS2 {a b : Nat} (h : a ≤ b) : a ≤ b + 1 + 1 := omS (omS h)
theorem omS4 {a b : Nat} (h : a ≤ b) : a ≤ b + 1 + 1 + 1 + 1 := omS2 (omS2 h)
theorem omS8 {a b : Nat} (h : a ≤ b) : a ≤ b + 1 + 1 + 1 + 1 + 1 + 1 + 1 + 1 := omS4 (omS4 h)
theorem omT {a b c : Nat} (k : b ≤ c) (h : a ≤ b) : a ≤ c := Nat.le_trans h k
theorem omE {a b c : Nat} (k : b = c) (h : a ≤ b) : a ≤ c := k ▸ h
theorem omB {a k : Nat} : a ≤ a + k := Nat.le_add_right a k
theorem omC {a j k : Nat} (h : Nat.ble j k = true) : a + j ≤ a + k := Nat.add_le_add_left (Nat.le_of_ble_eq_true h) a
theorem omD {a j k n : Nat} (h : a + j < n) (e : Nat.ble k j = true) : a + k < n := Nat.lt_of_le_of_lt (omC e) h
theorem omD0 {a j n : Nat} (h : a + j < n) : a < n := Nat.lt_of_le_of_lt omB h
theorem omD1 {a b i j k n : Nat} (h : a + j < n) (e : b = a + i) (c : Nat.ble (i + k) j = true) : b + k < n := by
  subst e
  rw [Nat.add_assoc]
  exact omD h c
theorem omD10 {a b i j n : Nat} (h : a + j < n) (e : b = a + i) (c : Nat.ble i j = true) : b < n := e ▸ omD h c
theorem omL {a b k : Nat} (h : a ≤ b) (e : Nat.ble b k = true) : a ≤ k := Nat.le_trans h (Nat.le_of_ble_eq_true e)
theorem omLE {a b k : Nat} (h : a = b) (e : Nat.ble b k = true) : a ≤ k := h ▸ Nat.le_of_ble_eq_true e
theorem omLt {a b k : Nat} (h : a < b) (e : Nat.ble b k = true) : a < k := Nat.lt_of_lt_of_le h (Nat.le_of_ble_eq_true e)
theorem omLlt {a b k : Nat} (h : a ≤ b) (e : Nat.ble (b + 1) k = true) : a < k := Nat.lt_of_le_of_lt h (Nat.le_of_ble_eq_true e)
theorem omN {a k : Nat} (e : Nat.ble 1 k = true) : a + k ≠ a := Nat.ne_of_gt (Nat.lt_add_of_pos_right (Nat.le_of_ble_eq_true e))
theorem omN' {a k : Nat} (e : Nat.ble 1 k = true) : a ≠ a + k := (omN e).symm
theorem omM {a j k : Nat} (e : Nat.beq j k = false) : a + j ≠ a + k := fun q => Nat.ne_of_beq_eq_false e (Nat.add_left_cancel q)
theorem omG {c d a : Nat} (h : d < a) (e : Nat.ble c d = true) : c ≠ a := Nat.ne_of_lt (Nat.lt_of_le_of_lt (Nat.le_of_ble_eq_true e) h)
theorem omG' {c d a : Nat} (h : d < a) (e : Nat.ble c d = true) : a ≠ c := (omG h e).symm
theorem omGk {c d a k : Nat} (h : d < a) (e : Nat.ble c d = true) : c ≠ a + k := Nat.ne_of_lt (Nat.lt_of_lt_of_le (Nat.lt_of_le_of_lt (Nat.le_of_ble_eq_true e) h) omB)
theorem omGk' {c d a k : Nat} (h : d < a) (e : Nat.ble c d = true) : a + k ≠ c := (omGk h e).symm
theorem omA {a b k : Nat} (h : a < b) : a ≠ b + k := Nat.ne_of_lt (Nat.lt_of_lt_of_le h omB)
theorem omA' {a b k : Nat} (h : a < b) : b + k ≠ a := (omA h).symm
theorem omA0 {a b : Nat} (h : a < b) : a ≠ b := Nat.ne_of_lt h
theorem omA0' {a b : Nat} (h : a < b) : b ≠ a := (omA0 h).symm
theorem omSub {n i : Nat} (h : i < n) : n + 1 - (i + 1) < n + 1 - i := by omega
theorem omSub0 {n i : Nat} (h : i < n) : n - (i + 1) < n - i := by omega
theorem omLS {a b : Nat} (h : a ≤ b) : a < b + 1 := Nat.lt_succ_of_le h
theorem omLk {a b c : Nat} (h : b < c) (k : a ≤ b) : a < c := Nat.lt_of_le_of_lt k h
theorem omKl {a b c : Nat} (h : b ≤ c) (k : a < b) : a < c := Nat.lt_of_lt_of_le k h
theorem lt3 {i : Nat} (h : i < 3) : i = 0 ∨ i = 1 ∨ i = 2 := by omega
theorem lt5 {i : Nat} (h : i < 5) : i = 0 ∨ i = 1 ∨ i = 2 ∨ i = 3 ∨ i = 4 := by omega
theorem omLe {a b : Nat} (h : a < b) : a ≤ b := Nat.le_of_lt h
section
variable {M : Model} {A : Around} {E : Value → Shared → Prop} {s : Shared}
@[reducible] noncomputable def Hid {α : Type} (Q P : α → Shared → Prop) : Prop := ∀ v s, P v s → Q v s
theorem hideQ {α : Type} {t : Sem α} {P : α → Shared → Prop} (h : ∀ Q : α → Shared → Prop, Hid Q P → wpAny M A t Q E s) : wpAny M A t P E s := h P fun _ _ e => e
theorem hidden {α : Type} {t : Sem α} {P Q : α → Shared → Prop} (_ : Hid Q P) (h : wpAny M A t Q E s) : wpAny M A t Q E s := h
theorem unhide {α : Type} {P Q : α → Shared → Prop} {v : α} (H : Hid Q P) (h : P v s) : Q v s := H v s h
theorem wpHid {α : Type} {t : Sem α} {P Q : α → Shared → Prop} (H : Hid Q P) (h : wpAny M A t P E s) : wpAny M A t Q E s := wpAny_mono h H fun _ _ e => e
end
noncomputable def Stopped (p : Prop) : Prop := p
theorem unstop {p : Prop} (h : p) : Stopped p := h
section
variable {M : Model} {A : Around} {E : Value → Shared → Prop} {s : Shared}
theorem hlWhile {a b c d e Q} (h : Stopped (wpAny M A (exec (Stmt.While a b c d) e) Q E s)) : wpAny M A (exec (Stmt.While a b c d) e) Q E s := h
theorem hlFor {a b c d f e Q} (h : Stopped (wpAny M A (exec (Stmt.For a b c d f) e) Q E s)) : wpAny M A (exec (Stmt.For a b c d f) e) Q E s := h
theorem hlIter {a Q} (h : Stopped (wpAny M A (pyIter a) Q E s)) : wpAny M A (pyIter a) Q E s := h
theorem hlRef {a b Q} (h : Stopped (wpAny M A (call (Value.ref a) b) Q E s)) : wpAny M A (call (Value.ref a) b) Q E s := h
theorem hlEnum {b Q} (h : Stopped (wpAny M A (call (Value.type "enumerate") b) Q E s)) : wpAny M A (call (Value.type "enumerate") b) Q E s := h
theorem hlSubN {a b c d e Q} (h : Stopped (wpAny M A (subscriptTail a b (Value.ref c) (Value.int (Nat.cast d) e)) Q E s)) : wpAny M A (subscriptTail a b (Value.ref c) (Value.int (Nat.cast d) e)) Q E s := h
theorem hlSetI {a b c Q} (h : Stopped (wpAny M A (setItem a b c) Q E s)) : wpAny M A (setItem a b c) Q E s := h
theorem hlMeth {a b c Q} (h : Stopped (wpAny M A (getMethod (Value.ref a) b c) Q E s)) : wpAny M A (getMethod (Value.ref a) b c) Q E s := h
theorem hlSubR {a b c d Q} (h : Stopped (wpAny M A (subscriptTail a b (Value.ref c) (Value.ref d)) Q E s)) : wpAny M A (subscriptTail a b (Value.ref c) (Value.ref d)) Q E s := h
theorem hlSub0 {a b c d Q} (h : Stopped (wpAny M A (subscriptTail a b (Value.ref c) (Value.int 0 d)) Q E s)) : wpAny M A (subscriptTail a b (Value.ref c) (Value.int 0 d)) Q E s := h
theorem hlSubM {a b c d e f Q} (h : Stopped (wpAny M A (subscriptTail a b (Value.ref c) (Value.int (d - e) f)) Q E s)) : wpAny M A (subscriptTail a b (Value.ref c) (Value.int (d - e) f)) Q E s := h
theorem hlList {a Q} (h : Stopped (wpAny M A (newList a) Q E s)) : wpAny M A (newList a) Q E s := h
theorem hlSubT {a b c d e Q} (h : Stopped (wpAny M A (subscriptTail a b (Value.str c d) e) Q E s)) : wpAny M A (subscriptTail a b (Value.str c d) e) Q E s := h
theorem hlAsgLc {a b c d e f g i Q} (h : Stopped (wpAny M A (exec (Stmt.Assign [Expr.Name a b] (Expr.ListComp c d e f) g) i) Q E s)) : wpAny M A (exec (Stmt.Assign [Expr.Name a b] (Expr.ListComp c d e f) g) i) Q E s := h
theorem hlType {a b Q} (h : Stopped (wpAny M A (call (Value.type a) b) Q E s)) : wpAny M A (call (Value.type a) b) Q E s := h
theorem hlExAsgC {a b c d e f g i j Q} (h : Stopped (wpAny M A (execs (Stmt.Assign [Expr.Name a b] (Expr.Call c d e f) g :: i) j) Q E s)) : wpAny M A (execs (Stmt.Assign [Expr.Name a b] (Expr.Call c d e f) g :: i) j) Q E s := h
theorem hlDict {a b c d Q} (h : Stopped (wpAny M A (eval (Expr.Dict a b c) d) Q E s)) : wpAny M A (eval (Expr.Dict a b c) d) Q E s := h
theorem hlLc {a b c d e Q} (h : Stopped (wpAny M A (eval (Expr.ListComp a b c d) e) Q E s)) : wpAny M A (eval (Expr.ListComp a b c d) e) Q E s := h
theorem hlExIf {a b c d e f Q} (h : Stopped (wpAny M A (execs (Stmt.If a b c d :: e) f) Q E s)) : wpAny M A (execs (Stmt.If a b c d :: e) f) Q E s := h
theorem hlExFor {a b c d e f g Q} (h : Stopped (wpAny M A (execs (Stmt.For a b c d e :: f) g) Q E s)) : wpAny M A (execs (Stmt.For a b c d e :: f) g) Q E s := h
theorem hlJoin {b Q} (h : Stopped (wpAny M A (call (Value.builtin "str.join") b) Q E s)) : wpAny M A (call (Value.builtin "str.join") b) Q E s := h
theorem hlSubS {a b c d e Q} (h : Stopped (wpAny M A (subscriptTail a b (Value.ref c) (Value.str d e)) Q E s)) : wpAny M A (subscriptTail a b (Value.ref c) (Value.str d e)) Q E s := h
theorem hlExAsgLc {a b c d e f g i j Q} (h : Stopped (wpAny M A (execs (Stmt.Assign [Expr.Name a b] (Expr.ListComp c d e f) g :: i) j) Q E s)) : wpAny M A (execs (Stmt.Assign [Expr.Name a b] (Expr.ListComp c d e f) g :: i) j) Q E s := h
theorem hlExAsgN {a b c d g i j Q} (h : Stopped (wpAny M A (execs (Stmt.Assign [Expr.Name a b] (Expr.Name c d) g :: i) j) Q E s)) : wpAny M A (execs (Stmt.Assign [Expr.Name a b] (Expr.Name c d) g :: i) j) Q E s := h
theorem hlExAsgD {a b c d e f k g i j Q} (h : Stopped (wpAny M A (execs (Stmt.Assign [Expr.Name a b] (Expr.DictComp c d e f k) g :: i) j) Q E s)) : wpAny M A (execs (Stmt.Assign [Expr.Name a b] (Expr.DictComp c d e f k) g :: i) j) Q E s := h
theorem hlSubP {a b c d e f Q} (h : Stopped (wpAny M A (subscriptTail a b (Value.ref c) (Value.int (d + e) f)) Q E s)) : wpAny M A (subscriptTail a b (Value.ref c) (Value.int (d + e) f)) Q E s := h
theorem hlAddS {a b c d Q} (h : Stopped (wpAny M A (binaryOp .Add (Value.str a b) (Value.str c d)) Q E s)) : wpAny M A (binaryOp .Add (Value.str a b) (Value.str c d)) Q E s := h
theorem hlAddR {a b Q} (h : Stopped (wpAny M A (binaryOp .Add (Value.ref a) (Value.ref b)) Q E s)) : wpAny M A (binaryOp .Add (Value.ref a) (Value.ref b)) Q E s := h
noncomputable def cmpd : Expr → Bool
  | .Call .. => true
  | .BinOp .. => true
  | .Compare .. => true
  | .BoolOp .. => true
  | .Subscript .. => true
  | .List .. => true
  | .Tuple .. => true
  | _ => false
theorem hideX {a : Stmt} {e : Env} {P : Flow → Shared → Prop} (h : ∀ Q : Flow → Shared → Prop, Hid Q P → wpAny M A (exec a e) Q E s) : wpAny M A (exec a e) P E s := h P fun _ _ e => e
theorem hideE {a : Expr} {e : Env} {P : Value → Shared → Prop} (_ : cmpd a = true) (h : ∀ Q : Value → Shared → Prop, Hid Q P → wpAny M A (eval a e) Q E s) : wpAny M A (eval a e) P E s := h P fun _ _ e => e
theorem notHid {α : Type} {P Q : α → Shared → Prop} {p : (α → Shared → Prop) → Prop} (_ : Hid Q P) (h : ∀ Q', Hid Q' Q → p Q') : ∀ Q', Hid Q' Q → p Q' := h
end
inductive Ex2 {α1 α2 : Type} (P : α1 → α2 → Prop) : Prop
  | mk (a1 : α1) (a2 : α2) (h : P a1 a2) : Ex2 P
inductive Ex3 {α1 α2 α3 : Type} (P : α1 → α2 → α3 → Prop) : Prop
  | mk (a1 : α1) (a2 : α2) (a3 : α3) (h : P a1 a2 a3) : Ex3 P
inductive Ex4 {α1 α2 α3 α4 : Type} (P : α1 → α2 → α3 → α4 → Prop) : Prop
  | mk (a1 : α1) (a2 : α2) (a3 : α3) (a4 : α4) (h : P a1 a2 a3 a4) : Ex4 P
inductive Ex5 {α1 α2 α3 α4 α5 : Type} (P : α1 → α2 → α3 → α4 → α5 → Prop) : Prop
  | mk (a1 : α1) (a2 : α2) (a3 : α3) (a4 : α4) (a5 : α5) (h : P a1 a2 a3 a4 a5) : Ex5 P
inductive Ex6 {α1 α2 α3 α4 α5 α6 : Type} (P : α1 → α2 → α3 → α4 → α5 → α6 → Prop) : Prop
  | mk (a1 : α1) (a2 : α2) (a3 : α3) (a4 : α4) (a5 : α5) (a6 : α6) (h : P a1 a2 a3 a4 a5 a6) : Ex6 P
inductive Ex7 {α1 α2 α3 α4 α5 α6 α7 : Type} (P : α1 → α2 → α3 → α4 → α5 → α6 → α7 → Prop) : Prop
  | mk (a1 : α1) (a2 : α2) (a3 : α3) (a4 : α4) (a5 : α5) (a6 : α6) (a7 : α7) (h : P a1 a2 a3 a4 a5 a6 a7) : Ex7 P
inductive Ex8 {α1 α2 α3 α4 α5 α6 α7 α8 : Type} (P : α1 → α2 → α3 → α4 → α5 → α6 → α7 → α8 → Prop) : Prop
  | mk (a1 : α1) (a2 : α2) (a3 : α3) (a4 : α4) (a5 : α5) (a6 : α6) (a7 : α7) (a8 : α8) (h : P a1 a2 a3 a4 a5 a6 a7 a8) : Ex8 P
inductive Ex9 {α1 α2 α3 α4 α5 α6 α7 α8 α9 : Type} (P : α1 → α2 → α3 → α4 → α5 → α6 → α7 → α8 → α9 → Prop) : Prop
  | mk (a1 : α1) (a2 : α2) (a3 : α3) (a4 : α4) (a5 : α5) (a6 : α6) (a7 : α7) (a8 : α8) (a9 : α9) (h : P a1 a2 a3 a4 a5 a6 a7 a8 a9) : Ex9 P
inductive Ex10 {α1 α2 α3 α4 α5 α6 α7 α8 α9 α10 : Type} (P : α1 → α2 → α3 → α4 → α5 → α6 → α7 → α8 → α9 → α10 → Prop) : Prop
  | mk (a1 : α1) (a2 : α2) (a3 : α3) (a4 : α4) (a5 : α5) (a6 : α6) (a7 : α7) (a8 : α8) (a9 : α9) (a10 : α10) (h : P a1 a2 a3 a4 a5 a6 a7 a8 a9 a10) : Ex10 P
inductive Ex11 {α1 α2 α3 α4 α5 α6 α7 α8 α9 α10 α11 : Type} (P : α1 → α2 → α3 → α4 → α5 → α6 → α7 → α8 → α9 → α10 → α11 → Prop) : Prop
  | mk (a1 : α1) (a2 : α2) (a3 : α3) (a4 : α4) (a5 : α5) (a6 : α6) (a7 : α7) (a8 : α8) (a9 : α9) (a10 : α10) (a11 : α11) (h : P a1 a2 a3 a4 a5 a6 a7 a8 a9 a10 a11) : Ex11 P
inductive Ex12 {α1 α2 α3 α4 α5 α6 α7 α8 α9 α10 α11 α12 : Type} (P : α1 → α2 → α3 → α4 → α5 → α6 → α7 → α8 → α9 → α10 → α11 → α12 → Prop) : Prop
  | mk (a1 : α1) (a2 : α2) (a3 : α3) (a4 : α4) (a5 : α5) (a6 : α6) (a7 : α7) (a8 : α8) (a9 : α9) (a10 : α10) (a11 : α11) (a12 : α12) (h : P a1 a2 a3 a4 a5 a6 a7 a8 a9 a10 a11 a12) : Ex12 P
inductive Ex13 {α1 α2 α3 α4 α5 α6 α7 α8 α9 α10 α11 α12 α13 : Type} (P : α1 → α2 → α3 → α4 → α5 → α6 → α7 → α8 → α9 → α10 → α11 → α12 → α13 → Prop) : Prop
  | mk (a1 : α1) (a2 : α2) (a3 : α3) (a4 : α4) (a5 : α5) (a6 : α6) (a7 : α7) (a8 : α8) (a9 : α9) (a10 : α10) (a11 : α11) (a12 : α12) (a13 : α13) (h : P a1 a2 a3 a4 a5 a6 a7 a8 a9 a10 a11 a12 a13) : Ex13 P
inductive Ex14 {α1 α2 α3 α4 α5 α6 α7 α8 α9 α10 α11 α12 α13 α14 : Type} (P : α1 → α2 → α3 → α4 → α5 → α6 → α7 → α8 → α9 → α10 → α11 → α12 → α13 → α14 → Prop) : Prop
  | mk (a1 : α1) (a2 : α2) (a3 : α3) (a4 : α4) (a5 : α5) (a6 : α6) (a7 : α7) (a8 : α8) (a9 : α9) (a10 : α10) (a11 : α11) (a12 : α12) (a13 : α13) (a14 : α14) (h : P a1 a2 a3 a4 a5 a6 a7 a8 a9 a10 a11 a12 a13 a14) : Ex14 P
inductive And3 (A1 A2 A3 : Prop) : Prop
  | mk (h1 : A1) (h2 : A2) (h3 : A3) : And3 A1 A2 A3
inductive And4 (A1 A2 A3 A4 : Prop) : Prop
  | mk (h1 : A1) (h2 : A2) (h3 : A3) (h4 : A4) : And4 A1 A2 A3 A4
inductive And5 (A1 A2 A3 A4 A5 : Prop) : Prop
  | mk (h1 : A1) (h2 : A2) (h3 : A3) (h4 : A4) (h5 : A5) : And5 A1 A2 A3 A4 A5
inductive And6 (A1 A2 A3 A4 A5 A6 : Prop) : Prop
  | mk (h1 : A1) (h2 : A2) (h3 : A3) (h4 : A4) (h5 : A5) (h6 : A6) : And6 A1 A2 A3 A4 A5 A6
inductive And7 (A1 A2 A3 A4 A5 A6 A7 : Prop) : Prop
  | mk (h1 : A1) (h2 : A2) (h3 : A3) (h4 : A4) (h5 : A5) (h6 : A6) (h7 : A7) : And7 A1 A2 A3 A4 A5 A6 A7
inductive And8 (A1 A2 A3 A4 A5 A6 A7 A8 : Prop) : Prop
  | mk (h1 : A1) (h2 : A2) (h3 : A3) (h4 : A4) (h5 : A5) (h6 : A6) (h7 : A7) (h8 : A8) : And8 A1 A2 A3 A4 A5 A6 A7 A8
inductive And9 (A1 A2 A3 A4 A5 A6 A7 A8 A9 : Prop) : Prop
  | mk (h1 : A1) (h2 : A2) (h3 : A3) (h4 : A4) (h5 : A5) (h6 : A6) (h7 : A7) (h8 : A8) (h9 : A9) : And9 A1 A2 A3 A4 A5 A6 A7 A8 A9
inductive And10 (A1 A2 A3 A4 A5 A6 A7 A8 A9 A10 : Prop) : Prop
  | mk (h1 : A1) (h2 : A2) (h3 : A3) (h4 : A4) (h5 : A5) (h6 : A6) (h7 : A7) (h8 : A8) (h9 : A9) (h10 : A10) : And10 A1 A2 A3 A4 A5 A6 A7 A8 A9 A10
inductive And11 (A1 A2 A3 A4 A5 A6 A7 A8 A9 A10 A11 : Prop) : Prop
  | mk (h1 : A1) (h2 : A2) (h3 : A3) (h4 : A4) (h5 : A5) (h6 : A6) (h7 : A7) (h8 : A8) (h9 : A9) (h10 : A10) (h11 : A11) : And11 A1 A2 A3 A4 A5 A6 A7 A8 A9 A10 A11
inductive And12 (A1 A2 A3 A4 A5 A6 A7 A8 A9 A10 A11 A12 : Prop) : Prop
  | mk (h1 : A1) (h2 : A2) (h3 : A3) (h4 : A4) (h5 : A5) (h6 : A6) (h7 : A7) (h8 : A8) (h9 : A9) (h10 : A10) (h11 : A11) (h12 : A12) : And12 A1 A2 A3 A4 A5 A6 A7 A8 A9 A10 A11 A12

end
end Mine
local macro_rules | `(tactic| walk_at "om") => `(tactic| first | with_reducible assumption | decide | with_reducible exact Mine.omD (by assumption) (by decide) | with_reducible exact Mine.omD0 (by assumption) | with_reducible exact Mine.omD1 (by assumption) (by assumption) (by decide) | with_reducible exact Mine.omD10 (by assumption) (by assumption) (by decide) | with_reducible exact Mine.omN (by decide) | with_reducible exact Mine.omN' (by decide) | with_reducible exact Mine.omM (by decide) | with_reducible exact Mine.omA0 (by assumption) | with_reducible exact Mine.omA0' (by assumption) | with_reducible exact Mine.omA (by assumption) | with_reducible exact Mine.omA' (by assumption) | with_reducible exact Mine.omL (by assumption) (by decide) | with_reducible exact Mine.omLE (by assumption) (by decide) | with_reducible exact Mine.omLt (by assumption) (by decide) | with_reducible exact Mine.omLlt (by assumption) (by decide) | with_reducible exact Mine.omG (by assumption) (by decide) | with_reducible exact Mine.omG' (by assumption) (by decide) | with_reducible exact Mine.omGk (by assumption) (by decide) | with_reducible exact Mine.omGk' (by assumption) (by decide) | with_reducible exact Mine.omSub (by assumption) | with_reducible exact Mine.omSub0 (by assumption) | with_reducible exact Mine.omLe (by assumption) | ((first | (with_reducible show (_ : Nat) ≤ _) | with_reducible refine Mine.omLS ?_ | with_reducible refine Mine.omLk (by assumption) ?_); (iterate 14 (first | done | with_reducible exact Nat.le_refl _ | with_reducible assumption | with_reducible exact Mine.omB | ((fail_if_success (with_reducible show (_ : Nat) ≤ @OfNat.ofNat Nat _ _)); first | with_reducible exact Mine.omC (by decide) | with_reducible refine Mine.omS8 ?_ | with_reducible refine Mine.omS4 ?_ | with_reducible refine Mine.omS2 ?_ | with_reducible refine Mine.omS ?_ | with_reducible refine Mine.omT (by assumption) ?_ | with_reducible refine Mine.omE (by assumption) ?_))); done) | (with_reducible refine Mine.omKl (by assumption) ?_; with_reducible assumption) | ((repeat ((with_reducible rename Mine.Hid _ _ => hx); clear hx)); first | lia | omega))
local macro_rules | `(tactic| walk_at "hideN") => `(tactic| (with_reducible refine Mine.hideQ ?_; walk_at "introQ"))
local macro_rules | `(tactic| walk_at "uh") => `(tactic| (with_reducible refine (by assumption : Mine.Hid _ _) _ _ ?_))
local macro_rules | `(tactic| walk_at "un") => `(tactic| repeat' (first | ((with_reducible refine (by assumption : Mine.Hid _ _) _ _ ?_); try dsimp only) | fail))
local macro_rules | `(tactic| walk_at "one") => `(tactic| first | ((with_reducible show wpAny _ _ _ _ _ _); first | ((first | with_reducible refine Mine.hideX ?_ | with_reducible refine Mine.hideE (by with_unfolding_all exact rfl) ?_); (fail_if_success (with_reducible refine Mine.notHid (by assumption) ?_)); walk_at "introQ") | walk1) | (dsimp only; (with_reducible show wpAny _ _ _ _ _ _); walk1) | ((with_reducible show (if _ then _ else _)); walk1) | ((with_reducible refine (by assumption : Mine.Hid _ _) _ _ ?_); try dsimp only) | fail)
namespace Mine
section
/- Lay -/
noncomputable abbrev tupObj (vs : List Value) : Obj := { cls := .type "tuple", data := .seq vs.toArray }
noncomputable abbrev Sub (h h' : Heap) : Prop := ∀ b o, h.get? b = some o → h'.get? b = some o

structure Gr (w : World) (g : Heap) : Prop where
  k : (Mine.heapK w.params).In g
  t : ∃ loose mg mb p, TopRead p loose mg mb g
  m : ∃ mg bm ob, BMod g mainGlobals mg bm ob
theorem Gr.up {w : World} {g g' : Heap} (G : Gr w g) (hk : Sub g g') : Gr w g' :=
  let ⟨a, b, c, p, T⟩ := G.t
  let ⟨mg, bm, ob, M⟩ := G.m
  ⟨G.k.keeps hk, ⟨a, b, c, p, T.keeps hk⟩, ⟨mg, bm, ob, M.keeps hk⟩⟩
theorem Gr.nolimit {w : World} {g : Heap} (G : Gr w g) : g.NoLimit := let ⟨_, _, _, _, T⟩ := G.t; T.nolimit

structure Fx (g : Heap) (L : Addr) (h : Heap) (m : Str → Option Value) : Prop where
  ns : h.Ns L m
  keep : Sub g h
theorem Fx.up {g h h' : Heap} {L : Addr} {m : Str → Option Value} (F : Fx g L h m) (hk : Sub h h') : Fx g L h' m := ⟨F.ns.keeps hk, fun b o e => hk b o (F.keep b o e)⟩
theorem Fx.cast {g h : Heap} {L : Addr} {m m' : Str → Option Value} (F : Fx g L h m) (e : ∀ x, m x = m' x) : Fx g L h m' := by
  have : m = m' := funext e
  subst this; exact F

section
variable {M : Model} {A : Around} {E : Value → Shared → Prop} {s : Shared} {env : Env} {w : World} {g : Heap} {L : Addr} {m : Str → Option Value} {x : Str} {pos : Pos} {v : Value} {Q : Value → Shared → Prop}
theorem nmL (F : Fx g L s.heap m) (hv : m x = some v) (h : Q v s) (hL : env.locals = L := by k_dflt rfl)
    (hk : env.scope.kind = .function := by k_dflt rfl) (hx : env.kindOf x = some .local := by k_dflt rfl) (hd : (x == ("__debug__" : Str)) = false := by k_dflt decide) :
    wpAny M A (eval (.Name x pos) env) Q E s := by
  subst hL
  exact wpAny_Name (wpAny_loadName_local hk hx F.ns hv h) hd
theorem ldL (F : Fx g L s.heap m) (hv : m x = some v) (h : Q v s) (hL : env.locals = L := by k_dflt rfl)
    (hk : env.scope.kind = .function := by k_dflt rfl) (hx : env.kindOf x = some .local := by k_dflt rfl) :
    wpAny M A (loadName env x) Q E s := by
  subst hL
  exact wpAny_loadName_local hk hx F.ns hv h
theorem nmK (G : Gr w g) (F : Fx g L s.heap m) (e : nsIn (Mine.heapK w.params) mainGlobals x = some (some v)) (h : Q v s)
    (hgl : env.globals = mainGlobals := by k_dflt rfl) (hk : env.scope.kind = .function := by k_dflt rfl) (hx : env.kindOf x = some .globalImplicit := by k_dflt rfl) (hd : (x == ("__debug__" : Str)) = false := by k_dflt decide) :
    wpAny M A (eval (.Name x pos) env) Q E s := by
  obtain ⟨_, mg, mb, _, T⟩ := G.t
  exact Name_function_global hk hx (loadGlobal_global (by rw [hgl]; exact T.g.keeps F.keep) (mg_of G.k T.g e) h) hd
theorem nmB (G : Gr w g) (F : Fx g L s.heap m) (e : nsIn (Mine.heapK w.params) mainGlobals x = some none) (hv : bootBuiltins x = some v) (hn : x ≠ "__name__") (h : Q v s)
    (hgl : env.globals = mainGlobals := by k_dflt rfl) (hbl : env.builtins = builtinsNs := by k_dflt rfl) (hk : env.scope.kind = .function := by k_dflt rfl) (hx : env.kindOf x = some .globalImplicit := by k_dflt rfl) (hd : (x == ("__debug__" : Str)) = false := by k_dflt decide) :
    wpAny M A (eval (.Name x pos) env) Q E s := by
  obtain ⟨_, mg, mb, _, T⟩ := G.t
  exact Name_function_global hk hx (loadGlobal_builtin (by rw [hgl]; exact T.g.keeps F.keep) (mg_none_of G.k T.g e) (by rw [hbl]; exact T.b.keeps F.keep) ((T.builtins x hn).trans hv) h) hd
theorem nmC {c : Addr} (hc : env.cells.lookup x = some c) (hcell : s.heap.IsCell c (some v)) (h : Q v s)
    (hk : env.scope.kind = .function := by k_dflt rfl) (hx : env.kindOf x = some .cell := by k_dflt rfl) (hb : (x == ("__debug__" : Str)) = false := by k_dflt decide) :
    wpAny M A (eval (.Name x pos) env) Q E s := wpAny_Name (wpAny_loadName_cell hk hx hc hcell h) hb
theorem nmF {c : Addr} (hc : env.cells.lookup x = some c) (hcell : s.heap.IsCell c (some v)) (h : Q v s)
    (hk : env.scope.kind = .function := by k_dflt rfl) (hx : env.kindOf x = some .free := by k_dflt rfl) (hb : (x == ("__debug__" : Str)) = false := by k_dflt decide) (hn : (x == ("__classdict__" : Str)) = false := by k_dflt decide) :
    wpAny M A (eval (.Name x pos) env) Q E s := wpAny_Name (wpAny_loadName_free hk hx hc hcell h hn) hb
end
section
variable {M : Model} {A : Around} {E : Value → Shared → Prop} {s : Shared} {env : Env} {g : Heap} {L : Addr} {m : Str → Option Value} {x : Str} {v : Value} {Q : Unit → Shared → Prop}
theorem stL (F : Fx g L s.heap m) (O : g.get? L = none)
    (h : ∀ h', Fx g L h' (fun y => if y = x then some v else m y) → Heap.SameBut L s.heap h' → Q () { s with heap := h', toks := s.toks + 1 }) (hL : env.locals = L := by k_dflt rfl)
    (hk : env.scope.kind = .function := by k_dflt rfl) (hx : env.kindOf x = some .local := by k_dflt rfl) : wpAny M A (storeName env x v) Q E s := by
  subst hL
  exact wpAny_storeName_local hx F.ns (fun h' hn hs => h h' ⟨hn, fun b o e => (hs.2 b (fun q => by rw [q, O] at e; cases e)).trans (F.keep b o e)⟩ hs) (by rw [hk]; rfl)
end

section
variable {M : Model} {A : Around} {E : Value → Shared → Prop} {s : Shared} {env : Env} {Q : Unit → Shared → Prop}
theorem asg_cons {x : Str} {px : Pos} {es : List Expr} {v : Value} {vs : List Value} (h : wpAny M A (storeName env x v) (fun _ s₁ => wpAny M A (assignInOrder ((assignEach es env).map (·.2)) vs) Q E s₁) E s) :
    wpAny M A (assignInOrder ((assignEach (.Name x px :: es) env).map (·.2)) (v :: vs)) Q E s :=
  wpAny_assignInOrder_more (ts := (assignEach es env).map (·.2)) (t := assign (.Name x px) env) (wpAny_assign_Name h)
theorem asg_nil (h : Q () s) : wpAny M A (assignInOrder ((assignEach [] env).map (·.2)) []) Q E s := wpAny_assignInOrder_none h
end

/-- entering a plain def of the text: the base g is a part of the heap at the call -/
theorem enter {prog : Program} {w : World} {A : Around} {s : Shared} {K : Frag} {R : Result → Shared → Prop} {name qual : Str} {params : Arguments} {body : List Stmt} {scope : Scope}
    {dV kV doc pm cdv ct oc : Value} {an od : Option Addr} {osl : Array (Option Value)} {f : Addr} {args : Args} (binds : List (Str × Value)) (g : Heap)
    (X : K.In s.heap) (hlim : s.heap.NoLimit) (hg : Sub g s.heap)
    (ho : K.lookup f = some ⟨oc, od, .func (fnOf name qual params body scope dV kV doc pm an cdv ct), osl⟩) (hcd : codeIn K cdv qual = true) (hroom : A.depth < recursionLimit)
    (hbind : BindsTo s (fnOf name qual params body scope dV kV doc pm an cdv ct) args binds) (hloc : ∀ y ∈ binds, scope.names.lookup y.1 = some .local)
    (h : ∀ L' h₁ A' tk, L' = s.heap.objs.size → Sub s.heap h₁ → Fx g L' h₁ (fun y => binds.reverse.lookup y) → g.get? L' = none → A'.handled = A.handled → A'.depth = A.depth + 1 → A'.units = A.units + 3 → s.toks ≤ tk →
      wpAny (model prog w) A' (execs body (envX qual scope L' f cdv []))
        (fun fl s' => R (.ok (.ret (match fl with | .ret v => v | _ => .none))) s') (fun _ _ => False) { s with heap := h₁, toks := tk })
    (hcell : ∀ x ∈ scope.names, x.2 ≠ .cell) (hco : scope.isCoroutine = false) (hgen : scope.isGenerator = false) (hk : scope.kind = .function) :
    codeAny (model prog w) A (.call (.ref f) args) R s := by
  refine codeAny_call_def (fd := fnOf name qual params body scope dV kV doc pm an cdv ct) (body := body) (binds := binds) hroom (X _ _ ho) rfl hlim (codeRec_of X hcd) rfl hbind hcell hloc (fun h₁ hns hk₁ => ?_) hco hgen hk
  have hn : g.get? s.heap.objs.size = none := by
    cases q : g.get? s.heap.objs.size with
    | none => rfl
    | some o => exact absurd (Heap.lt_size (hg _ _ q)) (Nat.lt_irrefl _)
  exact wpAny_mono (h s.heap.objs.size h₁ (A.deeper (envX qual scope s.heap.objs.size f cdv [])) (s.toks + binds.length) rfl hk₁ ⟨hns, fun b o e => hk₁ b o (hg b o e)⟩ hn rfl rfl rfl (Nat.le_add_right ..)) (fun fl s' hl => hl) fun _ _ y => y.elim

noncomputable abbrev ov (st : List Str) (u m₀ : Str → Option Value) : Str → Option Value := fun y => if st.contains y then u y else m₀ y
theorem Fx.forget {g h : Heap} {L : Addr} {m m₀ : Str → Option Value} (st : List Str) (F : Fx g L h m) (hm : ∀ y, st.contains y = false → m y = m₀ y) : Fx g L h (ov st m m₀) :=
  F.cast fun y => by
    unfold ov
    cases e : st.contains y with
    | true => rfl
    | false => exact hm y e
theorem Fx.ov0 {g h : Heap} {L : Addr} {m₀ : Str → Option Value} (st : List Str) (F : Fx g L h m₀) : Fx g L h (ov st m₀ m₀) := F.forget st fun _ _ => rfl

theorem Fx.re {g h : Heap} {L : Addr} {m : Str → Option Value} (F : Fx g L h m) : Fx (h.hide L) L h m := ⟨F.ns, fun _ _ e => Heap.of_hide e⟩
theorem hideOff (h : Heap) (L : Addr) : (h.hide L).get? L = none := Heap.hide_self h L
theorem sub_hide {g h : Heap} {L : Addr} (hk : Sub g h) (O : g.get? L = none) : Sub g (h.hide L) := fun b o e => by
  rw [Heap.hide_ne h (fun q => by rw [q, O] at e; cases e)]; exact hk b o e
theorem sub_of_hide (h : Heap) (L : Addr) : Sub (h.hide L) h := fun _ _ e => Heap.of_hide e
theorem hide_in {h : Heap} {L b : Addr} {o : Obj} (e : h.get? b = some o) (hb : b ≠ L) : (h.hide L).get? b = some o := by rw [Heap.hide_ne h hb]; exact e

/-- a for over any iterator that walks -/
theorem for_rule {prog : Program} {w : World} {A : Around} {env : Env} {target : Expr} {body orelse : List Stmt} {I : Addr} {fp wr : List Addr} {n : Nat} {P : Nat → Value → Prop} {St : Nat → Heap → Prop} {R : Result → Shared → Prop} {s : Shared}
    (W : Walks prog w A I fp wr n P St) (J : Nat → Shared → Prop)
    (hst : St 0 s.heap) (h0 : J 0 s)
    (hJ : ∀ i s h' tk, J i s → (∀ b o, b ∉ wr → s.heap.get? b = some o → h'.get? b = some o) → s.toks ≤ tk → J i { s with heap := h', toks := tk })
    (turn : ∀ i v s₁, i < n → P i v → J i s₁ → St (i + 1) s₁.heap → wpAny (model prog w) A (assign target env v) (fun _ s₂ => wpAny (model prog w) A (execs body env) (fun f s₃ => match f with
        | .next | .cont => J (i + 1) s₃ ∧ ∀ b ∈ fp, ∀ o, s₁.heap.get? b = some o → s₃.heap.get? b = some o
        | .brk => R (.ok .next) s₃
        | .ret v => R (.ok (.ret v)) s₃) (fun _ _ => False) s₂) (fun _ _ => False) s₁)
    (done : ∀ s, J n s → wpAny (model prog w) A (execs orelse env) (fun f s₃ => R (.ok f) s₃) (fun _ _ => False) s) (ht : ∀ v, letOwnedTupleGo target (.ref I) v = pure () := by intro _; rfl) :
    codeAny (model prog w) A (.forLoop target (.ref I) body orelse env) R s := by
  refine codeAny_forLoop (fun k s' => ∃ i, i ≤ n ∧ k = n + 1 - i ∧ J i s' ∧ St i s'.heap) ?_ (n + 1) ⟨0, Nat.zero_le _, rfl, h0, hst⟩ ht
  rintro k s' ⟨i, hi, rfl, hJi, hS⟩
  by_cases hlt : i < n
  · refine wpAny_with_toks (Nat.le_refl s'.toks) (W.item i _ _ _ hlt hS fun v h₁ tk₁ hP hst₁ hk₁ htk => ?_)
    have hJ₁ := hJ i s' h₁ tk₁ hJi hk₁ htk
    refine wpAny_mono (turn i v _ hlt hP hJ₁ hst₁) (fun _ s₂ h₂ => wpAny_mono h₂ (fun f s₃ h₃ => ?_) fun _ _ x => x.elim) fun _ _ x => x.elim
    cases f with
    | ret v => exact h₃
    | brk => exact h₃
    | next => exact ⟨n + 1 - (i + 1), by walk_at "om", i + 1, hlt, rfl, h₃.1, W.frame _ _ _ hst₁ h₃.2⟩
    | cont => exact ⟨n + 1 - (i + 1), by walk_at "om", i + 1, hlt, rfl, h₃.1, W.frame _ _ _ hst₁ h₃.2⟩
  · have hin : i = n := by walk_at "om"
    subst hin
    exact wpAny_with_toks (Nat.le_refl s'.toks) (W.done _ _ _ hS fun h₁ tk₁ hk₁ htk => wpAny_mono (done _ (hJ i s' h₁ tk₁ hJi hk₁ htk)) (fun _ _ x => x) fun _ _ x => x.elim)

/-- the same with a target that is a written tuple -/
theorem for_ruleU {prog : Program} {w : World} {A : Around} {env : Env} {elts : List Expr} {k : Nat} {tpos : Pos} {body orelse : List Stmt} {I : Addr} {fp wr : List Addr} {n : Nat} {Pt : Nat → Array Value → Prop} {St : Nat → Heap → Prop} {Mid : Nat → Addr → Heap → Prop} {R : Result → Shared → Prop} {s : Shared}
    (hh : A.handled = none) (W : WalksU prog w A I fp wr n Pt St Mid) (J : Nat → Shared → Prop)
    (hst : St 0 s.heap) (h0 : J 0 s)
    (hJ : ∀ i s h' tk, J i s → (∀ b o, b ∉ wr → s.heap.get? b = some o → h'.get? b = some o) → s.toks ≤ tk → J i { s with heap := h', toks := tk })
    (helts : ∀ i vals, i < n → Pt i vals → (assignEach elts env).length = vals.size) (hstar : (assignEach elts env).findIdx? (·.1) = none)
    (turn : ∀ i vals s₁, i < n → Pt i vals → J i s₁ → wpAny (model prog w) A (assignInOrder ((assignEach elts env).map (·.2)) vals.toList) (fun _ s₂ => wpAny (model prog w) A (execs body env) (fun f s₃ => match f with
        | .next | .cont => J (i + 1) s₃ ∧ ∀ b ∈ fp, ∀ o, s₁.heap.get? b = some o → s₃.heap.get? b = some o
        | .brk => R (.ok .next) s₃
        | .ret v => R (.ok (.ret v)) s₃) (fun _ _ => False) s₂) (fun _ _ => False) s₁)
    (done : ∀ s, J n s → wpAny (model prog w) A (execs orelse env) (fun f s₃ => R (.ok f) s₃) (fun _ _ => False) s) :
    codeAny (model prog w) A (.forLoop (.Tuple elts k tpos) (.ref I) body orelse env) R s := by
  refine codeAny_forLoop_any (fun j s' => ∃ i, i ≤ n ∧ j = n + 1 - i ∧ J i s' ∧ St i s'.heap) ?_ (n + 1) ⟨0, Nat.zero_le _, rfl, h0, hst⟩
  rintro j s' ⟨i, hi, rfl, hJi, hS⟩
  by_cases hlt : i < n
  · refine wpAny_with_toks (Nat.le_refl s'.toks) (W.item i _ _ _ hlt hS fun T vals h₁ tk₁ hP hT hM hk₁ htk => ?_)
    have hJ₁ := hJ i s' h₁ tk₁ hJi hk₁ htk
    refine W.go elts k tpos i T _ _ _ hM fun h₂ hst₂ hk₂ => ?_
    have hJ₂ := hJ i _ h₂ tk₁ hJ₁ hk₂ (Nat.le_refl _)
    have hT₂ : h₂.IsTuple T vals := hT.at fun o e => hk₂ T o (W.apart _ _ _ hM) e
    refine wpAny_assign_Tuple hh hT₂ (helts i vals hlt hP) hstar fun h₃ hx₃ => ?_
    have hs₃ : Sub h₂ h₃ := fun b o e => hx₃ b o (Nat.ne_of_lt (Heap.lt_size e)) e
    have hJ₃ := hJ i _ h₃ tk₁ hJ₂ (fun b o _ e => hs₃ b o e) (Nat.le_refl _)
    refine wpAny_mono (turn i vals _ hlt hP hJ₃) (fun _ s₂ z₂ => wpAny_mono z₂ (fun f s₃ z₃ => ?_) fun _ _ x => x.elim) fun _ _ x => x.elim
    have hst₃ : St (i + 1) h₃ := W.frame _ _ _ hst₂ fun b _ o e => hs₃ b o e
    cases f with
    | ret v => exact z₃
    | brk => exact z₃
    | next => exact ⟨n + 1 - (i + 1), by walk_at "om", i + 1, hlt, rfl, z₃.1, W.frame _ _ _ hst₃ z₃.2⟩
    | cont => exact ⟨n + 1 - (i + 1), by walk_at "om", i + 1, hlt, rfl, z₃.1, W.frame _ _ _ hst₃ z₃.2⟩
  · have hin : i = n := by walk_at "om"
    subst hin
    exact wpAny_with_toks (Nat.le_refl s'.toks) (W.done _ _ _ hS fun h₁ tk₁ hk₁ htk => wpAny_mono (done _ (hJ i s' h₁ tk₁ hJi hk₁ htk)) (fun _ _ x => x) fun _ _ x => x.elim)

section
variable {prog : Program} {w : World} {A : Around} {E : Value → Shared → Prop} {s : Shared} {K : Frag}
theorem attrX {x C : Addr} {ox : Obj} {es : List DictEntry} {n : Nat} {name : Str} {v : Value} {attr : Option Value} {expr : Bool} {Q : Value → Shared → Prop}
    (X : K.In s.heap) (I : InstAt s.heap x ox C (some (dictOf es n))) (hg : plainGet K C name = true) (hh : hasDictIn K C = true)
    (ha : findIn K (.ref C) name = some attr) (hn : noGet K attr = true) (hl : getL name es = some (some v)) (hv : handedIn v = true) (h : Q v { s with toks := s.toks + 1 }) :
    wpAny (model prog w) A (getAttr (.ref x) name expr) Q E s :=
  get_value X I (plainGet_of hg).1 (findObj_own hh ha hn hl) hv h
end


structure Cx (w : World) (A : Around) (s : Shared) (k : Nat) : Prop where
  G : Gr w s.heap
  hd : A.depth + k < recursionLimit
  hu : A.units + 20 * k < cLine
  hh : A.handled = none

theorem at_sub {g h : Heap} {L b : Addr} {o : Obj} (hs : Sub g h) (hb : g.get? b = some o) (O : g.get? L = none) : (h.hide L).get? b = some o := hide_in (hs _ _ hb) (fun q => by rw [q, O] at hb; cases hb)
theorem ne_of_off {g : Heap} {L b : Addr} {o : Obj} (hb : g.get? b = some o) (O : g.get? L = none) : b ≠ L := fun q => by rw [q, O] at hb; cases hb
theorem IsL.keeps {h h' : Heap} {a : Addr} {items : Array Value} (x : h.IsList a items) (hk : Sub h h') : h'.IsList a items := let ⟨o, ho, r⟩ := x; ⟨o, hk a o ho, r⟩

theorem Gr.statics {w : World} {g : Heap} (G : Gr w g) : g.Ns cStatics (fun _ => none) := by
  have e : (Mine.heapK w.params).lookup 2 = some ({ cls := .none, data := .dict #[] } : Obj) := rfl
  exact ⟨_, #[], 0, G.k 2 _ e, rfl, by intro e he; simp at he, fun _ => rfl⟩

section
variable {M : Model} {A : Around} {E : Value → Shared → Prop} {s : Shared} {g : Heap} {L : Addr} {m : Str → Option Value} {vs : List Value} {Q : Value → Shared → Prop}
theorem newTupF (F : Fx g L s.heap m) (h : ∀ h', Fx g L h' m → Sub s.heap h' → IsTup h' s.heap.objs.size vs.toArray → Q (.ref s.heap.objs.size) { s with heap := h' }) (hsz : vs.length ≤ 1000 := by exact Nat.le_of_ble_eq_true rfl) :
    wpAny M A (newTuple vs) Q E s :=
  wpAny_newObj_type (h _ (F.up fun b o e => Heap.get?_push_of_some _ e) (fun b o e => Heap.get?_push_of_some _ e) (IsTup.new _ _)) (by show vs.toArray.size ≤ sizeLine; rw [List.size_toArray, sizeLine_eq]; walk_at "om")
theorem newListF (F : Fx g L s.heap m) (h : ∀ h', Fx g L h' m → Sub s.heap h' → h'.get? s.heap.objs.size = some (listOf vs.toArray 0) → Q (.ref s.heap.objs.size) { s with heap := h' }) (hsz : vs.length ≤ 1000 := by exact Nat.le_of_ble_eq_true rfl) :
    wpAny M A (newList vs) Q E s :=
  wpAny_newObj_type (h _ (F.up fun b o e => Heap.get?_push_of_some _ e) (fun b o e => Heap.get?_push_of_some _ e) (Heap.get?_push_size _ rfl)) (by show vs.toArray.size ≤ sizeLine; rw [List.size_toArray, sizeLine_eq]; walk_at "om")
end
theorem new_none (h : Heap) : h.get? h.objs.size = none := by
  cases q : h.get? h.objs.size with
  | none => rfl
  | some o => exact absurd (Heap.lt_size q) (Nat.lt_irrefl _)
theorem none_of_sub {g h : Heap} {b : Addr} (hk : Sub g h) (e : h.get? b = none) : g.get? b = none := by
  cases q : g.get? b with
  | none => rfl
  | some o => rw [hk _ _ q] at e; cases e

theorem Fx.same {g h h' : Heap} {L a : Addr} {m : Str → Option Value} (F : Fx g L h m) (hs : Heap.SameBut a h h') (ha : g.get? a = none) (hL : L ≠ a) : Fx g L h' m :=
  ⟨F.ns.sameBut hs hL, fun b o e => (hs.2 b (fun q => by rw [q, ha] at e; cases e)).trans (F.keep b o e)⟩
theorem upA {m : Str → Option Value} {x y : Str} {v r : Option Value} (e : m x = v) (h : m y = r) : m y = if y = x then v else r := by
  split
  · rename_i q; rw [q]; exact e
  · exact h
theorem upB {m : Str → Option Value} {x y : Str} {v r : Option Value} (e : m x = v) (h : r = m y) : (if y = x then v else r) = m y := (upA e h.symm).symm
theorem upC {st : List Str} {x y : Str} {v r u : Option Value} (hz : st.contains y = false) (hx : st.contains x = true) (h : r = u) : (if y = x then v else r) = u := by
  rw [if_neg (fun q => by rw [q, hx] at hz; cases hz)]; exact h
theorem fgS {st : List Str} {x : Str} {v : Option Value} {m m₀ : Str → Option Value} (hx : st.contains x = true) (h : ∀ z, st.contains z = false → m z = m₀ z) : ∀ z, st.contains z = false → (if z = x then v else m z) = m₀ z := fun z hz => by
  rw [if_neg (fun q => by rw [q, hx] at hz; cases hz)]; exact h z hz
theorem fgC {st : List Str} {x : Str} {v : Option Value} {m m₀ : Str → Option Value} (h : ∀ z, (x :: st).contains z = false → m z = m₀ z) : ∀ z, st.contains z = false → (if z = x then v else m z) = (if z = x then v else m₀ z) := fun z hz => by
  split
  · rfl
  · rename_i q
    exact h z (by rw [List.contains_cons, hz, Bool.or_false]; exact beq_eq_false_iff_ne.mpr q)
theorem fgO {st : List Str} {u m₀ : Str → Option Value} : ∀ z, st.contains z = false → ov st u m₀ z = m₀ z := fun z hz => by unfold ov; rw [hz]; rfl
theorem fgP {st st' : List Str} {u m m₀ : Str → Option Value} (hs : st.all (fun x => st'.contains x) = true) (h : ∀ z, st'.contains z = false → m z = m₀ z) : ∀ z, st'.contains z = false → ov st u m z = m₀ z := fun z hz => by
  unfold ov
  cases e : st.contains z with
  | false => exact h z hz
  | true =>
    have := List.all_eq_true.mp hs z (by simpa using e)
    rw [hz] at this; cases this
theorem fgI {st : List Str} {m₀ : Str → Option Value} : ∀ z, st.contains z = false → m₀ z = m₀ z := fun _ _ => rfl

end
end Mine
local macro_rules | `(tactic| walk_at "eval Name") => `(tactic| with_reducible first | refine Mine.nmL (by assumption) (by k_dflt rfl) ?_ | refine Mine.nmK (by assumption) (by assumption) (by k_dflt k_is) ?_ | refine Mine.nmB (by assumption) (by assumption) (by k_dflt k_is) (by k_dflt (first | boot_by_name | boot_fast)) (by k_dflt decide) ?_)
local macro_rules | `(tactic| walk_at "loadName") => `(tactic| with_reducible refine Mine.ldL (by assumption) (by k_dflt rfl) ?_)
local macro_rules | `(tactic| walk_at "storeName") => `(tactic| ((with_reducible refine Mine.stL (by assumption) (by assumption) ?_); intro h' F' S'))
local macro_rules | `(tactic| walk_at "subscriptTail") => `(tactic| ((with_reducible show wpAny _ _ (subscriptTail _ _ (Value.ref _) (Value.int _ _)) _ _ _); k_dflt (refine item_tupleT (IsTup.keeps (by assumption) (Mine.Fx.keep (by assumption))) (by decide) (by decide) (by rfl) (by rfl) ?_)))
local macro_rules | `(tactic| walk_at "forget") => `(tactic| ((repeat' first | with_reducible exact Mine.fgI | refine Mine.fgS (by rfl) ?_ | refine Mine.fgC ?_ | refine Mine.fgP (by rfl) ?_ | fail); all_goals exact Mine.fgI))
local macro_rules | `(tactic| walk_at "upd") => `(tactic| ((repeat' first | (with_reducible refine Mine.upA (by assumption) ?_) | (with_reducible refine Mine.upB (by assumption) ?_) | refine Mine.upC (by assumption) (by rfl) ?_ | refine Mine.upA (by assumption) ?_ | fail); first | rfl | (symm; assumption) | assumption))
local macro_rules | `(tactic| walk_at "newTuple") => `(tactic| (refine Mine.newTupF (by assumption) ?_; intro h' F' K' T'))
local macro_rules | `(tactic| walk_at "newList") => `(tactic| (refine Mine.newListF (by assumption) ?_; intro h' F' K' T'))
namespace Mine
section
/- Compare -/
structure OrderAt (w : World) (h : Heap) (x : Addr) (way : Int) (tw : Nat) : Prop where
  ex : ∃ dx l t tk t1 n, h.get? x = some (instObj 148 dx) ∧ h.get? dx = some (dictOf [⟨PyData.keyHash w.params (Str.ofString "comp_select_list"), .str (Str.ofString "comp_select_list") tk, .ref l⟩] 1)
    ∧ h.get? l = some (listOf #[.ref t] n) ∧ IsTup h t #[.int 1 t1, .int way tw]

noncomputable def cmpI (way : Int) (b d : Str) : Int := if b.cps.toList < d.cps.toList then -way else if d.cps.toList < b.cps.toList then way else 0

theorem compare_spec {w : World} {A : Around} {s : Shared} {R : Result → Shared → Prop} {x pl pr : Addr} {tw u1 u2 u3 u4 : Nat} {way : Int} {a b c d : Str}
  (C : Cx w A s 1)
  (h1 : OrderAt w s.heap x way tw)
  (h5 : IsTup s.heap pl #[.str a u1, .str b u2]) (h6 : IsTup s.heap pr #[.str c u3, .str d u4]) (htw : 0 < tw) (htw' : tw < s.toks)
  (hR : ∀ t h' tk', 0 < t → t < tk' → s.toks ≤ tk' → Sub s.heap h' → R (.ok (.ret (.int (cmpI way b d) t))) { s with heap := h', toks := tk' }) :
  codeAny (model Challenge.rw_xg0051_01.row.prog w) A (.call (.ref 145) ⟨[.ref x, .ref pl, .ref pr], []⟩) R s := by
  have G := C.G
  have hd := C.hd
  have hh := C.hh
  refine' enter [("self", .ref x), ("left", .ref pl), ("right", .ref pr)] s.heap G.k G.nolimit (by first | exact fun _ _ e => e | assumption) ?k1 ?k2 ?k3 ?k4 ?k5 ?_ ?c2 ?c3 ?c4 ?c5
  case k1 => k_is
  case k2 => k_is
  case k3 => walk_at "om"
  case k4 => first | exact BindsTo.of_eq rfl | exact binds_K G.k rfl (by k_is) rfl rfl rfl
  case k5 => exact locs rfl
  case c2 => decide
  case c3 => exact rfl
  case c4 => exact rfl
  case c5 => exact rfl
  intro L h' A' tk0 hL hkeep F O eh ed eu htk
  have hh' : A'.handled = none := eh.trans hh
  obtain ⟨dx, l, t, tk, t1, n, o1, o2, o3, o4⟩ := h1.ex
  walk_at "un"
  refine wpAny_execs_cons ?_
  walk_at "hideN"
  refine wpAny_For ?_
  walk1
  walk1
  refine' attrX (G.k.keeps hkeep) ⟨hkeep _ _ o1, rfl, rfl, hkeep _ _ o2⟩ ?a1 ?a2 ?a3 ?a4 ?a5 ?a6 ?_
  case a1 => k_is
  case a2 => k_is
  case a3 => k_is
  case a4 => k_is
  case a5 => k_get
  case a6 => k_handed
  have hl : h'.IsList l #[.ref t] := ⟨_, hkeep _ _ o3, rfl, _, rfl⟩
  walk_at "un"
  refine wpAny_pyIter_list hl ?_
  try dsimp only
  have hlt : L < h'.objs.size := F.ns.lt
  have hne : l ≠ h'.objs.size := Nat.ne_of_lt (Heap.lt_size (hkeep _ _ o3))
  refine for_ruleU hh' (WalksU.listOfTuples hh' h'.objs.size l hne #[.ref t] (fun _ => t) (fun _ => #[.int 1 t1, .int way tw])
     (fun j hj => by have : j = 0 := by simpa using hj
                     subst this; rfl) (fun j _ => Nat.ne_of_lt (Heap.lt_size (hkeep _ _ o4.choose_spec.1))))
     (fun i s' => Ex3 fun h tk u => And4 (s' = { s with heap := h, toks := tk }) (s.toks ≤ tk) ((i ≠ 0 → cmpI way b d = 0)) (Fx s.heap L h (ov ["index", "direction", "l", "r"] u fun y => List.lookup y [("right", .ref pr), ("left", .ref pl), ("self", .ref x)]))) ?_ ?_ ?_ ?_ ?_ ?_ ?_
  · exact ⟨⟨_, Heap.get?_push_size _ rfl, rfl, rfl⟩, hl.push _, fun _ _ => (o4.keeps hkeep).push _⟩
  · refine ⟨_, _, _, rfl, ?_, fun q => absurd rfl q, (F.up fun b o e => Heap.get?_push_of_some _ e).ov0 _⟩
    walk_at "om"
  · rintro i s' h₁ tk₁ ⟨h, tk, u, rfl, h1, hz, F1⟩ hk ht
    refine ⟨h₁, tk₁, u, rfl, Nat.le_trans h1 ht, hz, ⟨F1.ns.at' (fun o e => hk _ _ ?_ e), fun b o e => hk _ _ ?_ (F1.keep _ _ e)⟩⟩
    · simp; exact Nat.ne_of_lt hlt
    · have := Heap.lt_size (hkeep _ _ e)
      simp; exact Nat.ne_of_lt this
  · intro i vals hi hv
    have hv' : vals = _ := hv
    subst hv'; rfl
  · rfl
  · rintro i vals s₁ hi hv hJJ
    try walk_at "hideN"
    obtain ⟨h, tk, m', rfl, h1, hz, F1⟩ := hJJ
    have hv' : vals = _ := hv
    subst hv'
    have O1 := hideOff h L
    have F2 := F1.re
    have hs := sub_hide F1.keep O
    replace h5 := h5.keeps hs
    replace h6 := h6.keeps hs
    refine asg_cons (stL F2 O1 ?_)
    intro h2 F3 S3
    refine asg_cons (stL F3 O1 ?_)
    intro h3 F4 S4
    refine asg_nil ?_
    try dsimp only
    walk_at "go"
    all_goals try dsimp only
    · rename_i hlt2
      have e : cmpI way b d = -way := if_pos hlt2
      rw [← e]
      refine hR _ _ _ (by walk_at "om") (by walk_at "om") (by walk_at "om") (fun b o q => ?_)
      exact Fx.keep (by assumption) _ _ (hs _ _ q)
    · have hlt2 : d.cps.toList < b.cps.toList := by assumption
      have hlt1 : ¬ b.cps.toList < d.cps.toList := by assumption
      have e : cmpI way b d = way := by unfold cmpI; rw [if_neg hlt1, if_pos hlt2]
      rw [← e]
      refine hR _ _ _ (by walk_at "om") (by walk_at "om") (by walk_at "om") (fun b o q => ?_)
      exact Fx.keep (by assumption) _ _ (hs _ _ q)
    · have hlt2 : ¬ d.cps.toList < b.cps.toList := by assumption
      have hlt1 : ¬ b.cps.toList < d.cps.toList := by assumption
      have e : cmpI way b d = 0 := by unfold cmpI; rw [if_neg hlt1, if_neg hlt2]
      rename Fx _ _ _ _ => Fz
      have hn : ∀ b, b ∈ h'.objs.size :: l :: List.map (fun x => t) (List.range #[Value.ref t].size) → b ≠ L := by
        intro b hb
        simp at hb
        rcases hb with hb | hb | hb <;> (replace hb := hb.symm; subst hb)
        · exact Nat.ne_of_gt hlt
        · rintro rfl; rw [O] at o3; cases o3
        · obtain ⟨_, q, _⟩ := o4
          rintro rfl; rw [O] at q; cases q
      refine ⟨⟨_, _, _, rfl, by walk_at "om", fun _ => e, Fx.forget _ ⟨Fz.ns, fun b o q => Fz.keep _ _ (hs _ _ q)⟩ ?_⟩, fun b hb o q => Fz.keep _ _ (hide_in q (hn b hb))⟩
      walk_at "forget"
  · rintro s₂ hJJ
    try walk_at "hideN"
    obtain ⟨h, tk, m', rfl, h1, hz, F1⟩ := hJJ
    walk_at "un"
    refine wpAny_execs_nil ?_
    walk_at "go"
    try dsimp only
    have e := hz (by simp)
    rw [← e]
    exact hR _ _ _ (by walk_at "om") (by walk_at "om") (by walk_at "om") F1.keep

end
section
/- Small -/

theorem contains_spec {w : World} {A : Around} {s : Shared} {R : Result → Shared → Prop} {l : Nat} {vs : List Value} {ns : List Int} {k : Int} {t : Nat}
  (C : Cx w A s 1) (hl : s.heap.IsList l vs.toArray) (hi : IntsAre vs ns)
  (hR : ∀ h' tk', s.toks ≤ tk' → Sub s.heap h' → R (.ok (.ret (.bool (ns.any (· == k))))) { s with heap := h', toks := tk' }) :
  codeAny (model Challenge.rw_xg0051_01.row.prog w) A (.call (.ref 28) ⟨[.ref l, .int k t], []⟩) R s := by
  have G := C.G
  have hd := C.hd
  have hh := C.hh
  refine' enter [("a", .ref l), ("b", .int k t)] s.heap G.k G.nolimit (by first | exact fun _ _ e => e | assumption) ?k1 ?k2 ?k3 ?k4 ?k5 ?_ ?c2 ?c3 ?c4 ?c5
  case k1 => k_is
  case k2 => k_is
  case k3 => walk_at "om"
  case k4 => first | exact BindsTo.of_eq rfl | exact binds_K G.k rfl (by k_is) rfl rfl rfl
  case k5 => exact locs rfl
  case c2 => decide
  case c3 => exact rfl
  case c4 => exact rfl
  case c5 => exact rfl
  intro L h' A' tk0 hL hkeep F O eh ed eu htk
  have hh' : A'.handled = none := eh.trans hh
  walk_at "go"
  refine in_list_ints (IsL.keeps hl F.keep) hi ?_
  walk_at "go"
  exact hR _ _ htk F.keep

theorem is_int_small {M : Model} {A : Around} {E : Value → Shared → Prop} {s : Shared} {p q : Int} {t u : Nat} {Q : Value → Shared → Prop} (hp : smallInt p = true) (ht : 0 < t) (hu : 0 < u) (hne : t ≠ u) (h : Q (.bool (p == q)) s) :
    wpAny M A (compareOp .Is (.int p t) (.int q u)) Q E s := by
  show wpAny M A (do return .bool (← isSame (.int p t) (.int q u))) Q E s
  refine wpAny_bind ?_
  have e : isSame (.int p t) (.int q u) = (if p == q && smallInt p then isSame.cachedInt t u else isSame.created (p == q) t u) := rfl
  have z : ((t == 0 || u == 0) = true) = False := by simp; walk_at "om"
  rw [e, hp, Bool.and_true]
  cases hpq : p == q with
  | true =>
    rw [hpq] at h
    rw [if_pos rfl]
    unfold isSame.cachedInt
    rw [if_neg (by rw [z]; exact id)]
    exact wpAny_bind (wpAny_rule (wpAny_pure (wpAny_pure h)))
  | false =>
    rw [hpq] at h
    rw [if_neg Bool.false_ne_true]
    unfold isSame.created
    rw [if_neg (by rw [z]; exact id), if_neg (by simpa using hne)]
    exact wpAny_pure (wpAny_pure h)

/-- ints with their tokens below B -/
inductive IntsB (B : Nat) : List Value → List Int → Prop
  | nil : IntsB B [] []
  | cons {n : Int} {t : Nat} {vs ns} : smallInt n = true → 0 < t → t < B → IntsB B vs ns → IntsB B (.int n t :: vs) (n :: ns)
theorem IntsB.are {B : Nat} {vs : List Value} {ns : List Int} (h : IntsB B vs ns) : IntsAre vs ns := by
  induction h with
  | nil => exact .nil
  | cons _ _ _ _ ih => exact .cons _ _ ih
theorem IntsB.length {B : Nat} {vs : List Value} {ns : List Int} (h : IntsB B vs ns) : vs.length = ns.length := h.are.length
theorem IntsB.get {B : Nat} {vs : List Value} {ns : List Int} (h : IntsB B vs ns) {i : Nat} (hi : i < ns.length) : ∃ t : Nat, vs[i]? = some (.int ns[i] t) ∧ smallInt ns[i] = true ∧ 0 < t ∧ t < B := by
  induction h generalizing i with
  | nil => exact absurd hi (Nat.not_lt_zero _)
  | cons a b c r ih =>
    cases i with
    | zero => exact ⟨_, rfl, a, b, c⟩
    | succ i => exact ih (Nat.lt_of_succ_lt_succ hi)

theorem idx_here {ns : List Int} {k : Int} {i : Nat} (hin : i < ns.length) (hz : i ≤ ns.idxOf k) (hq : (ns[i] == k) = true) : i = ns.idxOf k := by
  rcases Nat.lt_or_ge i (ns.idxOf k) with h | h
  · have := List.not_of_lt_findIdx (p := (· == k)) (xs := ns) h
    simp only [hq] at this
    cases this
  · walk_at "om"
theorem idx_next {ns : List Int} {k : Int} {i : Nat} (hin : i < ns.length) (hz : i ≤ ns.idxOf k) (hq : (ns[i] == k) = false) : i + 1 ≤ ns.idxOf k := by
  rcases Nat.lt_or_ge i (ns.idxOf k) with h | h
  · exact h
  · have e : i = ns.idxOf k := by walk_at "om"
    subst e
    rw [List.getElem_idxOf hin] at hq
    simp at hq

theorem indexOf_spec {w : World} {A : Around} {s : Shared} {R : Result → Shared → Prop} {l : Nat} {vs : List Value} {ns : List Int} {k : Int} {t : Nat}
  (C : Cx w A s 1) (hl : s.heap.IsList l vs.toArray) (hi : IntsB t vs ns) (hsm : smallInt k = true) (ht : 0 < t) (hk : ns.idxOf k < ns.length)
  (hR : ∀ u h' tk', s.toks ≤ tk' → Sub s.heap h' → R (.ok (.ret (.int (ns.idxOf k : Nat) u))) { s with heap := h', toks := tk' }) :
  codeAny (model Challenge.rw_xg0051_01.row.prog w) A (.call (.ref 42) ⟨[.ref l, .int k t], []⟩) R s := by
  have G := C.G
  have hd := C.hd
  have hh := C.hh
  refine' enter [("a", .ref l), ("b", .int k t)] s.heap G.k G.nolimit (by first | exact fun _ _ e => e | assumption) ?k1 ?k2 ?k3 ?k4 ?k5 ?_ ?c2 ?c3 ?c4 ?c5
  case k1 => k_is
  case k2 => k_is
  case k3 => walk_at "om"
  case k4 => first | exact BindsTo.of_eq rfl | exact binds_K G.k rfl (by k_is) rfl rfl rfl
  case k5 => exact locs rfl
  case c2 => decide
  case c3 => exact rfl
  case c4 => exact rfl
  case c5 => exact rfl
  intro L h' A' tk0 hL hkeep F O eh ed eu htk
  have hh' : A'.handled = none := eh.trans hh
  refine wpAny_execs_cons ?_
  walk_at "hideN"
  refine wpAny_For ?_
  walk_at "go"
  have hl' : h'.IsList l vs.toArray := IsL.keeps hl F.keep
  refine call_enumerate_list hl' ?_
  intro h2 hE hI hz hk2
  dsimp only at hE hI hz hk2
  walk_at "un"
  refine wpAny_pyIter_enum hE ?_
  have F2 := F.up hk2
  have l1 : l < h'.objs.size := by obtain ⟨_, q, _⟩ := hl'; exact Heap.lt_size q
  have l2 : L < h'.objs.size := F.ns.lt
  refine for_ruleU hh' (WalksT.enumerate hh' (h'.objs.size + 1) h'.objs.size l (Nat.succ_ne_self _) (neN (by walk_at "om")) (neN (by walk_at "om")) vs.toArray).toU
     (fun i s' => Ex3 fun h tk u => And4 (s' = { s with heap := h, toks := tk }) (s.toks ≤ tk) (i ≤ ns.idxOf k) (Fx s.heap L h (ov ["i", "j"] u fun y => List.lookup y [("b", .int k t), ("a", .ref l)]))) ?_ ?_ ?_ ?_ ?_ ?_ ?_
  · exact ⟨⟨_, hE⟩, hI, IsL.keeps hl' hk2⟩
  · exact ⟨_, _, _, rfl, htk, Nat.zero_le _, F2.ov0 _⟩
  · rintro i s' h₁ tk₁ ⟨h, tk, u, rfl, h1, hz, F1⟩ hk ht
    refine ⟨h₁, tk₁, u, rfl, Nat.le_trans h1 ht, hz, ⟨F1.ns.at' (fun o e => hk _ _ ?_ e), fun b o e => hk _ _ ?_ (F1.keep _ _ e)⟩⟩
    · simp only [List.mem_cons, List.not_mem_nil, or_false, not_or]; exact ⟨neN (by walk_at "om"), neN (by walk_at "om")⟩
    · have := ltN (Heap.lt_size (hkeep _ _ e))
      simp only [List.mem_cons, List.not_mem_nil, or_false, not_or]; exact ⟨neN (by walk_at "om"), neN (by walk_at "om")⟩
  · rintro i vals hi ⟨_, _, _, rfl⟩
    rfl
  · rfl
  · rintro i vals s₁ hi' ⟨ti, x, hx, rfl⟩ hJJ
    try walk_at "hideN"
    obtain ⟨h, tk, m', rfl, h1, hz, F1⟩ := hJJ
    have hin : i < ns.length := by walk_at "om"
    obtain ⟨tj, e1, e2, e3, e4⟩ := hi.get hin
    have hx' : x = .int ns[i] tj := by
      have : vs[i]? = some x := by simpa using hx
      rw [e1] at this; exact (Option.some.inj this).symm
    subst hx'
    have O1 := hideOff h L
    have F2 := F1.re
    have hs := sub_hide F1.keep O
    refine asg_cons (stL F2 O1 ?_)
    intro h2 F3 S3
    refine asg_cons (stL F3 O1 ?_)
    intro h3 F4 S4
    refine asg_nil ?_
    walk_at "go"
    refine is_int_small e2 e3 ht (by walk_at "om") ?_
    walk_at "go"
    all_goals try dsimp only
    · rename_i hq
      have e := idx_here hin hz (by simpa using hq)
      subst e
      exact hR _ _ _ (by walk_at "om") (fun b o q => F4.keep _ _ (hs _ _ q))
    · rename_i hq
      have e := idx_here hin hz (by simpa using hq)
      subst e
      exact hR _ _ _ (by walk_at "om") (fun b o q => F4.keep _ _ (hs _ _ q))
    · rename_i hq _
      refine ⟨⟨_, _, _, rfl, by walk_at "om", idx_next hin hz (by simpa using hq), Fx.forget _ ⟨F4.ns, fun b o q => F4.keep _ _ (hs _ _ q)⟩ ?_⟩, fun b hb o q => F4.keep _ _ (hide_in q ?_)⟩
      · walk_at "forget"
      · simp at hb
        rcases hb with hb | hb | hb <;> (replace hb := hb.symm; subst hb)
        · exact neN (by walk_at "om")
        · exact neN (by walk_at "om")
        · obtain ⟨_, q', _⟩ := hl
          exact ne_of_off q' O
  · rintro s₂ hJJ
    try walk_at "hideN"
    obtain ⟨h, tk, m', rfl, h1, hz, F1⟩ := hJJ
    exfalso
    have := hi.length
    simp at hz
    walk_at "om"

end
section
/- Count -/
theorem is_str {w : World} {M : Model} {A : Around} {E : Value → Shared → Prop} {s : Shared} {x y : Str} {t u : Nat} {Q : Value → Shared → Prop} (G : Gr w s.heap) (ht : 0 < t) (hu : 0 < u) (hne : t = u → x = y)
    (h : ∀ r : Bool, (r = true → x = y) → Q (.bool r) s) : wpAny M A (compareOp .Is (.str x t) (.str y u)) Q E s := by
  show wpAny M A (do return .bool (← isSame.created (x == y) t u)) Q E s
  refine wpAny_bind ?_
  have z : ((t == 0 || u == 0) = true) = False := by simp; walk_at "om"
  have NB : NoneBooked s.heap := ⟨_, G.statics, rfl⟩
  unfold isSame.created
  rw [if_neg (by rw [z]; exact id)]
  by_cases e : t = u
  · rw [if_pos (by simpa using e)]
    exact wpAny_pure (wpAny_pure (h true fun _ => hne e))
  · rw [if_neg (by simpa using e)]
    by_cases q : x = y
    · have q' : (x == y) = true := by simpa using q
      rw [q']
      rw [if_neg (by simp)]
      refine wpAny_bind (wpAny_sharingNotTold_none NB ?_)
      rw [if_neg Bool.false_ne_true]
      refine wpAny_bind (wpAny_sharingNotTold_none NB ?_)
      rw [if_neg Bool.false_ne_true]
      exact wpAny_bind (wpAny_rule (wpAny_bind (wpAny_askSetting (wpAny_pure (wpAny_pure (h _ fun _ => q))))))
    · have q' : (x == y) = false := by simpa using q
      rw [q']
      rw [if_pos (by rfl)]
      exact wpAny_pure (wpAny_pure (h false fun z => by cases z))

/-- a for over the signs of an ascii text: the signs' tokens are new -/
theorem for_ascii {prog : Program} {w : World} {A : Around} {env : Env} {target : Expr} {body orelse : List Stmt} {I : Addr} {x : Str} {t : Tok} {R : Result → Shared → Prop} {s : Shared}
    (hh : A.handled = none) (hst : s.heap.IsStrIter I "str_ascii_iterator" x t 0) (J : Nat → Shared → Prop) (h0 : J 0 s)
    (hJ : ∀ i s h' tk, J i s → (∀ b o, b ≠ I → s.heap.get? b = some o → h'.get? b = some o) → s.toks ≤ tk → J i { s with heap := h', toks := tk })
    (turn : ∀ i c (u : Nat) s₁, x.cps[i]? = some c → s.toks ≤ u → u < s₁.toks → J i s₁ → wpAny (model prog w) A (assign target env (.str ⟨#[c]⟩ u)) (fun _ s₂ => wpAny (model prog w) A (execs body env) (fun f s₃ => match f with
        | .next | .cont => J (i + 1) s₃ ∧ ∀ o, s₁.heap.get? I = some o → s₃.heap.get? I = some o
        | .brk => R (.ok .next) s₃
        | .ret v => R (.ok (.ret v)) s₃) (fun _ _ => False) s₂) (fun _ _ => False) s₁)
    (done : ∀ s', J x.cps.size s' → s.toks ≤ s'.toks → wpAny (model prog w) A (execs orelse env) (fun f s₃ => R (.ok f) s₃) (fun _ _ => False) s') (ht : ∀ v, letOwnedTupleGo target (.ref I) v = pure () := by intro _; rfl) :
    codeAny (model prog w) A (.forLoop target (.ref I) body orelse env) R s := by
  refine codeAny_forLoop (fun k s' => ∃ i, i ≤ x.cps.size ∧ k = x.cps.size + 1 - i ∧ J i s' ∧ s'.heap.IsStrIter I "str_ascii_iterator" x t i ∧ s.toks ≤ s'.toks) ?_ (x.cps.size + 1) ⟨0, Nat.zero_le _, rfl, h0, hst, Nat.le_refl _⟩ ht
  rintro k s' ⟨i, hi, rfl, hJi, hS, hT⟩
  by_cases hlt : i < x.cps.size
  · have hx : x.cps[i]? = some (x.cps[i]'hlt) := Array.getElem?_eq_getElem hlt
    refine wpAny_pyNext_ascii_item hS hx fun h₁ hst₁ hk₁ => ?_
    have hJ₁ := hJ i s' h₁ (s'.toks + 1) hJi (fun b o hb e => hk₁.extBut b o hb e) (Nat.le_succ _)
    refine wpAny_mono (wpAny_toks_of (n := s.toks) (by show s.toks ≤ s'.toks + 1; walk_at "om") (turn i _ s'.toks _ hx hT (Nat.lt_succ_self _) hJ₁)) (fun _ s₂ z₂ => wpAny_mono (wpAny_toks_of z₂.1 z₂.2) (fun f s₃ z₃ => ?_) fun _ _ x => x.2.elim) fun _ _ x => x.2.elim
    obtain ⟨z1, z₃⟩ := z₃
    cases f with
    | ret v => exact z₃
    | brk => exact z₃
    | next => exact ⟨x.cps.size + 1 - (i + 1), by walk_at "om", i + 1, hlt, rfl, z₃.1, (let ⟨o, ho, r⟩ := hst₁; ⟨o, z₃.2 o ho, r⟩), z1⟩
    | cont => exact ⟨x.cps.size + 1 - (i + 1), by walk_at "om", i + 1, hlt, rfl, z₃.1, (let ⟨o, ho, r⟩ := hst₁; ⟨o, z₃.2 o ho, r⟩), z1⟩
  · have hin : i = x.cps.size := by walk_at "om"
    subst hin
    refine wpAny_pyNext_ascii_end hh hS (by simp) fun h₁ hk₁ => ?_
    exact wpAny_mono (done _ (hJ _ s' h₁ s'.toks hJi (fun b o hb e => hk₁ b o hb e) (Nat.le_refl _)) hT) (fun _ _ x => x) fun _ _ x => x.elim

/-- texts with their tokens below B -/
inductive StrsB (B : Nat) : List Value → List (List Nat) → Prop
  | nil : StrsB B [] []
  | cons {l : List Nat} {t : Nat} {vs ls} : 0 < t → t < B → StrsB B vs ls → StrsB B (.str ⟨l.toArray⟩ t :: vs) (l :: ls)
theorem StrsB.length {B : Nat} {vs : List Value} {ls : List (List Nat)} (h : StrsB B vs ls) : vs.length = ls.length := by
  induction h with
  | nil => rfl
  | cons _ _ _ ih => simp [ih]
theorem StrsB.get {B : Nat} {vs : List Value} {ls : List (List Nat)} (h : StrsB B vs ls) {i : Nat} (hi : i < ls.length) : ∃ t : Nat, vs[i]? = some (.str ⟨ls[i].toArray⟩ t) ∧ 0 < t ∧ t < B := by
  induction h generalizing i with
  | nil => exact absurd hi (Nat.not_lt_zero _)
  | cons b c r ih =>
    cases i with
    | zero => exact ⟨_, rfl, b, c⟩
    | succ i => exact ih (Nat.lt_of_succ_lt_succ hi)
theorem StrsB.mono {B B' : Nat} {vs : List Value} {ls : List (List Nat)} (h : StrsB B vs ls) (hB : B ≤ B') : StrsB B' vs ls := by
  induction h with
  | nil => exact .nil
  | cons a b _ ih => exact .cons a (Nat.lt_of_lt_of_le b hB) ih

theorem count_take (ls : List (List Nat)) (y : List Nat) (i : Nat) (hi : i < ls.length) : (ls.take (i + 1)).count y = (ls.take i).count y + if ls[i] = y then 1 else 0 := by
  rw [List.take_add_one, List.getElem?_eq_getElem hi, List.count_append]
  congr 1
  simp [List.count_singleton]

theorem count_takeN (ls : List Nat) (y : Nat) (i : Nat) (hi : i < ls.length) : (ls.take (i + 1)).count y = (ls.take i).count y + if ls[i] = y then 1 else 0 := by
  rw [List.take_add_one, List.getElem?_eq_getElem hi, List.count_append]
  congr 1
  simp [List.count_singleton]

theorem countOf_list {w : World} {A : Around} {s : Shared} {R : Result → Shared → Prop} {l : Nat} {vs : List Value} {ls : List (List Nat)} {y : List Nat} {u : Nat}
  (C : Cx w A s 1) (hl : s.heap.IsList l vs.toArray) (hi : StrsB u vs ls) (hu : 0 < u)
  (hR : ∀ t h' tk', s.toks ≤ tk' → Sub s.heap h' → R (.ok (.ret (.int (ls.count y : Nat) t))) { s with heap := h', toks := tk' }) :
  codeAny (model Challenge.rw_xg0051_01.row.prog w) A (.call (.ref 35) ⟨[.ref l, .str ⟨y.toArray⟩ u], []⟩) R s := by
  have G := C.G
  have hd := C.hd
  have hh := C.hh
  refine' enter [("a", .ref l), ("b", .str ⟨y.toArray⟩ u)] s.heap G.k G.nolimit (by first | exact fun _ _ e => e | assumption) ?k1 ?k2 ?k3 ?k4 ?k5 ?_ ?c2 ?c3 ?c4 ?c5
  case k1 => k_is
  case k2 => k_is
  case k3 => walk_at "om"
  case k4 => first | exact BindsTo.of_eq rfl | exact binds_K G.k rfl (by k_is) rfl rfl rfl
  case k5 => exact locs rfl
  case c2 => decide
  case c3 => exact rfl
  case c4 => exact rfl
  case c5 => exact rfl
  intro L h' A' tk0 hL hkeep F O eh ed eu htk
  have hh' : A'.handled = none := eh.trans hh
  walk_at "go"
  rename_i h1 F1 S1
  have hl' := IsL.keeps hl F1.keep
  refine wpAny_For ?_
  walk_at "go"
  walk_at "un"
  refine wpAny_pyIter_list hl' ?_
  try dsimp only
  have l1 : l < h1.objs.size := by obtain ⟨_, q, _⟩ := hl'; exact Heap.lt_size q
  have l2 : L < h1.objs.size := F1.ns.lt
  refine for_rule (Walks.list hh' h1.objs.size l (neN (by walk_at "om")) vs.toArray)
     (fun i s' => Ex4 fun h tk v tc => And3 (s' = { s with heap := h, toks := tk }) (s.toks ≤ tk) (Fx s.heap L h (ov ["i"] v fun z => if z = "count" then some (.int ((ls.take i).count y : Nat) tc) else List.lookup z [("b", .str ⟨y.toArray⟩ u), ("a", .ref l)]))) ?_ ?_ ?_ ?_ ?_
  · exact ⟨⟨_, Heap.get?_push_size _ rfl, rfl, rfl⟩, hl'.push _⟩
  · exact ⟨_, _, _, _, rfl, by walk_at "om", (F1.up fun b o e => Heap.get?_push_of_some _ e).ov0 _⟩
  · rintro i s' h₁ tk₁ ⟨h, tk, v, tc, rfl, h1, F1⟩ hk ht
    refine ⟨h₁, tk₁, v, tc, rfl, Nat.le_trans h1 ht, ⟨F1.ns.at' (fun o e => hk _ _ ?_ e), fun b o e => hk _ _ ?_ (F1.keep _ _ e)⟩⟩
    · simp only [List.mem_cons, List.not_mem_nil, or_false]; exact neN (by walk_at "om")
    · have := ltN (Heap.lt_size (hkeep _ _ e))
      have := ltN (Heap.lt_size (S1.extBut b o (ne_of_off e O) (hkeep _ _ e)))
      simp only [List.mem_cons, List.not_mem_nil, or_false]; exact neN (by walk_at "om")
  · rintro i x s₁ hi' hx hJJ _
    try walk_at "hideN"
    obtain ⟨h, tk, v, tc, rfl, h1, F1⟩ := hJJ
    have hin : i < ls.length := by have := hi.length; simp at hi'; walk_at "om"
    obtain ⟨tj, e1, e2, e3⟩ := hi.get hin
    have hx' : x = .str ⟨ls[i].toArray⟩ tj := by
      have : vs[i]? = some x := by simpa using hx
      rw [e1] at this; exact (Option.some.inj this).symm
    subst hx'
    have O1 := hideOff h L
    have F2 := F1.re
    have hs := sub_hide F1.keep O
    walk_at "un"
    refine wpAny_assign_Name (stL F2 O1 ?_)
    intro h2 F3 S3
    walk_at "go"
    refine is_str (G.up fun b o q => F3.keep _ _ (hs _ _ q)) e2 hu (by walk_at "om") ?_
    intro r hr
    walk_at "go"
    all_goals try dsimp only
    · have e : (((ls.take (i + 1)).count y : Nat) : Int) = ((ls.take i).count y : Nat) + 1 := by
        rw [count_take ls y i hin, if_pos (by have := hr (by assumption); simpa using this)]; rfl
      rw [e]
      rename Fx _ _ _ _ => Fz
      refine' ⟨⟨_, _, _, ?tc, rfl, by walk_at "om", Fx.forget _ ⟨Fz.ns, fun b o q => Fz.keep _ _ (hs _ _ q)⟩ ?fg⟩, fun b hb o q => Fz.keep _ _ (hide_in q ?ne)⟩
      case fg => walk_at "forget"
      case ne =>
        simp only [List.mem_cons, List.not_mem_nil, or_false] at hb
        rcases hb with hb | hb <;> (replace hb := hb.symm; subst hb)
        · exact neN (by walk_at "om")
        · obtain ⟨_, q', _⟩ := hl
          exact ne_of_off q' O
    · have e : (((ls.take (i + 1)).count y : Nat) : Int) = ((ls.take i).count y : Nat) + 1 := by
        rw [count_take ls y i hin, if_pos (by simp_all)]; rfl
      rw [e]
      rename Fx _ _ _ _ => Fz
      refine' ⟨⟨_, _, _, ?tc, rfl, by walk_at "om", Fx.forget _ ⟨Fz.ns, fun b o q => Fz.keep _ _ (hs _ _ q)⟩ ?fg⟩, fun b hb o q => Fz.keep _ _ (hide_in q ?ne)⟩
      case fg => walk_at "forget"
      case ne =>
        simp only [List.mem_cons, List.not_mem_nil, or_false] at hb
        rcases hb with hb | hb <;> (replace hb := hb.symm; subst hb)
        · exact neN (by walk_at "om")
        · obtain ⟨_, q', _⟩ := hl
          exact ne_of_off q' O
    · have e : (((ls.take (i + 1)).count y : Nat) : Int) = ((ls.take i).count y : Nat) := by
        rw [count_take ls y i hin, if_neg (by simp_all)]; rfl
      rw [e]
      rename Fx _ _ _ _ => Fz
      refine' ⟨⟨_, _, _, tc, rfl, by walk_at "om", Fx.forget _ ⟨Fz.ns, fun b o q => Fz.keep _ _ (hs _ _ q)⟩ ?fg⟩, fun b hb o q => Fz.keep _ _ (hide_in q ?ne)⟩
      case fg => walk_at "forget"
      case ne =>
        simp only [List.mem_cons, List.not_mem_nil, or_false] at hb
        rcases hb with hb | hb <;> (replace hb := hb.symm; subst hb)
        · exact neN (by walk_at "om")
        · obtain ⟨_, q', _⟩ := hl
          exact ne_of_off q' O
  · rintro s₂ hJJ
    try walk_at "hideN"
    obtain ⟨h, tk, v, tc, rfl, h1, F1⟩ := hJJ
    have e : ls.take vs.toArray.size = ls := by
      have := hi.length
      rw [List.size_toArray, this, List.take_length]
    rw [e] at F1
    walk_at "un"
    refine wpAny_execs_nil ?_
    walk_at "go"
    try dsimp only
    exact hR _ _ _ h1 F1.keep

theorem countOf_str {w : World} {A : Around} {s : Shared} {R : Result → Shared → Prop} {x : List Nat} {c : Nat} {t u : Nat}
  (C : Cx w A s 1) (hx : x.toArray.all (· < 128) = true) (hu : 0 < u) (hu' : u < s.toks)
  (hR : ∀ t h' tk', s.toks ≤ tk' → Sub s.heap h' → R (.ok (.ret (.int (x.count c : Nat) t))) { s with heap := h', toks := tk' }) :
  codeAny (model Challenge.rw_xg0051_01.row.prog w) A (.call (.ref 35) ⟨[.str ⟨x.toArray⟩ t, .str ⟨#[c]⟩ u], []⟩) R s := by
  have G := C.G
  have hd := C.hd
  have hh := C.hh
  refine' enter [("a", .str ⟨x.toArray⟩ t), ("b", .str ⟨#[c]⟩ u)] s.heap G.k G.nolimit (by first | exact fun _ _ e => e | assumption) ?k1 ?k2 ?k3 ?k4 ?k5 ?_ ?c2 ?c3 ?c4 ?c5
  case k1 => k_is
  case k2 => k_is
  case k3 => walk_at "om"
  case k4 => first | exact BindsTo.of_eq rfl | exact binds_K G.k rfl (by k_is) rfl rfl rfl
  case k5 => exact locs rfl
  case c2 => decide
  case c3 => exact rfl
  case c4 => exact rfl
  case c5 => exact rfl
  intro L h' A' tk0 hL hkeep F O eh ed eu htk
  have hh' : A'.handled = none := eh.trans hh
  walk_at "go"
  rename_i h1 F1 S1
  refine wpAny_For ?_
  walk_at "go"
  walk_at "un"
  refine wpAny_pyIter_ascii hx ?_
  try dsimp only
  have l2 : L < h1.objs.size := F1.ns.lt
  refine for_ascii hh' ⟨_, Heap.get?_push_size _ rfl, rfl, rfl⟩
     (fun i s' => Ex4 fun h tk v tc => And3 (s' = { s with heap := h, toks := tk }) (s.toks ≤ tk) (Fx s.heap L h (ov ["i"] v fun z => if z = "count" then some (.int ((x.take i).count c : Nat) tc) else List.lookup z [("b", .str ⟨#[c]⟩ u), ("a", .str ⟨x.toArray⟩ t)]))) ?_ ?_ ?_ ?_
  · exact ⟨_, _, _, _, rfl, by walk_at "om", (F1.up fun b o e => Heap.get?_push_of_some _ e).ov0 _⟩
  · rintro i s' h₁ tk₁ ⟨h, tk, v, tc, rfl, h1, F1⟩ hk ht
    refine ⟨h₁, tk₁, v, tc, rfl, Nat.le_trans h1 ht, ⟨F1.ns.at' (fun o e => hk _ _ (neN (by walk_at "om")) e), fun b o e => hk _ _ ?_ (F1.keep _ _ e)⟩⟩
    have := ltN (Heap.lt_size (hkeep _ _ e))
    have := ltN (Heap.lt_size (S1.extBut b o (ne_of_off e O) (hkeep _ _ e)))
    exact neN (by walk_at "om")
  · rintro i d uc s₁ hx' hu1 hu2 hJJ
    try walk_at "hideN"
    obtain ⟨h, tk, v, tc, rfl, h1, F1⟩ := hJJ
    have hin : i < x.length := by
      rcases Nat.lt_or_ge i x.length with q | q
      · exact q
      · have : x.toArray[i]? = none := Array.getElem?_eq_none (by simpa using q)
        rw [this] at hx'; cases hx'
    have hd' : d = x[i] := by
      have : x[i]? = some d := by simpa using hx'
      rw [List.getElem?_eq_getElem hin] at this; exact (Option.some.inj this).symm
    subst hd'
    have O1 := hideOff h L
    have F2 := F1.re
    have hs := sub_hide F1.keep O
    dsimp only at hu1 hu2
    walk_at "un"
    refine wpAny_assign_Name (stL F2 O1 ?_)
    intro h2 F3 S3
    walk_at "go"
    refine is_str (G.up fun b o q => F3.keep _ _ (hs _ _ q)) (by walk_at "om") hu (by walk_at "om") ?_
    intro r hr
    walk_at "go"
    all_goals try dsimp only
    · have e : (((x.take (i + 1)).count c : Nat) : Int) = ((x.take i).count c : Nat) + 1 := by
        rw [count_takeN x c i hin, if_pos (by have := hr (by assumption); simpa using this)]; rfl
      rw [e]
      rename Fx _ _ _ _ => Fz
      refine' ⟨⟨_, _, _, ?tc, rfl, by walk_at "om", Fx.forget _ ⟨Fz.ns, fun b o q => Fz.keep _ _ (hs _ _ q)⟩ ?fg⟩, fun o q => Fz.keep _ _ (hide_in q ?ne)⟩
      case fg => walk_at "forget"
      case ne => exact neN (by walk_at "om")
    · have e : (((x.take (i + 1)).count c : Nat) : Int) = ((x.take i).count c : Nat) + 1 := by
        rw [count_takeN x c i hin, if_pos (by simp_all)]; rfl
      rw [e]
      rename Fx _ _ _ _ => Fz
      refine' ⟨⟨_, _, _, ?tc, rfl, by walk_at "om", Fx.forget _ ⟨Fz.ns, fun b o q => Fz.keep _ _ (hs _ _ q)⟩ ?fg⟩, fun o q => Fz.keep _ _ (hide_in q ?ne)⟩
      case fg => walk_at "forget"
      case ne => exact neN (by walk_at "om")
    · have e : (((x.take (i + 1)).count c : Nat) : Int) = ((x.take i).count c : Nat) := by
        rw [count_takeN x c i hin, if_neg (by simp_all)]; rfl
      rw [e]
      rename Fx _ _ _ _ => Fz
      refine' ⟨⟨_, _, _, tc, rfl, by walk_at "om", Fx.forget _ ⟨Fz.ns, fun b o q => Fz.keep _ _ (hs _ _ q)⟩ ?fg⟩, fun o q => Fz.keep _ _ (hide_in q ?ne)⟩
      case fg => walk_at "forget"
      case ne => exact neN (by walk_at "om")
  · rintro s₂ hJJ _
    try walk_at "hideN"
    obtain ⟨h, tk, v, tc, rfl, h1, F1⟩ := hJJ
    have e : x.take x.toArray.size = x := by
      rw [List.size_toArray, List.take_length]
    rw [e] at F1
    walk_at "un"
    refine wpAny_execs_nil ?_
    walk_at "go"
    try dsimp only
    exact hR _ _ _ h1 F1.keep

end
section
/- Acc1 -/
noncomputable abbrev accObj (d : Addr) (items : Array Value) (n : Nat) : Obj := { cls := .ref 120, dict := some d, data := .seq items n }
noncomputable def AccD (w : World) (h : Heap) (d : Nat) : Prop := ∃ tk t0, h.get? d = some (dictOf [⟨PyData.keyHash w.params (Str.ofString "_initial_size"), .str (Str.ofString "_initial_size") tk, .int 0 t0⟩] 1)
theorem AccD.up {w : World} {h h' : Heap} {d : Nat} (x : AccD w h d) (hk : Sub h h') : AccD w h' d := let ⟨a, b, e⟩ := x; ⟨a, b, hk _ _ e⟩

theorem accInst {h : Heap} {a d : Addr} {items : Array Value} {n : Nat} {od : Obj} (ha : h.get? a = some (accObj d items n)) (hd : h.get? d = some od) : InstAt h a (accObj d items n) 120 (some od) := ⟨ha, rfl, rfl, hd⟩

section
variable {prog : Program} {w : World} {A : Around} {E : Value → Shared → Prop} {s : Shared} {K : Frag} {x C : Addr} {ox : Obj} {od : Option Obj} {name : Str}
theorem method_bi {pl : Sem Bool} {Q : Value × List Value → Shared → Prop} {f : Value} {T : String} {ga : String} (X : K.In s.heap) (I : InstAt s.heap x ox C od) (hga : findIn K (.ref C) "__getattribute__" = some (some (.builtin ga))) (hcan : Manifest.canonical ga = "object.__getattribute__") (hgt : findIn K (.ref C) "__getattr__" = some none)
    (hf : findIn K (.ref C) name = some (some f)) (ht : typeIn K f = some (.type T)) (hT : (Value.type T != .type "function" && Value.type T != .type "method_descriptor" && Value.type T != .type "wrapper_descriptor") = false)
    (hs : shadowIn od name = some false) (h : Q (f, [.ref x]) s) :
    wpAny (model prog w) A (getMethod (.ref x) name pl) Q E s := by
  unfold getMethod specialOf
  refine wpAny_bind (wpAny_bind (I.type.here ((looks_findIn X hga).here ?_)))
  try dsimp only
  rw [hcan, if_neg (by decide)]
  refine wpAny_bind (wpAny_bind (I.type.here ((looks_findIn X hgt).here ?_)))
  refine wpAny_bind (wpAny_bind (I.type.here ((looks_findIn X hf).here (wpAny_bind ((looks_typeIn X ht).here ?_)))))
  rw [if_neg (by rw [hT]; exact Bool.false_ne_true)]
  refine wpAny_bind (wpAny_loadPart I.at_ ?_)
  have hd := I.dict
  cases e : ox.dict with
  | none => exact wpAny_bind (wpAny_rule (wpAny_pure h))
  | some dx =>
    cases od with
    | none => rw [e] at hd; exact hd.elim
    | some o =>
      rw [e] at hd
      obtain ⟨r, a, b⟩ := Option.map_eq_some_iff.mp hs
      refine wpAny_bind (wpAny_bind (wpAny_loadPart hd ?_))
      rw [nsLook_of a]
      refine wpAny_pure ?_
      rw [b]
      exact wpAny_bind (wpAny_rule (wpAny_pure h))

theorem check_meth {M : Model} {i owner n : String} {self : Value} {rest : List Value} {kw : List (Str × Value)} {Q : Unit → Shared → Prop}
    (hk : builtinKind i = some .method) (hs : splitId i = some (owner, n)) (hi : Looks M s.heap (isInstance self (.type owner)) true) (ha : argsOk i ⟨self :: rest, kw⟩) (q : Q () s) :
    wpAny M A (checkBuiltinCall i ⟨self :: rest, kw⟩) Q E s := by
  simp only [checkBuiltinCall, hk, hs]
  refine wpAny_bind (hi.here ?_)
  simp only [Bool.not_true, Bool.false_eq_true, if_false]
  cases hsig : Manifest.signature? i with
  | none => exact wpAny_pure q
  | some sig =>
    simp only [argsOk, hsig] at ha
    have h2 : Bind.checkArgs i sig ⟨self :: rest, kw⟩ = pure () := ha
    show wpAny M A (Bind.checkArgs i sig ⟨self :: rest, kw⟩) Q E s
    rw [h2]; exact wpAny_pure q
end

theorem acc_isList {w : World} {M : Model} {h : Heap} {a d : Addr} {items : Array Value} {n : Nat} (G : Gr w h) (ha : h.get? a = some (accObj d items n)) : Looks M h (isInstance (.ref a) (.type "list")) true := by
  have t : Looks M h (typeOf (.ref a)) (.ref 120) := (Looks.ld (part := some headPart) ha).andThen .now
  exact t.andThen (looks_subIn G.k (by k_is))

theorem append_acc {prog : Program} {w : World} {A : Around} {E : Value → Shared → Prop} {s : Shared} {a d : Addr} {items : Array Value} {n : Nat} {x : Value} {Q : Value → Shared → Prop}
    (G : Gr w s.heap) (ha : s.heap.get? a = some (accObj d items n)) (hsz : items.size ≤ 1000)
    (h : ∀ h', Heap.SameBut a s.heap h' → h'.get? a = some (accObj d (items.push x) (n + 1)) → Q .none { s with heap := h' }) :
    wpAny (model prog w) A (call (.builtin "list.append") [.ref a, x]) Q E s := by
  refine wpAny_call (codeAny_call_builtin (by decide +kernel) PySem.entry_list_append (check_meth (i := "list.append") (owner := "list") (n := "append") (by decide +kernel) (by decide +kernel) (acc_isList G ha) (PySem.args_list_append _ _) ?_))
  show wpAny _ _ (updateSeq a (·.push x) >>= fun _ => ret .none) _ _ s
  refine wpAny_bind ?_
  refine wpAny_updateSeq ha rfl (wpAny_pure (h _ (Heap.SameBut.update ..) ?_)) (by rw [sizeLine_eq]; walk_at "om") (by rw [sizeLine_eq, Array.size_push]; walk_at "om")
  have e : Obj.mapSeq (·.push x) (accObj d items n) = accObj d (items.push x) (n + 1) := by simp [Obj.mapSeq]
  rw [Heap.get?_update_self _ ha (by rw [e]; rfl), e]

end
section
/- Acc2 -/
theorem push_spec {w : World} {A : Around} {s : Shared} {R : Result → Shared → Prop} {a d : Nat} {items : Array Value} {n : Nat} {v1 v2 : Value} {g0 : Heap}
  (C : Cx w A s 1) (G0 : Gr w g0) (hg0 : Sub g0 s.heap) (O0 : g0.get? a = none) (ha : s.heap.get? a = some (accObj d items n)) (hd : AccD w g0 d) (hsz : items.size ≤ 1000)
  (hR : ∀ t h' tk', s.toks ≤ tk' → h'.get? a = some (accObj d (items.push (.ref t)) (n + 1)) → IsTup h' t #[v1, v2] → s.heap.get? t = none → (∀ b o, b ≠ a → s.heap.get? b = some o → h'.get? b = some o) →
    R (.ok (.ret .none)) { s with heap := h', toks := tk' }) :
  codeAny (model Challenge.rw_xg0051_01.row.prog w) A (.call (.ref 66) ⟨[.ref a, v1, v2], []⟩) R s := by
  have G := C.G
  have hd' := C.hd
  have hh := C.hh
  have hsub := sub_of_hide s.heap a
  have Gb := G0.up (sub_hide hg0 O0)
  have Ob := hideOff s.heap a
  refine' enter [("self", .ref a), ("fws", v1), ("string", v2)] (s.heap.hide a) G.k G.nolimit (by first | exact fun _ _ e => e | assumption) ?k1 ?k2 ?k3 ?k4 ?k5 ?_ ?c2 ?c3 ?c4 ?c5
  case k1 => k_is
  case k2 => k_is
  case k3 => walk_at "om"
  case k4 => first | exact BindsTo.of_eq rfl | exact binds_K G.k rfl (by k_is) rfl rfl rfl
  case k5 => exact locs rfl
  case c2 => decide
  case c3 => exact rfl
  case c4 => exact rfl
  case c5 => exact rfl
  intro L h' A' tk0 hL hkeep F O eh ed eu htk
  have hh' : A'.handled = none := eh.trans hh
  walk_at "go"
  obtain ⟨tk1, t0, hd1⟩ := hd
  with_reducible refine' method_bi (G.up hkeep).k (accInst (hkeep _ _ ha) (hkeep _ _ (hg0 _ _ hd1))) ?a1 ?a11 ?a12 ?a2 ?a3 ?a4 ?a5 ?_
  case a1 => k_is
  case a11 => decide +kernel
  case a12 => k_is
  case a2 => k_is
  case a3 => k_is
  case a4 => decide
  case a5 => rfl
  walk_at "go"
  rename_i h2 F2 K2 T2
  have ha2 := K2 _ _ (hkeep _ _ ha)
  have G2 := G.up fun b o q => K2 _ _ (hkeep _ _ q)
  refine append_acc G2 ha2 hsz ?_
  intro h3 S3 ha3
  walk_at "go"
  try dsimp only
  refine hR _ _ _ htk ha3 ⟨_, (S3.2 _ ?_).trans T2.choose_spec.1, T2.choose_spec.2⟩ (none_of_sub hkeep (new_none _)) (fun b o hb q => S3.extBut _ _ hb (K2 _ _ (hkeep _ _ q)))
  exact Nat.ne_of_gt (Heap.lt_size (hkeep _ _ ha))

end
section
/- Acc3 -/
section
variable {prog : Program} {w : World} {A : Around} {E : Value → Shared → Prop} {s : Shared}
theorem special_bi {K : Frag} {x C : Addr} {ox : Obj} {od : Option Obj} {name : Str} {id : String} {args : List Value} {Q : Option Value → Shared → Prop} (X : K.In s.heap) (I : InstAt s.heap x ox C od)
    (hs : findIn K (.ref C) name = some (some (.builtin id))) (hb : ∀ self, bindSpecial (.builtin id) self = pure (.builtin id, [self])) (h : wpAny (model prog w) A (call (.builtin id) (.ref x :: args)) (fun v => Q (some v)) E s) :
    wpAny (model prog w) A (callSpecial? (.ref x) name args) Q E s := by
  refine wpAny_bind (wpAny_bind (I.type.here ((looks_findIn X hs).here (wpAny_holding (wpAny_bind ?_)))))
  rw [hb]
  exact wpAny_pure (wpAny_bind (wpAny_mono h (fun _ _ z => wpAny_pure z) fun _ _ z => z))

theorem bounds_from (a n : Nat) (h : a ≤ n) : sliceBounds (some (a : Int)) none none n = ((a : Int), (n : Int), 1) := by
  simp only [sliceBounds, Option.getD_none]
  have h1 : ¬ ((a : Int) < 0) := by walk_at "om"
  simp only [h1, if_false, show (1 : Int) > 0 by decide, if_true]
  congr 1
  walk_at "om"

theorem getItem_acc {a d sl : Addr} {items : Array Value} {n k : Nat} {t : Tok} {od : Obj} {Q : Value → Shared → Prop} (G : Gr w s.heap) (ha : s.heap.get? a = some (accObj d items n)) (hd : s.heap.get? d = some od)
    (hs : s.heap.IsSliceOf sl (.int k t) .none .none) (hk : k ≤ items.size) (hsz : items.size ≤ 1000)
    (h : Q (.ref s.heap.objs.size) { s with heap := s.heap.push { cls := .type "list", data := .seq (items.toList.drop k).toArray } }) :
    wpAny (model prog w) A (getItem (.ref a) (.ref sl)) Q E s := by
  obtain ⟨os, hos, hcs, hds⟩ := id hs
  have hTs : s.TypeIs (.ref sl) "slice" := ⟨os, hos, hcs⟩
  have I := accInst ha hd
  unfold getItem sequenceKey
  refine wpAny_holding (wpAny_bind (wpAny_bind (I.type.here ?_)))
  refine wpAny_bind ((anyM_none G.k (show (seqItemTypes.all fun n => subIn (Mine.heapK w.params) (.ref 120) (.type n) == some false) = true by rfl)).here ?_)
  rw [if_pos (show (!false) = true from rfl)]
  refine wpAny_pure (wpAny_bind (special_bi G.k I (id := "list.__getitem__") (by k_is) PySem.F.slot_list_getitem.bind ?_))
  with_reducible refine wpAny_call (codeAny_call_builtin (by decide +kernel) PySem.F.entry_list_getitem (check_meth (i := "list.__getitem__") (owner := "list") (n := "__getitem__") (by decide +kernel) (by decide +kernel) (acc_isList G ha) (PySem.F.args_list_getitem_2 _ _) ?_))
  show wpAny _ _ (Builtin.List.listSubscript? (.ref sl) >>= _) _ _ s
  refine wpAny_bind ?_
  unfold Builtin.List.listSubscript?
  refine wpAny_bind (wpAny_specialOf hTs slice_no_index ?_)
  simp only [Option.isNone_none, if_true]
  refine wpAny_pure ?_
  show wpAny _ _ (typeOf (.ref sl) >>= _) _ _ s
  refine wpAny_bind (wpAny_typeOf hTs ?_)
  rw [if_neg (by decide)]
  rw [listSliceParts_eq]
  refine wpAny_bind (wpAny_bind (wpAny_field hos hds (x := .none) rfl (wpAny_bind (wpAny_listPart .none ?_))))
  rw [if_neg (show ¬ ((rawPart none == rawInt 0) = true) from Bool.false_ne_true)]
  refine wpAny_bind (wpAny_field hos hds (x := .int k t) rfl (wpAny_bind (wpAny_listPart (.int _ _) ?_)))
  refine wpAny_bind (wpAny_field hos hds (x := .none) rfl (wpAny_bind (wpAny_listPart .none (wpAny_pure ?_))))
  refine wpAny_bind (m := Builtin.List.listItems (.ref a)) ?_
  unfold Builtin.List.listItems
  refine wpAny_bind (wpAny_seqItems ha rfl (wpAny_pure ?_))
  refine wpAny_bind (wpAny_of_eq (sliceIndices_raw (some (k : Int)) none none items.size (by simp)) ?_)
  have e : ((sliceRange (sliceBounds (some (k : Int)) none none items.size).1 (sliceBounds (some (k : Int)) none none items.size).2.1 (sliceBounds (some (k : Int)) none none items.size).2.2).filterMap (items[·]?)).toArray = (items.toList.drop k).toArray := slicePick_from items k hk
  refine wpAny_bind (wpAny_newObj_type (wpAny_pure ?_) ?_)
  · rw [e]
    exact wpAny_pure h
  · rw [e]
    show (items.toList.drop k).toArray.size ≤ sizeLine
    rw [sizeLine_eq]; simp; walk_at "om"

theorem setItem_acc {a d sl nl : Addr} {items : Array Value} {n k : Nat} {t : Tok} {od : Obj} {m : Nat} {Q : Unit → Shared → Prop} (G : Gr w s.heap) (ha : s.heap.get? a = some (accObj d items n)) (hd : s.heap.get? d = some od)
    (hs : s.heap.IsSliceOf sl (.int k t) .none .none) (hn : s.heap.get? nl = some (listOf #[] m)) (hk : k ≤ items.size) (hsz : items.size ≤ 1000)
    (h : ∀ h' n', Heap.SameBut a s.heap h' → h'.get? a = some (accObj d (items.toList.take k).toArray n') → Q () { s with heap := h' }) :
    wpAny (model prog w) A (setItem (.ref a) (.ref sl) (.ref nl)) Q E s := by
  obtain ⟨os, hos, hcs, hds⟩ := id hs
  have hTs : s.TypeIs (.ref sl) "slice" := ⟨os, hos, hcs⟩
  have hTn : s.TypeIs (.ref nl) "list" := ⟨_, hn, rfl⟩
  have hne : (a == nl) = false := by
    cases q : a == nl with
    | false => rfl
    | true => rw [beq_iff_eq.mp q, hn] at ha; cases ha
  have I := accInst ha hd
  unfold setItem sequenceKey
  refine wpAny_holding (wpAny_bind (wpAny_bind (I.type.here ?_)))
  refine wpAny_bind ((anyM_none G.k (show (seqItemTypes.all fun n => subIn (Mine.heapK w.params) (.ref 120) (.type n) == some false) = true by rfl)).here ?_)
  rw [if_pos (show (!false) = true from rfl)]
  refine wpAny_pure (wpAny_bind (special_bi G.k I (id := "list.__setitem__") (by k_is) PySem.F.slot_list_setitem.bind ?_))
  with_reducible refine wpAny_call (codeAny_call_builtin (by decide +kernel) PySem.F.entry_list_setitem (check_slot (i := "list.__setitem__") (owner := "list") (n := "__setitem__") (by decide +kernel) (by decide +kernel) (acc_isList G ha) (PySem.F.args_list_setitem_3 _ _ _) ?_))
  show wpAny _ _ (Builtin.List.listSubscript? (.ref sl) >>= _) _ _ s
  refine wpAny_bind ?_
  unfold Builtin.List.listSubscript?
  refine wpAny_bind (wpAny_specialOf hTs slice_no_index ?_)
  simp only [Option.isNone_none, if_true]
  refine wpAny_pure ?_
  show wpAny _ _ (typeOf (.ref sl) >>= _) _ _ s
  refine wpAny_bind (wpAny_typeOf hTs ?_)
  rw [if_neg (by decide)]
  rw [listSliceParts_eq]
  refine wpAny_bind (wpAny_bind (wpAny_field hos hds (x := .none) rfl (wpAny_bind (wpAny_listPart .none ?_))))
  rw [if_neg (show ¬ ((rawPart none == rawInt 0) = true) from Bool.false_ne_true)]
  refine wpAny_bind (wpAny_field hos hds (x := .int k t) rfl (wpAny_bind (wpAny_listPart (.int _ _) ?_)))
  refine wpAny_bind (wpAny_field hos hds (x := .none) rfl (wpAny_bind (wpAny_listPart .none (wpAny_pure ?_))))
  show wpAny _ _ (if (a == nl) = true then _ else _) _ _ s
  rw [hne, if_neg Bool.false_ne_true]
  refine wpAny_bind (m := Builtin.List.listAllItems (.ref nl) _) ?_
  unfold Builtin.List.listAllItems
  refine wpAny_bind (wpAny_typeOf hTn ?_)
  rw [if_pos (by decide)]
  unfold Builtin.List.listItems
  refine wpAny_bind (m := seqItems? (.ref nl)) (wpAny_seqItems hn rfl (wpAny_pure ?_))
  refine wpAny_bind (m := do match ← seqItems? (.ref a) with | some xs => pure xs | none => unsupported "internal:list-without-items") (wpAny_bind (wpAny_seqItems ha rfl (wpAny_pure ?_)))
  refine wpAny_bind (wpAny_of_eq (sliceIndices_raw (some (k : Int)) none none items.size (by simp)) ?_)
  rw [bounds_from k items.size hk]
  try dsimp only
  rw [if_pos (by decide)]
  refine wpAny_bind (wpAny_rule ?_)
  have hl : Builtin.List.listTooLong (items.size + (#[] : Array Value).size) = false := by
    unfold Builtin.List.listTooLong
    have : sizeLine = 16777216 := sizeLine_eq
    simp only [Array.size_empty, Nat.add_zero, decide_eq_false_iff_not]
    walk_at "om"
  rw [hl, if_neg Bool.false_ne_true]
  show wpAny _ _ (updateSeq a _ >>= _) _ _ s
  have hz : ∀ xs : Array Value, xs = items → (xs.extract 0 k ++ #[] ++ xs.extract items.size) = (items.toList.take k).toArray := by
    intro xs e
    subst e
    apply Array.ext'
    simp
  refine wpAny_bind (wpAny_updateSeq ha rfl ?_ (by rw [sizeLine_eq]; walk_at "om") ?_)
  · refine wpAny_bind (wpAny_letGo (wpAny_pure (wpAny_pure (h _ (if ((items.toList.take k).toArray.size == items.size) = true then n else n + 1) (Heap.SameBut.update ..) ?_))))
    have e : Obj.mapSeq (fun xs => xs.extract 0 (k : Int).toNat ++ #[] ++ xs.extract (max (k : Int) (items.size : Int)).toNat xs.size) (accObj d items n) = accObj d (items.toList.take k).toArray (if ((items.toList.take k).toArray.size == items.size) = true then n else n + 1) := by
      have e1 : (max (k : Int) (items.size : Int)).toNat = items.size := by walk_at "om"
      simp only [Obj.mapSeq, e1, Int.toNat_natCast]
      rw [hz items rfl]
    rw [Heap.get?_update_self _ ha (by rw [e]; rfl), e]
  · have e1 : (max (k : Int) (items.size : Int)).toNat = items.size := by walk_at "om"
    simp only [e1, Int.toNat_natCast]
    rw [hz items rfl, sizeLine_eq]
    simp; walk_at "om"

theorem subTail_acc {value slice : Expr} {a d : Addr} {items : Array Value} {n : Nat} {od : Obj} {i : Value} {ops : List Value} {Q : Value → Shared → Prop} (G : Gr w s.heap) (ha : s.heap.get? a = some (accObj d items n)) (hd : s.heap.get? d = some od)
    (h : wpAny (model prog w) A (getItem (.ref a) i) Q E s)
    (hs : subscripted slice false (.ref a) i = operate ops (getItem (.ref a) i) := by with_unfolding_all rfl) (ht : ∀ r, letTemporaryGo value (.ref a) r = pure () := by intro _; with_unfolding_all rfl) :
    wpAny (model prog w) A (subscriptTail value slice (.ref a) i) Q E s := by
  have I := accInst ha hd
  unfold subscriptTail getitemInPython
  refine wpAny_bind (wpAny_bind (wpAny_bind (I.type.here ((looks_findIn G.k (name := "__getitem__") (r := some (.builtin "list.__getitem__")) (by k_is)).here ?_))))
  try dsimp only
  refine wpAny_pure ?_
  rw [hs]
  exact wpAny_bind (wpAny_operating (wpAny_mono h (fun r s₃ h₃ => wpAny_bind (wpAny_of_eq (ht r) (wpAny_pure h₃))) fun _ _ x => x))
end

end
section
/- Pop -/
local macro_rules | `(tactic| walk_at "subscriptTail Name Slice ref ref") => `(tactic| with_reducible refine Mine.hlSubR ?_)
theorem pop_from_spec {w : World} {A : Around} {s : Shared} {R : Result → Shared → Prop} {a d : Nat} {items : Array Value} {n k : Nat} {t : Nat} {g0 : Heap}
  (C : Cx w A s 1) (G0 : Gr w g0) (hg0 : Sub g0 s.heap) (O0 : g0.get? a = none) (ha : s.heap.get? a = some (accObj d items n)) (hd : AccD w g0 d) (hk : k ≤ items.size) (hsz : items.size ≤ 1000)
  (hR : ∀ q h' tk' n', s.toks ≤ tk' → h'.get? a = some (accObj d (items.toList.take k).toArray n') → h'.get? q = some (listOf (items.toList.drop k).toArray 0) → s.heap.get? q = none → (∀ b o, b ≠ a → s.heap.get? b = some o → h'.get? b = some o) →
    R (.ok (.ret (.ref q))) { s with heap := h', toks := tk' }) :
  codeAny (model Challenge.rw_xg0051_01.row.prog w) A (.call (.ref 74) ⟨[.ref a, .int k t], []⟩) R s := by
  have G := C.G
  have hd' := C.hd
  have hh := C.hh
  have hsub := sub_of_hide s.heap a
  have Gb := G0.up (sub_hide hg0 O0)
  have Ob := hideOff s.heap a
  obtain ⟨tk1, t0, hd1⟩ := hd
  refine' enter [("self", .ref a), ("i", .int k t)] (s.heap.hide a) G.k G.nolimit (by first | exact fun _ _ e => e | assumption) ?k1 ?k2 ?k3 ?k4 ?k5 ?_ ?c2 ?c3 ?c4 ?c5
  case k1 => k_is
  case k2 => k_is
  case k3 => walk_at "om"
  case k4 => first | exact BindsTo.of_eq rfl | exact binds_K G.k rfl (by k_is) rfl rfl rfl
  case k5 => exact locs rfl
  case c2 => decide
  case c3 => exact rfl
  case c4 => exact rfl
  case c5 => exact rfl
  intro L h' A' tk0 hL hkeep F O eh ed eu htk
  have hh' : A'.handled = none := eh.trans hh
  walk_at "go"
  refine Mine.unstop ?_
  have hdd : h'.get? d = some _ := hkeep _ _ (hg0 _ _ hd1)
  refine subTail_acc (G.up fun b o q => Heap.get?_push_of_some _ (hkeep _ _ q)) (Heap.get?_push_of_some _ (hkeep _ _ ha)) (Heap.get?_push_of_some _ hdd) ?_
  refine getItem_acc (k := k) (G.up fun b o q => Heap.get?_push_of_some _ (hkeep _ _ q)) (Heap.get?_push_of_some _ (hkeep _ _ ha)) (Heap.get?_push_of_some _ hdd) (Heap.IsSliceOf.new _ _ _ _) hk hsz ?_
  try dsimp only
  generalize e1 : (h'.push _).push _ = h1
  have k1 : Sub h' h1 := fun b o q => by rw [← e1]; exact Heap.get?_push_of_some _ (Heap.get?_push_of_some _ q)
  have q1 : h1.get? (h'.push { cls := .type "slice", data := .fields #[.int k t, .none, .none] }).objs.size = some (listOf (items.toList.drop k).toArray 0) := by rw [← e1]; exact Heap.get?_push_size _ rfl
  have F1 := F.up k1
  walk_at "go"
  rename_i h2 F2 S2 h3 F3 K3 T3
  have hLa : a ≠ L := fun q => by
    have h9 := new_none s.heap
    rw [← hL, ← q, ha] at h9
    cases h9
  have up : ∀ b o, b ≠ L → h'.get? b = some o → h3.get? b = some o := fun b o hb q => K3 _ _ (S2.extBut _ _ hb (k1 _ _ q))
  have hLn : ∀ b o, s.heap.get? b = some o → b ≠ L := fun b o q => fun e => by
    have h9 := new_none s.heap
    rw [← hL, ← e, q] at h9
    cases h9
  have all3 : Sub s.heap h3 := fun b o q => up _ _ (hLn _ _ q) (hkeep _ _ q)
  refine setItem_acc (k := k) (G.up fun b o q => Heap.get?_push_of_some _ (all3 _ _ q)) (Heap.get?_push_of_some _ (all3 _ _ ha)) (Heap.get?_push_of_some _ (all3 _ _ (hg0 _ _ hd1))) (Heap.IsSliceOf.new _ _ _ _) (Heap.get?_push_of_some _ T3) hk hsz ?_
  intro h4 n4 S4 ha4
  have F4 : Fx (s.heap.hide a) L h4 _ := (F3.up fun b o q => Heap.get?_push_of_some { cls := .type "slice", data := .fields #[.int k t, .none, .none] } q).same S4 Ob (Ne.symm hLa)
  walk_at "go"
  try dsimp only
  have hq : (h'.push { cls := .type "slice", data := .fields #[.int k t, .none, .none] }).objs.size = h'.objs.size + 1 := Heap.size_push ..
  rw [hq] at q1 ⊢
  have l1 : s.heap.objs.size < h'.objs.size := by rw [← hL]; exact F.ns.lt
  refine hR _ _ _ _ (by walk_at "om") ha4 ?_ ?_ (fun b o hb q => S4.extBut _ _ hb (Heap.get?_push_of_some _ (all3 _ _ q)))
  · refine (S4.2 _ ?_).trans (Heap.get?_push_of_some _ (K3 _ _ (S2.extBut _ _ ?_ q1)))
    · have := ltN (Heap.lt_size (hkeep _ _ ha))
      exact neN (by walk_at "om")
    · exact neN (by walk_at "om")
  · cases q : s.heap.get? (h'.objs.size + 1) with
    | none => rfl
    | some o => have := ltN (Heap.lt_size q); walk_at "om"

end
section
/- Str1 -/
/-- the same as a list's items, whatever its class -/
noncomputable def SqAt (h : Heap) (a : Addr) (items : Array Value) : Prop := ∃ o n, h.get? a = some o ∧ o.data = .seq items n
theorem SqAt.at {h h' : Heap} {a : Addr} {items : Array Value} (x : SqAt h a items) (hk : ∀ o, h.get? a = some o → h'.get? a = some o) : SqAt h' a items := let ⟨o, n, e, d⟩ := x; ⟨o, n, hk o e, d⟩

section
variable {prog : Program} {w : World} {A : Around} {E : Value → Shared → Prop} {s : Shared}
theorem pyIter_acc {a d : Addr} {items : Array Value} {n : Nat} {od : Obj} {Q : Value → Shared → Prop} (G : Gr w s.heap) (ha : s.heap.get? a = some (accObj d items n)) (hd : s.heap.get? d = some od)
    (h : Q (.ref s.heap.objs.size) { s with heap := s.heap.push { cls := .type "list_iterator", data := .fields #[.ref a, .int 0 0] } }) :
    wpAny (model prog w) A (pyIter (.ref a)) Q E s := by
  have I := accInst ha hd
  have hs : findIn (Mine.heapK w.params) (.ref 120) "__iter__" = some (some (.builtin "list.__iter__")) := by k_is
  have hb : ∀ self, bindSpecial (.builtin "list.__iter__") self = pure (.builtin "list.__iter__", [self]) := PySem.slot_list_iter.bind
  have L : Looks (model prog w) s.heap (specialOf (.ref a) "__iter__") (some (.builtin "list.__iter__")) := I.type.andThen (looks_findIn G.k hs)
  have mid : wpAny (model prog w) A (call (.builtin "list.__iter__") [.ref a]) (fun it s' => ∃ T' r, s'.TypeIs it T' ∧ typeLookup (.type T') "__next__" = pure (some r) ∧ Q it s') E s := by
    refine wpAny_call (codeAny_call_builtin (by decide +kernel) PySem.entry_list_iter (check_slot (i := "list.__iter__") (owner := "list") (n := "__iter__") (by decide +kernel) (by decide +kernel) (acc_isList G ha) (PySem.args_list_iter _) ?_))
    show wpAny _ _ (do ret (← newFields "list_iterator" [.ref a, rawInt 0])) _ _ s
    exact wpAny_bind (wpAny_newObj_type (wpAny_pure ⟨"list_iterator", _, ⟨_, Heap.get?_push_size _ rfl, rfl⟩, slot_listiter_next.lookup, h⟩))
  unfold pyIter
  refine wpAny_bind (L.here ?_)
  try dsimp only
  refine wpAny_bind (m := callSpecialIfBoundUnlessNone? (.ref a) "__iter__" _) ?_
  simp only [callSpecialIfBoundUnlessNone?, bindSpecialIfBound?]
  refine wpAny_holding (wpAny_bind (wpAny_bind (L.here ?_)))
  simp only [hb]
  refine wpAny_bind (wpAny_askSetting (wpAny_ite ?_))
  have fin : wpAny (model prog w) A (call (.builtin "list.__iter__") [.ref a] >>= fun v => (pure (some v) : Sem (Option Value))) (fun r s' => wpAny (model prog w) A (match r with
      | some it => do match ← specialOf it "__next__" with
        | none => rule "iter.non-iterator"; raiseError "TypeError" s!"iter() returned non-iterator of type '{← typeNameOf it}'"
        | some _ => pure it
      | none => do match ← bindSpecialIfBound? (.ref a) "__getitem__" with
        | none => rule "iter.not-iterable"; raiseError "TypeError" s!"'{← typeNameOf (.ref a)}' object is not iterable"
        | some _ => rule "iter.getitem-fallback"; newFields "iterator" [.ref a, ← mkInt 0]) Q E s') E s := by
    refine wpAny_bind (wpAny_mono mid (fun it s' h' => wpAny_pure ?_) fun _ _ x => x)
    obtain ⟨T', r, hT', hl, hQ⟩ := h'
    exact wpAny_bind (wpAny_specialOf hT' hl (wpAny_pure hQ))
  split
  · exact wpAny_bind (wpAny_pure (wpAny_pure fin))
  · exact wpAny_tryCatch (wpAny_bind (wpAny_pure (wpAny_pure fin)))

theorem next_sq {it l : Addr} {i : Nat} {items : Array Value} {x : Value} {Q : Option Value → Shared → Prop} (hit : s.heap.IsListIter it l i)
    (hl : SqAt s.heap l items) (hx : items[i]? = some x)
    (hQ : ∀ h', h'.IsListIter it l (i + 1) → Heap.SameBut it s.heap h' → Q (some x) { s with heap := h' }) :
    wpAny (model prog w) A (pyNext (.ref it)) Q E s := by
  obtain ⟨o, ho, hc, hd⟩ := id hit
  obtain ⟨ol, nl, hol, hdl⟩ := hl
  unfold pyNext
  refine wpAny_bind (wpAny_attempt (wpAny_callSpecial?_slot (name := Str.ofString "__next__") hit.typeIs slot_listiter_next
    (wpAny_call_entry slot_listiter_next hit.typeIs entry_listiter_next ?_ (args_listiter_next _))))
  show wpAny _ _ (field (.ref it) 0 >>= _) _ _ s
  refine wpAny_bind (wpAny_field ho hd (x := .ref l) rfl ?_)
  show wpAny _ _ (if (Value.ref l == Value.none) = true then _ else _) _ _ s
  rw [if_neg (show ¬ ((Value.ref l == Value.none) = true) from Bool.false_ne_true)]
  show wpAny _ _ (field (.ref it) 1 >>= _) _ _ s
  refine wpAny_bind (wpAny_field ho hd (x := .int i 0) rfl ?_)
  show wpAny _ _ (seqItems? (.ref l) >>= _) _ _ s
  refine wpAny_bind (wpAny_seqItems hol hdl ?_)
  simp only [Int.toNat_natCast, hx]
  refine wpAny_bind (wpAny_setField ho hd (by simp) (wpAny_pure ⟨x, rfl, wpAny_pure (hQ _ ?_ (Heap.SameBut.update ..))⟩))
  exact ⟨_, Heap.get?_update_self _ ho (Obj.isFreed_of_fields (Obj.data_mapFields hd _)), (Obj.cls_mapFields ..).trans hc, by
    rw [Obj.data_mapFields hd]; simp [rawInt]⟩

theorem end_sq {it l : Addr} {i : Nat} {items : Array Value} {Q : Option Value → Shared → Prop} (hh : A.handled = none)
    (hit : s.heap.IsListIter it l i) (hl : SqAt s.heap l items) (hx : items[i]? = none)
    (hQ : ∀ h', Heap.ExtBut it s.heap h' → Q none { s with heap := h' }) : wpAny (model prog w) A (pyNext (.ref it)) Q E s := by
  obtain ⟨o, ho, hc, hd⟩ := id hit
  obtain ⟨ol, nl, hol, hdl⟩ := hl
  unfold pyNext
  refine wpAny_bind (wpAny_attempt (wpAny_callSpecial?_slot (name := Str.ofString "__next__") hit.typeIs slot_listiter_next
    (wpAny_call_entry slot_listiter_next hit.typeIs entry_listiter_next ?_ (args_listiter_next _))))
  show wpAny _ _ (field (.ref it) 0 >>= _) _ _ s
  refine wpAny_bind (wpAny_field ho hd (x := .ref l) rfl ?_)
  show wpAny _ _ (if (Value.ref l == Value.none) = true then _ else _) _ _ s
  rw [if_neg (show ¬ ((Value.ref l == Value.none) = true) from Bool.false_ne_true)]
  show wpAny _ _ (field (.ref it) 1 >>= _) _ _ s
  refine wpAny_bind (wpAny_field ho hd (x := .int i 0) rfl ?_)
  show wpAny _ _ (seqItems? (.ref l) >>= _) _ _ s
  refine wpAny_bind (wpAny_seqItems hol hdl ?_)
  simp only [Int.toNat_natCast, hx]
  refine wpAny_bind (wpAny_rule (wpAny_bind (wpAny_setField ho hd (by simp) ?_)))
  show wpAny _ _ (newExc (.type "StopIteration") [] >>= _) _ _ _
  refine wpAny_bind ?_
  simp only [newExc, newTuple]
  refine wpAny_bind (wpAny_newObj_type ?_ (by size_fits))
  refine wpAny_bind (m := firstArgMember _ _) (wpAny_of_eq (a := Value.none) (by first | rfl | (simp only [firstArgMember]; rfl)) ?_)
  refine wpAny_newObj_type ?_ (by size_fits)
  simp only [raiseNew]
  refine wpAny_bind (wpAny_handled ?_)
  rw [show A.in1.handled = none from hh]
  refine wpAny_bind (wpAny_pure (wpAny_throw ?_))
  refine wpAny_bind (wpAny_isInstance (T := "StopIteration") (b := true) ⟨_, Heap.get?_push_size _ rfl, rfl⟩ isSubtype_stop ?_)
  exact wpAny_pure (hQ _ (((Heap.SameBut.update ..).extBut.push _).push _))
end

theorem walks_sq {prog : Program} {w : World} {A : Around} (hh : A.handled = none) (I ax : Addr) (hne : ax ≠ I) (items : Array Value) :
    Walks prog w A I [I, ax] [I] items.size (fun i v => items[i]? = some v) (fun i h => h.IsListIter I ax i ∧ SqAt h ax items) where
  sub := fun b hb => by simp at hb; simp [hb]
  frame := fun _ _ _ st hk => ⟨st.1.at fun o e => hk I (by simp) o e, st.2.at fun o e => hk ax (by simp) o e⟩
  item := fun i s Q E hi st hQ => by
    refine next_sq st.1 st.2 (x := items[i]) (by simp [hi]) fun h' hit' hs' => ?_
    exact hQ _ h' s.toks (by simp [hi]) ⟨hit', st.2.at fun o e => hs'.extBut _ o hne e⟩ fun b o hb e => hs'.extBut b o (fun h => hb (by simp [h])) e
  done := fun s Q E st hQ => end_sq hh st.1 st.2 (by simp) fun h' he' => hQ h' s.toks fun b o hb e => he' b o (fun h => hb (by simp [h])) e
  self := fun _ _ _ _ st hQ => wpAny_pyIter_listiter st.1 hQ

theorem walksU_sq {prog : Program} {w : World} {A : Around} (hh : A.handled = none) (I ax : Addr) (hne : ax ≠ I) (items : Array Value) (Ts : Nat → Addr) (vals : Nat → Array Value)
    (hit : ∀ j, j < items.size → items[j]? = some (.ref (Ts j))) (hTI : ∀ j, j < items.size → Ts j ≠ I) :
    WalksU prog w A I (I :: ax :: (List.range items.size).map Ts) [I] items.size (fun j v => v = vals j)
      (fun j h => h.IsListIter I ax j ∧ SqAt h ax items ∧ ∀ k, k < items.size → h.IsTuple (Ts k) (vals k))
      (fun j T h => (j < items.size ∧ T = Ts j) ∧ h.IsListIter I ax (j + 1) ∧ SqAt h ax items ∧ ∀ k, k < items.size → h.IsTuple (Ts k) (vals k)) where
  sub := fun b hb => by simp at hb; simp [hb]
  frame := fun _ _ _ st hk => ⟨st.1.at fun o e => hk I (by simp) o e, st.2.1.at fun o e => hk ax (by simp) o e,
    fun k hk' => (st.2.2 k hk').at fun o e => hk (Ts k) (List.mem_cons_of_mem _ (List.mem_cons_of_mem _ (List.mem_map.mpr ⟨k, List.mem_range.mpr hk', rfl⟩))) o e⟩
  item := fun i s Q E hi st hQ => by
    refine next_sq st.1 st.2.1 (x := .ref (Ts i)) (hit i hi) fun h' hit' hs' => ?_
    have tup : ∀ k, k < items.size → h'.IsTuple (Ts k) (vals k) := fun k hk' => (st.2.2 k hk').extBut hs'.extBut (hTI k hk')
    exact hQ (Ts i) (vals i) h' s.toks rfl (tup i hi) ⟨⟨hi, rfl⟩, hit', st.2.1.at fun o e => hs'.extBut _ o hne e, tup⟩ fun b o hb e => hs'.extBut b o (fun h => hb (by simp [h])) e
  go := fun _ _ _ _ _ s Q _ hm hQ => wpAny_letOwnedTupleGo_listiter hm.2.1 (hQ s.heap hm.2 fun _ _ _ e => e)
  apart := fun j T _ hm hmem => by
    rcases List.mem_cons.mp hmem with e | e
    · exact hTI j hm.1.1 (hm.1.2 ▸ e)
    · cases e
  done := fun s Q E st hQ => end_sq hh st.1 st.2.1 (by simp) fun h' he' => hQ h' s.toks fun b o hb e => he' b o (fun h => hb (by simp [h])) e
  self := fun _ _ _ _ st hQ => wpAny_pyIter_listiter st.1 hQ

noncomputable def Tb (h : Heap) : Prop := ∃ ps, h.IsCode 94 90 ps ∧ h.TableAt 94 90 ps
theorem Tb.keep {h h' : Heap} (x : Tb h) (hk : Sub h h') : Tb h' := let ⟨ps, e, e2⟩ := x; ⟨ps, e.keeps hk, e2.keeps hk⟩
/-- the code of a generator expression, from its table or made anew -/
theorem genexprT {M : Model} {A : Around} {E : Value → Shared → Prop} {s : Shared} {env : Env} {c P : Addr} {ps : Array Value} {pos : Pos} {qualname : Str} {scope : Scope} {Q : Value → Shared → Prop} (hc : env.code = .ref c) (hok : s.heap.IsCode c P ps) (htab : s.heap.TableAt c P ps)
    (hQ : ∀ code h' tk ps', Heap.ExtBut P s.heap h' → h'.IsCode c P ps' → h'.TableAt c P ps' → Q code { s with heap := h', toks := tk }) :
    wpAny M A (genexprCode env pos qualname scope) Q E s := by
  cases h : codeAmong pos ps.toList with
  | some cv => exact wpAny_genexprCode_hit hc hok h (hQ cv s.heap s.toks ps (Heap.ExtBut.refl _ _) hok htab)
  | none => exact wpAny_genexprCodeX hc hok htab h fun c' h' tk x _ _ i _ t _ => hQ _ _ _ _ x i t
/-- what a part of the law may change: the heap but at X is kept, generators stay done -/
structure Kp (X : List Nat) (s s' : Shared) : Prop where
  heap : ∀ b : Addr, ∀ o, b ∉ X → s.heap.get? b = some o → s'.heap.get? b = some o
  gens : AllBare s.gens → AllBare s'.gens
  tb : Tb s.heap → Tb s'.heap
  drawn : s'.drawn = s.drawn
  os : s'.os = s.os
  toks : s.toks ≤ s'.toks
theorem Kp.refl (X : List Nat) (s : Shared) : Kp X s s := ⟨fun _ _ _ e => e, id, id, rfl, rfl, Nat.le_refl _⟩
theorem Kp.trans {X : List Nat} {a b c : Shared} (x : Kp X a b) (y : Kp X b c) : Kp X a c :=
  ⟨fun q o hq e => y.heap q o hq (x.heap q o hq e), fun g => y.gens (x.gens g), fun g => y.tb (x.tb g), y.drawn.trans x.drawn, y.os.trans x.os, Nat.le_trans x.toks y.toks⟩
theorem Kp.of {X : List Nat} {s : Shared} {h' : Heap} {tk : Nat} (hk : Sub s.heap h') (ht : s.toks ≤ tk) : Kp X s { s with heap := h', toks := tk } := ⟨fun b o _ e => hk b o e, id, fun t => t.keep hk, rfl, rfl, ht⟩

end
section
/- Str2 -/
theorem Gr.hide90 {w : World} {h : Heap} (G : Gr w h) (T : Tb h) : Gr w (h.hide 90) := by
  obtain ⟨ps, ⟨o, vs, file, tf, flags, tg, inF, text, tt, op, _, _, _, _, _, _, _, e90, d90, _, _⟩, _⟩ := T
  have n90 : (Mine.heapK w.params).lookup 90 = none := rfl
  have hat : ∀ {a : Addr} {m}, h.Ns a m → (h.hide 90).Ns a m := fun {a m} N => N.at' fun o e => hide_in e (fun q => by
    subst q
    obtain ⟨o', _, _, e', dd, _⟩ := N
    rw [e90] at e'; cases e'; rw [d90] at dd; cases dd)
  obtain ⟨a, b, c, pp, TR⟩ := G.t
  obtain ⟨mg, bm, ob, M⟩ := G.m
  refine ⟨fun a o e => hide_in (G.k a o e) (fun q => by subst q; rw [n90] at e; cases e), ⟨a, b, c, pp, ⟨hat TR.g, hat TR.b, ?_, TR.builtins, TR.free⟩⟩, ⟨mg, bm, ob, ⟨hat M.ns, M.name, M.ne, hide_in M.obj ?_, M.cls, M.dict, M.data⟩⟩⟩
  · obtain ⟨mc, h1, h2⟩ := TR.nolimit
    exact ⟨mc, hat h1, h2⟩
  · intro q
    have := M.obj
    rw [q, e90] at this; cases this
    have := M.data
    rw [d90] at this; cases this

/-- the pieces of a row: pairs of the empty text and one sign -/
noncomputable def Pc (h : Heap) (items : Array Value) (ls : List Nat) : Prop := items.size = ls.length ∧ ∀ (i c : Nat), ls[i]? = some c → ∃ (p : Nat) (t1 t2 : Nat), items[i]? = some (Value.ref p) ∧ IsTup h p #[Value.str (Str.ofString "") t1, Value.str ⟨#[c]⟩ t2]
theorem Pc.up {h h' : Heap} {items : Array Value} {ls : List Nat} (x : Pc h items ls) (hk : Sub h h') : Pc h' items ls := ⟨x.1, fun i c e => let ⟨p, t1, t2, a, b⟩ := x.2 i c e; ⟨p, t1, t2, a, b.keeps hk⟩⟩

theorem join_one (c : Nat) : Txt.join (Str.ofString "") [Str.ofString "", ⟨#[c]⟩] = ⟨#[c]⟩ := by
  unfold Txt.join
  rw [StrLaws.glued_eq_join]
  rfl
theorem join_signs : ∀ ls : List Nat, Txt.join (Str.ofString "") (ls.map fun c => (⟨#[c]⟩ : Str)) = ⟨ls.toArray⟩ := by
  intro ls
  unfold Txt.join
  rw [StrLaws.glued_eq_join]
  induction ls with
  | nil => rfl
  | cons c r ih =>
    cases r with
    | nil => rfl
    | cons c2 r2 =>
      show (⟨#[c]⟩ : Str) ++ Str.ofString "" ++ Str.join (Str.ofString "") ((c2 :: r2).map fun c => (⟨#[c]⟩ : Str)) = _
      rw [ih]
      show (⟨(#[c] ++ (Str.ofString "").cps) ++ (c2 :: r2).toArray⟩ : Str) = _
      rw [show (Str.ofString "").cps = #[] from rfl]
      simp

theorem join_len : ∀ ls : List Nat, ((ls.map fun c => (⟨#[c]⟩ : Str)).map (·.length)).sum = ls.length := by
  intro ls
  induction ls with
  | nil => rfl
  | cons c r ih =>
    rw [List.map_cons, List.map_cons, List.sum_cons, ih, List.length_cons]
    show 1 + _ = _
    walk_at "om"
theorem tableAt_two {h h' : Heap} {c P : Addr} {ps : Array Value} (x : h.TableAt c P ps) (h1 : ∀ o, h.get? c = some o → h'.get? c = some o) (h2 : ∀ o, h.get? P = some o → h'.get? P = some o) : h'.TableAt c P ps :=
  let ⟨⟨o, vs, a, r⟩, t⟩ := x; ⟨⟨o, vs, h1 _ a, r⟩, h2 _ t⟩
theorem isCode_two {h h' : Heap} {c P : Addr} {ps : Array Value} (x : h.IsCode c P ps) (h1 : ∀ o, h.get? c = some o → h'.get? c = some o) (h2 : ∀ o, h.get? P = some o → h'.get? P = some o) : h'.IsCode c P ps :=
  by
  obtain ⟨o, vs, file, tf, flags, tg, inF, text, tt, op, a, r1, r2, r3, r4, r5, r6, b, r⟩ := x
  exact ⟨o, vs, file, tf, flags, tg, inF, text, tt, op, h1 _ a, r1, r2, r3, r4, r5, r6, h2 _ b, r⟩

theorem str95_spec {w : World} {A : Around} {s : Shared} {R : Result → Shared → Prop} {a d : Nat} {items : Array Value} {n : Nat} {ls : List Nat}
  (C : Cx w A s 4) (T : Tb s.heap) (ha : s.heap.get? a = some (accObj d items n)) (hd : AccD w s.heap d) (P : Pc s.heap items ls) (hsz : items.size ≤ 1000)
  (hR : ∀ s' (t' : Nat), Kp [90] s s' → R (.ok (.ret (.str ⟨ls.toArray⟩ t'))) s') :
  codeAny (model Challenge.rw_xg0051_01.row.prog w) A (.call (.ref 95) ⟨[.ref a], []⟩) R s := by
  have G := C.G
  have hd' := C.hd
  have hh := C.hh
  have Gb := G.hide90 T
  have O90 : (s.heap.hide 90).get? 90 = none := hideOff _ _
  have hsub := sub_of_hide s.heap 90
  refine' enter [("self", .ref a)] (s.heap.hide 90) G.k G.nolimit (by first | exact fun _ _ e => e | assumption) ?k1 ?k2 ?k3 ?k4 ?k5 ?_ ?c2 ?c3 ?c4 ?c5
  case k1 => k_is
  case k2 => k_is
  case k3 => walk_at "om"
  case k4 => first | exact BindsTo.of_eq rfl | exact binds_K G.k rfl (by k_is) rfl rfl rfl
  case k5 => exact locs rfl
  case c2 => decide
  case c3 => exact rfl
  case c4 => exact rfl
  case c5 => exact rfl
  intro L h' A' tk0 hL hkeep F O eh ed eu htk
  have hh' : A'.handled = none := eh.trans hh
  walk_at "go"
  have hTs : ∀ i : Nat, ∃ q : Nat × Nat × Nat, ∀ c : Nat, ls[i]? = some c → items[i]? = some (Value.ref q.1) ∧ IsTup s.heap q.1 #[Value.str (Str.ofString "") q.2.1, Value.str ⟨#[c]⟩ q.2.2] := by
    intro i
    cases e : ls[i]? with
    | none => exact ⟨(0, 0, 0), fun c h => by cases h⟩
    | some c =>
      obtain ⟨p, t1, t2, e1, e2⟩ := P.2 i c e
      exact ⟨(p, t1, t2), fun c' h => by cases h; exact ⟨e1, e2⟩⟩
  obtain ⟨f, hf⟩ := Classical.axiomOfChoice hTs
  refine wpAny_with_toks (Nat.le_refl tk0) (wpAny_GeneratorExp_walksQTD hh' rfl rfl (by decide) rfl rfl rfl (by decide) rfl (by walk_at "om") ?_ (fun _ => rfl))
  walk_at "go"
  obtain ⟨od, hod⟩ : ∃ od, s.heap.get? d = some od := let ⟨_, _, e⟩ := hd; ⟨_, e⟩
  refine pyIter_acc (G.up hkeep) (hkeep _ _ ha) (hkeep _ _ hod) ?_
  try dsimp only
  generalize e1 : h'.push _ = h1
  have k1 : Sub h' h1 := fun b o q => by rw [← e1]; exact Heap.get?_push_of_some _ q
  have it1 : h1.IsListIter h'.objs.size a 0 := ⟨_, by rw [← e1]; exact Heap.get?_push_size _ rfl, rfl, rfl⟩
  have I0 : h'.get? h'.objs.size = none := new_none _
  generalize h'.objs.size = I at it1 I0
  refine ⟨(G.up fun b o q => k1 _ _ (hkeep _ _ q)).nolimit, ?_⟩
  obtain ⟨ps, T1, Tt1⟩ := (T.keep hkeep).keep k1
  refine wpAny_with_toks (Nat.le_refl tk0) (genexprT rfl T1 Tt1 ?_)
  intro code h2 tk2 ps2 x2 T2 Tt2 htk2
  dsimp only at x2 htk2 ⊢
  walk_at "un"
  have hI90 : I ≠ 90 := fun q => by
    obtain ⟨_, T0, _⟩ := T.keep hkeep
    obtain ⟨o, vs, file, tf, flags, tg, inF, text, tt, op, _, _, _, _, _, _, _, e90, d90, _, _⟩ := T0
    rw [q, e90] at I0; cases I0
  have k2 : ∀ b : Addr, ∀ o, b ≠ 90 → h'.get? b = some o → h2.get? b = some o := fun b o hb q => x2 b o hb (k1 _ _ q)
  have sub2 : Sub (s.heap.hide 90) (h2.hide I) := fun b o q => hide_in (k2 _ _ (fun z => by rw [z, O90] at q; cases q) (F.keep _ _ q)) (fun z => by rw [z] at q; have := F.keep _ _ q; rw [I0] at this; cases this)
  have G2 := Gb.up sub2
  have it2 : h2.IsListIter I a 0 := let ⟨o, e, r⟩ := it1; ⟨o, x2 _ _ hI90 e, r⟩
  have is90 : ∃ op v, s.heap.get? 90 = some op ∧ op.data = .fields v := by
    obtain ⟨_, ⟨o, vs, file, tf, flags, tg, inF, text, tt, op, _, _, _, _, _, _, _, e90, d90, _, _⟩, _⟩ := T
    exact ⟨_, _, e90, d90⟩
  obtain ⟨op, v90, e90, d90⟩ := is90
  have sq90 : ∀ {b : Addr} {o : Obj} {xs n}, s.heap.get? b = some o → o.data = .seq xs n → b ≠ 90 := fun e1 e2 q => by subst q; rw [e90] at e1; cases e1; rw [d90] at e2; cases e2
  have up2 : ∀ {b : Addr} {o : Obj} {xs n}, s.heap.get? b = some o → o.data = .seq xs n → h2.get? b = some o := fun e1 e2 => k2 _ _ (sq90 e1 e2) (hkeep _ _ e1)
  have gone : ∀ {b : Addr} {o : Obj}, s.heap.get? b = some o → b ≠ I := fun e q => by subst q; have := hkeep _ _ e; rw [I0] at this; cases this
  have ha2 : h2.get? a = some (accObj d items n) := up2 ha rfl
  have tup2 : ∀ k c, ls[k]? = some c → h2.IsTuple (f k).1 #[Value.str (Str.ofString "") (f k).2.1, Value.str ⟨#[c]⟩ (f k).2.2] := fun k c e => by
    obtain ⟨o, e1, e2, m, e3⟩ := (hf k c e).2
    exact ⟨o, up2 e1 e3, e2, m, e3⟩
  have lt2 : ∀ {b : Addr} {o : Obj}, h2.get? b = some o → b < h2.objs.size := fun e => Heap.lt_size e
  obtain ⟨mg, bm, ob, M⟩ := (Gb.up (g' := h2) fun b o q => Heap.of_hide (sub2 b o q)).m
  refine wpAny_builtinsFor M.ns M.name M.ne M.obj M.cls M.dict M.data ?_
  try dsimp only
  refine ⟨I, I :: a :: (List.range items.size).map (fun j => (f j).1), [I], items.size, _, _, _, fun _ => true, fun i y => ∃ (t : Nat), y = Value.str ⟨#[ls.getD i 0]⟩ t, rfl,
    fun A1 hA1 => walksU_sq hA1 I a ?ne items (fun j => (f j).1) (fun j => #[Value.str (Str.ofString "") (f j).2.1, Value.str ⟨#[ls.getD j 0]⟩ (f j).2.2]) ?hit ?hTI, ?sz, ?st, ?fp, ?lim, ?wr, ?quiet, ?fin⟩
  case ne => exact gone ha
  case hit => intro j hj; exact ((hf j _ (List.getElem?_eq_getElem (P.1 ▸ hj))).1)
  case hTI => intro j hj; obtain ⟨o, e1, _⟩ := (hf j _ (List.getElem?_eq_getElem (P.1 ▸ hj))).2; exact gone e1
  case sz => intro i vals hv; exact ⟨_, _, hv⟩
  case st =>
    refine ⟨it2, ⟨_, _, ha2, rfl⟩, fun k hk => ?_⟩
    have e := List.getElem?_eq_getElem (l := ls) (i := k) (P.1 ▸ hk)
    have := tup2 k _ e
    simpa [List.getD, e] using this
  case fp =>
    intro b hb
    rcases List.mem_cons.mp hb with e | hb
    · subst e; obtain ⟨o, e, _⟩ := it2; exact lt2 e
    rcases List.mem_cons.mp hb with e | hb
    · subst e; exact lt2 ha2
    obtain ⟨k, hk, rfl⟩ := List.mem_map.mp hb
    have e := List.getElem?_eq_getElem (l := ls) (i := k) (P.1 ▸ List.mem_range.mp hk)
    obtain ⟨o, e, _⟩ := tup2 k _ e
    exact lt2 e
  case lim => exact (Gb.up fun b o q => Heap.of_hide (sub2 b o q)).nolimit
  case wr => intro q; have e : cStatics = I := by simpa using q
             obtain ⟨_, N, _⟩ := G.nolimit; obtain ⟨o, _, _, e', _⟩ := N; exact gone e' e
  case quiet =>
    intro href hhref
    refine ⟨fun A1 E1 i va vb s₂ m₂ hA1 hdep huni hP hns hxa hxb hk => ?_, fun A1 E1 i va vb s₂ m₂ hA1 hdep huni hP _ hns hxa hxb hk => ?_⟩
    · show wpAny _ _ (pure true) _ _ _
      exact wpAny_pure ⟨rfl, s₂.heap, s₂.toks, rfl, fun _ _ e => e⟩
    · have hP' := hP
      have e1 : va = Value.str (Str.ofString "") (f i).2.1 := by have := congrArg (·[0]?) hP; simpa using this
      have e2 : vb = Value.str ⟨#[ls.getD i 0]⟩ (f i).2.2 := by have := congrArg (·[1]?) hP; simpa using this
      subst e1; subst e2
      have subC : Sub (h2.hide I) s₂.heap := fun b o e => by
        have e' := Heap.of_hide e
        have hbI : b ≠ I := fun q => by subst q; rw [hideOff] at e; cases e
        exact hk b (List.mem_range.mpr (lt2 e')) (by simpa using hbI) o (hhref _ _ e')
      have F3 : Fx (h2.hide I) h2.objs.size s₂.heap (fun y => if y = Str.ofString "fws" then some (Value.str (Str.ofString "") (f i).2.1) else if y = Str.ofString "part" then some (Value.str ⟨#[ls.getD i 0]⟩ (f i).2.2) else m₂ y) := by
        refine Fx.cast ⟨hns, subC⟩ fun y => ?_
        split
        · rename_i q; subst q; exact hxa
        · split
          · rename_i q; subst q; exact hxb
          · rfl
      walk_at "go"
      rename_i h4 F4 K4 T4
      refine join_tupleC T4 (.cons _ _ (.cons _ _ .nil)) (by decide) (Nat.le_of_ble_eq_true rfl) ?_
      intro t' k
      rw [join_one]
      walk_at "un"
      exact ⟨⟨t', rfl⟩, _, _, rfl, K4⟩
  case fin =>
    intro a5 h5 tk5 gs hbare hlt hsz5 hk5 W hst htk5
    walk_at "go"
    have hps : ∀ j i, (passing (fun _ => true) items.size 0)[j]? = some i → i = j ∧ j < ls.length := by
      intro j i e
      have e' : passing (fun _ => true) items.size 0 = List.range items.size := by simp [passing]
      rw [e'] at e
      obtain ⟨h1, h2⟩ := List.getElem?_eq_some_iff.mp e
      rw [List.length_range] at h1
      rw [List.getElem_range] at h2
      exact ⟨h2.symm, P.1 ▸ h1⟩
    have hln : (passing (fun _ => true) items.size 0).length = ls.length := by
      have e' : passing (fun _ => true) items.size 0 = List.range items.size := by simp [passing]
      rw [e', List.length_range, P.1]
    refine wpAny_with_toks (n := s.toks) (by show s.toks ≤ tk5; walk_at "om") (SC.joinGen (x := Str.ofString "") W.in4_2 (fun i s' st => st.1.typeIs) hst ?_ (by simp) ?_ ?_ ?_)
    · intro b hb
      show b < h5.objs.size
      rw [hsz5]
      rcases List.mem_cons.mp hb with e | hb
      · subst e; exact Nat.lt_succ_self _
      rcases List.mem_cons.mp hb with e | hb
      · subst e; exact Nat.lt_succ_of_lt hlt
      · exact Nat.lt_succ_of_lt (Nat.lt_trans (List.mem_range.mp hb) hlt)
    · rintro i v ⟨i', _, t, rfl⟩; exact ⟨_, _, rfl⟩
    · intro s' l hm hacc
      have hl : l.map (·.1) = ls.map fun c => (⟨#[c]⟩ : Str) := by
        apply List.ext_getElem?
        intro j
        have hsz' : l.length = ls.length := by rw [← hln]; simpa [strValues] using hacc.1
        by_cases hj : j < ls.length
        · have hj' : j < l.length := hsz' ▸ hj
          obtain ⟨i, hi, u, hv⟩ := hacc.2 j (.str l[j].1 l[j].2) (by simp [strValues, List.getElem?_eq_getElem hj'])
          obtain ⟨rfl, _⟩ := hps _ _ hi
          injection hv with h1 _
          simp [List.getElem?_eq_getElem hj', hj, h1, List.getD, List.getElem?_eq_getElem hj]
        · rw [List.getElem?_eq_none (by simpa [hsz'] using Nat.le_of_not_lt hj), List.getElem?_eq_none (by simpa using Nat.le_of_not_lt hj)]
      rw [hl]
      refine ⟨?_, fun t' k htk' => ?_⟩
      · refine joinOk_of ?_
        rw [join_len]
        show ls.length + _ * 0 ≤ _
        have := P.1
        walk_at "om"
      · rw [join_signs]
        walk_at "un"
        refine hR _ _ ⟨fun b o hb e => ?_, fun g => (g.push hbare).moved hm.gens, fun _ => ?_, hm.drawn, hm.os, htk'⟩
        · have e2 := k2 b o (by simpa using hb) (hkeep _ _ e)
          refine hm.heap b o (fun q => ?_) (hk5 _ _ e2)
          rcases List.mem_cons.mp q with q | q
          · subst q; exact Nat.lt_irrefl _ (lt2 e2)
          · exact gone e (by simpa using q)
        · have off : ∀ b o, b ≠ I → h2.get? b = some o → s'.heap.get? b = some o := fun b o hb e => by
            refine hm.heap b o (fun q => ?_) (hk5 _ _ e)
            rcases List.mem_cons.mp q with q | q
            · subst q; exact Nat.lt_irrefl _ (lt2 e)
            · exact hb (by simpa using q)
          have n94 : (94 : Nat) ≠ I := by
            obtain ⟨_, ⟨o, vs, file, tf, flags, tg, inF, text, tt, op, e94, _⟩, _⟩ := T
            exact gone e94
          exact ⟨ps2, isCode_two T2 (fun o e => off _ _ n94 e) (fun o e => off _ _ (Ne.symm hI90) e), tableAt_two Tt2 (fun o e => off _ _ n94 e) (fun o e => off _ _ (Ne.symm hI90) e)⟩
    · rw [hln, ← P.1, sizeLine_eq]; walk_at "om"

end
section
/- Str3 -/
theorem str_acc {w : World} {A : Around} {E : Value → Shared → Prop} {s : Shared} {Q : Value → Shared → Prop} {a d : Nat} {items : Array Value} {n : Nat} {ls : List Nat}
  (C : Cx w A s 5) (T : Tb s.heap) (ha : s.heap.get? a = some (accObj d items n)) (hd : AccD w s.heap d) (P : Pc s.heap items ls) (hsz : items.size ≤ 1000)
  (hQ : ∀ s' (t' : Nat), Kp [90] s s' → Q (.str ⟨ls.toArray⟩ t') s') :
  wpAny (model Challenge.rw_xg0051_01.row.prog w) A (call (.type "str") [.ref a]) Q E s := by
  obtain ⟨tk1, t0, hd1⟩ := id hd
  refine kso_call (C := 120) (f := 95) ?_ C.G.k (accInst ha hd1) (by k_is) (by k_is) ?_
  · have := C.hu
    show A.units + 2 < cLine
    walk_at "om"
  · refine wpAny_call (str95_spec ⟨C.G, ?_, ?_, C.hh⟩ T ha hd P hsz fun s' t' K => hQ s' t' K)
    · have := C.hd
      show A.depth + 4 < recursionLimit
      walk_at "om"
    · have := C.hu
      show A.units + 2 + 20 * 4 < cLine
      walk_at "om"

theorem Kp.grow {Y : List Nat} {s a : Shared} {h' : Heap} {tk : Nat} (wr : List Addr) (K : Kp Y s a) (hk : ∀ b : Addr, ∀ o, b ∉ wr → s.heap.get? b ≠ none → a.heap.get? b = some o → h'.get? b = some o) (hY : ∀ b : Addr, b ∈ wr → b ∈ Y)
    (h90 : (90 : Nat) ∉ wr) (h94 : (94 : Nat) ∉ wr) (ht : a.toks ≤ tk) : Kp Y s { a with heap := h', toks := tk } where
  heap := fun b o hb e => hk b o (fun q => hb (hY b q)) (by rw [e]; simp) (K.heap b o hb e)
  gens := K.gens
  tb := fun T => by
    obtain ⟨ps, x, x2⟩ := K.tb T
    obtain ⟨_, ⟨o, vs, file, tf, flags, tg, inF, text, tt, op, e94, _, _, _, _, _, _, e90, _⟩, _⟩ := T
    exact ⟨ps, isCode_two x (fun o e => hk _ _ h94 (by rw [e94]; simp) e) (fun o e => hk _ _ h90 (by rw [e90]; simp) e), tableAt_two x2 (fun o e => hk _ _ h94 (by rw [e94]; simp) e) (fun o e => hk _ _ h90 (by rw [e90]; simp) e)⟩
  drawn := K.drawn
  os := K.os
  toks := Nat.le_trans K.toks ht
theorem Kp.weak {X Y : List Nat} {s a : Shared} (K : Kp X s a) (hY : ∀ b, b ∈ X → b ∈ Y) : Kp Y s a := ⟨fun b o hb e => K.heap b o (fun q => hb (hY b q)) e, K.gens, K.tb, K.drawn, K.os, K.toks⟩

/-- an iterator that walks, with what is known of the tokens -/
structure WalksN (prog : Program) (w : World) (A : Around) (I : Addr) (fp wr : List Addr) (n B : Nat) (P : Nat → Value → Nat → Prop) (St : Nat → Heap → Prop) : Prop where
  sub : ∀ b ∈ wr, b ∈ fp
  frame : ∀ i h h', St i h → (∀ b ∈ fp, ∀ o, h.get? b = some o → h'.get? b = some o) → St i h'
  item : ∀ i (s : Shared) (Q : Option Value → Shared → Prop) (E : Value → Shared → Prop), i < n → B ≤ s.toks → St i s.heap →
    (∀ v h' tk, P i v tk → s.toks ≤ tk → St (i + 1) h' → (∀ b o, b ∉ wr → s.heap.get? b = some o → h'.get? b = some o) → Q (some v) { s with heap := h', toks := tk }) → wpAny (model prog w) A (pyNext (.ref I)) Q E s
  done : ∀ (s : Shared) (Q : Option Value → Shared → Prop) (E : Value → Shared → Prop), St n s.heap →
    (∀ h' tk, s.toks ≤ tk → (∀ b o, b ∉ wr → s.heap.get? b = some o → h'.get? b = some o) → Q none { s with heap := h', toks := tk }) → wpAny (model prog w) A (pyNext (.ref I)) Q E s
  self : ∀ i (s : Shared) (Q : Value → Shared → Prop) (E : Value → Shared → Prop), St i s.heap → Q (.ref I) s → wpAny (model prog w) A (pyIter (.ref I)) Q E s
theorem walks_toN {prog : Program} {w : World} {A : Around} {I : Addr} {fp wr : List Addr} {n : Nat} {P : Nat → Value → Prop} {St : Nat → Heap → Prop} (W : Walks prog w A I fp wr n P St) (B : Nat) :
    WalksN prog w A I fp wr n B (fun i v _ => P i v) St where
  sub := W.sub
  frame := W.frame
  item := fun i s Q E hi _ st h => wpAny_with_toks (Nat.le_refl s.toks) (W.item i s _ _ hi st fun v h' tk hP st' hk htk => h v h' tk hP htk st' hk)
  done := fun s Q E st h => wpAny_with_toks (Nat.le_refl s.toks) (W.done s _ _ st fun h' tk hk htk => h h' tk htk hk)
  self := W.self
theorem walksN_ascii {prog : Program} {w : World} {A : Around} (hh : A.handled = none) (I : Addr) (x : Str) (t : Tok) (B : Nat) :
    WalksN prog w A I [I] [I] x.cps.size B (fun i v tk => ∃ (c u : Nat), x.cps[i]? = some c ∧ v = Value.str ⟨#[c]⟩ u ∧ B ≤ u ∧ u < tk) (fun i h => h.IsStrIter I "str_ascii_iterator" x t i) where
  sub := fun _ hb => hb
  frame := (Walks.strAscii (w := w) (prog := prog) hh I x t).frame
  item := fun i s Q E hi hB st hQ => by
    refine wpAny_pyNext_ascii_item st (c := x.cps[i]) (by simp [hi]) fun h' hit' hs' => ?_
    exact hQ _ h' (s.toks + 1) ⟨_, _, by simp [hi], rfl, hB, Nat.lt_succ_self _⟩ (Nat.le_succ _) hit' fun b o hb e => hs'.extBut b o (fun h => hb (by simp [h])) e
  done := fun s Q E st h => wpAny_with_toks (Nat.le_refl s.toks) ((Walks.strAscii hh I x t).done s _ _ st fun h' tk hk htk => h h' tk htk hk)
  self := (Walks.strAscii hh I x t).self

section
variable {prog : Program} {w : World} {A : Around} {E : Value → Shared → Prop} {env : Env}
theorem comp_block {X : List Nat} {elt iter : Expr} {x : Str} {px : Pos} {scope : Scope} {cl : List (Str × Addr)} {pos : Pos} {s₂ : Shared} {I : Addr} {fp wr : List Addr} {n : Nat} {P : Nat → Value → Nat → Prop} {St : Nat → Heap → Prop}
    (W : WalksN prog w A I fp wr n s₂.toks P St) (hsz : n ≤ 1000) (U : List Value → Nat → Prop) {RR : Value → Addr → Result → Shared → Prop}
    (hcell : ∀ y ∈ scope.names, y.2 ≠ .cell) (hkind : scope.kind = .function) (hx : scope.names.lookup x = some .local) (hst : St 0 s₂.heap) (hfp : ∀ b ∈ fp, b < s₂.heap.objs.size) (hfX : ∀ b : Nat, b ∈ X → b ∉ fp) (hXs : ∀ b ∈ X, s₂.heap.get? b ≠ none)
    (h90 : (90 : Nat) ∉ wr) (h94 : (94 : Nat) ∉ wr) (hPm : ∀ i v t t', P i v t → t ≤ t' → P i v t') (hU0 : U [] s₂.toks) (hUm : ∀ vs t t', U vs t → t ≤ t' → U vs t')
    (helt : ∀ C vs v s₃ m, vs.length < n → s₂.heap.get? C = none → P vs.length v s₃.toks → U vs s₃.toks → Kp (wr ++ X) s₂ s₃ → s₃.heap.Ns C m → m x = some v →
      wpAny (model prog w) A (eval elt (compEnvC scope cl C env)) (fun y s₄ => Kp X s₃ s₄ ∧ U (vs ++ [y]) s₄.toks) (fun _ _ => False) s₃)
    (hRR : ∀ D C s' m' (vs : List Value), s₂.heap.get? D = none → s₂.heap.get? C = none → D ≠ C → s'.heap.Ns C m' → s'.heap.PlainList D vs.toArray → vs.length = n → U vs s'.toks → Kp (wr ++ X) s₂ s' → RR (.ref D) C (.ok .next) s') :
    wpAny (model prog w) A (newList []) (fun acc s₃ => wpAny (model prog w) A (newFunctionEnv scope env.globals cl [] env.qual none .none (some env)) (fun cenv s₄ =>
      codeAny (model prog w) A (.compStart (.ListComp elt [⟨.Name x px, iter, [], 0⟩] scope pos) 0 (.ref I) acc { cenv with scope := relabel scope env }) (RR acc cenv.locals) s₄) E s₃) E s₂ := by
  refine wpAny_newObj_type (wpAny_newFunctionEnv hcell (by intro y hy; simp at hy) (fun h₁ hns₁ hsb₁ => ?_) hkind)
  dsimp only at hns₁ hsb₁ ⊢
  generalize hH2 : s₂.heap.push { cls := .type "list", dict := none, data := .seq ([] : List Value).toArray } = H2 at hns₁ hsb₁ ⊢
  have hC : H2.objs.size = s₂.heap.objs.size + 1 := by rw [← hH2, Heap.size_push]
  have hDC : s₂.heap.objs.size ≠ H2.objs.size := by rw [hC]; exact Nat.ne_of_lt (Nat.lt_succ_self _)
  have below : ∀ b, b < s₂.heap.objs.size → b ≠ H2.objs.size ∧ b ≠ s₂.heap.objs.size := fun b hb => ⟨by rw [hC]; exact Nat.ne_of_lt (Nat.lt_succ_of_lt hb), Nat.ne_of_lt hb⟩
  have hDf : s₂.heap.objs.size ∉ fp := fun hm => Nat.lt_irrefl _ (hfp _ hm)
  have hCf : H2.objs.size ∉ fp := fun hm => by have := hfp _ hm; rw [hC] at this; exact Nat.lt_irrefl _ (Nat.lt_of_succ_lt this)
  have old : ∀ b o, s₂.heap.get? b = some o → h₁.get? b = some o := fun b o e => hsb₁.extBut b o (below b (Heap.lt_size e)).1 (Heap.get?_push_of_some _ (hH2 ▸ Heap.get?_push_of_some _ e))
  have hacc : h₁.PlainList s₂.heap.objs.size #[] := ⟨_, hsb₁.extBut _ _ hDC (Heap.get?_push_of_some _ (hH2 ▸ Heap.get?_push_size _ rfl))⟩
  have hst₁ : St 0 h₁ := W.frame _ _ _ hst fun b _ o e => old b o e
  have fresh : ∀ a, s₂.heap.objs.size ≤ a → s₂.heap.get? a = none := fun a ha => by
    cases e : s₂.heap.get? a with
    | none => rfl
    | some o' => exact absurd (Heap.lt_size e) (Nat.not_lt.mpr ha)
  have hDX : s₂.heap.objs.size ∉ X := fun q => hXs _ q (fresh _ (Nat.le_refl _))
  have hCX : H2.objs.size ∉ X := fun q => hXs _ q (fresh _ (by rw [hC]; exact Nat.le_succ _))
  have dD : ∀ {b : Addr}, s₂.heap.get? b ≠ none → b ≠ s₂.heap.objs.size := fun hb q => hb (q ▸ fresh _ (Nat.le_refl _))
  have dC : ∀ {b : Addr}, s₂.heap.get? b ≠ none → b ≠ H2.objs.size := fun hb q => hb (q ▸ fresh _ (by rw [hC]; exact Nat.le_succ _))
  have hCw : H2.objs.size ∉ wr := fun h => hCf (W.sub _ h)
  have hDw : s₂.heap.objs.size ∉ wr := fun h => hDf (W.sub _ h)
  have loop : ∀ s₃ : Shared, s₃ = { s₂ with heap := h₁, toks := s₂.toks + ([] : List (Str × Value)).length } →
      codeAny (model prog w) A (.compLoop (.ListComp elt [⟨.Name x px, iter, [], 0⟩] scope pos) 0 (.ref I) (.ref s₂.heap.objs.size) (compEnvC scope cl H2.objs.size env))
        (RR (.ref s₂.heap.objs.size) H2.objs.size) s₃ := by
    rintro s₃ rfl
    refine codeAny_compLoop_tests
      (fun k s' => ∃ m', ∃ vs : List Value, St vs.length s'.heap ∧ s'.heap.PlainList s₂.heap.objs.size vs.toArray ∧ s'.heap.Ns H2.objs.size m' ∧ U vs s'.toks ∧ vs.length ≤ n ∧ k = n + 1 - vs.length ∧ Kp (wr ++ X) s₂ s') ?_ (n + 1)
      ⟨_, [], hst₁, hacc, hns₁, hU0, Nat.zero_le _, rfl, (Kp.refl _ _).grow [] (fun b o _ _ e => old b o e) (by simp) (by simp) (by simp) (Nat.le_refl _)⟩
    rintro k s' ⟨m', vs, hst', hacc', hn', hU, hle, rfl, K⟩
    by_cases hlt : vs.length < n
    · refine W.item vs.length _ _ _ hlt K.toks hst' fun v h₁ tk₁ hPv htk₁ hst₁ hk₁ => ?_
      refine wpAny_assign_Name (wpAny_storeName_local (lookup_relabel_local hx) (hn'.at' fun o e => hk₁ _ o hCw e) (fun h₂ hn₂ hs₂ => ?_) (by simp [compEnvC, relabel, hkind]))
      replace hs₂ : Heap.SameBut H2.objs.size h₁ h₂ := hs₂
      replace hn₂ : h₂.Ns H2.objs.size _ := hn₂
      show wpAny _ _ (pure true) _ _ _
      refine wpAny_pure ?_
      simp only [if_true]
      have up₂ : ∀ b o, b ≠ H2.objs.size → b ∉ wr → s'.heap.get? b = some o → h₂.get? b = some o := fun b o hbC hbf e => hs₂.extBut b o hbC (hk₁ b o hbf e)
      have hst₂ : St (vs.length + 1) h₂ := W.frame _ _ _ hst₁ fun b hb o e => hs₂.extBut b o (fun h => hCf (h ▸ hb)) e
      have K₂ : Kp (wr ++ X) s₂ { s' with heap := h₂, toks := tk₁ + 1 } := K.grow wr (fun b o hb hn e => up₂ b o (dC hn) hb e) (fun b hb => List.mem_append_left _ hb) h90 h94 (Nat.le_succ_of_le htk₁)
      refine wpAny_mono (helt H2.objs.size vs v _ _ hlt (fresh _ (by rw [hC]; exact Nat.le_succ _)) (hPm _ _ _ _ hPv (Nat.le_succ _)) (hUm _ _ _ hU (Nat.le_succ_of_le htk₁)) K₂ hn₂ (by simp)) (fun y s₄ h₄ => ?_) fun _ _ y => y.elim
      obtain ⟨K₄, hU₄⟩ := h₄
      have K₅ := K₂.trans (K₄.weak fun b hb => List.mem_append_right _ hb)
      have hacc₄ : s₄.heap.PlainList s₂.heap.objs.size vs.toArray := hacc'.at fun o e => K₄.heap _ o hDX (up₂ _ o hDC hDw e)
      have hn₄ : s₄.heap.Ns H2.objs.size _ := hn₂.at' fun o e => K₄.heap _ o hCX e
      have hst₄ : St (vs.length + 1) s₄.heap := W.frame _ _ _ hst₂ fun b hb o e => K₄.heap b o (fun q => hfX b q hb) e
      refine wpAny_list_append_plain (hsz := by rw [List.size_toArray, sizeLine_eq]; walk_at "om") hacc₄ fun h₅ hl₅ hs₅ => ?_
      refine ⟨n + 1 - (vs.length + 1), by walk_at "om", _, vs ++ [y], ?_, ?_, hn₄.sameBut hs₅ (Ne.symm hDC), hU₄, ?_, ?_, ?_⟩
      · have := W.frame _ _ h₅ hst₄ fun b hb o e => hs₅.extBut b o (fun h => hDf (h ▸ hb)) e
        simpa using this
      · simpa using hl₅
      · rw [List.length_append, List.length_singleton]; exact hlt
      · rw [List.length_append, List.length_singleton]
      · exact K₅.grow [] (fun b o _ hn e => hs₅.extBut b o (dD hn) e) (by simp) (by simp) (by simp) (Nat.le_refl _)
    · have hin : vs.length = n := by walk_at "om"
      refine W.done _ _ _ (hin ▸ hst') fun h₁ tk₁ htk₁ hk₁ => ?_
      exact hRR _ _ _ m' vs (fresh _ (Nat.le_refl _)) (fresh _ (by rw [hC]; exact Nat.le_succ _)) hDC (hn'.at' fun o e => hk₁ _ o hCw e) (hacc'.at fun o e => hk₁ _ o hDw e) hin (hUm _ _ _ hU htk₁)
        (K.grow wr (fun b o hb _ e => hk₁ b o hb e) (fun b hb => List.mem_append_left _ hb) h90 h94 htk₁)
  exact codeAny_compStart_list (loop _ rfl) (W.self 0 _ _ _ hst₁ (loop _ rfl))

/-- what is asked of an iterator and an element, so that a comprehension goes through -/
noncomputable def CompPost (prog : Program) (w : World) (A : Around) (env : Env) (scope : Scope) (cl : List (Str × Addr)) (x : Str) (elt : Expr) (X : List Nat) (Q : Addr → Addr → Shared → Prop) (it : Value) (s₂ : Shared) : Prop :=
  ∃ (I : Addr) (fp wr : List Addr) (n : Nat) (P : Nat → Value → Nat → Prop) (St : Nat → Heap → Prop) (U : List Value → Nat → Prop), it = .ref I ∧ WalksN prog w A I fp wr n s₂.toks P St ∧ n ≤ 1000 ∧ St 0 s₂.heap ∧ (∀ b ∈ fp, b < s₂.heap.objs.size) ∧
    (∀ b : Nat, b ∈ X → b ∉ fp) ∧ (∀ b ∈ X, s₂.heap.get? b ≠ none) ∧ (90 : Nat) ∉ wr ∧ (94 : Nat) ∉ wr ∧ (∀ i v t t', P i v t → t ≤ t' → P i v t') ∧ U [] s₂.toks ∧ (∀ vs t t', U vs t → t ≤ t' → U vs t') ∧
    (∀ C vs v s₃ m, vs.length < n → s₂.heap.get? C = none → P vs.length v s₃.toks → U vs s₃.toks → Kp (wr ++ X) s₂ s₃ → s₃.heap.Ns C m → m x = some v →
      wpAny (model prog w) A (eval elt (compEnvC scope cl C env)) (fun y s₄ => Kp X s₃ s₄ ∧ U (vs ++ [y]) s₄.toks) (fun _ _ => False) s₃) ∧
    (∀ D C s' m' (vs : List Value), s₂.heap.get? D = none → s₂.heap.get? C = none → D ≠ C → s'.heap.Ns C m' → s'.heap.PlainList D vs.toArray → vs.length = n → U vs s'.toks → Kp (wr ++ X) s₂ s' → Q D C s')

variable {s : Shared}
theorem comp_eval {X : List Nat} {elt iter : Expr} {x : Str} {px : Pos} {scope : Scope} {cl : List (Str × Addr)} {pos : Pos} {Q : Value → Shared → Prop}
    (h : wpAny (model prog w) A (eval iter env) (fun xv s₁ => wpAny (model prog w) A (pyIter xv) (CompPost prog w A env scope cl x elt X fun D C s' => ∀ h', Heap.SameBut C s'.heap h' → Q (.ref D) { s' with heap := h' }) E s₁) E s)
    (hclos : closureFor scope env = pure cl := by rfl) (hcell : ∀ y ∈ scope.names, y.2 ≠ .cell := by decide) (hkind : scope.kind = .function := by rfl)
    (hnames : ∀ y ∈ scope.names, y.2 = .local → scope.names.lookup y.1 = some .local := by decide) (hx : scope.names.lookup x = some .local := by rfl)
    (hs : ∀ x, foldedSetIterable iter env x = pure x := by intro _; rfl) :
    wpAny (model prog w) A (eval (.ListComp elt [⟨.Name x px, iter, [], 0⟩] scope pos) env) Q E s := by
  rw [eval_ListComp]
  refine wpAny_comprehension_free (use := none) rfl hs hclos hkind hnames (wpAny_mono h (fun xv s₁ h₁ => wpAny_mono h₁ (fun it s₂ h₂ => ?_) fun _ _ e => e) fun _ _ e => e)
  obtain ⟨I, fp, wr, n, P, St, U, rfl, W, hsz, hst, hfp, hfX, hXs, h90, h94, hPm, hU0, hUm, helt, hQ⟩ := h₂
  refine comp_block (RR := fun acc C => compPost (model prog w) A E none Q acc C) W hsz U hcell hkind hx hst hfp hfX hXs h90 h94 hPm hU0 hUm helt ?_
  intro D C s' m' vs hD hC hDC hn hpl hlen hU K
  exact ⟨m', hn, fun h'' hs'' => hQ D C s' m' vs hD hC hDC hn hpl hlen hU K h'' hs''⟩

theorem comp_asg {X : List Nat} {elt iter : Expr} {x y : Str} {px py : Pos} {scope : Scope} {cl : List (Str × Addr)} {pos spos : Pos} {Q : Flow → Shared → Prop}
    (h : wpAny (model prog w) A (eval iter env) (fun xv s₁ => wpAny (model prog w) A (pyIter xv) (CompPost prog w A env scope cl x elt X fun D C s' =>
      wpAny (model prog w) A (storeName env y (.ref D)) (fun _ s'' => (∀ o, s'.heap.get? C = some o → s''.heap.get? C = some o) ∧ ∀ h', Heap.SameBut C s''.heap h' → Q .next { s'' with heap := h' }) E s') E s₁) E s)
    (hsw : swapsWith (.ListComp elt [⟨.Name x px, iter, [], 0⟩] scope pos) (some (.Name y py)) spos.line env = pure true := by rfl)
    (hclos : closureFor scope env = pure cl := by rfl) (hcell : ∀ y ∈ scope.names, y.2 ≠ .cell := by decide) (hkind : scope.kind = .function := by rfl)
    (hnames : ∀ y ∈ scope.names, y.2 = .local → scope.names.lookup y.1 = some .local := by decide) (hx : scope.names.lookup x = some .local := by rfl)
    (hs : ∀ x, foldedSetIterable iter env x = pure x := by intro _; rfl) :
    wpAny (model prog w) A (exec (.Assign [.Name y py] (.ListComp elt [⟨.Name x px, iter, [], 0⟩] scope pos) spos) env) Q E s := by
  rw [exec_Assign_Name_used _ _ _ _ hsw]
  refine wpAny_bind (wpAny_standAt (wpAny_bind ?_))
  show wpAny _ A (do let _ ← comprehension (.ListComp elt [⟨.Name x px, iter, [], 0⟩] scope pos) scope env _ (newList []) false (eval iter env) (some (assign (.Name y py) env))) _ _ s
  refine wpAny_bind (wpAny_mono (wpAny_comprehension_free (use := some (assign (.Name y py) env)) (Q := fun _ s' => Q .next s') rfl hs hclos hkind hnames
    (wpAny_mono h (fun xv s₁ h₁ => wpAny_mono h₁ (fun it s₂ h₂ => ?_) fun _ _ e => e) fun _ _ e => e)) (fun _ s' hq => wpAny_pure (wpAny_pure hq)) fun _ _ e => e)
  obtain ⟨I, fp, wr, n, P, St, U, rfl, W, hsz, hst, hfp, hfX, hXs, h90, h94, hPm, hU0, hUm, helt, hQ⟩ := h₂
  refine comp_block (RR := fun acc C => compPost (model prog w) A E (some (assign (.Name y py) env)) (fun _ s' => Q .next s') acc C) W hsz U hcell hkind hx hst hfp hfX hXs h90 h94 hPm hU0 hUm helt ?_
  intro D C s' m' vs hD hC hDC hn hpl hlen hU K
  refine wpAny_assign_Name (wpAny_mono (hQ D C s' m' vs hD hC hDC hn hpl hlen hU K) (fun _ s'' z => ?_) fun _ _ e => e)
  exact ⟨m', hn.at' z.1, fun h'' hs'' => z.2 h'' hs''⟩
end

end
section
/- Src -/
noncomputable def XOk (X : List Nat) (s : Shared) : Prop := ∀ b ∈ X, b = 90 ∧ Tb s.heap
theorem XOk.nil (s : Shared) : XOk [] s := fun b hb => by simp at hb
theorem XOk.tab {s : Shared} (h : Tb s.heap) : XOk [90] s := fun b hb => ⟨by simpa using hb, h⟩
theorem Tb.at90 {h : Heap} (T : Tb h) : ∃ op v, h.get? 90 = some op ∧ op.data = .fields v := by
  obtain ⟨_, ⟨o, vs, file, tf, flags, tg, inF, text, tt, op, _, _, _, _, _, _, _, e90, d90, _, _⟩, _⟩ := T
  exact ⟨_, _, e90, d90⟩
theorem SqAt.notX {X : List Nat} {s : Shared} {l : Addr} {items : Array Value} (h : SqAt s.heap l items) (hX : XOk X s) : ∀ b : Nat, b ∈ X → l ≠ b := by
  intro b hb q
  obtain ⟨e, T⟩ := hX b hb
  obtain ⟨op, v, e90, d90⟩ := T.at90
  obtain ⟨o, n, ho, hd⟩ := h
  rw [q, e, e90] at ho
  cases ho
  rw [d90] at hd; cases hd

theorem Kp.push {X : List Nat} {s s' : Shared} {o : Obj} (wr : List Addr) (hw : ∀ b ∈ wr, b = s.heap.objs.size) (K : Kp (wr ++ X) { s with heap := s.heap.push o } s') : Kp X s s' where
  heap := fun b ob hb e => K.heap b ob (fun q => by
    rcases List.mem_append.mp q with q | q
    · exact Nat.lt_irrefl _ ((hw b q) ▸ Heap.lt_size e)
    · exact hb q) (Heap.get?_push_of_some _ e)
  gens := K.gens
  tb := fun T => K.tb (T.keep fun b ob e => Heap.get?_push_of_some _ e)
  drawn := K.drawn
  os := K.os
  toks := K.toks
theorem Gr.lt94 {w : World} {h : Heap} (G : Gr w h) : (94 : Nat) < h.objs.size := by
  have e : (Mine.heapK w.params).lookup 94 ≠ none := by
    have : ((Mine.heapK w.params).lookup 94).isSome = true := rfl
    intro q; rw [q] at this; cases this
  cases q : (Mine.heapK w.params).lookup 94 with
  | none => exact absurd q e
  | some o => exact Heap.lt_size (G.k _ _ q)

section
variable {prog : Program} {w : World} {A : Around} {E : Value → Shared → Prop} {env : Env} {s : Shared}
theorem src_push {X : List Nat} {Q : Addr → Addr → Shared → Prop} {scope : Scope} {cl : List (Str × Addr)} {x : Str} {elt : Expr} {I : Addr} {fp : List Addr} {n : Nat} {P : Nat → Value → Nat → Prop} {St : Nat → Heap → Prop} {o : Obj}
    (U : List Value → Nat → Prop) (hI : I = s.heap.objs.size) (W : WalksN prog w A I (I :: fp) [I] n s.toks P St) (hn : n ≤ 1000) (hst : St 0 (s.heap.push o)) (hfp : ∀ b ∈ fp, ∃ ob, s.heap.get? b = some ob) (hfX : ∀ b : Nat, b ∈ X → b ∉ fp) (hX : XOk X s) (h94 : (94 : Nat) < s.heap.objs.size)
    (hPm : ∀ i v t t', P i v t → t ≤ t' → P i v t') (hU0 : U [] s.toks) (hUm : ∀ vs t t', U vs t → t ≤ t' → U vs t')
    (helt : ∀ C vs v s₃ m, vs.length < n → s.heap.get? C = none → P vs.length v s₃.toks → U vs s₃.toks → Kp X s s₃ → s₃.heap.Ns C m → m x = some v →
      wpAny (model prog w) A (eval elt (compEnvC scope cl C env)) (fun y s₄ => Kp X s₃ s₄ ∧ U (vs ++ [y]) s₄.toks) (fun _ _ => False) s₃)
    (fin : ∀ D C s' m' (vs : List Value), s.heap.get? D = none → s.heap.get? C = none → D ≠ C → s'.heap.Ns C m' → s'.heap.PlainList D vs.toArray → vs.length = n → U vs s'.toks → Kp X s s' → Q D C s') :
    CompPost prog w A env scope cl x elt X Q (.ref I) { s with heap := s.heap.push o } := by
  have hXs : ∀ b : Nat, b ∈ X → s.heap.get? b ≠ none := fun b hb q => by
    obtain ⟨e, T⟩ := hX b hb
    obtain ⟨op, v, e90, d90⟩ := T.at90
    rw [e, e90] at q; cases q
  have hpn : ∀ b, s.heap.get? b = none → b = s.heap.objs.size ∨ True := fun _ _ => .inr trivial
  have none_of : ∀ {C}, (s.heap.push o).get? C = none → s.heap.get? C = none := fun {C} q => by
    cases e : s.heap.get? C with
    | none => rfl
    | some ob => rw [Heap.get?_push_of_some _ e] at q; cases q
  refine ⟨I, I :: fp, [I], n, P, St, U, rfl, W, hn, hst, ?_, ?_, ?_, ?_, ?_, hPm, hU0, hUm, ?_, ?_⟩
  · intro b hb
    show b < (s.heap.push o).objs.size
    rw [Heap.size_push]
    rcases List.mem_cons.mp hb with q | q
    · rw [q, hI]; exact Nat.lt_succ_self _
    · obtain ⟨ob, e⟩ := hfp b q; exact Nat.lt_succ_of_lt (Heap.lt_size e)
  · intro b hb q
    rcases List.mem_cons.mp q with q | q
    · have := hXs b hb
      cases e : s.heap.get? b with
      | none => exact this e
      | some ob => have := Heap.lt_size e; rw [q, hI] at this; exact Nat.lt_irrefl _ this
    · exact hfX b hb q
  · intro b hb q
    exact hXs b hb (none_of q)
  · intro q; have q' : (90 : Nat) = I := by simpa using q
    have := ltN h94
    have q2 : (90 : Nat) = s.heap.objs.size := q'.trans hI
    walk_at "om"
  · intro q; have q' : (94 : Nat) = I := by simpa using q
    have := ltN h94
    have q2 : (94 : Nat) = s.heap.objs.size := q'.trans hI
    walk_at "om"
  · intro C vs v s₃ m h1 h2 h3 h4 K h5 h6
    exact helt C vs v s₃ m h1 (none_of h2) h3 h4 (K.push [I] (by simp [hI])) h5 h6
  · intro D C s' m' vs h1 h2 h3 h4 h5 h6 h7 K
    exact fin D C s' m' vs (none_of h1) (none_of h2) h3 h4 h5 h6 h7 (K.push [I] (by simp [hI]))

theorem src_list {X : List Nat} {Q : Addr → Addr → Shared → Prop} {scope : Scope} {cl : List (Str × Addr)} {x : Str} {elt : Expr} {l : Addr} {items : Array Value}
    (hh : A.handled = none) (hl : s.heap.IsList l items) (U : List Value → Nat → Prop) (hn : items.size ≤ 1000) (hX : XOk X s) (h94 : (94 : Nat) < s.heap.objs.size)
    (hU0 : U [] s.toks) (hUm : ∀ vs t t', U vs t → t ≤ t' → U vs t')
    (helt : ∀ C vs v s₃ m, vs.length < items.size → s.heap.get? C = none → items[vs.length]? = some v → U vs s₃.toks → Kp X s s₃ → s₃.heap.Ns C m → m x = some v →
      wpAny (model prog w) A (eval elt (compEnvC scope cl C env)) (fun y s₄ => Kp X s₃ s₄ ∧ U (vs ++ [y]) s₄.toks) (fun _ _ => False) s₃)
    (fin : ∀ D C s' m' (vs : List Value), s.heap.get? D = none → s.heap.get? C = none → D ≠ C → s'.heap.Ns C m' → s'.heap.PlainList D vs.toArray → vs.length = items.size → U vs s'.toks → Kp X s s' → Q D C s') :
    wpAny (model prog w) A (pyIter (.ref l)) (CompPost prog w A env scope cl x elt X Q) E s := by
  obtain ⟨o, ho, hc, n, hd⟩ := id hl
  have hne : l ≠ s.heap.objs.size := Nat.ne_of_lt (Heap.lt_size ho)
  refine wpAny_pyIter_list hl (src_push U rfl (walks_toN (walks_sq hh s.heap.objs.size l hne items) s.toks) hn ⟨⟨_, Heap.get?_push_size _ rfl, rfl, rfl⟩, ⟨o, n, Heap.get?_push_of_some _ ho, hd⟩⟩ ?_ ?_ hX h94 (fun i v t t' p _ => p) hU0 hUm helt fin)
  · intro b hb; rw [List.mem_singleton.mp hb]; exact ⟨_, ho⟩
  · intro b hb q; exact SqAt.notX (l := l) ⟨o, n, ho, hd⟩ hX b hb (List.mem_singleton.mp q).symm

theorem src_acc {X : List Nat} {Q : Addr → Addr → Shared → Prop} {scope : Scope} {cl : List (Str × Addr)} {x : Str} {elt : Expr} {a d : Addr} {items : Array Value} {n : Nat} {od : Obj}
    (hh : A.handled = none) (G : Gr w s.heap) (ha : s.heap.get? a = some (accObj d items n)) (hd : s.heap.get? d = some od) (U : List Value → Nat → Prop) (hn : items.size ≤ 1000) (hX : XOk X s)
    (hU0 : U [] s.toks) (hUm : ∀ vs t t', U vs t → t ≤ t' → U vs t')
    (helt : ∀ C vs v s₃ m, vs.length < items.size → s.heap.get? C = none → items[vs.length]? = some v → U vs s₃.toks → Kp X s s₃ → s₃.heap.Ns C m → m x = some v →
      wpAny (model prog w) A (eval elt (compEnvC scope cl C env)) (fun y s₄ => Kp X s₃ s₄ ∧ U (vs ++ [y]) s₄.toks) (fun _ _ => False) s₃)
    (fin : ∀ D C s' m' (vs : List Value), s.heap.get? D = none → s.heap.get? C = none → D ≠ C → s'.heap.Ns C m' → s'.heap.PlainList D vs.toArray → vs.length = items.size → U vs s'.toks → Kp X s s' → Q D C s') :
    wpAny (model prog w) A (pyIter (.ref a)) (CompPost prog w A env scope cl x elt X Q) E s := by
  have hne : a ≠ s.heap.objs.size := Nat.ne_of_lt (Heap.lt_size ha)
  refine pyIter_acc G ha hd (src_push U rfl (walks_toN (walks_sq hh s.heap.objs.size a hne items) s.toks) hn ⟨⟨_, Heap.get?_push_size _ rfl, rfl, rfl⟩, ⟨_, n, Heap.get?_push_of_some _ ha, rfl⟩⟩ ?_ ?_ hX G.lt94 (fun i v t t' p _ => p) hU0 hUm helt fin)
  · intro b hb; rw [List.mem_singleton.mp hb]; exact ⟨_, ha⟩
  · intro b hb q; exact SqAt.notX (l := a) ⟨_, n, ha, rfl⟩ hX b hb (List.mem_singleton.mp q).symm

theorem src_ascii {X : List Nat} {Q : Addr → Addr → Shared → Prop} {scope : Scope} {cl : List (Str × Addr)} {x : Str} {elt : Expr} {y : Str} {t : Tok}
    (hh : A.handled = none) (hy : y.cps.all (· < 128) = true) (U : List Value → Nat → Prop) (hn : y.cps.size ≤ 1000) (hX : XOk X s) (h94 : (94 : Nat) < s.heap.objs.size)
    (hU0 : U [] s.toks) (hUm : ∀ vs t t', U vs t → t ≤ t' → U vs t')
    (helt : ∀ C vs v s₃ m, vs.length < y.cps.size → s.heap.get? C = none → (∃ (c u : Nat), y.cps[vs.length]? = some c ∧ v = Value.str ⟨#[c]⟩ u ∧ s.toks ≤ u ∧ u < s₃.toks) → U vs s₃.toks → Kp X s s₃ → s₃.heap.Ns C m → m x = some v →
      wpAny (model prog w) A (eval elt (compEnvC scope cl C env)) (fun y s₄ => Kp X s₃ s₄ ∧ U (vs ++ [y]) s₄.toks) (fun _ _ => False) s₃)
    (fin : ∀ D C s' m' (vs : List Value), s.heap.get? D = none → s.heap.get? C = none → D ≠ C → s'.heap.Ns C m' → s'.heap.PlainList D vs.toArray → vs.length = y.cps.size → U vs s'.toks → Kp X s s' → Q D C s') :
    wpAny (model prog w) A (pyIter (.str y t)) (CompPost prog w A env scope cl x elt X Q) E s := by
  refine wpAny_pyIter_ascii hy (src_push U rfl (walksN_ascii hh s.heap.objs.size y t s.toks) hn ⟨_, Heap.get?_push_size _ rfl, rfl, rfl⟩ (by simp) (by simp) hX h94 (fun i v t t' p q => ?_) hU0 hUm helt fin)
  obtain ⟨c, u, h1, h2, h3, h4⟩ := p
  exact ⟨c, u, h1, h2, h3, Nat.lt_of_lt_of_le h4 q⟩

theorem src_range {X : List Nat} {Q : Addr → Addr → Shared → Prop} {scope : Scope} {cl : List (Str × Addr)} {x : Str} {elt : Expr} {r : Addr} {n : Nat} {t u v : Tok}
    (hh : A.handled = none) (hr : IsRange s.heap r 0 n 1 t u v) (hsm : Builtin.Range.small 0 n 1 = true) (hz : Builtin.Range.rangeSize 0 n 1 = n) (U : List Value → Nat → Prop) (hn : n ≤ 1000) (hX : XOk X s) (h94 : (94 : Nat) < s.heap.objs.size)
    (hU0 : U [] s.toks) (hUm : ∀ vs t t', U vs t → t ≤ t' → U vs t')
    (helt : ∀ C vs v s₃ m, vs.length < n → s.heap.get? C = none → (∃ t, v = Value.int vs.length t) → U vs s₃.toks → Kp X s s₃ → s₃.heap.Ns C m → m x = some v →
      wpAny (model prog w) A (eval elt (compEnvC scope cl C env)) (fun y s₄ => Kp X s₃ s₄ ∧ U (vs ++ [y]) s₄.toks) (fun _ _ => False) s₃)
    (fin : ∀ D C s' m' (vs : List Value), s.heap.get? D = none → s.heap.get? C = none → D ≠ C → s'.heap.Ns C m' → s'.heap.PlainList D vs.toArray → vs.length = n → U vs s'.toks → Kp X s s' → Q D C s') :
    wpAny (model prog w) A (pyIter (.ref r)) (CompPost prog w A env scope cl x elt X Q) E s := by
  refine wpAny_pyIter_range hr hsm ?_
  rw [hz]
  refine src_push U rfl (walks_toN (Walks.range hh s.heap.objs.size 0 1 n) s.toks) hn ?_ (by simp) (by simp) hX h94 (fun i v t t' p _ => p) hU0 hUm (fun C vs v s₃ m h1 h2 h3 => ?_) fin
  · show IsRangeIter _ _ _ _ _
    simp only [Int.natCast_zero, Int.zero_mul, Int.add_zero, Int.sub_zero]
    exact Heap.get?_push_size _ rfl
  · obtain ⟨t, e⟩ := h3
    exact helt C vs v s₃ m h1 h2 ⟨t, by rw [e]; simp⟩
end

end
section
/- Rul -/
theorem lst_sub {h h' : Heap} {a : Addr} {items : Array Value} (k : Sub h h') (x : h.IsList a items) : h'.IsList a items := IsL.keeps x k
theorem lst_same {h h' : Heap} {L a : Addr} {m : Str → Option Value} {items : Array Value} (S : Heap.SameBut L h h') (N : h.Ns L m) (x : h.IsList a items) : h'.IsList a items := by
  obtain ⟨o, e, c, n, d⟩ := x
  have q : a ≠ L := fun q => by
    obtain ⟨o', _, _, e', d', _⟩ := N
    rw [q, e'] at e; cases e; rw [d'] at d; cases d
  exact ⟨o, (S.2 a q).trans e, c, n, d⟩

noncomputable def maxl : List Int → Int
  | [] => 0
  | [a] => a
  | a :: b :: r => max a (maxl (b :: r))
noncomputable def minl : List Int → Int
  | [] => 0
  | [a] => a
  | a :: b :: r => min a (minl (b :: r))
theorem maxl_ge : ∀ (ns : List Int) (a : Int), a ∈ ns → a ≤ maxl ns
  | [b], a, h => by rw [List.mem_singleton.mp h]; exact Int.le_refl _
  | b :: c :: r, a, h => by
    show a ≤ max b (maxl (c :: r))
    rcases List.mem_cons.mp h with q | q
    · walk_at "om"
    · have := maxl_ge (c :: r) a q; walk_at "om"
theorem maxl_mem : ∀ (ns : List Int), ns ≠ [] → maxl ns ∈ ns
  | [b], _ => by simp [maxl]
  | b :: c :: r, _ => by
    have := maxl_mem (c :: r) (by simp)
    show max b (maxl (c :: r)) ∈ _
    rcases Int.le_total b (maxl (c :: r)) with q | q
    · rw [Int.max_eq_right q]; exact List.mem_cons_of_mem _ this
    · rw [Int.max_eq_left q]; exact List.mem_cons_self ..
theorem minl_le : ∀ (ns : List Int) (a : Int), a ∈ ns → minl ns ≤ a
  | [b], a, h => by rw [List.mem_singleton.mp h]; exact Int.le_refl _
  | b :: c :: r, a, h => by
    show min b (minl (c :: r)) ≤ a
    rcases List.mem_cons.mp h with q | q
    · walk_at "om"
    · have := minl_le (c :: r) a q; walk_at "om"
theorem minl_mem : ∀ (ns : List Int), ns ≠ [] → minl ns ∈ ns
  | [b], _ => by simp [minl]
  | b :: c :: r, _ => by
    have := minl_mem (c :: r) (by simp)
    show min b (minl (c :: r)) ∈ _
    rcases Int.le_total b (minl (c :: r)) with q | q
    · rw [Int.min_eq_left q]; exact List.mem_cons_self ..
    · rw [Int.min_eq_right q]; exact List.mem_cons_of_mem _ this

theorem ints_items {vs : List Value} {ns : List Int} (h : IntsAre vs ns) : ∃ xs : Array (Int × Tok), vs.toArray = intItems xs ∧ xs.toList.map (·.1) = ns := by
  induction h with
  | nil => exact ⟨#[], by simp [intItems], rfl⟩
  | cons n t r ih =>
    obtain ⟨xs, e1, e2⟩ := ih
    refine ⟨⟨(n, t) :: xs.toList⟩, ?_, by simp [e2]⟩
    have := congrArg Array.toList e1
    apply Array.ext'
    simp [intItems] at this ⊢
    exact this
theorem numAt_get {xs : Array (Int × Tok)} {i : Nat} (h : i < xs.size) : (xs.toList.map (·.1))[i]? = some (numAt xs i) := by
  simp [numAt, h]

section
variable {prog : Program} {w : World} {A : Around} {E : Value → Shared → Prop} {s : Shared} {g : Heap} {L : Addr} {m : Str → Option Value} {Q : Value → Shared → Prop}
theorem newListF2 {vs : List Value} (F : Fx g L s.heap m) (h : ∀ (a : Nat) h', Fx g L h' m → Sub s.heap h' → h'.IsList a vs.toArray → s.heap.get? a = none → Q (.ref a) { s with heap := h' }) (hsz : vs.length ≤ 1000 := by exact Nat.le_of_ble_eq_true rfl) :
    wpAny (model prog w) A (newList vs) Q E s :=
  wpAny_newObj_type (h _ _ (F.up fun b o e => Heap.get?_push_of_some _ e) (fun b o e => Heap.get?_push_of_some _ e) ⟨_, Heap.get?_push_size _ rfl, rfl, 0, rfl⟩ (new_none _)) (by show vs.toArray.size ≤ sizeLine; rw [List.size_toArray, sizeLine_eq]; walk_at "om")

theorem sliceF {value slice : Expr} {l : Addr} {items : Array Value} {vl vu : Value} {lo hi : Option Int} (F : Fx g L s.heap m) (hl : s.heap.IsList l items) (pl : IsPart vl lo) (pu : IsPart vu hi)
    (h : ∀ (a : Nat) h', Fx g L h' m → Sub s.heap h' → h'.IsList a (slicePick items lo hi none) → s.heap.get? a = none → Q (.ref a) { s with heap := h' })
    (hs : subscripted slice false (.ref l) (.ref s.heap.objs.size) = operate [.ref s.heap.objs.size, .ref l] (getItem (.ref l) (.ref s.heap.objs.size)) := by with_unfolding_all rfl)
    (ht : ∀ r, letTemporaryGo value (.ref l) r = pure () := by intro _; with_unfolding_all rfl)
    (hsz : items.size ≤ 1000 := by simp) :
    wpAny (model prog w) A (subscriptTail value slice (.ref l) (.ref s.heap.objs.size)) Q E { s with heap := s.heap.push { cls := .type "slice", data := .fields #[vl, vu, .none] } } := by
  refine subscriptTail_ops (Heap.IsList.typeIs (s := { s with heap := s.heap.push { cls := .type "slice", data := .fields #[vl, vu, .none] } }) (hl.push _)) slot_list_getitem.lookup
    (wpAny_getItem_list_slice (hl.push _) (Heap.IsSliceOf.new ..) pl pu .none (by simp) ?_ (by rw [sizeLine_eq]; walk_at "om")) hs ht
  refine h _ _ (F.up fun b o e => Heap.get?_push_of_some _ (Heap.get?_push_of_some _ e)) (fun b o e => Heap.get?_push_of_some _ (Heap.get?_push_of_some _ e)) ⟨_, Heap.get?_push_size _ rfl, rfl, 0, rfl⟩ ?_
  cases q : s.heap.get? (s.heap.push { cls := .type "slice", data := .fields #[vl, vu, .none] }).objs.size with
  | none => rfl
  | some o => have := Heap.lt_size (Heap.get?_push_of_some { cls := .type "slice", data := .fields #[vl, vu, .none] } q); exact absurd this (Nat.lt_irrefl _)

theorem maxlF {l : Addr} {vs : List Value} {ns : List Int} (hh : A.handled = none) (F : Fx g L s.heap m) (hl : s.heap.IsList l vs.toArray) (hi : IntsAre vs ns) (hne : ns ≠ [])
    (h : ∀ h' tk t', Fx g L h' m → Sub s.heap h' → s.toks ≤ tk → Q (.int (maxl ns) t') { s with heap := h', toks := tk }) :
    wpAny (model prog w) A (call (.builtin "max") [.ref l]) Q E s := by
  obtain ⟨xs, e1, e2⟩ := ints_items hi
  rw [e1] at hl
  have hlen : xs.size = ns.length := by rw [← e2]; simp
  have hpos : 0 < xs.size := by rw [hlen]; exact List.length_pos_iff.mpr hne
  refine wpAny_with_toks (Nat.le_refl s.toks) (max_intList hh hl hpos fun v h' tk hv hk ht => ?_)
  obtain ⟨t, rfl⟩ := intItems_at hv
  obtain ⟨h1, h2⟩ := argBest_gt (numAt xs) (xs.size - 1)
  have e : numAt xs (argBest (fun i j => decide (numAt xs i > numAt xs j)) (xs.size - 1)) = maxl ns := by
    have hin := numAt_get (xs := xs) (i := argBest (fun i j => decide (numAt xs i > numAt xs j)) (xs.size - 1)) (by walk_at "om")
    rw [e2] at hin
    have a1 := maxl_ge ns _ (List.mem_of_getElem? hin)
    obtain ⟨j, hj, e⟩ := List.mem_iff_getElem.mp (maxl_mem ns hne)
    have hj' := numAt_get (xs := xs) (i := j) (by walk_at "om")
    rw [e2, List.getElem?_eq_getElem hj, e] at hj'
    have a2 := h2 j (by walk_at "om")
    rw [← Option.some.inj hj'] at a2
    walk_at "om"
  rw [e]
  exact h h' tk t (F.up hk) hk ht

theorem minlF {l : Addr} {vs : List Value} {ns : List Int} (hh : A.handled = none) (F : Fx g L s.heap m) (hl : s.heap.IsList l vs.toArray) (hi : IntsAre vs ns) (hne : ns ≠ [])
    (h : ∀ h' tk t', Fx g L h' m → Sub s.heap h' → s.toks ≤ tk → Q (.int (minl ns) t') { s with heap := h', toks := tk }) :
    wpAny (model prog w) A (call (.builtin "min") [.ref l]) Q E s := by
  obtain ⟨xs, e1, e2⟩ := ints_items hi
  rw [e1] at hl
  have hlen : xs.size = ns.length := by rw [← e2]; simp
  have hpos : 0 < xs.size := by rw [hlen]; exact List.length_pos_iff.mpr hne
  refine wpAny_with_toks (Nat.le_refl s.toks) (min_intList hh hl hpos fun v h' tk hv hk ht => ?_)
  obtain ⟨t, rfl⟩ := intItems_at hv
  obtain ⟨h1, h2⟩ := argBest_lt (numAt xs) (xs.size - 1)
  have e : numAt xs (argBest (fun i j => decide (numAt xs i < numAt xs j)) (xs.size - 1)) = minl ns := by
    have hin := numAt_get (xs := xs) (i := argBest (fun i j => decide (numAt xs i < numAt xs j)) (xs.size - 1)) (by walk_at "om")
    rw [e2] at hin
    have a1 := minl_le ns _ (List.mem_of_getElem? hin)
    obtain ⟨j, hj, e⟩ := List.mem_iff_getElem.mp (minl_mem ns hne)
    have hj' := numAt_get (xs := xs) (i := j) (by walk_at "om")
    rw [e2, List.getElem?_eq_getElem hj, e] at hj'
    have a2 := h2 j (by walk_at "om")
    rw [← Option.some.inj hj'] at a2
    walk_at "om"
  rw [e]
  exact h h' tk t (F.up hk) hk ht

theorem max2F {a b : Int} {t u : Tok} (hh : A.handled = none) (F : Fx g L s.heap m)
    (h : ∀ h' tk t', Fx g L h' m → Sub s.heap h' → s.toks ≤ tk → Q (.int (max a b) t') { s with heap := h', toks := tk }) :
    wpAny (model prog w) A (call (.builtin "max") [.int a t, .int b u]) Q E s := by
  refine wpAny_with_toks (Nat.le_refl s.toks) (max_two_ints hh fun h' tk hk ht => ?_)
  by_cases q : b > a
  · rw [if_pos q]; have e : b = max a b := by walk_at "om"
    rw [e]; exact h h' tk u (F.up hk) hk ht
  · rw [if_neg q]; have e : a = max a b := by walk_at "om"
    rw [e]; exact h h' tk t (F.up hk) hk ht
theorem min2F {a b : Int} {t u : Tok} (hh : A.handled = none) (F : Fx g L s.heap m)
    (h : ∀ h' tk t', Fx g L h' m → Sub s.heap h' → s.toks ≤ tk → Q (.int (min a b) t') { s with heap := h', toks := tk }) :
    wpAny (model prog w) A (call (.builtin "min") [.int a t, .int b u]) Q E s := by
  refine wpAny_with_toks (Nat.le_refl s.toks) (min_two_ints hh fun h' tk hk ht => ?_)
  by_cases q : b < a
  · rw [if_pos q]; have e : b = min a b := by walk_at "om"
    rw [e]; exact h h' tk u (F.up hk) hk ht
  · rw [if_neg q]; have e : a = min a b := by walk_at "om"
    rw [e]; exact h h' tk t (F.up hk) hk ht
end
section
variable {prog : Program} {w : World} {A : Around} {E : Value → Shared → Prop} {s : Shared}
theorem unpackF {env : Env} {elts : List Expr} {k : Nat} {pos : Pos} {l : Addr} {items : Array Value} {Q : Unit → Shared → Prop} (hh : A.handled = none) (hl : s.heap.IsList l items) (hn : (assignEach elts env).length = items.size)
    (hstar : (assignEach elts env).findIdx? (·.1) = none) (h : ∀ h', Sub s.heap h' → wpAny (model prog w) A (assignInOrder ((assignEach elts env).map (·.2)) items.toList) Q E { s with heap := h' }) :
    wpAny (model prog w) A (assign (.Tuple elts k pos) env (.ref l)) Q E s := by
  rw [assign_Tuple]
  refine wpAny_bind (wpAny_standAt ?_)
  unfold unpack
  rw [hn, hstar]
  exact wpAny_bind (wpAny_holding (kun_itemsOf hh hl fun h' he => h h' fun b o e => he b o (Nat.ne_of_lt (Heap.lt_size e)) e))
end
theorem Fx.none {g h : Heap} {L b : Addr} {m : Str → Option Value} (e : h.get? b = none) (F : Fx g L h m) : g.get? b = none := none_of_sub F.keep e
theorem str1_beq (x y : Nat) : ((⟨#[x]⟩ : Str) == ⟨#[y]⟩) = (x == y) := by
  by_cases h : x = y
  · subst h; simp
  · have : (⟨#[x]⟩ : Str) ≠ ⟨#[y]⟩ := fun q => h (by injection q with q; simpa using q)
    rw [beq_eq_false_iff_ne.mpr this, beq_eq_false_iff_ne.mpr h]
theorem ofA : Str.ofString "A" = ⟨#[65]⟩ := by decide +kernel
theorem ofa : Str.ofString "a" = ⟨#[97]⟩ := by decide +kernel
theorem ofb : Str.ofString "b" = ⟨#[98]⟩ := by decide +kernel
theorem ofE : Str.ofString "" = ⟨#[]⟩ := by decide +kernel
/-- of the tokens: kept out of arithmetic's sight -/
noncomputable def TkM (t n t' k : Nat) : Prop := 0 < t → t < n → 0 < t' ∧ t' < k
noncomputable def TkA (t u n t' k : Nat) : Prop := 0 < t → t < n → 0 < u → u < n → 0 < t' ∧ t' < k
theorem rep_fold (c : Nat) : ∀ (n : Nat) (acc : Array Nat), (List.replicate n #[c]).foldl (· ++ ·) acc = acc ++ (List.replicate n c).toArray := by
  intro n
  induction n with
  | zero => intro acc; simp
  | succ k ih =>
    intro acc
    rw [List.replicate_succ, List.foldl_cons, ih]
    apply Array.ext'
    simp [List.replicate_succ]
section
variable {prog : Program} {w : World} {A : Around} {E : Value → Shared → Prop} {s : Shared} {Q : Value → Shared → Prop}
theorem mulF {x : Str} {c : Nat} {n : Int} {t u : Nat} (hx : x = ⟨#[c]⟩) (hn : n ≤ 1000) (hn' : -1000 ≤ n)
    (h : ∀ (t' tk : Nat), s.toks ≤ tk → TkM t s.toks t' tk → Q (.str ⟨(List.replicate n.toNat c).toArray⟩ t') { s with toks := tk }) :
    wpAny (model prog w) A (binaryOp .Mult (.str x t) (.int n u)) Q E s := by
  subst hx
  have e24 : (2 : Int) ^ 63 = 9223372036854775808 := by decide
  refine P.mul_str ?_ (fun h1 h2 => ?_) (fun h1 h2 => ?_) ?_
  · simp only [Bool.or_eq_false_iff, decide_eq_false_iff_not]; walk_at "om"
  · show ¬ ((1 : Nat) : Int) > (2 ^ 63 - 1) / n
    have : (1 : Int) ≤ (2 ^ 63 - 1) / n := by
      rw [Int.le_ediv_iff_mul_le (by walk_at "om")]; walk_at "om"
    walk_at "om"
  · show Builtin.Str.tooLong (1 * n.toNat) = false
    unfold Builtin.Str.tooLong
    rw [sizeLine_eq]
    simp; walk_at "om"
  · by_cases q : n < 1
    · rw [if_pos q]
      refine ⟨by rw [sizeLine_eq]; decide, ?_⟩
      have := h s.toks (s.toks + 1) (by walk_at "om") (by unfold TkM; walk_at "om")
      have e : n.toNat = 0 := by walk_at "om"
      rw [e] at this
      exact this
    · rw [if_neg q]
      by_cases q1 : n = 1
      · subst q1
        exact h t s.toks (Nat.le_refl _) (by unfold TkM; walk_at "om")
      · rw [if_neg (by simp [q1, Str.length])]
        have e : (List.replicate n.toNat #[c]).foldl (· ++ ·) #[] = (List.replicate n.toNat c).toArray := by rw [rep_fold]; simp
        refine ⟨?_, ?_⟩
        · show (((List.replicate n.toNat #[c]).foldl (· ++ ·) #[])).size ≤ sizeLine
          rw [e, sizeLine_eq]; simp; walk_at "om"
        · show Q (.str ⟨(List.replicate n.toNat #[c]).foldl (· ++ ·) #[]⟩ _) _
          rw [e]
          exact h s.toks (s.toks + 1) (by walk_at "om") (by unfold TkM; walk_at "om")

theorem addF {x y : Str} {xs ys : List Nat} {t u : Nat} (hx : x = ⟨xs.toArray⟩) (hy : y = ⟨ys.toArray⟩) (hl : xs.length + ys.length ≤ 1000)
    (h : ∀ (t' tk : Nat), s.toks ≤ tk → TkA t u s.toks t' tk → Q (.str ⟨(xs ++ ys).toArray⟩ t') { s with toks := tk }) :
    wpAny (model prog w) A (binaryOp .Add (.str x t) (.str y u)) Q E s := by
  subst hx hy
  refine P.add_str ?_
  have lx : (⟨xs.toArray⟩ : Str).length = xs.length := by simp [Str.length]
  have ly : (⟨ys.toArray⟩ : Str).length = ys.length := by simp [Str.length]
  rw [lx, ly]
  by_cases q : xs.length = 0
  · rw [if_pos (by simp [q])]
    have : xs = [] := List.length_eq_zero_iff.mp q
    subst this
    exact h u s.toks (Nat.le_refl _) (by unfold TkA; walk_at "om")
  · rw [if_neg (by simpa using q)]
    by_cases q2 : ys.length = 0
    · rw [if_pos (by simp [q2])]
      have : ys = [] := List.length_eq_zero_iff.mp q2
      subst this
      have := h t s.toks (Nat.le_refl _) (by unfold TkA; walk_at "om")
      rw [List.append_nil] at this
      exact this
    · rw [if_neg (by simpa using q2)]
      have e : (⟨xs.toArray⟩ : Str) ++ ⟨ys.toArray⟩ = ⟨(xs ++ ys).toArray⟩ := by
        show (⟨xs.toArray ++ ys.toArray⟩ : Str) = _
        simp
      rw [e]
      refine ⟨?_, h s.toks (s.toks + 1) (by walk_at "om") (by unfold TkA; walk_at "om")⟩
      show (xs ++ ys).toArray.size ≤ sizeLine
      rw [sizeLine_eq]; simp; walk_at "om"
end
theorem ne_new {h : Heap} {a b : Addr} {items : Array Value} (x : h.IsList b items) (e : h.get? a = none) : b ≠ a := by
  obtain ⟨o, q, _⟩ := x
  intro z; rw [z, e] at q; cases q
theorem lst_but {h h' : Heap} {a b : Addr} {items : Array Value} (S : Heap.SameBut a h h') (n : b ≠ a) (x : h.IsList b items) : h'.IsList b items := by
  obtain ⟨o, e, r⟩ := x
  exact ⟨o, (S.2 b n).trans e, r⟩
theorem pick2 (a b c : Value) : slicePick #[a, b, c] none (some 2) none = [a, b].toArray := by
  have := slicePick_upto #[a, b, c] 2 (by simp)
  simpa using this
theorem Fx.ne {g h : Heap} {L a b : Addr} {m : Str → Option Value} {o : Obj} (e : h.get? a = Option.none) (F : Fx g L h m) (hb : g.get? b = some o) : a ≠ b := fun q => by
  have := F.keep _ _ hb
  rw [← q, e] at this; cases this
theorem noDict {g h : Heap} {L l : Addr} {m : Str → Option Value} {items : Array Value} (x : g.PlainList l items) (F : Fx g L h m) : h.NoDictAt (.ref l) := let ⟨_, e⟩ := x; ⟨_, F.keep _ _ e, rfl⟩
theorem lst_base {g h : Heap} {L a : Addr} {m : Str → Option Value} {items : Array Value} (F : Fx g L h m) (x : g.IsList a items) : h.IsList a items := IsL.keeps x F.keep

end
end Mine
local macro_rules | `(tactic| walk_at "lift") => `(tactic| first | assumption | exact Mine.lst_sub (by assumption) (by walk_at "lift") | exact Mine.lst_same (by assumption) (Mine.Fx.ns (by assumption)) (by walk_at "lift") | exact Mine.lst_base (by assumption) (by assumption))
local macro_rules | `(tactic| walk_at "subscriptTail") => `(tactic| ((with_reducible show wpAny _ _ (subscriptTail _ _ (Value.ref _) (Value.int _ _)) _ _ _); k_dflt (refine item_listL (by walk_at "lift") (by decide) (by decide) (by rfl) ?_)))
local macro_rules | `(tactic| walk_at "subscriptTail") => `(tactic| ((with_reducible show wpAny _ _ (subscriptTail _ _ (Value.ref _) (Value.ref _)) _ _ _); k_dflt (refine Mine.sliceF (by assumption) (by walk_at "lift") (by first | exact IsPart.none | exact IsPart.int _ _) (by first | exact IsPart.none | exact IsPart.int _ _) ?_; intro a' h' F' K' l' nw'; (try rw [Mine.pick2] at l'); (try dsimp only at K' nw'); (try dsimp only))))
local macro_rules | `(tactic| walk_at "newList") => `(tactic| (refine Mine.newListF2 (by assumption) ?_; intro a' h' F' K' l' nw'; (try dsimp only at K' nw'); (try dsimp only)))
local macro_rules | `(tactic| walk_at "call builtin:max") => `(tactic| first | (refine Mine.maxlF (by assumption) (by assumption) (by walk_at "lift") (by repeat constructor) (by exact List.cons_ne_nil _ _) ?_; intro h' tk' t' F' K' tk''; (try dsimp only at K' tk''); (try dsimp only)) | (refine Mine.max2F (by assumption) (by assumption) ?_; intro h' tk' t' F' K' tk''; (try dsimp only at K' tk''); (try dsimp only)))
local macro_rules | `(tactic| walk_at "call builtin:min") => `(tactic| first | (refine Mine.minlF (by assumption) (by assumption) (by walk_at "lift") (by repeat constructor) (by exact List.cons_ne_nil _ _) ?_; intro h' tk' t' F' K' tk''; (try dsimp only at K' tk''); (try dsimp only)) | (refine Mine.min2F (by assumption) (by assumption) ?_; intro h' tk' t' F' K' tk''; (try dsimp only at K' tk''); (try dsimp only)))
local macro_rules | `(tactic| walk_at "assign Tuple") => `(tactic| (refine Mine.unpackF (by assumption) (by walk_at "lift") (by rfl) (by rfl) ?_; intro h' K'; (try dsimp only at K'); have F' := Mine.Fx.up (by assumption) K'; (try dsimp only); repeat (refine asg_cons (Mine.stL (by assumption) (by assumption) ?_); intro h' F' S'; (try dsimp only at S'); (try dsimp only)); refine asg_nil ?_))
local macro_rules | `(tactic| walk_at "binaryOp Mult str int") => `(tactic| (refine Mine.mulF (by first | with_reducible exact Mine.ofA | with_reducible exact Mine.ofa | with_reducible exact Mine.ofb | with_reducible rfl) (by walk_at "om") (by walk_at "om") ?_; intro t' tk' htk' htt'; (try dsimp only at htk' htt'); (try dsimp only)))
local macro_rules | `(tactic| walk_at "binaryOp Add str str") => `(tactic| (refine Mine.addF (by first | with_reducible exact Mine.ofA | with_reducible exact Mine.ofa | with_reducible exact Mine.ofb | with_reducible exact Mine.ofE | with_reducible rfl) (by first | with_reducible exact Mine.ofA | with_reducible exact Mine.ofa | with_reducible exact Mine.ofb | with_reducible exact Mine.ofE | with_reducible rfl) (by simp only [List.length_append, List.length_replicate, List.length_cons, List.length_nil]; walk_at "om") ?_; intro t' tk' htk' htt'; (try dsimp only at htk' htt'); (try dsimp only)))
local macro_rules | `(tactic| walk_at "storeName") => `(tactic| ((with_reducible refine Mine.stL (by assumption) (by assumption) ?_); intro h' F' S'; (try dsimp only at S'); (try dsimp only)))
local macro_rules | `(tactic| walk_at "call builtin:list.count") => `(tactic| (refine count_list_ints (by walk_at "lift") (by assumption) ?_))
local macro_rules | `(tactic| walk_at "getMethod ref") => `(tactic| (refine getMethod_list_of PySem.F.slot_list_count PySem.F.type_list_count (by walk_at "lift") (Mine.noDict (by assumption) (by assumption)) ?_))
local macro_rules | `(tactic| walk_at "eval ListComp") => `(tactic| (refine Mine.comp_eval (X := []) ?_))
local macro_rules | `(tactic| walk_at "exec Assign cons ListComp") => `(tactic| ((with_reducible show wpAny _ _ (exec (Stmt.Assign [Expr.Name _ _] (Expr.ListComp _ _ _ _) _) _) _ _ _); refine Mine.comp_asg (X := []) ?_))
local macro_rules | `(tactic| walk_at "h2") => `(tactic| first | with_reducible refine Mine.hlWhile ?_ | with_reducible refine Mine.hlFor ?_ | with_reducible refine Mine.hlIter ?_ | with_reducible refine Mine.hlRef ?_ | with_reducible refine Mine.hlEnum ?_ | skip)
local macro_rules | `(tactic| walk_at "halt") => `(tactic| walk_at "h2")
local macro_rules | `(tactic| walk_at "onh") => `(tactic| ((fail_if_success (with_reducible show Mine.Stopped _)); first | ((with_reducible show wpAny _ _ _ _ _ _); first | ((first | with_reducible refine Mine.hideX ?_ | with_reducible refine Mine.hideE (by with_unfolding_all exact rfl) ?_); (fail_if_success (with_reducible refine Mine.notHid (by assumption) ?_)); walk_at "introQ") | (walk_at "halt"; first | (with_reducible show Mine.Stopped _) | walk1)) | (dsimp only; (with_reducible show wpAny _ _ _ _ _ _); walk1) | ((with_reducible show (if _ then _ else _)); walk1) | ((with_reducible refine (by assumption : Mine.Hid _ _) _ _ ?_); try dsimp only) | fail))
local macro_rules | `(tactic| walk_at "go") => `(tactic| ((repeat' walk_at "onh"); all_goals (try (with_reducible refine Mine.unstop ?_))))
local macro_rules | `(tactic| walk_at "ite") => `(tactic| first | rw [if_pos rfl] | rw [if_neg Bool.false_ne_true])
namespace Mine
section
/- Turn -/
theorem ints6 {vs : List Value} {a b c d e f : Int} (h : IntsAre vs [a, b, c, d, e, f]) : ∃ t1 t2 t3 t4 t5 t6 : Tok, vs = [.int a t1, .int b t2, .int c t3, .int d t4, .int e t5, .int f t6] := by
  cases h with | cons _ t1 h => cases h with | cons _ t2 h => cases h with | cons _ t3 h => cases h with | cons _ t4 h => cases h with | cons _ t5 h => cases h with | cons _ t6 h => cases h; exact ⟨t1, t2, t3, t4, t5, t6, rfl⟩

noncomputable def turnM (up : Bool) (a b c d e f : Int) : List Int := if up then [a, b, c, d, e, d + e - f] else [a, b, c, a + max b f - d, min b f + c - e, f]

theorem law_turned_spec {w : World} {A : Around} {s : Shared} {R : Result → Shared → Prop} {l : Nat} {vs : List Value} {a b c d e f : Int} {x : Nat} {u : Tok}
  (C : Cx w A s 4) (hl : s.heap.IsList l vs.toArray) (hi : IntsAre vs [a, b, c, d, e, f])
  (hR : ∀ (D : Nat) h' tk' (us : List Value), s.toks ≤ tk' → Sub s.heap h' → s.heap.get? D = none → h'.IsList D us.toArray → IntsAre us (turnM (x == 65) a b c d e f) → R (.ok (.ret (.ref D))) { s with heap := h', toks := tk' }) :
  codeAny (model Challenge.rw_xg0051_01.row.prog w) A (.call (.ref 209) ⟨[.ref l, .str ⟨#[x]⟩ u], []⟩) R s := by
  have G := C.G
  have hd' := C.hd
  have hh := C.hh
  obtain ⟨t1, t2, t3, t4, t5, t6, rfl⟩ := ints6 hi
  refine' enter [("triangle", .ref l), ("low", .str ⟨#[x]⟩ u)] s.heap G.k G.nolimit (by first | exact fun _ _ e => e | assumption) ?k1 ?k2 ?k3 ?k4 ?k5 ?_ ?c2 ?c3 ?c4 ?c5
  case k1 => k_is
  case k2 => k_is
  case k3 => walk_at "om"
  case k4 => first | exact BindsTo.of_eq rfl | exact binds_K G.k rfl (by k_is) rfl rfl rfl
  case k5 => exact locs rfl
  case c2 => decide
  case c3 => exact rfl
  case c4 => exact rfl
  case c5 => exact rfl
  intro L h' A' tk0 hL hkeep F O eh ed eu htk
  have hh' : A'.handled = none := eh.trans hh
  walk_at "go"
  all_goals try dsimp only at *
  · refine hR _ _ _ _ (by walk_at "om") (Fx.keep (by assumption)) (Fx.none (by assumption) (by assumption)) (by assumption) ?_
    have e : (x == 65) = true := by rw [← str1_beq, ← ofA]; assumption
    rw [e]
    repeat constructor
  · refine hR _ _ _ _ (by walk_at "om") (Fx.keep (by assumption)) (Fx.none (by assumption) (by assumption)) (by assumption) ?_
    have e : (x == 65) = false := by rw [← str1_beq, ← ofA]; assumption
    rw [e]
    repeat constructor

end
section
/- Rows -/
noncomputable def repM (c : Nat) (n : Int) : List Nat := List.replicate n.toNat c
noncomputable def rowsM (a b c d e f : Int) : List (List Nat) := [repM 65 f ++ repM 97 (d - f) ++ repM 98 (a - d), repM 97 e ++ repM 98 (b - e), repM 98 c]
/-- texts, whatever their tokens -/
inductive TxtsAre : List Value → List (List Nat) → Prop
  | nil : TxtsAre [] []
  | cons (l : List Nat) (t : Nat) {vs ls} : TxtsAre vs ls → TxtsAre (.str ⟨l.toArray⟩ t :: vs) (l :: ls)

theorem rwA {x : Int} (h : x ≤ 50) : x ≤ 1000 := by omega
theorem rwB {x : Int} (h : -50 ≤ x) : -1000 ≤ x := by omega
theorem rwC {x y : Int} (h : x ≤ 50) (k : -50 ≤ y) : x - y ≤ 1000 := by omega
theorem rwD {x y : Int} (h : y ≤ 50) (k : -50 ≤ x) : -1000 ≤ x - y := by omega
theorem rwT {x : Int} (h : x ≤ 100) : x.toNat ≤ 100 := Int.toNat_le.mpr h
theorem rwC' {x y : Int} (h : x ≤ 50) (k : -50 ≤ y) : x - y ≤ 100 := by omega
theorem rwE {x y : Int} (h : x ≤ 50) (k : -50 ≤ x) (h' : y ≤ 50) : x.toNat + (y - x).toNat ≤ 1000 :=
  Nat.le_trans (Nat.add_le_add (rwT (Int.le_trans h (by decide))) (rwT (rwC' h' k))) (by decide)
theorem rwG {x y z : Int} (h : x ≤ 50) (k : -50 ≤ x) (h' : y ≤ 50) (k' : -50 ≤ y) (h'' : z ≤ 50) : x.toNat + (y - x).toNat + (z - y).toNat ≤ 1000 :=
  Nat.le_trans (Nat.add_le_add (Nat.add_le_add (rwT (Int.le_trans h (by decide))) (rwT (rwC' h' k))) (rwT (rwC' h'' k'))) (by decide)
theorem law_rows_spec {w : World} {A : Around} {s : Shared} {R : Result → Shared → Prop} {l : Nat} {vs : List Value} {a b c d e f : Int}
  (C : Cx w A s 4) (hl : s.heap.IsList l vs.toArray) (hi : IntsAre vs [a, b, c, d, e, f]) (h1 : a ≤ 50 ∧ b ≤ 50 ∧ c ≤ 50 ∧ d ≤ 50 ∧ e ≤ 50 ∧ f ≤ 50) (h2 : -50 ≤ a ∧ -50 ≤ b ∧ -50 ≤ c ∧ -50 ≤ d ∧ -50 ≤ e ∧ -50 ≤ f)
  (hR : ∀ (D : Nat) h' tk' (us : List Value), s.toks ≤ tk' → Sub s.heap h' → s.heap.get? D = none → h'.IsList D us.toArray → TxtsAre us (rowsM a b c d e f) → R (.ok (.ret (.ref D))) { s with heap := h', toks := tk' }) :
  codeAny (model Challenge.rw_xg0051_01.row.prog w) A (.call (.ref 216) ⟨[.ref l], []⟩) R s := by
  have G := C.G
  have hd' := C.hd
  have hh := C.hh
  obtain ⟨t1, t2, t3, t4, t5, t6, rfl⟩ := ints6 hi
  obtain ⟨a1, b1, c1, d1, e1, f1⟩ := h1
  obtain ⟨a2, b2, c2, d2, e2, f2⟩ := h2
  have g1 := rwA f1
  have g2 := rwB f2
  have g3 := rwC d1 f2
  have g4 := rwD f1 d2
  have g5 := rwE f1 f2 d1
  have g6 := rwC a1 d2
  have g7 := rwD d1 a2
  have g8 := rwG f1 f2 d1 d2 a1
  have g9 := rwA e1
  have g10 := rwB e2
  have g11 := rwC b1 e2
  have g12 := rwD e1 b2
  have g13 := rwE e1 e2 b1
  have g14 := rwA c1
  have g15 := rwB c2
  refine' enter [("triangle", .ref l)] s.heap G.k G.nolimit (by first | exact fun _ _ e => e | assumption) ?k1 ?k2 ?k3 ?k4 ?k5 ?_ ?c2 ?c3 ?c4 ?c5
  case k1 => k_is
  case k2 => k_is
  case k3 => walk_at "om"
  case k4 => first | exact BindsTo.of_eq rfl | exact binds_K G.k rfl (by k_is) rfl rfl rfl
  case k5 => exact locs rfl
  case c2 => decide
  case c3 => exact rfl
  case c4 => exact rfl
  case c5 => exact rfl
  intro L h' A' tk0 hL hkeep F O eh ed eu htk
  have hh' : A'.handled = none := eh.trans hh
  walk_at "go"
  try dsimp only at *
  refine hR _ _ _ _ (by walk_at "om") (Fx.keep (by assumption)) (Fx.none (by assumption) (by assumption)) (by assumption) ?_
  repeat constructor

end
section
/- Tri -/
noncomputable def hereM (x i : Nat) : Int := if x = i then 1 else 0
structure T6 where
  (m0 m1 m2 l0 l1 l2 : Int)
noncomputable def stepT (t : T6) (x : Nat) : T6 :=
  ⟨t.m0 + hereM x 0, maxl [t.m0, t.m1] + hereM x 1, maxl [t.m0, t.m1, t.m2] + hereM x 2, t.l0 + hereM x 2, minl [t.l0, t.l1] + hereM x 1, minl [t.l0, t.l1, t.l2] + hereM x 0⟩
noncomputable def triM (ns : List Nat) : T6 := ns.foldl stepT ⟨0, 0, 0, 0, 0, 0⟩
noncomputable def triL (ns : List Nat) : List Int :=
  let t := triM ns
  let first := maxl [t.m0, t.m1, t.m2]
  let third := minl [t.l0, t.l1, t.l2]
  let upper := maxl [t.m0, t.m1]
  let zeros : Int := (ns.map Int.ofNat).count 0
  [first, 6 - first - third, third, upper, zeros + (ns.map Int.ofNat).count 1 - upper, zeros]

theorem here_items {x : Nat} {t t0 t1 t2 : Tok} (hx : x < 3) : ∃ ta tb tc, (#[Value.int 0 t0, Value.int 0 t1, Value.int 0 t2] : Array Value).setIfInBounds (x : Int).toNat (.int 1 t) = #[.int (hereM x 0) ta, .int (hereM x 1) tb, .int (hereM x 2) tc] := by
  have : x = 0 ∨ x = 1 ∨ x = 2 := by walk_at "om"
  rcases this with rfl | rfl | rfl
  · exact ⟨t, t1, t2, rfl⟩
  · exact ⟨t0, t, t2, rfl⟩
  · exact ⟨t0, t1, t, rfl⟩
theorem tri_take (ns : List Nat) {i : Nat} {x : Nat} (hx : ns[i]? = some x) : triM (ns.take (i + 1)) = stepT (triM (ns.take i)) x := by
  unfold triM
  rw [List.take_succ, hx, List.foldl_append]
  rfl
theorem ints_at {vs : List Value} {ns : List Nat} (h : IntsAre vs (ns.map Int.ofNat)) {i : Nat} {v : Value} (e : vs[i]? = some v) : ∃ (x : Nat) (t : Tok), ns[i]? = some x ∧ v = .int (x : Int) t := by
  induction ns generalizing vs i with
  | nil => cases h; simp at e
  | cons n r ih =>
    cases h with
    | cons _ t h =>
      cases i with
      | zero => simp at e; exact ⟨n, t, rfl, e.symm⟩
      | succ j => exact ih h (by simpa using e)

theorem law_triangle_spec {w : World} {A : Around} {s : Shared} {R : Result → Shared → Prop} {l : Nat} {vs : List Value} {ns : List Nat}
  (C : Cx w A s 4) (hpl : s.heap.PlainList l vs.toArray) (hi : IntsAre vs (ns.map Int.ofNat)) (h6 : ns.length = 6) (h3 : ∀ n ∈ ns, n < 3)
  (hR : ∀ (D : Nat) h' tk' (us : List Value), s.toks ≤ tk' → Sub s.heap h' → s.heap.get? D = none → h'.IsList D us.toArray → IntsAre us (triL ns) → R (.ok (.ret (.ref D))) { s with heap := h', toks := tk' }) :
  codeAny (model Challenge.rw_xg0051_01.row.prog w) A (.call (.ref 202) ⟨[.ref l], []⟩) R s := by
  have G := C.G
  have hd' := C.hd
  have hh := C.hh
  have hl := hpl.isList
  refine' enter [("word", .ref l)] s.heap G.k G.nolimit (by first | exact fun _ _ e => e | assumption) ?k1 ?k2 ?k3 ?k4 ?k5 ?_ ?c2 ?c3 ?c4 ?c5
  case k1 => k_is
  case k2 => k_is
  case k3 => walk_at "om"
  case k4 => first | exact BindsTo.of_eq rfl | exact binds_K G.k rfl (by k_is) rfl rfl rfl
  case k5 => exact locs rfl
  case c2 => decide
  case c3 => exact rfl
  case c4 => exact rfl
  case c5 => exact rfl
  intro L h' A' tk0 hL hkeep F O eh ed eu htk
  have hh' : A'.handled = none := eh.trans hh
  walk_at "go"
  rename_i m1 h1 F1 K1 l1' n1 h2 F2 S2 m2 hc F3 K3 l3' n3 h4 F4 S4
  have q1 := lst_same S4 F3.ns (lst_sub K3 (lst_same S2 F1.ns l1'))
  have q2 := lst_same S4 F3.ns l3'
  have hl' : h4.IsList l vs.toArray := IsL.keeps hl F4.keep
  refine wpAny_For ?_
  walk_at "go"
  walk_at "un"
  refine wpAny_pyIter_list hl' ?_
  try dsimp only
  have z1 : m1 ≠ h4.objs.size := by obtain ⟨_, q, _⟩ := q1; exact Nat.ne_of_lt (Heap.lt_size q)
  have z2 : m2 ≠ h4.objs.size := by obtain ⟨_, q, _⟩ := q2; exact Nat.ne_of_lt (Heap.lt_size q)
  have z3 : l ≠ h4.objs.size := by obtain ⟨_, q, _⟩ := hl'; exact Nat.ne_of_lt (Heap.lt_size q)
  have z4 : L ≠ h4.objs.size := Nat.ne_of_lt F4.ns.lt
  have z5 : ∀ b o, s.heap.get? b = some o → b ≠ h4.objs.size := fun b o e => Nat.ne_of_lt (Heap.lt_size (F4.keep _ _ e))
  refine for_rule (Walks.list hh' h4.objs.size l z3 vs.toArray)
     (fun i s' => Ex11 fun h tk v (mo : Nat) (le : Nat) ta tb tc td te tf => And7 (s' = { s with heap := h, toks := tk }) (s.toks ≤ tk) (Fx s.heap L h (ov [Str.ofString "x", Str.ofString "here"] v fun z => if z = Str.ofString "least" then some (.ref le) else if z = Str.ofString "most" then some (.ref mo) else List.lookup z [(Str.ofString "word", .ref l)])) (mo ≠ h4.objs.size) (le ≠ h4.objs.size) (h.IsList mo #[.int (triM (ns.take i)).m0 ta, .int (triM (ns.take i)).m1 tb, .int (triM (ns.take i)).m2 tc]) (h.IsList le #[.int (triM (ns.take i)).l0 td, .int (triM (ns.take i)).l1 te, .int (triM (ns.take i)).l2 tf])) ?_ ?_ ?_ ?_ ?_
  · exact ⟨⟨_, Heap.get?_push_size _ rfl, rfl, rfl⟩, hl'.push _⟩
  · refine ⟨_, _, _, _, _, _, _, _, _, _, _, rfl, by walk_at "om", (F4.up fun b o e => Heap.get?_push_of_some _ e).ov0 _, z1, z2, q1.push _, q2.push _⟩
  · rintro i s' h₁ tk₁ ⟨h, tk, v, mo, le, ta, tb, tc, td, te, tf, rfl, h1, F1, y1, y2, y3, y4⟩ hk ht
    have hk' : ∀ b o, b ≠ h4.objs.size → h.get? b = some o → h₁.get? b = some o := fun b o hb e => hk b o (by simpa using hb) e
    refine ⟨h₁, tk₁, v, mo, le, ta, tb, tc, td, te, tf, rfl, Nat.le_trans h1 ht, ⟨F1.ns.at' (fun o e => hk' _ _ z4 e), fun b o e => hk' _ _ (z5 b o e) (F1.keep _ _ e)⟩, y1, y2, ?_, ?_⟩
    · obtain ⟨o, e, r⟩ := y3; exact ⟨o, hk' _ _ y1 e, r⟩
    · obtain ⟨o, e, r⟩ := y4; exact ⟨o, hk' _ _ y2 e, r⟩
  · rintro i x s₁ hi' hx hJJ hst
    try walk_at "hideN"
    obtain ⟨h, tk, v, mo, le, ta, tb, tc, td, te, tf, rfl, h1, F1, y1, y2, y3, y4⟩ := hJJ
    obtain ⟨n, t, en, rfl⟩ := ints_at hi (i := i) (v := x) (by simpa using hx)
    have hn3 : n < 3 := h3 n (List.mem_of_getElem? en)
    generalize hT : triM (ns.take i) = T at y3 y4
    have O1 := hideOff h L
    have F2 := F1.re
    have hs := sub_hide F1.keep O
    have G1 := G.up hs
    walk_at "un"
    refine wpAny_assign_Name (stL F2 O1 ?_)
    intro h2 F3 S3
    walk_at "go"
    rename_i here k3 F5 K5 l5 n5 k4 F6 S6
    have l6 := lst_same S6 F5.ns l5
    have w3 := lst_same S3 F2.ns y3
    have w4 := lst_same S3 F2.ns y4
    have nL : L ≠ here := fun q => by obtain ⟨_, _, _, e, _⟩ := F3.ns; rw [q, n5] at e; cases e
    with_reducible refine wpAny_setItem_list l6 (by walk_at "om") (by walk_at "om") (by k_dflt (show (n : Int) < 3; walk_at "om")) ?_
    intro k5 l7 S7
    obtain ⟨ta', tb', tc', e7⟩ := here_items (t := (tk + 1 + 1 + 1 + 1 + 1)) (t0 := tk + 1) (t1 := tk + 1 + 1) (t2 := tk + 1 + 1 + 1) hn3
    replace l7 : k5.IsList here ((#[Value.int 0 (tk + 1), Value.int 0 (tk + 1 + 1), Value.int 0 (tk + 1 + 1 + 1)] : Array Value).setIfInBounds (n : Int).toNat (.int 1 (tk + 1 + 1 + 1 + 1 + 1))) := l7
    rw [e7] at l7
    have F7 := F6.same S7 (F3.none n5) nL
    have v3 := lst_but S7 (ne_new w3 n5) (lst_same S6 F5.ns (lst_sub K5 w3))
    have v4 := lst_but S7 (ne_new w4 n5) (lst_same S6 F5.ns (lst_sub K5 w4))
    clear S7 S6 K5 S3 l5 l6 w3 w4 y3 y4 e7
    try dsimp only
    walk_at "go"
    rename_i _ _ _ _ _ _ _ _ _ _ _ _ _ _ _ _ _ _ mo' _ Fm _ lm nm _ Fn _ _ _ _ _ _ _ _ _ _ _ _ _ _ _ _ _ _ _ le' _ Fl _ ll nl hz Fz _
    obtain ⟨oI, eI, _⟩ := hst.1
    have eI' : (h.hide L).get? h4.objs.size = some oI := hide_in eI (Ne.symm z4)
    try dsimp only
    rw [tri_take ns en, hT]
    have Kz := Fx.keep Fz
    refine' ⟨⟨hz, _, _, mo', le', ?ta, ?tb, ?tc, ?td, ?te, ?tf, rfl, by walk_at "om", Fx.forget _ ⟨Fz.ns, fun b o q => Kz _ _ (hs _ _ q)⟩ ?fg, ?n1, ?n2, ?k1, ?k2⟩, fun b hb o q => Kz _ _ (hide_in q ?ne)⟩
    case k1 => walk_at "lift"
    case k2 => walk_at "lift"
    case n1 => exact Fx.ne (nm) (by assumption) eI'
    case n2 => exact Fx.ne (nl) (by assumption) eI'
    case ne =>
      simp only [List.mem_cons, List.not_mem_nil, or_false] at hb
      rcases hb with hb | hb <;> (replace hb := hb.symm; subst hb)
      · exact Ne.symm z4
      · obtain ⟨_, q', _⟩ := hl
        exact ne_of_off q' O
    case fg => walk_at "forget"
  · rintro s₂ hJJ
    try walk_at "hideN"
    obtain ⟨h, tk, v, mo, le, ta, tb, tc, td, te, tf, rfl, h1, F1, y1, y2, y3, y4⟩ := hJJ
    have e : ns.take vs.toArray.size = ns := by
      have := hi.length
      rw [List.size_toArray, this, List.length_map, List.take_length]
    rw [e] at y3 y4
    walk_at "un"
    refine wpAny_execs_nil ?_
    walk_at "go"
    refine hR _ _ _ _ (by walk_at "om") (Fx.keep (by assumption)) (Fx.none (by assumption) (by assumption)) (by assumption) ?_
    repeat constructor

end
section
/- Word -/
theorem bits6 {l : List Value} {xs : List Int} (h : IntsAre l xs) (k : Nat) : IntsAre (l.take k) (xs.take k) := h.take k
noncomputable def NumsAre (us : List Value) : Prop := ∃ zs : List Int, zs.length = 6 ∧ IntsAre us zs
theorem NumsAre.set {us : List Value} (h : NumsAre us) (k : Nat) (z : Int) (t : Tok) : NumsAre (us.set k (.int z t)) := by
  obtain ⟨zs, h1, h2⟩ := h
  refine ⟨zs.set k z, by simp [h1], ?_⟩
  clear h1
  induction h2 generalizing k with
  | nil => exact .nil
  | cons n u r ih =>
    cases k with
    | zero => exact .cons _ _ r
    | succ j => exact .cons _ _ (ih j)
theorem NumsAre.get {us : List Value} (h : NumsAre us) {k : Nat} (hk : k < 6) : ∃ (z : Int) (t : Tok), us[k]? = some (.int z t) := by
  obtain ⟨zs, h1, h2⟩ := h
  have hk' : k < zs.length := by walk_at "om"
  clear h1
  induction h2 generalizing k with
  | nil => simp at hk'
  | cons n u r ih =>
    cases k with
    | zero => exact ⟨n, u, rfl⟩
    | succ j => exact ih (by walk_at "om") (by simpa using hk')
theorem ints_get {us : List Value} {zs : List Int} (h : IntsAre us zs) {k : Nat} {v : Value} (e : us[k]? = some v) : ∃ (z : Int) (t : Tok), v = .int z t := by
  induction h generalizing k with
  | nil => simp at e
  | cons n u r ih =>
    cases k with
    | zero => simp at e; exact ⟨n, u, e.symm⟩
    | succ j => exact ih (by simpa using e)

local macro_rules | `(tactic| walk_at "halt") => `(tactic| first | with_reducible refine Mine.hlSubR ?_ | with_reducible refine Mine.hlSetI ?_ | walk_at "h2")
theorem law_word_spec {w : World} {A : Around} {s : Shared} {R : Result → Shared → Prop} {l : Nat} {vs : List Value} {xs : List Int}
  (C : Cx w A s 4) (hl : s.heap.IsList l vs.toArray) (hi : IntsAre vs xs) (hsz : vs.length ≤ 63)
  (hR : ∀ (D : Nat) (s' : Shared) (us : List Value) (ns : List Nat), Kp [] s s' → s.heap.get? D = none → s'.heap.PlainList D us.toArray → IntsAre us (ns.map Int.ofNat) → ns.length = 6 → (∀ n ∈ ns, n < 3) → R (.ok (.ret (.ref D))) s') :
  codeAny (model Challenge.rw_xg0051_01.row.prog w) A (.call (.ref 185) ⟨[.ref l], []⟩) R s := by
  have G := C.G
  have hd' := C.hd
  have hh := C.hh
  refine' enter [("script", .ref l)] s.heap G.k G.nolimit (by first | exact fun _ _ e => e | assumption) ?k1 ?k2 ?k3 ?k4 ?k5 ?_ ?c2 ?c3 ?c4 ?c5
  case k1 => k_is
  case k2 => k_is
  case k3 => walk_at "om"
  case k4 => first | exact BindsTo.of_eq rfl | exact binds_K G.k rfl (by k_is) rfl rfl rfl
  case k5 => exact locs rfl
  case c2 => decide
  case c3 => exact rfl
  case c4 => exact rfl
  case c5 => exact rfl
  intro L h' A' tk0 hL hkeep F O eh ed eu htk
  have hh' : A'.handled = none := eh.trans hh
  walk_at "go"
  rename_i nm h1 F1 K1 l1 n1 h2 F2 S2
  have l2 := lst_same S2 F1.ns l1
  refine wpAny_For ?_
  walk_at "go"
  refine Mine.sliceF (by assumption) (by walk_at "lift") (by first | exact IsPart.none | exact IsPart.int _ _) (by first | exact IsPart.none | exact IsPart.int _ _) ?_ (hsz := by simp; walk_at "om")
  intro sl h3 F3 K3 l3 n3
  try dsimp only
  have e3 : ∃ ws : List Value, slicePick vs.toArray none (some 24) none = ws.toArray ∧ IntsAre ws (pickNums xs none (some 24) none) := ⟨_, by simp, hi.pick none (some 24) none⟩
  obtain ⟨ws, e3, hw⟩ := e3
  rw [e3] at l3
  have l4 : h3.IsList nm _ := lst_sub K3 l2
  have nns : nm ≠ sl := ne_new l2 n3
  have nmn : s.heap.get? nm = none := none_of_sub hkeep n1
  clear K3 S2 K1
  walk_at "go"
  refine call_enumerate_list l3 ?_
  intro h4 hE hI hz hk4
  dsimp only at hE hI hz hk4
  walk_at "un"
  refine wpAny_pyIter_enum hE ?_
  have F4 := F3.up hk4
  have b1 : sl < h3.objs.size := by obtain ⟨_, q, _⟩ := l3; exact Heap.lt_size q
  have b2 : nm < h3.objs.size := by obtain ⟨_, q, _⟩ := l4; exact Heap.lt_size q
  have b3 : L < h3.objs.size := F3.ns.lt
  have b4 : ∀ b o, s.heap.get? b = some o → b < h3.objs.size := fun b o e => Heap.lt_size (F3.keep _ _ e)
  have hwl : ws.length ≤ 63 := by
    have e := hw.length
    have e' := length_pickNums_le hi none (some 24) none
    have e'' := hi.length
    walk_at "om"
  refine for_ruleU hh' (WalksT.enumerate hh' (h3.objs.size + 1) h3.objs.size sl (Nat.succ_ne_self _) (neN (by walk_at "om")) (neN (by walk_at "om")) ws.toArray).toU
     (fun i s' => Ex4 fun h tk v us => And5 (s' = { s with heap := h, toks := tk }) (s.toks ≤ tk) (Fx s.heap L h (ov [Str.ofString "k", Str.ofString "x"] v fun z => if z = Str.ofString "numbers" then some (.ref nm) else List.lookup z [(Str.ofString "script", .ref l)])) (h.IsList nm us.toArray) (NumsAre us)) ?_ ?_ ?_ ?_ ?_ ?_ ?_
  · exact ⟨⟨_, hE⟩, hI, IsL.keeps l3 hk4⟩
  · exact ⟨_, _, _, _, rfl, by walk_at "om", F4.ov0 _, IsL.keeps l4 hk4, [2, 1, 2, 0, 1, 2], rfl, .cons _ _ (.cons _ _ (.cons _ _ (.cons _ _ (.cons _ _ (.cons _ _ .nil)))))⟩
  · rintro i s' h₁ tk₁ ⟨h, tk, v, us, rfl, h1, F1, y1, y2⟩ hk ht
    have hk' : ∀ b o, b ≠ h3.objs.size → b ≠ h3.objs.size + 1 → h.get? b = some o → h₁.get? b = some o := fun b o q1 q2 e => hk _ _ (by simp [q1, q2]) e
    refine ⟨h₁, tk₁, v, us, rfl, Nat.le_trans h1 ht, ⟨F1.ns.at' (fun o e => hk' _ _ (neN (by walk_at "om")) (neN (by walk_at "om")) e), fun b o e => hk' _ _ ?_ ?_ (F1.keep _ _ e)⟩, ?_, y2⟩
    · have := ltN (b4 _ _ e); exact neN (by walk_at "om")
    · have := ltN (b4 _ _ e); exact neN (by walk_at "om")
    · obtain ⟨o, e, r⟩ := y1; exact ⟨o, hk' _ _ (neN (by walk_at "om")) (neN (by walk_at "om")) e, r⟩
  · rintro i vals hi ⟨_, _, _, rfl⟩
    rfl
  · rfl
  · rintro i vals s₁ hi' ⟨ti, x, hx, rfl⟩ hJJ
    try walk_at "hideN"
    obtain ⟨h, tk, v, us, rfl, h1, F1, y1, y2⟩ := hJJ
    obtain ⟨z, tz, rfl⟩ := ints_get hw (k := i) (v := x) (by simpa using hx)
    have hLn : L ≠ nm := fun q => by obtain ⟨_, _, _, e, d, _⟩ := F1.ns; obtain ⟨_, e', _, _, d'⟩ := y1; rw [q, e'] at e; cases e; rw [d] at d'; cases d'
    have O1 : ((h.hide nm).hide L).get? L = none := hideOff _ L
    have O2 : ((h.hide nm).hide L).get? nm = none := by rw [Heap.hide_ne _ (Ne.symm hLn)]; exact hideOff _ _
    have F2 : Fx ((h.hide nm).hide L) L h _ := ⟨F1.ns, fun b o e => Heap.of_hide (Heap.of_hide e)⟩
    have hs : Sub s.heap ((h.hide nm).hide L) := sub_hide (sub_hide F1.keep nmn) O
    have G1 := G.up hs
    refine asg_cons (stL F2 O1 ?_)
    intro h2 F5 S5
    refine asg_cons (stL F5 O1 ?_)
    intro h6 F6 S6
    refine asg_nil ?_
    have y6 := lst_same S6 F5.ns (lst_same S5 F2.ns y1)
    try dsimp only
    have k0 : 0 ≤ (i : Int).fmod 6 := Int.fmod_nonneg_of_pos _ (by decide)
    have k1 : (i : Int).fmod 6 < 6 := Int.fmod_lt_of_pos _ (by decide)
    walk_at "go"
    try dsimp only
    generalize (i : Int).fmod 6 = k at k0 k1 ⊢
    obtain ⟨z0, t0, ez⟩ := y2.get (k := k.toNat) (by walk_at "om")
    with_reducible refine wpAny_getItem_list y6 k0 (by walk_at "om") (x := .int z0 t0) (by simpa using ez) ?_
    walk_at "go"
    try dsimp only
    have ul : us.length = 6 := by obtain ⟨zs, q1, q2⟩ := y2; rw [q2.length, q1]
    with_reducible refine wpAny_setItem_list y6 k0 (by walk_at "om") (by simp [ul]; walk_at "om") ?_
    intro h7 y7 S7
    have F7 := F6.same S7 O2 hLn
    walk_at "go"
    have e7 : (us.toArray).setIfInBounds k.toNat (.int (z0 + z.fmod 3) (tk + 1 + 1 + 1 + 1 + 1 + 1)) = (us.set k.toNat (.int (z0 + z.fmod 3) (tk + 1 + 1 + 1 + 1 + 1 + 1))).toArray := by simp
    rw [e7] at y7
    try dsimp only
    refine ⟨⟨_, _, _, _, rfl, by walk_at "om", Fx.forget _ ⟨F7.ns, fun b o q => F7.keep _ _ (hs _ _ q)⟩ ?_, y7, y2.set _ _ _⟩, fun b hb o q => F7.keep _ _ (hide_in (hide_in q ?_) ?_)⟩
    · walk_at "forget"
    · simp at hb
      rcases hb with hb | hb | hb <;> (replace hb := hb.symm; subst hb)
      · exact neN (by walk_at "om")
      · exact neN (by walk_at "om")
      · exact Ne.symm nns
    · simp at hb
      rcases hb with hb | hb | hb <;> (replace hb := hb.symm; subst hb)
      · exact neN (by walk_at "om")
      · exact neN (by walk_at "om")
      · intro q; rw [q] at b1; obtain ⟨_, e, _, _, d⟩ := l3; rw [q] at e; obtain ⟨_, _, _, e', d', _⟩ := F3.ns; rw [e'] at e; cases e; rw [d'] at d; cases d
  · rintro s₂ hJJ
    try walk_at "hideN"
    obtain ⟨h, tk, v, us, rfl, h1, F1, y1, y2⟩ := hJJ
    walk_at "un"
    refine wpAny_execs_nil ?_
    walk_at "un"
    walk1
    walk_at "hideN"
    walk1
    refine Mine.comp_eval (X := []) ?_
    walk1
    try dsimp only
    have ul : us.length = 6 := by obtain ⟨zs, q1, q2⟩ := y2; rw [q2.length, q1]
    refine src_list hh' y1 (fun vs _ => ∃ ns : List Nat, IntsAre vs (ns.map Int.ofNat) ∧ ns.length = vs.length ∧ ∀ n ∈ ns, n < 3) (show us.toArray.size ≤ 1000 by rw [List.size_toArray]; walk_at "om") (XOk.nil _) (G.up F1.keep).lt94 ⟨[], .nil, rfl, fun _ q => absurd q (List.not_mem_nil)⟩ (fun _ _ _ q _ => q) ?_ ?_
    · intro C vs v s₃ m hlt hC hv hU K hns hm
      obtain ⟨zs, q1, q2⟩ := y2
      obtain ⟨z, tz, rfl⟩ := ints_get q2 (k := vs.length) (v := v) (by simpa using hv)
      have F5 : Fx h C s₃.heap (fun y => if y = Str.ofString "y" then some (.int z tz) else m y) := Fx.cast ⟨hns, fun b o e => K.heap b o (by simp) e⟩ fun y => by
        split
        · rename_i q; rw [q]; exact hm
        · rfl
      walk_at "go"
      try dsimp only
      obtain ⟨ns, u1, u2, u3⟩ := hU
      have k0 : 0 ≤ z.fmod 3 := Int.fmod_nonneg_of_pos _ (by decide)
      have k1 : z.fmod 3 < 3 := Int.fmod_lt_of_pos _ (by decide)
      walk_at "un"
      refine ⟨Kp.of (fun _ _ e => e) (by walk_at "om"), ns ++ [(z.fmod 3).toNat], ?_, by simp [u2], ?_⟩
      · rw [List.map_append]
        refine u1.append ?_
        have e : [(z.fmod 3).toNat].map Int.ofNat = [z.fmod 3] := by
          show [((z.fmod 3).toNat : Int)] = _
          rw [Int.toNat_of_nonneg k0]
        rw [e]
        exact .cons _ _ .nil
      · intro n hn
        rcases List.mem_append.mp hn with q | q
        · exact u3 n q
        · rw [List.mem_singleton.mp q]; walk_at "om"
    · intro D C s' m' us' hD hC hDC hns hpl hlen hU K h' S
      obtain ⟨ns, u1, u2, u3⟩ := hU
      have hCb : ∀ b o, h.get? b = some o → b ≠ C := fun b o e q => by rw [q, hC] at e; cases e
      have hlen' : us'.length = 6 := by rw [hlen, List.size_toArray, ul]
      walk_at "un"
      refine hR D _ us' ns ?_ (F1.none hD) (let ⟨n, e⟩ := hpl; ⟨n, S.extBut _ _ hDC e⟩) u1 (by walk_at "om") u3
      have K0 : Kp [] s { s with heap := h, toks := tk } := ⟨fun b o _ e => F1.keep _ _ e, id, fun t => t.keep F1.keep, rfl, rfl, h1⟩
      refine K0.trans (K.grow [] (fun b o _ hn e => ?_) (by simp) (by simp) (by simp) (Nat.le_refl _))
      refine S.extBut _ _ ?_ e
      cases q : h.get? b with
      | none => exact absurd q hn
      | some o => exact hCb _ _ q

end
section
/- Sub -/
noncomputable def lowM (c : Nat) : Nat := if c = 65 then 97 else c
noncomputable def subM (x y : Nat) : Int := if x == y then 0 else if lowM x == lowM y then 1 else 2
noncomputable abbrev Let (x : Nat) : Prop := x = 65 ∨ x = 97 ∨ x = 98
theorem lowerF {prog : Program} {w : World} {A : Around} {E : Value → Shared → Prop} {s : Shared} {Q : Value → Shared → Prop} {x : Nat} {t : Tok} (hx : Let x) (h : Q (.str ⟨#[lowM x]⟩ s.toks) { s with toks := s.toks + 1 }) :
    wpAny (model prog w) A (call (.builtin "str.lower") [.str ⟨#[x]⟩ t]) Q E s := by
  have e : Txt.lower ⟨#[x]⟩ = ⟨#[lowM x]⟩ := by rcases hx with rfl | rfl | rfl <;> decide +kernel
  refine SC.lower ?_ ?_
  · rw [e]; unfold Builtin.Str.tooLong; rw [sizeLine_eq]; exact decide_eq_false (show ¬ ((1 : Nat) > 16777216) by walk_at "om")
  · rw [e]; exact h
local macro_rules | `(tactic| walk_at "call builtin:str.lower") => `(tactic| (refine Mine.lowerF (by assumption) ?_; try dsimp only))

theorem sub_cost_spec {w : World} {A : Around} {s : Shared} {R : Result → Shared → Prop} {x y : Nat} {t u : Tok}
  (C : Cx w A s 1) (hx : Let x) (hy : Let y)
  (hR : ∀ (t' : Tok) h' tk', s.toks ≤ tk' → Sub s.heap h' → R (.ok (.ret (.int (subM x y) t'))) { s with heap := h', toks := tk' }) :
  codeAny (model Challenge.rw_xg0051_01.row.prog w) A (.call (.ref 173) ⟨[.str ⟨#[x]⟩ t, .str ⟨#[y]⟩ u], []⟩) R s := by
  have G := C.G
  have hd' := C.hd
  have hh := C.hh
  refine' enter [("ch_a", .str ⟨#[x]⟩ t), ("ch_b", .str ⟨#[y]⟩ u)] s.heap G.k G.nolimit (by first | exact fun _ _ e => e | assumption) ?k1 ?k2 ?k3 ?k4 ?k5 ?_ ?c2 ?c3 ?c4 ?c5
  case k1 => k_is
  case k2 => k_is
  case k3 => walk_at "om"
  case k4 => first | exact BindsTo.of_eq rfl | exact binds_K G.k rfl (by k_is) rfl rfl rfl
  case k5 => exact locs rfl
  case c2 => decide
  case c3 => exact rfl
  case c4 => exact rfl
  case c5 => exact rfl
  intro L h' A' tk0 hL hkeep F O eh ed eu htk
  have hh' : A'.handled = none := eh.trans hh
  walk_at "go"
  all_goals (try dsimp only at *)
  · rename_i hc
    rw [str1_beq] at hc
    have e : subM x y = 0 := by unfold subM; rw [if_pos hc]
    have := hR tk0 h' (tk0 + 1) (by walk_at "om") hkeep
    rw [e] at this
    exact this
  · rename_i hc hc2
    rw [str1_beq] at hc hc2
    have e : subM x y = 1 := by unfold subM; rw [if_neg (by rw [hc]; decide), if_pos hc2]
    rw [← e]
    exact hR _ _ _ (by walk_at "om") hkeep
  · rename_i hc hc2
    rw [str1_beq] at hc hc2
    have e : subM x y = 2 := by unfold subM; rw [if_neg (by rw [hc]; decide), if_neg (by rw [hc2]; decide)]
    rw [← e]
    exact hR _ _ _ (by walk_at "om") hkeep

end
section
/- Txt -/
section
variable {prog : Program} {w : World} {A : Around} {E : Value → Shared → Prop} {s : Shared} {g : Heap} {L : Addr} {m : Str → Option Value} {Q : Value → Shared → Prop} {value slice : Expr}
theorem strSliceF {x : Str} {t : Tok} {p q : Option (Int × Tok)} {r : List Nat} (F : Fx g L s.heap m) (e : StrLaws.sliceText x (p.map (·.1)) (q.map (·.1)) = ⟨r.toArray⟩) (hl : r.length ≤ 1000)
    (h : ∀ h' t' k, Fx g L h' m → Sub s.heap h' → s.toks ≤ k → Q (.str ⟨r.toArray⟩ t') { s with heap := h', toks := k })
    (hs : subscripted slice false (.str x t) (.ref s.heap.objs.size) = operate [.ref s.heap.objs.size, .str x t] (getItem (.str x t) (.ref s.heap.objs.size)))
    (ht : ∀ r, letTemporaryGo value (.str x t) r = pure ()) :
    wpAny (model prog w) A (subscriptTail value slice (.str x t) (.ref s.heap.objs.size)) Q E { s with heap := s.heap.push { cls := .type "slice", data := .fields #[partValue p, partValue q, .none] } } := by
  refine subscriptTail_ops (typeIs_str _ _ _) PySem.F.slot_str_getitem.lookup (wpAny_getItem_str_slice (l := p) (u := q) (st := none) ⟨_, Heap.get?_push_size _ rfl, rfl, rfl⟩ rfl ?_) hs ht
  have k : Sub s.heap (s.heap.push { cls := .type "slice", data := .fields #[partValue p, partValue q, .none] }) := fun b o e => Heap.get?_push_of_some _ e
  unfold StrLaws.sliceText at e
  unfold sliceMade slicePicked
  simp only [Option.map_none, Option.getD_none]
  split at e
  · rename_i c
    rw [if_pos c]
    subst e
    exact h _ t s.toks (F.up k) k (Nat.le_refl _)
  · rename_i c
    rw [if_neg c, e]
    refine ⟨?_, h _ s.toks (s.toks + 1) (F.up k) k (Nat.le_succ _)⟩
    show r.toArray.size ≤ sizeLine
    rw [sizeLine_eq]; simp; walk_at "om"

theorem fromF {l : List Nat} {t : Tok} {i : Int} {ti : Tok} (F : Fx g L s.heap m) (h0 : 0 ≤ i) (h1 : i ≤ l.length) (hl : l.length ≤ 1000)
    (h : ∀ h' t' k, Fx g L h' m → Sub s.heap h' → s.toks ≤ k → Q (.str ⟨(l.drop i.toNat).toArray⟩ t') { s with heap := h', toks := k })
    (hs : subscripted slice false (.str ⟨l.toArray⟩ t) (.ref s.heap.objs.size) = operate [.ref s.heap.objs.size, .str ⟨l.toArray⟩ t] (getItem (.str ⟨l.toArray⟩ t) (.ref s.heap.objs.size)) := by with_unfolding_all rfl)
    (ht : ∀ r, letTemporaryGo value (.str ⟨l.toArray⟩ t) r = pure () := by intro _; with_unfolding_all rfl) :
    wpAny (model prog w) A (subscriptTail value slice (.str ⟨l.toArray⟩ t) (.ref s.heap.objs.size)) Q E { s with heap := s.heap.push { cls := .type "slice", data := .fields #[.int i ti, .none, .none] } } :=
  strSliceF (p := some (i, ti)) (q := none) (r := l.drop i.toNat) F (by
    show StrLaws.sliceText ⟨l.toArray⟩ (some i) none = _
    rw [StrLaws.sliceText_from (x := ⟨l.toArray⟩) ⟨h0, h1⟩, List.take_of_length_le (by simp; walk_at "om")]) (by simp; walk_at "om") h hs ht
theorem toNegF {l : List Nat} {t : Tok} {i : Int} {ti : Tok} (F : Fx g L s.heap m) (h0 : i < 0) (h1 : -(l.length : Int) ≤ i) (hl : l.length ≤ 1000)
    (h : ∀ h' t' k, Fx g L h' m → Sub s.heap h' → s.toks ≤ k → Q (.str ⟨(l.take (l.length + i).toNat).toArray⟩ t') { s with heap := h', toks := k })
    (hs : subscripted slice false (.str ⟨l.toArray⟩ t) (.ref s.heap.objs.size) = operate [.ref s.heap.objs.size, .str ⟨l.toArray⟩ t] (getItem (.str ⟨l.toArray⟩ t) (.ref s.heap.objs.size)) := by with_unfolding_all rfl)
    (ht : ∀ r, letTemporaryGo value (.str ⟨l.toArray⟩ t) r = pure () := by intro _; with_unfolding_all rfl) :
    wpAny (model prog w) A (subscriptTail value slice (.str ⟨l.toArray⟩ t) (.ref s.heap.objs.size)) Q E { s with heap := s.heap.push { cls := .type "slice", data := .fields #[.none, .int i ti, .none] } } := by
  have hl' : (⟨l.toArray⟩ : Str).length = l.length := by simp [Str.length]
  refine strSliceF (p := none) (q := some (i, ti)) F (r := l.take (l.length + i).toNat) ?_ (by simp; walk_at "om") h hs ht
  have e := StrLaws.sliceText_to_neg (x := ⟨l.toArray⟩) (j := i) h0 (by rw [hl']; exact h1)
  show StrLaws.sliceText ⟨l.toArray⟩ none (some i) = _
  rw [e, hl']
  congr 3
  walk_at "om"
theorem allF {l : List Nat} {t : Tok} (F : Fx g L s.heap m) (hl : l.length ≤ 1000)
    (h : ∀ h' t' k, Fx g L h' m → Sub s.heap h' → s.toks ≤ k → Q (.str ⟨l.toArray⟩ t') { s with heap := h', toks := k })
    (hs : subscripted slice false (.str ⟨l.toArray⟩ t) (.ref s.heap.objs.size) = operate [.ref s.heap.objs.size, .str ⟨l.toArray⟩ t] (getItem (.str ⟨l.toArray⟩ t) (.ref s.heap.objs.size)) := by with_unfolding_all rfl)
    (ht : ∀ r, letTemporaryGo value (.str ⟨l.toArray⟩ t) r = pure () := by intro _; with_unfolding_all rfl) :
    wpAny (model prog w) A (subscriptTail value slice (.str ⟨l.toArray⟩ t) (.ref s.heap.objs.size)) Q E { s with heap := s.heap.push { cls := .type "slice", data := .fields #[.none, .none, .none] } } := by
  refine strSliceF (p := none) (q := none) F (r := l) ?_ hl h hs ht
  show StrLaws.sliceText ⟨l.toArray⟩ none none = _
  have e : StrLaws.sliceText ⟨l.toArray⟩ none none = StrLaws.sliceText ⟨l.toArray⟩ (some 0) none := by unfold StrLaws.sliceText; rw [StrLaws.sliceIdx_none_lo]
  rw [e]
  rw [StrLaws.sliceText_from (x := ⟨l.toArray⟩) (i := 0) ⟨by walk_at "om", by simp⟩, List.take_of_length_le (by simp)]
  simp

theorem itemF {l : List Nat} {t : Tok} {i : Int} {u : Tok} {c : Nat} (h1 : -(l.length : Int) ≤ i) (h2 : i < l.length) (hl : l.length ≤ 1000) (hc : l[(if i < 0 then i + l.length else i).toNat]? = some c)
    (h : Q (.str ⟨#[c]⟩ s.toks) { s with toks := s.toks + 1 })
    (hs : subscripted slice false (.str ⟨l.toArray⟩ t) (.int i u) = operate [.str ⟨l.toArray⟩ t, .int i u] (getItem (.str ⟨l.toArray⟩ t) (.int i u)) := by with_unfolding_all rfl)
    (ht : ∀ r, letTemporaryGo value (.str ⟨l.toArray⟩ t) r = pure () := by intro _; with_unfolding_all rfl) :
    wpAny (model prog w) A (subscriptTail value slice (.str ⟨l.toArray⟩ t) (.int i u)) Q E s := by
  have e63 : (2 : Int) ^ 63 = 9223372036854775808 := by decide
  refine subscriptTail_ops (typeIs_str _ _ _) PySem.F.slot_str_getitem.lookup (PySem.P.getItem_str (c := c) ?_ ?_ h) hs ht
  · simp only [Bool.or_eq_false_iff, decide_eq_false_iff_not]; walk_at "om"
  · have hl' : (⟨l.toArray⟩ : Str).length = l.length := by simp [Str.length]
    rw [hl']
    unfold seqIndex?
    split at hc
    · rename_i q
      simp only [q, if_true]
      rw [if_pos (by simp; walk_at "om")]
      simpa using hc
    · rename_i q
      simp only [q, if_false]
      rw [if_pos (by simp; walk_at "om")]
      simpa using hc
end
theorem truthyF {prog : Program} {w : World} {A : Around} {E : Value → Shared → Prop} {s : Shared} {Q : Bool → Shared → Prop} {l : List Nat} {t : Tok} (hl : l.length ≤ 1000) (h1 : 0 < l.length → Q true { s with toks := s.toks + 1 + 1 }) (h2 : l.length = 0 → Q false { s with toks := s.toks + 1 + 1 }) :
    wpAny (model prog w) A (truthy (.str ⟨l.toArray⟩ t)) Q E s := by
  have hl' : (⟨l.toArray⟩ : Str).length = l.length := by simp [Str.length]
  refine PySem.P.truthy_str ?_ ?_
  · have e63 : (2 : Int) ^ 63 = 9223372036854775808 := by decide
    rw [hl']; walk_at "om"
  · rw [hl']
    by_cases q : l.length = 0
    · rw [show ((l.length : Int) != 0) = false by simp [q]]; exact h2 q
    · rw [show ((l.length : Int) != 0) = true by rw [bne_iff_ne]; walk_at "om"]; exact h1 (by walk_at "om")
theorem while_rule {prog : Program} {w : World} {A : Around} {E : Value → Shared → Prop} {s : Shared} {env : Env} {test : Expr} {body : List Stmt} {pos : Pos} {Q : Flow → Shared → Prop} (J : Nat → Shared → Prop) (Done : Shared → Prop) (n : Nat) (h0 : J n s)
    (turn : ∀ n s, J n s → wpAny (model prog w) A (PySem.isTrue test env (eval test env)) (fun b s₂ => if b = true then wpAny (model prog w) A (execs body env) (fun f s₃ => match f with
        | .next | .cont => ∃ m, m < n ∧ J m s₃
        | _ => False) (fun _ _ => False) s₂ else Done s₂) (fun _ _ => False) s)
    (rest : ∀ s', Done s' → Q .next s') : wpAny (model prog w) A (exec (.While test body [] pos) env) Q E s := by
  refine wpAny_While (codeAny_mono (codeAny_whileLoop (R := fun r s' => r = .ok .next ∧ Done s') J (fun n s hJ => wpAny_mono (turn n s hJ) (fun b s₂ z => ?_) fun _ _ x => x.elim) n h0) fun r s' z => ?_)
  · cases b with
    | true =>
      simp only [if_true] at z ⊢
      refine wpAny_mono z (fun f s₃ z => ?_) fun _ _ x => x.elim
      cases f with
      | next => exact z
      | cont => exact z
      | brk => exact z.elim
      | ret v => exact z.elim
    | false =>
      simp only [Bool.false_eq_true, if_false] at z ⊢
      exact wpAny_execs_nil ⟨rfl, z⟩
  · obtain ⟨rfl, hd⟩ := z
    exact rest s' hd
section
variable {prog : Program} {w : World} {A : Around} {E : Value → Shared → Prop} {s : Shared} {Q : Value → Shared → Prop} {value slice : Expr}
theorem itemNat {l : List Nat} {t : Tok} {i : Nat} {u : Tok} (h2 : i < l.length) (hl : l.length ≤ 1000)
    (h : Q (.str ⟨#[l[i]]⟩ s.toks) { s with toks := s.toks + 1 })
    (hs : subscripted slice false (.str ⟨l.toArray⟩ t) (.int (i : Nat) u) = operate [.str ⟨l.toArray⟩ t, .int (i : Nat) u] (getItem (.str ⟨l.toArray⟩ t) (.int (i : Nat) u)) := by with_unfolding_all rfl)
    (ht : ∀ r, letTemporaryGo value (.str ⟨l.toArray⟩ t) r = pure () := by intro _; with_unfolding_all rfl) :
    wpAny (model prog w) A (subscriptTail value slice (.str ⟨l.toArray⟩ t) (.int (i : Nat) u)) Q E s :=
  itemF (by walk_at "om") (by walk_at "om") hl (by rw [if_neg (by walk_at "om"), Int.toNat_natCast]; exact List.getElem?_eq_getElem h2) h hs ht
theorem itemNeg {l : List Nat} {t : Tok} {j : Int} {k : Nat} {u : Tok} (hj : j = -(k : Int) - 1) (h2 : k < l.length) (hl : l.length ≤ 1000)
    (h : Q (.str ⟨#[l[l.length - 1 - k]]⟩ s.toks) { s with toks := s.toks + 1 })
    (hs : subscripted slice false (.str ⟨l.toArray⟩ t) (.int j u) = operate [.str ⟨l.toArray⟩ t, .int j u] (getItem (.str ⟨l.toArray⟩ t) (.int j u)) := by with_unfolding_all rfl)
    (ht : ∀ r, letTemporaryGo value (.str ⟨l.toArray⟩ t) r = pure () := by intro _; with_unfolding_all rfl) :
    wpAny (model prog w) A (subscriptTail value slice (.str ⟨l.toArray⟩ t) (.int j u)) Q E s :=
  itemF (by walk_at "om") (by walk_at "om") hl (by rw [if_pos (by walk_at "om"), show (j + l.length).toNat = l.length - 1 - k by walk_at "om"]; exact List.getElem?_eq_getElem (by walk_at "om")) h hs ht
end
theorem truthyI {prog : Program} {w : World} {A : Around} {E : Value → Shared → Prop} {s : Shared} {Q : Bool → Shared → Prop} {i : Int} {t : Tok} (h1 : i ≠ 0 → Q true s) (h2 : i = 0 → Q false s) :
    wpAny (model prog w) A (truthy (.int i t)) Q E s := by
  refine PySem.P.truthy_int ?_
  by_cases q : i = 0
  · rw [show (i != 0) = false by simp [q]]; exact h2 q
  · rw [show (i != 0) = true by simp [q]]; exact h1 q
section
variable {M : Model} {A : Around} {E : Value → Shared → Prop} {s : Shared}
theorem gS1 {a b p c d e Q} (h : wpAny M A (subscriptTail a (.Slice (some b) none none p) (Value.str c d) (Value.ref e)) Q E s) : wpAny M A (subscriptTail a (.Slice (some b) none none p) (Value.str c d) (Value.ref e)) Q E s := h
theorem gS2 {a b p c d e Q} (h : wpAny M A (subscriptTail a (.Slice none (some b) none p) (Value.str c d) (Value.ref e)) Q E s) : wpAny M A (subscriptTail a (.Slice none (some b) none p) (Value.str c d) (Value.ref e)) Q E s := h
theorem gS3 {a b p c d e Q} (h : wpAny M A (subscriptTail a (.Slice none b none p) (Value.str c d) (Value.ref e)) Q E s) : wpAny M A (subscriptTail a (.Slice none b none p) (Value.str c d) (Value.ref e)) Q E s := h
theorem gIn {a b c d e f Q} (h : wpAny M A (subscriptTail a b (Value.str c d) (Value.int (Nat.cast e) f)) Q E s) : wpAny M A (subscriptTail a b (Value.str c d) (Value.int (Nat.cast e) f)) Q E s := h
theorem gIb {a b c d e f Q} (h : wpAny M A (subscriptTail a b (Value.str c d) (Value.int e f)) Q E s) : wpAny M A (subscriptTail a b (Value.str c d) (Value.int e f)) Q E s := h
end

end
end Mine
local macro_rules | `(tactic| walk_at "subscriptTail Name Slice str ref") => `(tactic| (with_reducible refine Mine.gS1 ?_; refine Mine.fromF (by assumption) (by walk_at "om") (by walk_at "om") (by walk_at "om") ?_; intro h' t' tk' F' K' tk''; (try dsimp only at K' tk''); (try dsimp only)))
local macro_rules | `(tactic| walk_at "truthy str") => `(tactic| (refine Mine.truthyF (by (try simp only [List.length_drop, List.length_take]); walk_at "om") ?_ ?_ <;> intro hl' <;> (try simp only [Int.toNat_natCast, List.length_drop, List.length_take] at hl') <;> (try dsimp only) <;> (try first | rw [if_pos rfl] | rw [if_neg Bool.false_ne_true])))
local macro_rules | `(tactic| walk_at "subscriptTail Name Slice str ref") => `(tactic| (with_reducible refine Mine.gS3 ?_; refine Mine.allF (by assumption) (by walk_at "om") ?_; intro h' t' tk' F' K' tk''; (try dsimp only at K' tk''); (try dsimp only)))
local macro_rules | `(tactic| walk_at "subscriptTail Name Slice str ref") => `(tactic| (with_reducible refine Mine.gS2 ?_; refine Mine.toNegF (by assumption) (by walk_at "om") (by walk_at "om") (by walk_at "om") ?_; intro h' t' tk' F' K' tk''; (try dsimp only at K' tk''); (try dsimp only)))
local macro_rules | `(tactic| walk_at "subscriptTail Name Name str int") => `(tactic| (with_reducible refine Mine.gIn ?_; refine Mine.itemNat (by walk_at "om") (by walk_at "om") ?_; (try dsimp only)))
local macro_rules | `(tactic| walk_at "subscriptTail Name BinOp str int") => `(tactic| (with_reducible refine Mine.gIb ?_; refine Mine.itemNeg (by assumption) (by walk_at "om") (by walk_at "om") ?_; (try dsimp only)))
local macro_rules | `(tactic| walk_at "truthy int") => `(tactic| (refine Mine.truthyI ?_ ?_ <;> intro hz' <;> first | (exfalso; walk_at "om") | ((try dsimp only); (try first | rw [if_pos rfl] | rw [if_neg Bool.false_ne_true]))))
namespace Mine
section
/- Lev0 -/
noncomputable def preM : List Nat → List Nat → Nat
  | x :: a, y :: b => if x == y then preM a b + 1 else 0
  | _, _ => 0
theorem preM_le : ∀ (a b : List Nat), preM a b ≤ a.length ∧ preM a b ≤ b.length
  | [], _ => ⟨Nat.le_refl _, Nat.zero_le _⟩
  | _ :: _, [] => ⟨Nat.zero_le _, Nat.le_refl _⟩
  | x :: a, y :: b => by
    unfold preM
    have := preM_le a b
    split
    · simp; walk_at "om"
    · simp
theorem preM_step : ∀ (a b : List Nat) (i : Nat), i ≤ preM a b → (i < preM a b ↔ ∃ c, a[i]? = some c ∧ b[i]? = some c)
  | [], b, i, h => by simp [preM]
  | x :: a, [], i, h => by simp [preM]
  | x :: a, y :: b, i, h => by
    unfold preM at h ⊢
    cases i with
    | zero =>
      by_cases q : x = y
      · subst q; simp
      · have : (x == y) = false := by simp [q]
        rw [this]
        simp [q, eq_comm]
    | succ j =>
      by_cases q : (x == y) = true
      · rw [if_pos q] at h ⊢
        have := preM_step a b j (by walk_at "om")
        simp only [List.getElem?_cons_succ]
        rw [← this]; walk_at "om"
      · rw [if_neg q] at h; walk_at "om"


/-- the statements and the scope of a def in the fragment -/
noncomputable def stmtsAt (P : Params) (a : Addr) : List Stmt := match (Mine.heapK P).lookup a with
  | some o => (match o.data with
    | .func f => (match f.body with
      | .stmts b => b
      | _ => [])
    | _ => [])
  | none => []
noncomputable def funcAt (P : Params) (a : Addr) : Option FuncData := match (Mine.heapK P).lookup a with
  | some o => (match o.data with
    | .func f => some f
    | _ => none)
  | none => none
noncomputable def scopeAt (P : Params) (a : Addr) : Scope := match funcAt P a with
  | some f => f.scope
  | none => { kind := .function, names := [], isGenerator := false, isCoroutine := false }
noncomputable def qualAt (P : Params) (a : Addr) : Str := match funcAt P a with
  | some f => f.qualname
  | none => ⟨#[]⟩
noncomputable def codeAtV (P : Params) (a : Addr) : Value := match funcAt P a with
  | some f => f.code
  | none => .none
noncomputable def envAt (P : Params) (a : Addr) (L : Addr) : Env := envX (qualAt P a) (scopeAt P a) L a (codeAtV P a) []

noncomputable def mAB (a b : List Nat) (t u tm : Tok) (m : Str → Option Value) : Str → Option Value := fun y => if y = Str.ofString "b" then some (.str ⟨b.toArray⟩ u) else if y = Str.ofString "a" then some (.str ⟨a.toArray⟩ t) else if y = Str.ofString "max_cost" then some (.int 12 tm) else m y
noncomputable def sufM (a b : List Nat) : Nat := preM a.reverse b.reverse
theorem suf_step (a b : List Nat) (i : Nat) (h : i ≤ sufM a b) (ia : i < a.length) (ib : i < b.length) : i < sufM a b ↔ a[a.length - 1 - i]'(by walk_at "om") = b[b.length - 1 - i]'(by walk_at "om") := by
  unfold sufM at h ⊢
  rw [preM_step _ _ _ h]
  rw [List.getElem?_reverse ia, List.getElem?_reverse ib, List.getElem?_eq_getElem (by walk_at "om"), List.getElem?_eq_getElem (by walk_at "om")]
  constructor
  · rintro ⟨c, q1, q2⟩; exact Option.some.inj (q1.trans q2.symm)
  · intro q; exact ⟨_, rfl, by rw [q]⟩
theorem suf_le (a b : List Nat) : sufM a b ≤ a.length ∧ sufM a b ≤ b.length := by
  have := preM_le a.reverse b.reverse
  simpa [sufM] using this

theorem levB {w : World} {A : Around} {s : Shared} {g : Heap} {L : Nat} {Q : Flow → Shared → Prop} {m : Str → Option Value} {a b : List Nat} {t u tm : Tok}
  {trr : Sem Flow} (htr : trr = execs ((stmtsAt w.params 180).drop 5) (envAt w.params 180 L))
  (G : Gr w g) (hh : A.handled = none) (F : Fx g L s.heap (mAB a b t u tm m)) (O : g.get? L = none) (la : a.length ≤ 10) (lb : b.length ≤ 10) (h0 : 0 < s.toks)
  (rest : ∀ h tk t' u' m', s.toks ≤ tk → Fx g L h (mAB (a.take (a.length - sufM a b)) (b.take (b.length - sufM a b)) t' u' tm m') → wpAny (model Challenge.rw_xg0051_01.row.prog w) A (execs ((stmtsAt w.params 180).drop 9) (envAt w.params 180 L)) Q (fun _ _ => False) { s with heap := h, toks := tk }) :
  wpAny (model Challenge.rw_xg0051_01.row.prog w) A trr Q (fun _ _ => False) s := by
  subst htr
  have e1 : envAt w.params 180 L = envAt w.params 180 L := rfl
  conv at e1 => rhs; unfold envAt
  conv at e1 => rhs; arg 2; whnf
  conv at e1 => rhs; arg 5; whnf
  rw [e1] at rest ⊢
  clear e1
  unfold mAB at F
  obtain ⟨sa, sb⟩ := suf_le a b
  walk_at "un"
  refine wpAny_execs_cons ?_
  walk_at "go"
  rename_i h1 F1 S1
  refine while_rule (fun n s' => Ex4 fun i h tk tq => And5 (s' = { s with heap := h, toks := tk }) (s.toks ≤ tk) (i ≤ sufM a b) (n = sufM a b - i) (Fx g L h (fun y => if y = Str.ofString "post" then some (.int (-(i : Nat) : Int) tq) else mAB a b t u tm m y)))
        (fun s' => ∃ h tk tq, s' = { s with heap := h, toks := tk } ∧ s.toks ≤ tk ∧ 
        Fx g L h (fun y => if y = Str.ofString "post" then some (.int (-(sufM a b : Nat) : Int) tq) else mAB a b t u tm m y)) (sufM a b) ⟨0, h1, _, _, rfl, by walk_at "om", Nat.zero_le _, rfl, F1⟩ ?_ ?_
  · rintro n s' hJJ
    try walk_at "hideN"
    obtain ⟨i, h2, tk, tq, rfl, q1, q2, rfl, F2⟩ := hJJ
    unfold mAB at F2
    have hj : -(i : Int) - 1 = -(i : Int) - 1 := rfl
    rcases Nat.eq_zero_or_pos i with z | z
    · walk_at "go"
      all_goals (try dsimp only)
      · rename_i hc hz Fz _
        have ia : i < a.length := by walk_at "om"
        have ib : i < b.length := by walk_at "om"
        rw [str1_beq, beq_iff_eq] at hc
        have hi := (suf_step a b i q2 ia ib).mpr hc
        exact ⟨sufM a b - (i + 1), by walk_at "om", i + 1, hz, _, _, rfl, by walk_at "om", hi, rfl, Fx.cast Fz fun y => by
            dsimp only [mAB]
            split
            · rw [show -(i : Int) - 1 = -((i + 1 : Nat) : Int) by walk_at "om"]
            · rename_i q; simp only [q, if_false]⟩
      · rename_i hc
        have ia : i < a.length := by walk_at "om"
        have ib : i < b.length := by walk_at "om"
        rw [str1_beq, beq_eq_false_iff_ne] at hc
        have hi : i = sufM a b := by
          rcases Nat.lt_or_ge i (sufM a b) with q | q
          · exact absurd ((suf_step a b i q2 ia ib).mp q) hc
          · walk_at "om"
        rw [← hi]
        exact ⟨_, _, _, rfl, by walk_at "om", by assumption⟩
      · have hi : i = sufM a b := by walk_at "om"
        rw [← hi]
        exact ⟨_, _, _, rfl, by walk_at "om", by assumption⟩
      · have hi : i = sufM a b := by walk_at "om"
        rw [← hi]
        exact ⟨_, _, _, rfl, by walk_at "om", by assumption⟩
    · walk_at "go"
      all_goals (try dsimp only)
      · rename_i hc hz Fz _
        have ia : i < a.length := by walk_at "om"
        have ib : i < b.length := by walk_at "om"
        rw [str1_beq, beq_iff_eq] at hc
        have hi := (suf_step a b i q2 ia ib).mpr hc
        exact ⟨sufM a b - (i + 1), by walk_at "om", i + 1, hz, _, _, rfl, by walk_at "om", hi, rfl, Fx.cast Fz fun y => by
            dsimp only [mAB]
            split
            · rw [show -(i : Int) - 1 = -((i + 1 : Nat) : Int) by walk_at "om"]
            · rename_i q; simp only [q, if_false]⟩
      · rename_i hc
        have ia : i < a.length := by walk_at "om"
        have ib : i < b.length := by walk_at "om"
        rw [str1_beq, beq_eq_false_iff_ne] at hc
        have hi : i = sufM a b := by
          rcases Nat.lt_or_ge i (sufM a b) with q | q
          · exact absurd ((suf_step a b i q2 ia ib).mp q) hc
          · walk_at "om"
        rw [← hi]
        exact ⟨_, _, _, rfl, by walk_at "om", by assumption⟩
      · have hi : i = sufM a b := by walk_at "om"
        rw [← hi]
        exact ⟨_, _, _, rfl, by walk_at "om", by assumption⟩
      · have hi : i = sufM a b := by walk_at "om"
        rw [← hi]
        exact ⟨_, _, _, rfl, by walk_at "om", by assumption⟩
  · rintro s' hJJ
    try walk_at "hideN"
    obtain ⟨h2, tk, tq, rfl, q1, F2⟩ := hJJ
    unfold mAB at F2
    rcases Nat.eq_zero_or_pos (sufM a b) with z | z
    · repeat' (first | ((fail_if_success (with_reducible show wpAny _ _ (execs (Stmt.If _ _ _ _ :: _) _) _ _ _)); walk_at "one"))
      try dsimp only
      rename_i z1 a1 ta a3 a4 a5 a6 a7 a8 a9 z2 b1 tb b3 b4 b5 b6 b7 Fz b9
      rw [z, Nat.sub_zero, Nat.sub_zero, List.take_length, List.take_length] at rest
      refine rest _ _ ta tb (fun y => if y = Str.ofString "post" then some (.int (-(sufM a b : Nat) : Int) tq) else m y) (by walk_at "om") (Fx.cast Fz fun y => ?_)
      dsimp only [mAB]
      repeat' split
      all_goals first | rfl | (simp_all; done) | (subst_vars; contradiction)
    · repeat' (first | ((fail_if_success (with_reducible show wpAny _ _ (execs (Stmt.If _ _ _ _ :: _) _) _ _ _)); walk_at "one"))
      try dsimp only
      rename_i z1 a1 ta a3 a4 a5 a6 a7 a8 a9 z2 b1 tb b3 b4 b5 b6 b7 Fz b9
      have ea : ((a.length : Int) + -(sufM a b : Nat)).toNat = a.length - sufM a b := by walk_at "om"
      have eb : ((b.length : Int) + -(sufM a b : Nat)).toNat = b.length - sufM a b := by walk_at "om"
      rw [ea, eb] at Fz
      refine rest _ _ ta tb (fun y => if y = Str.ofString "post" then some (.int (-(sufM a b : Nat) : Int) tq) else m y) (by walk_at "om") (Fx.cast Fz fun y => ?_)
      dsimp only [mAB]
      repeat' split
      all_goals first | rfl | (simp_all; done) | (subst_vars; contradiction)

end
section
/- Lev1 -/
theorem levA {w : World} {A : Around} {s : Shared} {g : Heap} {L : Nat} {Q : Flow → Shared → Prop} {m : Str → Option Value} {a b : List Nat} {t u tm : Tok}
  {trr : Sem Flow} (htr : trr = execs ((stmtsAt w.params 180).drop 1) (envAt w.params 180 L))
  (G : Gr w g) (hh : A.handled = none) (F : Fx g L s.heap (mAB a b t u tm m)) (O : g.get? L = none) (la : a.length ≤ 10) (lb : b.length ≤ 10) (h0 : 0 < s.toks)
  (rest : ∀ h tk t' u' m', s.toks ≤ tk → Fx g L h (mAB (a.drop (preM a b)) (b.drop (preM a b)) t' u' tm m') → wpAny (model Challenge.rw_xg0051_01.row.prog w) A (execs ((stmtsAt w.params 180).drop 5) (envAt w.params 180 L)) Q (fun _ _ => False) { s with heap := h, toks := tk }) :
  wpAny (model Challenge.rw_xg0051_01.row.prog w) A trr Q (fun _ _ => False) s := by
  subst htr
  have e1 : envAt w.params 180 L = envAt w.params 180 L := rfl
  conv at e1 => rhs; unfold envAt
  conv at e1 => rhs; arg 2; whnf
  conv at e1 => rhs; arg 5; whnf
  rw [e1] at rest ⊢
  clear e1
  unfold mAB at F
  obtain ⟨pa, pb⟩ := preM_le a b
  walk_at "un"
  refine wpAny_execs_cons ?_
  walk_at "go"
  rename_i h1 F1 S1
  refine while_rule (fun n s' => Ex4 fun i h tk tp => And5 (s' = { s with heap := h, toks := tk }) (s.toks ≤ tk) (i ≤ preM a b) (n = preM a b - i) (Fx g L h (fun y => if y = Str.ofString "pre" then some (.int (i : Nat) tp) else mAB a b t u tm m y)))
        (fun s' => ∃ h tk tp, s' = { s with heap := h, toks := tk } ∧ s.toks ≤ tk ∧ 
        Fx g L h (fun y => if y = Str.ofString "pre" then some (.int (preM a b : Nat) tp) else mAB a b t u tm m y)) (preM a b) ⟨0, h1, _, _, rfl, by walk_at "om", Nat.zero_le _, rfl, F1⟩ ?_ ?_
  · rintro n s' hJJ
    try walk_at "hideN"
    obtain ⟨i, h2, tk, tp, rfl, q1, q2, rfl, F2⟩ := hJJ
    unfold mAB at F2
    have step := preM_step a b i q2
    walk_at "go"
    all_goals (try dsimp only)
    · rename_i hc hz Fz _
      have ia : i < a.length := by walk_at "om"
      have ib : i < b.length := by walk_at "om"
      rw [str1_beq, beq_iff_eq] at hc
      have hi := step.mpr ⟨a[i], List.getElem?_eq_getElem ia, by rw [hc]; exact List.getElem?_eq_getElem ib⟩
      exact ⟨preM a b - (i + 1), by walk_at "om", i + 1, hz, _, _, rfl, by walk_at "om", hi, rfl, Fx.cast Fz fun y => by
          dsimp only [mAB]
          split
          · rfl
          · rename_i q; simp only [q, if_false]⟩
    · rename_i hc
      have ia : i < a.length := by walk_at "om"
      have ib : i < b.length := by walk_at "om"
      rw [str1_beq, beq_eq_false_iff_ne] at hc
      have hi : i = preM a b := by
        rcases Nat.lt_or_ge i (preM a b) with q | q
        · obtain ⟨c, q1, q2⟩ := step.mp q
          rw [List.getElem?_eq_getElem ia] at q1
          rw [List.getElem?_eq_getElem ib] at q2
          exact absurd (Option.some.inj (q1.trans q2.symm)) hc
        · walk_at "om"
      rw [← hi]
      exact ⟨_, _, _, rfl, by walk_at "om", by assumption⟩
    · have hi : i = preM a b := by walk_at "om"
      rw [← hi]
      exact ⟨_, _, _, rfl, by walk_at "om", by assumption⟩
    · have hi : i = preM a b := by walk_at "om"
      rw [← hi]
      exact ⟨_, _, _, rfl, by walk_at "om", by assumption⟩
  · rintro s' hJJ
    try walk_at "hideN"
    obtain ⟨h2, tk, tp, rfl, q1, F2⟩ := hJJ
    unfold mAB at F2
    repeat' (first | ((fail_if_success (with_reducible show wpAny _ _ (execs (Stmt.Assign [Expr.Name (Str.ofString "post") _] _ _ :: _) _) _ _ _)); walk_at "one"))
    try dsimp only
    rename_i a1 ta a3 a4 a5 a6 a7 a8 a9 b1 tb b3 b4 b5 b6 b7 Fz b9
    rw [Int.toNat_natCast] at Fz
    refine rest _ _ ta tb (fun y => if y = Str.ofString "pre" then some (.int (preM a b : Nat) tp) else m y) (by walk_at "om") (Fx.cast Fz fun y => ?_)
    dsimp only [mAB]
    repeat' split
    all_goals first | rfl | (simp_all; done) | (subst_vars; contradiction)

end
section
/- Gen -/
section
variable {prog : Program} {w : World} {A : Around} {E : Value → Shared → Prop} {s : Shared} {g : Heap} {L : Addr} {m : Str → Option Value} {env : Env} {pos : Pos} {f : Value} {first : List Value} {Q : Value → Shared → Prop}
theorem callF {e : Expr} {rest : List Expr} (_F : Fx g L s.heap m) (G : Gr w g) (hk : keepIn (Mine.heapK w.params) f = true)
    (h : wpAny (model prog w) A (spliced (backTo pos (starEach (e :: rest) env))) (fun vs s₁ => Sub g s₁.heap ∧ wpAny (model prog w) A (call f (first ++ vs)) Q E s₁) E s)
    (he : starEach (e :: rest) env = (false, eval e env) :: starEach rest env := by k_dflt rfl) (hst : (backTo pos (starEach rest env)).any (·.1) = false := by k_dflt rfl) :
    wpAny (model prog w) A (callWith pos f first (backTo pos (starEach (e :: rest) env)) []) Q E s :=
  callWith_K G.k hk (wpAny_mono h (fun vs s₁ z => ⟨(G.up z.1).k, z.2⟩) fun _ _ x => x) he hst
theorem callF0 (F : Fx g L s.heap m) (G : Gr w g) (hk : keepIn (Mine.heapK w.params) f = true) (h : wpAny (model prog w) A (call f (first ++ [])) Q E s) :
    wpAny (model prog w) A (callWith pos f first (backTo pos (starEach [] env)) []) Q E s :=
  callWith_K0 (G.up F.keep).k hk h
end
section
variable {prog : Program} {w : World} {A : Around} {E : Value → Shared → Prop} {s : Shared} {Q : Value → Shared → Prop} {value slice : Expr}
theorem ints_at' {us : List Value} {zs : List Int} (h : IntsAre us zs) {k : Nat} (hk : k < zs.length) : ∃ t, us[k]? = some (.int (zs.getD k 0) t) := by
  induction h generalizing k with
  | nil => exact absurd hk (Nat.not_lt_zero _)
  | cons n t r ih =>
    cases k with
    | zero => exact ⟨t, rfl⟩
    | succ k => exact ih (Nat.lt_of_succ_lt_succ hk)
theorem ints_set {us : List Value} {zs : List Int} (h : IntsAre us zs) (k : Nat) (z : Int) (t : Tok) : IntsAre (us.set k (.int z t)) (zs.set k z) := by
  induction h generalizing k with
  | nil => exact .nil
  | cons n u r ih =>
    cases k with
    | zero => exact .cons _ _ r
    | succ k => exact .cons _ _ (ih k)
/-- an item of a list at a place in it -/
theorem itemL {l : Addr} {vs : List Value} {k : Nat} {u : Tok} {v : Value} (hl : s.heap.IsList l vs.toArray) (hk : vs[k]? = some v) (h63 : (k : Int) < 2 ^ 63) (h : Q v s)
    (hs : subscripted slice false (.ref l) (.int (k : Nat) u) = operate [.ref l, .int (k : Nat) u] (getItem (.ref l) (.int (k : Nat) u)) := by with_unfolding_all rfl) :
    wpAny (model prog w) A (subscriptTail value slice (.ref l) (.int (k : Nat) u)) Q E s :=
  tail_any hl.typeIs slot_list_getitem.lookup (wpAny_getItem_list hl (by walk_at "om") h63 (by simpa using hk) h) hs
end

end
end Mine
local macro_rules | `(tactic| walk_at "callWith ref") => `(tactic| with_reducible first | refine Mine.callF (by assumption) (by assumption) (by k_dflt k_is) ?_ | refine Mine.callF0 (by assumption) (by assumption) (by k_dflt k_is) ?_)
local macro_rules | `(tactic| walk_at "h3") => `(tactic| first | with_reducible refine Mine.hlSubN ?_ | with_reducible refine Mine.hlSetI ?_ | with_reducible refine Mine.hlMeth ?_ | walk_at "h2")
local macro_rules | `(tactic| walk_at "halt") => `(tactic| walk_at "h3")
namespace Mine
section
/- Lev2 -/
theorem lenF {prog : Program} {w : World} {A : Around} {E : Value → Shared → Prop} {s : Shared} {Q : Value → Shared → Prop} {l : List Nat} {t : Tok} (hl : l.length ≤ 1000) (h : Q (.int (l.length : Nat) (s.toks + 1)) { s with toks := s.toks + 1 + 1 }) :
    wpAny (model prog w) A (call (.builtin "len") [.str ⟨l.toArray⟩ t]) Q E s := by
  have hl' : (⟨l.toArray⟩ : Str).length = l.length := by simp [Str.length]
  have e63 : (2 : Int) ^ 63 = 9223372036854775808 := by decide
  refine PySem.P.len_str (by rw [hl']; walk_at "om") ?_
  rw [hl']; exact h
local macro_rules | `(tactic| walk_at "call builtin:len") => `(tactic| (refine Mine.lenF (by walk_at "om") ?_; (try dsimp only)))

noncomputable def levNames : List Str := ["bindex", "bchar", "distance", "result", "minimum", "index", "substitute", "insert_delete"]
structure DSt where
  (dist res mn : Int)
  (row : List Int)
noncomputable def dStep (bc : Nat) (a : List Nat) (st : DSt) (i : Nat) : DSt :=
  let r := min (min st.res (st.row.getD i 0) + 2) (st.dist + subM bc (a.getD i 0))
  ⟨st.row.getD i 0, r, if r < st.mn then r else st.mn, st.row.set i r⟩
noncomputable def dIn (bc : Nat) (a : List Nat) (d0 : Int) (row : List Int) : Nat → DSt
  | 0 => ⟨d0, d0, 9223372036854775807, row⟩
  | i + 1 => dStep bc a (dIn bc a d0 row i) i
noncomputable def dOut (a : List Nat) : List Nat → Nat → List Int → Int → Int
  | [], _, _, res => res
  | c :: bs, j, row, _ => let st := dIn c a (j * 2) row a.length; if st.mn > 12 then 13 else dOut a bs (j + 1) st.row st.res
noncomputable def dRow (n : Nat) : List Int := (List.range n).map fun (i : Nat) => 2 + (i : Int) * 2
noncomputable def dpM (a b : List Nat) : Int := if a.length = 0 ∨ b.length = 0 then 2 * ((a.length : Int) + b.length) else dOut a b 0 (dRow a.length) 0

theorem range22 : ∀ n : Nat, n < 11 → Builtin.Range.small 2 (2 * ((n : Int) + 1)) 2 = true ∧ Builtin.Range.rangeSize 2 (2 * ((n : Int) + 1)) 2 = n := by decide +kernel
theorem range0n : ∀ n : Nat, n < 11 → Builtin.Range.small 0 (n : Int) 1 = true ∧ Builtin.Range.rangeSize 0 (n : Int) 1 = n := by decide +kernel
theorem items_ints {n : Nat} {acc : Array Value} (h : ItemsOf (fun i v => ∃ t, v = Value.int (2 + (i : Int) * 2) t) acc n) : IntsAre acc.toList (dRow n) := by
  have key : ∀ (l : List Value) (j : Nat) (n : Nat), l.length = n → (∀ i v, l[i]? = some v → ∃ t, v = Value.int (2 + ((i + j : Nat) : Int) * 2) t) → IntsAre l ((List.range n).map fun (i : Nat) => 2 + ((i + j : Nat) : Int) * 2) := by
    intro l
    induction l with
    | nil => intro j n hn _; subst hn; exact .nil
    | cons v r ih =>
      intro j n hn hv
      subst hn
      obtain ⟨t, rfl⟩ := hv 0 v rfl
      rw [List.length_cons, List.range_succ_eq_map, List.map_cons, List.map_map]
      refine .cons _ _ ?_
      have := ih (j + 1) _ rfl fun i v e => by
        obtain ⟨t, q⟩ := hv (i + 1) v e
        exact ⟨t, by rw [q, show i + 1 + j = i + (j + 1) by walk_at "om"]⟩
      have e : ((fun (i : Nat) => 2 + ((i + j : Nat) : Int) * 2) ∘ Nat.succ) = fun (i : Nat) => 2 + ((i + (j + 1) : Nat) : Int) * 2 := by
        funext i
        show 2 + ((i.succ + j : Nat) : Int) * 2 = _
        rw [show i.succ + j = i + (j + 1) by walk_at "om"]
      rw [e]
      exact this
  have := key acc.toList 0 n (by simpa using h.1) fun i v e => h.2 i v (by simpa using e)
  simpa [dRow] using this

theorem Fx.pin2 {g h : Heap} {L : Addr} {m m₀ : Str → Option Value} {x : Str} {v : Value} (F : Fx g L h (ov levNames m m₀)) (e : m x = some v) (hx : levNames.contains x = true := by rfl) : Fx g L h (fun y => if y = x then some v else ov levNames m m₀ y) :=
  F.cast fun y => by
    split
    · rename_i q; rw [q]; unfold ov; rw [hx]; exact e
    · rfl
theorem Fx.pin {g h : Heap} {L : Addr} {m : Str → Option Value} {x : Str} {v : Value} (F : Fx g L h m) (e : m x = some v) : Fx g L h (fun y => if y = x then some v else m y) :=
  F.cast fun y => by
    split
    · rename_i q; rw [q]; exact e
    · rfl
theorem dIn_len (bc : Nat) (a : List Nat) (d0 : Int) (row : List Int) : ∀ i, (dIn bc a d0 row i).row.length = row.length
  | 0 => rfl
  | i + 1 => by show ((dIn bc a d0 row i).row.set i _).length = _; rw [List.length_set, dIn_len bc a d0 row i]
local macro_rules | `(tactic| walk_at "call type:range") => `(tactic| (refine call_range_1 ?_; (try dsimp only)))

/-- the table of distances, from its first turn -/
theorem levD {w : World} {A : Around} {s : Shared} {g : Heap} {L row : Nat} {Q : Flow → Shared → Prop} {m₀ : Str → Option Value} {a b : List Nat} {t u tm tr : Tok} {us : List Value}
  {trr : Sem Flow} (htr : trr = execs ((stmtsAt w.params 180).drop 15) (envAt w.params 180 L))
  (G : Gr w g) (hh : A.handled = none) (hd : A.depth + 1 < recursionLimit) (hu : A.units + 20 < cLine) (F : Fx g L s.heap m₀) (O : g.get? L = none) (Or : g.get? row = none)
  (ea : m₀ "a" = some (.str ⟨a.toArray⟩ t)) (eb : m₀ "b" = some (.str ⟨b.toArray⟩ u)) (ec : m₀ "max_cost" = some (.int 12 tm)) (er : m₀ "row" = some (.ref row)) (ez : m₀ "result" = some (.int 0 tr))
  (lr : s.heap.IsList row us.toArray) (ir : IntsAre us (dRow a.length))
  (la : a.length ≤ 10) (lb : a.length = b.length) (h0 : 0 < a.length) (ha : ∀ c ∈ a, Let c) (hb : ∀ c ∈ b, Let c)
  (hQ : ∀ h tk t', s.toks ≤ tk → Sub g h → Q (.ret (.int (dOut a b 0 (dRow a.length) 0) t')) { s with heap := h, toks := tk }) :
  wpAny (model Challenge.rw_xg0051_01.row.prog w) A trr Q (fun _ _ => False) s := by
  subst htr
  have e1 : envAt w.params 180 L = envAt w.params 180 L := rfl
  conv at e1 => rhs; unfold envAt
  conv at e1 => rhs; arg 2; whnf
  conv at e1 => rhs; arg 5; whnf
  rw [e1]
  clear e1
  have F0 : Fx g L s.heap (fun y => if y = Str.ofString "a" then some (.str ⟨a.toArray⟩ t) else if y = Str.ofString "b" then some (.str ⟨b.toArray⟩ u) else if y = Str.ofString "max_cost" then some (.int 12 tm) else if y = Str.ofString "row" then some (.ref row) else m₀ y) :=
    Fx.cast F fun y => by walk_at "upd"
  clear F ea eb ec er
  walk_at "un"
  refine wpAny_execs_cons ?_
  walk_at "hideN"
  refine wpAny_For ?_
  walk_at "go"
  obtain ⟨r1, r2⟩ := range0n b.length (by walk_at "om")
  generalize eh1 : s.heap.push _ = h1
  have k1 : Sub s.heap h1 := fun b o q => by rw [← eh1]; exact Heap.get?_push_of_some _ q
  obtain ⟨ra, rb, rc, hr1⟩ : ∃ ra rb rc : Tok, IsRange h1 s.heap.objs.size 0 b.length 1 ra rb rc := ⟨_, _, _, by rw [← eh1]; exact IsRange.new _ _ _ _ _ _ _⟩
  walk_at "un"
  refine wpAny_pyIter_range hr1 r1 ?_
  rw [r2]
  have F1 := F0.up k1
  try dsimp only
  have l1 : L < h1.objs.size := F1.ns.lt
  have l2 : row < h1.objs.size := by obtain ⟨_, q, _⟩ := IsL.keeps lr k1; exact Heap.lt_size q
  have l3 : ∀ b o, g.get? b = some o → b < h1.objs.size := fun b o e => Heap.lt_size (F1.keep _ _ e)
  have nrL : row ≠ L := fun q => by obtain ⟨_, e, _, _, d⟩ := IsL.keeps lr k1; obtain ⟨_, _, _, e', d', _⟩ := F1.ns; rw [q, e'] at e; cases e; rw [d'] at d; cases d
  have a12 : ∀ c, c ∈ b → Let c := hb
  refine for_rule (Walks.range hh h1.objs.size 0 1 b.length)
    (fun i s' => Ex7 fun h tk v vs st rs (tr : Nat) => And8 (s' = { s with heap := h, toks := tk }) (s.toks ≤ tk) (dOut a b 0 (dRow a.length) 0 = dOut a (b.drop i) i st rs) (st.length = a.length) (Fx g L h (ov levNames v fun y => if y = Str.ofString "a" then some (.str ⟨a.toArray⟩ t) else if y = Str.ofString "b" then some (.str ⟨b.toArray⟩ u) else if y = Str.ofString "max_cost" then some (.int 12 tm) else if y = Str.ofString "row" then some (.ref row) else m₀ y)) (v (Str.ofString "result") = some (.int rs tr)) (h.IsList row (List.toArray vs)) (IntsAre vs st)) ?_ ?_ ?_ ?_ ?_
  · show IsRangeIter _ _ _ _ _
    simp only [Int.natCast_zero, Int.zero_mul, Int.add_zero, Int.sub_zero]
    exact Heap.get?_push_size _ rfl
  · refine ⟨_, _, _, us, _, 0, tr, rfl, by walk_at "om", rfl, by simp [dRow], (F1.up fun b o e => Heap.get?_push_of_some _ e).ov0 _, ez, (IsL.keeps lr k1).push _, ir⟩
  · rintro i s' h₁ tk₁ ⟨h, tk, v, vs, st, rs, tr, rfl, q1, q2, q3, F1, q4, q5, q6⟩ hk ht
    have hk' : ∀ b o, b ≠ h1.objs.size → h.get? b = some o → h₁.get? b = some o := fun b o hb e => hk b o (by simpa using hb) e
    refine ⟨h₁, tk₁, v, vs, st, rs, tr, rfl, Nat.le_trans q1 ht, q2, q3, ⟨F1.ns.at' (fun o e => hk' _ _ (neN (by walk_at "om")) e), fun b o e => hk' _ _ ?_ (F1.keep _ _ e)⟩, q4, ?_, q6⟩
    · have := ltN (l3 _ _ e); exact neN (by walk_at "om")
    · obtain ⟨o, e, r⟩ := q5; exact ⟨o, hk' _ _ (neN (by walk_at "om")) e, r⟩
  · rintro i x s₁ hi ⟨tx, rfl⟩ hJJ hst
    try walk_at "hideN"
    obtain ⟨h, tk, v, vs, st, rs, tr, rfl, q1, q2, q3, F1, q4, q5, q6⟩ := hJJ
    have O1 := hideOff (h.hide row) L
    have O2 : ((h.hide row).hide L).get? row = none := by rw [Heap.hide_ne _ nrL]; exact hideOff _ _
    have F2 : Fx ((h.hide row).hide L) L h _ := ⟨F1.ns, fun b o e => Heap.of_hide (Heap.of_hide e)⟩
    have hs : Sub g ((h.hide row).hide L) := sub_hide (sub_hide F1.keep Or) O
    have G1 := G.up hs
    walk_at "un"
    refine wpAny_assign_Name (stL F2 O1 ?_)
    intro h2 F3 S3
    have e0 : (0 : Int) + (i : Int) * 1 = i := by walk_at "om"
    rw [e0] at F3
    walk_at "go"
    rename_i h3 F3' S3' h4 F4 S4 h5 F5 S5 h6 F6 S6
    replace q5 : h6.IsList row vs.toArray := by obtain ⟨o, e, r⟩ := q5; exact ⟨o, (S6.2 _ nrL).trans ((S5.2 _ nrL).trans ((S4.2 _ nrL).trans ((S3'.2 _ nrL).trans ((S3.2 _ nrL).trans e)))), r⟩
    have bi : b[i]? = some b[i] := List.getElem?_eq_getElem hi
    have bd : b.drop i = b[i] :: b.drop (i + 1) := List.drop_eq_getElem_cons hi
    have bL : Let b[i] := hb _ (List.getElem_mem hi)
    generalize b[i] = bc at F6 bi bd bL
    have F7 := F6.forget (m₀ := fun y => if y = Str.ofString "a" then some (.str ⟨a.toArray⟩ t) else if y = Str.ofString "b" then some (.str ⟨b.toArray⟩ u) else if y = Str.ofString "max_cost" then some (.int 12 tm) else if y = Str.ofString "row" then some (.ref row) else m₀ y) levNames (by walk_at "forget")
    have keepI : ∀ b ∈ [h1.objs.size], ∀ o, h.get? b = some o → ((h.hide row).hide L).get? b = some o := fun b hb o e => by
      simp at hb; subst hb
      exact hide_in (hide_in e (neN (by walk_at "om"))) (neN (by walk_at "om"))
    clear S6 S5 S4 S3' S3 F5 F4 F3' F3 F2 F0 k1 r1 r2 hr1 eh1
    generalize ehb : (h.hide row).hide L = hb at *
    refine wpAny_For ?_
    walk_at "go"
    generalize eh7 : h6.push _ = h7
    have k7 : Sub h6 h7 := fun b o q => by rw [← eh7]; exact Heap.get?_push_of_some _ q
    obtain ⟨rd, re, rf, hr7⟩ : ∃ rd re rf : Tok, IsRange h7 h6.objs.size 0 a.length 1 rd re rf := ⟨_, _, _, by rw [← eh7]; exact IsRange.new _ _ _ _ _ _ _⟩
    obtain ⟨r3, r4⟩ := range0n a.length (by walk_at "om")
    walk_at "un"
    refine wpAny_pyIter_range hr7 r3 ?_
    rw [r4]
    have F8 := F7.up k7
    have q7 : h7.IsList row vs.toArray := IsL.keeps q5 k7
    have j1 : L < h7.objs.size := F8.ns.lt
    have j2 : row < h7.objs.size := by obtain ⟨_, q, _⟩ := q7; exact Heap.lt_size q
    have j3 : ∀ b o, hb.get? b = some o → b < h7.objs.size := fun b o e => Heap.lt_size (F8.keep _ _ e)
    clear k7 hr7 F6 F7 q5 r3 r4 eh7
    try dsimp only
    refine for_rule (Walks.range hh h7.objs.size 0 1 a.length)
      (fun j s' => Ex8 fun h tk2 v vs (tb : Nat) (td : Nat) (tr : Nat) (tmn : Nat) => And9 (s' = { s with heap := h, toks := tk2 }) (s.toks ≤ tk2) (Fx hb L h (ov levNames v (fun y => if y = Str.ofString "a" then some (.str ⟨a.toArray⟩ t) else if y = Str.ofString "b" then some (.str ⟨b.toArray⟩ u) else if y = Str.ofString "max_cost" then some (.int 12 tm) else if y = Str.ofString "row" then some (.ref row) else m₀ y))) (v (Str.ofString "bchar") = some (.str ⟨#[bc]⟩ tb)) (v (Str.ofString "distance") = some (.int (dIn bc a (i * 2) st j).dist td)) (v (Str.ofString "result") = some (.int (dIn bc a (i * 2) st j).res tr)) (v (Str.ofString "minimum") = some (.int (dIn bc a (i * 2) st j).mn tmn)) (h.IsList row (List.toArray vs)) (IntsAre vs (dIn bc a (i * 2) st j).row)) ?_ ?_ ?_ ?_ ?_
    · show IsRangeIter _ _ _ _ _
      simp only [Int.natCast_zero, Int.zero_mul, Int.add_zero, Int.sub_zero]
      exact Heap.get?_push_size _ rfl
    · refine ⟨_, _, _, vs, _, _, _, _, rfl, by walk_at "om", F8.up fun b o e => Heap.get?_push_of_some _ e, rfl, rfl, rfl, rfl, q7.push _, q6⟩
    · rintro j s' h₁ tk₁ ⟨h, tk2, v, vs, tb, td, tr, tmn, rfl, p1, F1, p2, p3, p4, p5, p6, p7⟩ hk ht
      have hk' : ∀ b o, b ≠ h7.objs.size → h.get? b = some o → h₁.get? b = some o := fun b o hb e => hk b o (by simpa using hb) e
      refine ⟨h₁, tk₁, v, vs, tb, td, tr, tmn, rfl, Nat.le_trans p1 ht, ⟨F1.ns.at' (fun o e => hk' _ _ (neN (by walk_at "om")) e), fun b o e => hk' _ _ ?_ (F1.keep _ _ e)⟩, p2, p3, p4, p5, ?_, p7⟩
      · have := ltN (j3 _ _ e); exact neN (by walk_at "om")
      · obtain ⟨o, e, r⟩ := p6; exact ⟨o, hk' _ _ (neN (by walk_at "om")) e, r⟩
    · rintro j x s₁ hj ⟨tx', rfl⟩ hJJ hst2
      obtain ⟨h, tk2, v, vs, tb, td, tr, tmn, rfl, p1, F1, p2, p3, p4, p5, p6, p7⟩ := hJJ
      have F2 := Fx.cast (m' := fun y => if y = Str.ofString "bchar" then some (.str ⟨#[bc]⟩ tb) else if y = Str.ofString "distance" then some (.int (dIn bc a (i * 2) st j).dist td) else if y = Str.ofString "result" then some (.int (dIn bc a (i * 2) st j).res tr) else if y = Str.ofString "minimum" then some (.int (dIn bc a (i * 2) st j).mn tmn) else ov levNames v (fun y => if y = Str.ofString "a" then some (.str ⟨a.toArray⟩ t) else if y = Str.ofString "b" then some (.str ⟨b.toArray⟩ u) else if y = Str.ofString "max_cost" then some (.int 12 tm) else if y = Str.ofString "row" then some (.ref row) else m₀ y) y) F1 (fun y => by walk_at "upd")
      have eD : dIn bc a (i * 2) st (j + 1) = dStep bc a (dIn bc a (i * 2) st j) j := rfl
      have lD : (dIn bc a (i * 2) st j).row.length = a.length := by rw [dIn_len, q3]
      rw [eD]
      clear eD F1
      generalize dIn bc a (i * 2) st j = D at *
      walk_at "hideN"
      have O3 := hideOff (h.hide row) L
      have O4 : ((h.hide row).hide L).get? row = none := by rw [Heap.hide_ne _ nrL]; exact hideOff _ _
      have F3 : Fx ((h.hide row).hide L) L h _ := ⟨F2.ns, fun b o e => Heap.of_hide (Heap.of_hide e)⟩
      have hs2 : Sub hb ((h.hide row).hide L) := sub_hide (sub_hide F2.keep O2) O1
      have G2 := G1.up hs2
      walk_at "un"
      refine wpAny_assign_Name (stL F3 O3 ?_)
      intro h8 F4 S4
      have e0 : (0 : Int) + (j : Int) * 1 = j := by walk_at "om"
      rw [e0] at F4
      have aj : a[j]? = some a[j] := List.getElem?_eq_getElem hj
      have aL : Let a[j] := ha _ (List.getElem_mem hj)
      walk_at "go"
      refine ⟨F4.keep, ?_⟩
      refine wpAny_call (sub_cost_spec ⟨G2.up F4.keep, hd, hu, hh⟩ bL aL ?_)
      intro t9 h9 tk9 htk9 K9
      try dsimp only at htk9 K9 ⊢
      walk_at "un"
      have F9 := F4.up K9
      have p9 : h9.IsList row vs.toArray := by obtain ⟨o, e, r⟩ := p6; exact ⟨o, K9 _ _ ((S4.2 _ nrL).trans e), r⟩
      clear F3 F2 S4 K9
      walk_at "go"
      rename_i h10 F10 S10
      have p10 : h10.IsList row vs.toArray := by obtain ⟨o, e, r⟩ := p9; exact ⟨o, (S10.2 _ nrL).trans e, r⟩
      obtain ⟨tz, ez⟩ := ints_at' p7 (k := j) (by walk_at "om")
      with_reducible refine itemL p10 ez (by walk_at "om") ?_
      try dsimp only
      walk_at "go"
      rename_i h11 F11 S11 h12 tk12 t12 F12 K12 tt12 h13 F13 S13 h14 tk14 t14 F14 K14 tt14 h15 F15 S15
      have p15 : h15.IsList row vs.toArray := by
        obtain ⟨o, e, r⟩ := p10
        exact ⟨o, (S15.2 _ nrL).trans (K14 _ _ ((S13.2 _ nrL).trans (K12 _ _ ((S11.2 _ nrL).trans e)))), r⟩
      have er : min (min D.res (D.row.getD j 0) + 2) (D.dist + subM bc a[j]) = min (min D.res (D.row.getD j 0) + 2) (D.dist + subM bc (a.getD j 0)) := by
        have : a.getD j 0 = a[j] := by rw [List.getD_eq_getElem?_getD, aj]; rfl
        rw [this]
      generalize hr : min (min D.res (D.row.getD j 0) + 2) (D.dist + subM bc a[j]) = r at *
      have eS : dStep bc a D j = ⟨D.row.getD j 0, r, if r < D.mn then r else D.mn, D.row.set j r⟩ := by unfold dStep; rw [← er]
      have lv : vs.length = a.length := by rw [p7.length, lD]
      with_reducible refine wpAny_setItem_list p15 (by walk_at "om") (by walk_at "om") (by rw [List.size_toArray]; walk_at "om") ?_
      intro h16 p16 S16
      have F16 := F15.same S16 O4 (Ne.symm nrL)
      have e16 : (vs.toArray).setIfInBounds (j : Int).toNat (.int r t14) = (vs.set j (.int r t14)).toArray := by simp
      rw [e16] at p16
      have p17 := ints_set p7 j r t14
      clear S16 S15 S13 S11 S10 K12 K14 F15 F14 F13 F12 F11 F10 F9 F4 p15 p10 p9 p6 er hr e16
      try dsimp only
      have keep2 : ∀ b ∈ [h7.objs.size], ∀ o, h.get? b = some o → ((h.hide row).hide L).get? b = some o := fun b hb o e => by
        simp at hb; subst hb
        exact hide_in (hide_in e (neN (by walk_at "om"))) (neN (by walk_at "om"))
      walk_at "go"
      · rename_i hlt h17 F17 S17
        have p18 : h17.IsList row (vs.set j (.int r t14)).toArray := by obtain ⟨o, e, r⟩ := p16; exact ⟨o, (S17.2 _ nrL).trans e, r⟩
        rw [eS]
        exact ⟨⟨_, _, _, _, _, _, _, _, rfl, by walk_at "om", Fx.forget levNames ⟨F17.ns, fun b o q => F17.keep _ _ (hs2 _ _ q)⟩ (by walk_at "forget"), rfl, rfl, rfl, by rw [if_pos hlt]; rfl, p18, p17⟩, fun b hb o q => F17.keep _ _ (keep2 b hb o q)⟩
      · rename_i hlt
        rw [eS]
        exact ⟨⟨_, _, _, _, _, _, _, _, rfl, by walk_at "om", Fx.forget levNames ⟨F16.ns, fun b o q => F16.keep _ _ (hs2 _ _ q)⟩ (by walk_at "forget"), rfl, rfl, rfl, by rw [if_neg hlt]; rfl, p16, p17⟩, fun b hb o q => F16.keep _ _ (keep2 b hb o q)⟩
    · rintro s₂ hJJ
      try walk_at "hideN"
      obtain ⟨h8, tk2, v2, vs2, tb, td, tr2, tmn, rfl, p1, F9, p2, p3, p4, p5, p6, p7⟩ := hJJ
      walk_at "un"
      refine wpAny_execs_nil ?_
      have F2 := Fx.cast (m' := fun y => if y = Str.ofString "result" then some (.int (dIn bc a (i * 2) st a.length).res tr2) else if y = Str.ofString "minimum" then some (.int (dIn bc a (i * 2) st a.length).mn tmn) else ov levNames v2 (fun y => if y = Str.ofString "a" then some (.str ⟨a.toArray⟩ t) else if y = Str.ofString "b" then some (.str ⟨b.toArray⟩ u) else if y = Str.ofString "max_cost" then some (.int 12 tm) else if y = Str.ofString "row" then some (.ref row) else m₀ y) y) F9 (fun y => by walk_at "upd")
      have lD : (dIn bc a (i * 2) st a.length).row.length = a.length := by rw [dIn_len, q3]
      rw [bd] at q2
      have q2' : dOut a (bc :: b.drop (i + 1)) i st rs = if (dIn bc a (i * 2) st a.length).mn > 12 then 13 else dOut a (b.drop (i + 1)) (i + 1) (dIn bc a (i * 2) st a.length).row (dIn bc a (i * 2) st a.length).res := rfl
      rw [q2'] at q2
      clear q2' F9 F8
      generalize dIn bc a (i * 2) st a.length = D at *
      try dsimp only
      walk_at "go"
      all_goals try dsimp only
      · rename_i hgt
        rw [if_pos hgt] at q2
        have := hQ h8 (tk2 + 1 + 1) (tk2 + 1) (by walk_at "om") (fun b o q => F2.keep _ _ (hs _ _ q))
        rw [q2] at this
        exact this
      · rename_i hgt
        rw [if_neg hgt] at q2
        exact ⟨⟨_, _, _, _, _, _, _, rfl, by walk_at "om", q2, lD, Fx.forget levNames ⟨F2.ns, fun b o q => F2.keep _ _ (hs _ _ q)⟩ (by walk_at "forget"), rfl, p6, p7⟩, fun b hb o q => F2.keep _ _ (keepI b hb o q)⟩
  · rintro s₂ hJJ
    try walk_at "hideN"
    obtain ⟨h, tk, v, vs, st, rs, tr, rfl, q1, q2, q3, F2, q4, q5, q6⟩ := hJJ
    rw [List.drop_length] at q2
    have F3 := Fx.pin2 (x := Str.ofString "result") F2 q4
    walk_at "un"
    refine wpAny_execs_nil ?_
    try dsimp only
    walk_at "go"
    have := hQ h tk tr q1 F2.keep
    rw [q2] at this
    exact this

end
section
/- Lev3 -/
local macro_rules | `(tactic| walk_at "call builtin:len") => `(tactic| (refine Mine.lenF (by walk_at "om") ?_; (try dsimp only)))
theorem ltNo {prog : Program} {w : World} {A : Around} {E : Value → Shared → Prop} {s : Shared} {Q : Value → Shared → Prop} {a b : Int} {t u : Tok} (h : ¬ a < b) (hq : Q (.bool false) s) :
    wpAny (model prog w) A (compareOp .Lt (.int a t) (.int b u)) Q E s := PyProof.Rows.lt_int (by rw [decide_eq_false h]; exact hq)
theorem gtNo {prog : Program} {w : World} {A : Around} {E : Value → Shared → Prop} {s : Shared} {Q : Value → Shared → Prop} {a b : Int} {t u : Tok} (h : ¬ b < a) (hq : Q (.bool false) s) :
    wpAny (model prog w) A (compareOp .Gt (.int a t) (.int b u)) Q E s := PyProof.Rows.gt_int (by rw [decide_eq_false h]; exact hq)
local macro_rules | `(tactic| walk_at "compareOp Lt int int") => `(tactic| with_reducible refine Mine.ltNo (by walk_at "om") ?_)
local macro_rules | `(tactic| walk_at "compareOp Gt int int") => `(tactic| with_reducible refine Mine.gtNo (by walk_at "om") ?_)
theorem levC {w : World} {A : Around} {s : Shared} {g : Heap} {L : Nat} {Q : Flow → Shared → Prop} {m : Str → Option Value} {a b : List Nat} {t u tm : Tok}
  {trr : Sem Flow} (htr : trr = execs ((stmtsAt w.params 180).drop 9) (envAt w.params 180 L))
  (G : Gr w g) (hh : A.handled = none) (F : Fx g L s.heap (mAB a b t u tm m)) (O : g.get? L = none) (la : a.length ≤ 10) (lb : a.length = b.length) (ha : ∀ c ∈ a, Let c) (hb : ∀ c ∈ b, Let c)
  (hd : A.depth + 1 < recursionLimit) (hu : A.units + 20 < cLine)
  (hQ : ∀ h tk t', s.toks ≤ tk → Sub g h → Q (.ret (.int (dpM a b) t')) { s with heap := h, toks := tk }) :
  wpAny (model Challenge.rw_xg0051_01.row.prog w) A trr Q (fun _ _ => False) s := by
  subst htr
  have e1 : envAt w.params 180 L = envAt w.params 180 L := rfl
  conv at e1 => rhs; unfold envAt
  conv at e1 => rhs; arg 2; whnf
  conv at e1 => rhs; arg 5; whnf
  rw [e1]
  clear e1
  unfold mAB at F
  walk_at "un"
  refine wpAny_execs_cons ?_
  walk_at "go"
  all_goals (try dsimp only)
  · obtain ⟨r1, r2⟩ := range22 a.length (by walk_at "om")
    refine call_range_3 (by decide) ?_
    walk_at "go"
    refine wpAny_with_toks (Nat.le_refl _) (call_list_range hh (IsRange.new _ _ _ _ _ _ _) r1 r2 (by walk_at "om") ?_)
    intro h1 tk1 acc c1 k1 e1 it1 htk1
    have hrow := items_ints it1
    try dsimp only at k1 e1 htk1 ⊢
    walk_at "un"
    have rn : s.heap.get? (s.heap.push { cls := .type "range", data := .fields #[.int 2 399, .int (2 * ((a.length : Int) + 1)) (s.toks + 1 + 1 + 1 + 1 + 1 + 1 + 1 + 1 + 1 + 1 + 1 + 1 + 1 + 1 + 1 + 1 + 1 + 1 + 1 + 1 + 1 + 1), .int 2 399] }).objs.size = none := by
      rw [Heap.size_push]
      cases q : s.heap.get? (s.heap.objs.size + 1) with
      | none => rfl
      | some o => have := ltN (Heap.lt_size q); walk_at "om"
    have rn' := rn
    generalize (s.heap.push _).objs.size = row at e1 rn ⊢
    have F1 : Fx g L h1 _ := F.up fun b o e => k1 _ _ (Heap.get?_push_of_some _ e)
    walk_at "un"
    refine Mine.stL F1 O ?_
    intro h2 F2 S2
    try dsimp only at S2
    try dsimp only
    clear rn' r1 r2 it1 k1
    repeat' (first | ((fail_if_success (with_reducible show wpAny _ _ (execs (Stmt.For _ _ _ _ _ :: _) _) _ _ _)); walk_at "one"))
    try dsimp only
    rename_i h3 F3 S3
    have hq : row ≠ L := fun q => by obtain ⟨_, _, _, e', d', _⟩ := F1.ns; rw [q, e'] at e1; cases e1; cases d'
    have lr : h3.IsList row acc.toList.toArray := ⟨_, (S3.2 _ hq).trans ((S2.2 _ hq).trans e1), rfl, c1, by simp⟩
    have lv := levD (by exact rfl) (A := A) (Q := Q) (row := row) (b := b) (t := t) (u := u) (tm := tm) (s := { s with heap := h3, toks := tk1 + 1 + 1 + 1 }) G hh hd hu F3 O (none_of_sub F.keep rn) rfl rfl rfl rfl rfl lr hrow la lb (by walk_at "om") ha hb (fun h tk t' h1 h2 => ?_)
    · have e1 : envAt w.params 180 L = envAt w.params 180 L := rfl
      conv at e1 => rhs; unfold envAt
      conv at e1 => rhs; arg 2; whnf
      conv at e1 => rhs; arg 5; whnf
      rw [e1] at lv
      walk_at "un"
      exact lv
    · have ed : dpM a b = dOut a b 0 (dRow a.length) 0 := by unfold dpM; rw [if_neg (by walk_at "om")]
      rw [← ed]
      dsimp only at h1
      exact hQ h tk t' (by walk_at "om") h2
  · have ed : dpM a b = 2 * ((a.length : Int) + b.length) := by unfold dpM; rw [if_pos (by walk_at "om")]
    rw [← ed]
    exact hQ _ _ _ (by walk_at "om") F.keep
  · have ed : dpM a b = 2 * ((a.length : Int) + b.length) := by unfold dpM; rw [if_pos (by walk_at "om")]
    rw [← ed]
    exact hQ _ _ _ (by walk_at "om") F.keep

noncomputable def levM (a b : List Nat) : Int :=
  if a = b then 0 else
    let a1 := a.drop (preM a b)
    let b1 := b.drop (preM a b)
    dpM (a1.take (a1.length - sufM a1 b1)) (b1.take (b1.length - sufM a1 b1))
theorem strl_beq (a b : List Nat) : ((⟨a.toArray⟩ : Str) == ⟨b.toArray⟩) = decide (a = b) := by
  by_cases h : a = b
  · subst h; simp
  · have : (⟨a.toArray⟩ : Str) ≠ ⟨b.toArray⟩ := fun q => h (by injection q with q; simpa using q)
    rw [beq_eq_false_iff_ne.mpr this, decide_eq_false h]

theorem lev_spec {w : World} {A : Around} {s : Shared} {R : Result → Shared → Prop} {a b : List Nat} {t u tm : Tok}
  (C : Cx w A s 2) (h0 : 0 < s.toks) (la : a.length ≤ 10) (lb : a.length = b.length) (ha : ∀ c ∈ a, Let c) (hb : ∀ c ∈ b, Let c)
  (hR : ∀ (t' : Tok) h' tk', s.toks ≤ tk' → Sub s.heap h' → R (.ok (.ret (.int (levM a b) t'))) { s with heap := h', toks := tk' }) :
  codeAny (model Challenge.rw_xg0051_01.row.prog w) A (.call (.ref 180) ⟨[.str ⟨a.toArray⟩ t, .str ⟨b.toArray⟩ u, .int 12 tm], []⟩) R s := by
  have G := C.G
  have hd' := C.hd
  have hu' := C.hu
  have hh := C.hh
  refine' enter [("a", .str ⟨a.toArray⟩ t), ("b", .str ⟨b.toArray⟩ u), ("max_cost", .int 12 tm)] s.heap G.k G.nolimit (by first | exact fun _ _ e => e | assumption) ?k1 ?k2 ?k3 ?k4 ?k5 ?_ ?c2 ?c3 ?c4 ?c5
  case k1 => k_is
  case k2 => k_is
  case k3 => walk_at "om"
  case k4 => first | exact BindsTo.of_eq rfl | exact binds_K G.k rfl (by k_is) rfl rfl rfl
  case k5 => exact locs rfl
  case c2 => decide
  case c3 => exact rfl
  case c4 => exact rfl
  case c5 => exact rfl
  intro L h' A' tk0 hL hkeep F O eh ed eu htk
  have hh' : A'.handled = none := eh.trans hh
  repeat' (first | ((fail_if_success (with_reducible show wpAny _ _ (execs (Stmt.Assign [Expr.Name (Str.ofString "pre") _] _ _ :: _) _) _ _ _)); walk_at "one"))
  all_goals (try dsimp only at *)
  · rename_i hc
    rw [strl_beq, decide_eq_true_eq] at hc
    have e : levM a b = 0 := by unfold levM; rw [if_pos hc]
    rw [← e]
    exact hR _ _ _ (by walk_at "om") hkeep
  · rename_i hc
    rw [strl_beq, decide_eq_false_iff_not] at hc
    have e : levM a b = dpM ((a.drop (preM a b)).take ((a.drop (preM a b)).length - sufM (a.drop (preM a b)) (b.drop (preM a b)))) ((b.drop (preM a b)).take ((b.drop (preM a b)).length - sufM (a.drop (preM a b)) (b.drop (preM a b)))) := by unfold levM; rw [if_neg hc]
    rw [e] at hR
    clear e
    have F0 : Fx s.heap L h' (mAB a b t u tm fun _ => none) := F.cast fun y => by
      unfold mAB
      (repeat' split)
      all_goals first | (subst_vars; rfl) | skip
      rename_i e1 e2 e3
      show List.lookup y [("max_cost", Value.int 12 tm), ("b", Value.str { cps := b.toArray } u), ("a", Value.str { cps := a.toArray } t)] = none
      simp only [List.lookup, beq_eq_false_iff_ne.mpr e1, beq_eq_false_iff_ne.mpr e2, beq_eq_false_iff_ne.mpr e3]
    have lv := fun Q => levA (by exact rfl) (A := A') (s := { s with heap := h', toks := tk0 }) (Q := Q) (a := a) (b := b) G hh' F0 O (by walk_at "om") (by walk_at "om") (by show 0 < tk0; walk_at "om")
    refine lv _ ?_
    intro h1 tk1 t1 u1 m1 htk1 F1
    dsimp only at htk1
    refine (levB (by exact rfl) (s := { s with heap := h1, toks := tk1 }) G hh' F1 O (by rw [List.length_drop]; exact Nat.le_trans (Nat.sub_le _ _) la) (by rw [List.length_drop]; exact Nat.le_trans (Nat.sub_le _ _) (lb ▸ la)) (by show 0 < tk1; walk_at "om") ?_ : wpAny _ _ _ _ _ _)
    intro h2 tk2 t2 u2 m2 htk2 F2
    dsimp only at htk2
    refine (levC (by exact rfl) (s := { s with heap := h2, toks := tk2 }) G hh' F2 O ?_ ?_ ?_ ?_ ?_ ?_ ?_ : wpAny _ _ _ _ _ _)
    · rw [List.length_take, List.length_drop]; exact Nat.le_trans (Nat.min_le_right _ _) (Nat.le_trans (Nat.sub_le _ _) la)
    · rw [List.length_take, List.length_take, List.length_drop, List.length_drop, lb]
    · exact fun c q => ha c (List.mem_of_mem_drop (List.mem_of_mem_take q))
    · exact fun c q => hb c (List.mem_of_mem_drop (List.mem_of_mem_take q))
    · walk_at "om"
    · walk_at "om"
    · intro h3 tk3 t3 htk3 K3
      dsimp only at htk3
      exact hR _ _ _ (by walk_at "om") K3

end
section
/- Make -/
section
variable {prog : Program} {w : World} {A : Around} {R : Result → Shared → Prop} {h : Heap} {g : Array GenState} {d : Drawn} {t : Nat} {os : OsState}
theorem acc_looks {M : Model} (G : Gr w h) : Looks M h (mroOf (.ref 120)) [.ref 120, .type "list", .type "object"] ∧ Looks M h (Bind.madeBy (.ref 120)) (some "list.__new__") ∧ Looks M h (Bind.staticBase (.ref 120)) (.ref 120) := by
  have X := G.k
  obtain ⟨cd, hc, hmro⟩ : ∃ cd, clsIn (Mine.heapK w.params) 120 = some cd ∧ cd.mro = [.ref 120, .type "list", .type "object"] := ⟨_, rfl, rfl⟩
  have hm : Looks M h (mroOf (.ref 120)) [.ref 120, .type "list", .type "object"] := by
    rw [← hmro]; exact (looks_clsIn X hc).andThen .now
  obtain ⟨o, ho, hsl⟩ : ∃ o, (Mine.heapK w.params).lookup 120 = some o ∧ o.slots[4]? = some (some (.builtin "list.__new__")) := ⟨_, rfl, rfl⟩
  have made : Looks M h (Bind.madeBy (.ref 120)) (some "list.__new__") := by
    intro A Q E s k q
    unfold Bind.madeBy
    refine wpAny_bind (hm A _ E s k ?_)
    rw [List.forIn_cons]
    refine wpAny_bind (wpAny_bind (wpAny_bind (wpAny_bind (wpAny_loadPart (k _ _ (X _ _ ho)) (wpAny_pure ?_)))))
    try dsimp only
    rw [hsl]
    exact wpAny_pure (wpAny_pure (wpAny_pure q))
  refine ⟨hm, made, ?_⟩
  intro A Q E s k q
  unfold Bind.staticBase
  refine wpAny_bind (hm A _ E s k ?_)
  rw [List.forIn_cons]
  exact wpAny_bind (wpAny_bind (wpAny_bind (made A _ E s k (wpAny_pure (wpAny_pure (wpAny_pure q))))))

theorem new_acc (G : Gr w h)
    (hq : R (.ok (.ret (.ref (h.objs.size + 1)))) ⟨(h.push emptyDict).push (accObj h.objs.size #[] 0), g, d, t, os⟩) :
    codeAny (model prog w) A (.call (.builtin "list.__new__") ⟨[.ref 120], []⟩) R ⟨h, g, d, t, os⟩ := by
  obtain ⟨hm, made, base⟩ := acc_looks (M := model prog w) G
  have typ : Looks (model prog w) h (isInstance (.ref 120) (.type "type")) true := looks_instIn G.k (by k_is)
  have sub : Looks (model prog w) h (isSubtype (.ref 120) (.type "list")) true := looks_subIn G.k (by k_is)
  obtain ⟨oc, od, cd, sl, hC, e2⟩ : ∃ oc od cd sl, h.get? 120 = some ⟨oc, od, .cls cd, sl⟩ ∧ cd.hasDel = false := ⟨_, _, _, _, G.k 120 _ rfl, rfl⟩
  have ha : argsOk "list.__new__" ⟨[.ref 120], []⟩ := by unfold argsOk; kernel_rfl
  have kind : builtinKind "list.__new__" = some .builtinFn := by decide +kernel
  have split : splitId "list.__new__" = some ("list", "__new__") := by decide +kernel
  refine codeAny_call_builtin_code (Code.quiet_builtin _ (by decide +kernel)) ?_
  simp only [checkBuiltinCall, kind, split]
  have here : Looks (model prog w) h (Bind.madeHere "list.__new__" (.ref 120)) () := base.andThen (made.andThen (Looks.of_pure (by simp only [Option.map_some, bne_self_eq_false, Bool.false_eq_true, if_false])))
  have ha' : (match Manifest.signature? "list.__new__" with
        | some sig => Bind.checkArgs "list.__new__" sig ⟨[.ref 120], []⟩
        | none => pure ()) = pure () := by
    unfold argsOk at ha
    cases e : Manifest.signature? "list.__new__" with
    | none => rfl
    | some sig => rw [e] at ha; exact ha
  repeat (first | simp only [bne_self_eq_false, Bool.false_eq_true, if_false] | lk)
  refine codeAny_builtin_stack F.entry_list_new rfl fun p st => ?_
  simp only [owner_list_new]
  have fin : wpAny (model prog w) (A.under (.builtin "list.__new__" ⟨[.ref 120], []⟩)) (do
      let .ref d ← newDict | unsupported "internal:list.__new__"
      ret (← newObj (.ref 120) (.seq #[]) (some d))) (fun fin s' => match fin with | .done f => R (.ok f) s' | .again c' => c'.quiet = true ∧ codeAny (model prog w) A c' R s') (fun e s' => R (.error e) s') ⟨h, g, d, t, os⟩ := by
    refine wpAny_bind (m := newDict) (wpAny_newObj_type ?_ (by size_fits))
    try dsimp only
    refine wpAny_bind ?_
    have z : newObj (.ref 120) (.seq #[]) (some h.objs.size) = newObjAsIs (.ref 120) (.seq #[]) (some h.objs.size) := by
      unfold newObj
      rfl
    rw [z]
    unfold newObjAsIs classHasDel
    refine wpAny_bind (wpAny_alloc (wpAny_bind (wpAny_bind (wpAny_load (Heap.get?_push_of_some _ (Heap.get?_push_of_some _ hC)) (wpAny_pure ?_)))))
    rw [e2]
    refine wpAny_pure (wpAny_pure ?_)
    show R _ _
    rw [Heap.size_push]
    exact hq
  repeat (first | simp only [bne_self_eq_false, Bool.false_eq_true, if_false] | exact fin | lk)

theorem make_acc (G : Gr w h)
    (hq : codeAny (model prog w) (A.under (.builtin "type.__call__" ⟨[.ref 120], []⟩)) (.call (.ref 59) ⟨[.ref (h.objs.size + 1)], []⟩) (InitBack (h.objs.size + 1) R) ⟨(h.push emptyDict).push (accObj h.objs.size #[] 0), g, d, t, os⟩) :
    codeAny (model prog w) A (.call (.ref 120) ⟨[], []⟩) R ⟨h, g, d, t, os⟩ := by
  have X := G.k
  obtain ⟨hm, made, base⟩ := acc_looks (M := model prog w) G
  have typ : Looks (model prog w) h (isInstance (.ref 120) (.type "type")) true := looks_instIn X (by k_is)
  have self : Looks (model prog w) h (isSubtype (.ref 120) (.ref 120)) true := looks_subIn X (by k_is)
  have hcall : Looks (model prog w) h (specialOf (.ref 120) "__call__") (some (.builtin "type.__call__")) := looks_specialIn X (by k_is)
  have hi : Looks (model prog w) h (typeLookup (.ref 120) "__init__") (some (.ref 59)) := looks_findIn X (by k_is)
  have hb : ∀ v, Looks (model prog w) h (bindSpecial (.ref 59) v) (.ref 59, [v]) := fun v => bind_fn X v (by k_is)
  obtain ⟨oc, od, cd, sl, hC, e2⟩ : ∃ oc od cd sl, h.get? 120 = some ⟨oc, od, .cls cd, sl⟩ ∧ cd.hasDel = false := ⟨_, _, _, _, G.k 120 _ rfl, rfl⟩
  refine codeAny_of_tree ?_
  show wpAny _ _ (callAny (.ref 120) _) _ _ _
  refine nd_load hC ?_
  show wpAny _ _ (callAny.viaDunder (.ref 120) _) _ _ _
  unfold callAny.viaDunder
  refine wpAny_bind (hcall.at ?_)
  try dsimp only
  rw [tc_bind]
  refine wpAny_bind (wpAny_pure (wpAny_bind (wpAny_pure ?_)))
  refine wpAny_pure (a := Fin.again (.call (.builtin "type.__call__") ⟨[.ref 120], []⟩)) (And.intro rfl ?_)
  with_reducible refine codeAny_call_builtin_at (Code.quiet_builtin _ (by decide +kernel)) entry_typeCall (check_slot tc_kind tc_split typ (tc_args _ _ _) ?_)
  unfold Builtin.«type.__call__»
  repeat (first | simp only [Bool.false_eq_true, if_false, List.isEmpty_cons] | with_reducible refine wpAny_call ?_ | lk)
  refine new_acc G ?_
  have k : ∀ b o, h.get? b = some o → ((h.push emptyDict).push (accObj h.objs.size #[] 0)).get? b = some o := fun b o e => Heap.get?_push_of_some _ (Heap.get?_push_of_some _ e)
  have hx : ((h.push emptyDict).push (accObj h.objs.size #[] 0)).get? (h.objs.size + 1) = some (accObj h.objs.size #[] 0) := by
    have := Heap.get?_push_size (h.push emptyDict) (o := accObj h.objs.size #[] 0) rfl
    rwa [Heap.size_push] at this
  have t1 : Looks (model prog w) ((h.push emptyDict).push (accObj h.objs.size #[] 0)) (typeOf (.ref (h.objs.size + 1))) (.ref 120) := (Looks.ld hx).andThen .now
  have s1 := self.keeps k
  have i1 := hi.keeps k
  have b1 := (hb (.ref (h.objs.size + 1))).keeps k
  unfold isInstance callSpecial? specialOf
  repeat (first | with_reducible refine wpAny_call ?_ | lk)
  refine codeAny_mono hq fun r s' z => ?_
  rcases r with e | (v | _ | _ | _) <;> first | exact z | exact z.elim | skip
  obtain ⟨rfl, z⟩ := z
  exact wpAny_pure (wpAny_pure z)
end
section
variable {prog : Program} {w : World} {A : Around} {E : Value → Shared → Prop} {s : Shared} {K : Frag}
/-- the first attribute of an own object -/
theorem setFirst {x dx C : Addr} {ox : Obj} {cd : ClassData} {name : Str} {v : Value} {Q : Unit → Shared → Prop} (X : K.In s.heap) (I : InstAt s.heap x ox C (some emptyDict)) (hd : ox.dict = some dx)
    (hs : findIn K (.ref C) "__setattr__" = some (some (.builtin "object.__setattr__"))) (hc : clsIn K C = some cd) (hne : cd.mro.isEmpty = false) (hobj : cd.mro.contains (.type "object") = true) (hr : ∀ self, refuseLoop self "__setattr__" cd.mro = pure ())
    (ht : findIn K (.ref C) name = some none) (hh : cd.hasDict = true)
    (h : ∀ h', Heap.SameBut dx s.heap h' → h'.get? dx = some (dictOf [⟨PyData.keyHash w.params name, .str name (s.toks + 1), v⟩] 1) → Q () { s with heap := h', toks := s.toks + 2 }) :
    wpAny (model prog w) A (setAttr (.ref x) name v) Q E s := by
  have SF := PySem.F.store_object
  obtain ⟨hp, g, d, tk, os⟩ := s
  refine set_plain X I hs ?_
  have sub : Looks (model prog w) hp (isInstance (.ref x) (.type "object")) true := I.type.andThen (looks_mroIn X (by unfold mroIn; rw [hc, Option.bind_some, if_neg (by rw [hne]; decide), hobj]))
  refine codeAny_call_builtin SF.slot.plain SF.entry (@check_slot (model prog w) _ _ ⟨hp, g, d, tk + 1, os⟩ "object.__setattr__" "object" "__setattr__" (.ref x) [.str name tk, v] [] _ SF.kind SF.split sub (SF.args (.ref x) (.str name tk) v) ?_)
  have hm : Looks (model prog w) hp (mroOf (.ref C)) cd.mro := (looks_clsIn X hc).andThen .now
  rw [osa_eq, refuse_eq]
  refine wpAny_bind (wpAny_bind (I.type.at (wpAny_bind (hm.at ?_))))
  rw [hr]
  refine wpAny_pure (wpAny_bind (I.type.at (wpAny_bind ((looks_findIn X ht).at (wpAny_bind (wpAny_pure ?_))))))
  try dsimp only
  obtain ⟨hx, hcl, hn, hdx⟩ := I
  obtain ⟨oc, odi, oda, osl⟩ := ox
  dsimp only at hcl hd hdx
  subst hcl hd
  replace hdx : hp.get? dx = some emptyDict := hdx
  refine wpAny_bind (wpAny_pure (wpAny_bind (wpAny_bind (wpAny_loadPart hx (wpAny_bind ((looks_clsIn X hc).at ?_))))))
  rw [hh]
  refine wpAny_pure (a := some dx) (wpAny_bind (wpAny_pure (wpAny_bind ?_)))
  unfold nsSet
  refine wpAny_bind (wpAny_bind (wpAny_askSetting (wpAny_pure (wpAny_bind (wpAny_mkText (wpAny_bind (wpAny_loadPart hdx ?_)))))))
  try dsimp only
  rw [aRefKeyMayBeTheName_at]
  have e : Obj.putName name (PyData.keyHash w.params name) (.str name (tk + 1)) v emptyDict = dictOf [⟨PyData.keyHash w.params name, .str name (tk + 1), v⟩] 1 := by
    have := putName_dict name (PyData.keyHash w.params name) (.str name (tk + 1)) v [] 0
    exact this
  have D' : (hp.update dx (Obj.putName name (PyData.keyHash w.params name) (.str name (tk + 1)) v)).get? dx = some (dictOf [⟨PyData.keyHash w.params name, .str name (tk + 1), v⟩] 1) := by
    rw [Heap.get?_update_self _ hdx (by rw [e]; rfl), e]
  rw [if_neg (by simp)]
  refine wpAny_updatePart (s := ⟨hp, g, d, tk + 1 + 1, os⟩) hdx ?_
  refine wpAny_bind (wpAny_lookBehind (s := ⟨_, g, d, tk + 1 + 1, os⟩) D' (pastItsLine_dict (by simp [sizeLine_eq])) ?_)
  exact wpAny_pure (h _ (Heap.SameBut.update ..) D')
end

end
section
/- Make2 -/
section
variable {prog : Program} {w : World} {A : Around} {E : Value → Shared → Prop} {h : Heap} {g : Array GenState} {d : Drawn} {t : Nat} {os : OsState}
theorem mw_get : typeLookup (.type "wrapper_descriptor") "__get__" = pure (some (.builtin "wrapper_descriptor.__get__")) := by rw [typeLookup_type, builtinLookup_eq_fast]; kernel_rfl
theorem mw_entry : entryFor table "wrapper_descriptor.__get__" = some Builtin.«wrapper_descriptor.__get__» := entryFor_of_tree (by kernel_rfl)
theorem mw_args (a b c : Value) : argsOk "wrapper_descriptor.__get__" ⟨[a, b, c], []⟩ := by unfold argsOk; kernel_rfl

theorem mw_call {x dx C : Addr} {items : Array Value} {n : Nat} {Q : Value → Shared → Prop} (G : Gr w h) (hx : h.get? x = some (accObj dx items n))
    (hq : Q (.ref h.objs.size) ⟨h.push { cls := .type "method-wrapper", data := .fields #[.builtin "list.__init__", .ref x] }, g, d, t, os⟩) :
    wpAny (model prog w) A (call (.builtin "wrapper_descriptor.__get__") [.builtin "list.__init__", .ref x, .ref C]) Q E ⟨h, g, d, t, os⟩ := by
  have i1 : Looks (model prog w) h (isInstance (.builtin "list.__init__") (.type "wrapper_descriptor")) true := looks_instIn G.k (by k_is)
  have i2 : Looks (model prog w) h (isInstance (.ref x) (.type "list")) true := acc_isList G hx
  with_reducible refine wpAny_call (codeAny_call_builtin (by decide +kernel) mw_entry (check_slot (i := "wrapper_descriptor.__get__") (owner := "wrapper_descriptor") (n := "__get__") (by decide +kernel) (by decide +kernel) i1 (mw_args _ _ _) ?_))
  unfold Builtin.«wrapper_descriptor.__get__»
  have hn : ∀ y : Value, y = .type "list" → Looks (model prog w) h (isInstance (.ref x) y) true := fun y e => by rw [e]; exact i2
  repeat (first | (with_reducible refine Looks.at (hn _ (by kernel_rfl)) ?_) | lk)
  exact hq

theorem sup_ga {so x dx : Addr} {items : Array Value} {n : Nat} {tk : Tok} {name : Str} {Q : Fin → Shared → Prop} (G : Gr w h)
    (hf : alongIn (Mine.heapK w.params) name [.type "list", .type "object"] = some (some (.builtin "list.__init__"))) (hn : (name == ("__class__" : Str)) = false)
    (hso : h.get? so = some (ks_superObj 120 x 120)) (hx : h.get? x = some (accObj dx items n))
    (hq : Q (.done (.ret (.ref h.objs.size))) ⟨h.push { cls := .type "method-wrapper", data := .fields #[.builtin "list.__init__", .ref x] }, g, d, t, os⟩) :
    wpAny (model prog w) A (Builtin.«super.__getattribute__» ⟨[.ref so, .str name tk], []⟩) Q E ⟨h, g, d, t, os⟩ := by
  have X := G.k
  have hC : Looks (model prog w) h (mroOf (.ref 120)) [.ref 120, .type "list", .type "object"] := (acc_looks G).1
  have hl : (([.ref 120, .type "list", .type "object"] : List Value).dropWhile (· != .ref 120)).drop 1 = [.type "list", .type "object"] := by decide +kernel
  have hno : Looks (model prog w) h (opaqueClassAbove (.ref 120)) none := looks_opaque X (by k_is)
  have ty : Looks (model prog w) h (typeOf (.builtin "list.__init__")) (.type "wrapper_descriptor") := looks_typeIn X (by k_is)
  have hlk : Looks (model prog w) h (typeLookup (.type "wrapper_descriptor") "__get__") (some (.builtin "wrapper_descriptor.__get__")) := Looks.of_pure mw_get
  have hne : (Value.ref x == Value.ref 120) = false := by
    have : x ≠ 120 := by
      intro q
      have := G.k 120 _ rfl
      rw [← q, hx] at this; cases this
    simp [this]
  have hdt : (ks_superObj 120 x 120).data = .fields #[.ref 120, .ref x, .ref 120] := rfl
  have f0 : (#[.ref 120, .ref x, .ref 120] : Array Value)[0]? = some (.ref 120) := rfl
  have f1 : (#[.ref 120, .ref x, .ref 120] : Array Value)[1]? = some (.ref x) := rfl
  have f2 : (#[.ref 120, .ref x, .ref 120] : Array Value)[2]? = some (.ref 120) := rfl
  unfold Builtin.«super.__getattribute__»
  repeat (first
    | with_reducible refine wpAny_pure ?_ | with_reducible refine wpAny_bind ?_
    | (with_reducible refine wpAny_field hso hdt f0 ?_) | (with_reducible refine wpAny_field hso hdt f1 ?_) | (with_reducible refine wpAny_field hso hdt f2 ?_)
    | (with_reducible refine ks_wpAny_notOpaque hno ?_)
    | (with_reducible refine Looks.at hC ?_; rw [hl])
    | (with_reducible refine Looks.at ty ?_)
    | (with_reducible refine Looks.at hlk ?_)
    | (with_reducible refine mw_call G hx ?_)
    | (simp only [hn, hne, Bool.or_false, Bool.false_eq_true, if_false])
    | (refine ks_forIn_along X (fun _ _ => rfl) rfl ?_ hf)
    | wp_step
    | dsimp only)
  all_goals exact hq

theorem sup_method {so x dx : Addr} {items : Array Value} {n : Nat} {pl : Sem Bool} {Q : Value × List Value → Shared → Prop} (G : Gr w h)
    (hso : h.get? so = some (ks_superObj 120 x 120)) (hx : h.get? x = some (accObj dx items n))
    (hq : Q (.ref h.objs.size, []) ⟨h.push { cls := .type "method-wrapper", data := .fields #[.builtin "list.__init__", .ref x] }, g, d, t + 1, os⟩) :
    wpAny (model prog w) A (getMethod (.ref so) "__init__" pl) Q E ⟨h, g, d, t, os⟩ := by
  have hlk := F.ks_slot_super_ga.lookup
  have hcan := F.ks_canon_super_ga
  have hT : ∀ t', (⟨h, g, d, t', os⟩ : Shared).TypeIs (.ref so) "super" := fun _ => ⟨_, hso, rfl⟩
  unfold getMethod
  refine wpAny_bind (wpAny_specialOf (hT _) hlk ?_)
  show wpAny _ _ (if (Manifest.canonical "super.__getattribute__" != "object.__getattribute__") = true then _ else _) _ _ _
  rw [if_pos hcan]
  unfold getAttr getAttrBy
  refine wpAny_bind (wpAny_bind (wpAny_mkText (wpAny_holding (wpAny_bind (wpAny_typeOf (hT _) (wpAny_bind (wpAny_of_eq hlk ?_)))))))
  show wpAny _ _ (getAttrByItsOwn (.ref so) (.str "__init__" t) (.type "super") (.builtin "super.__getattribute__") true false) _ _ _
  unfold getAttrByItsOwn hookBefore callGetattribute boundAndCalled
  refine wpAny_bind (wpAny_of_eq (show (if onTheHeap (.type "super") then typeLookup (.type "super") "__getattr__" else pure none) = pure none from rfl) ?_)
  refine wpAny_bind (wpAny_attempt (wpAny_holding ?_))
  show wpAny _ _ (bindSpecial (.builtin "super.__getattribute__") (.ref so) >>= _) _ _ _
  refine wpAny_bind (wpAny_of_eq (F.ks_slot_super_ga.bind _) ?_)
  refine wpAny_mono (Q := fun v s' => v = .ref h.objs.size ∧ s' = ⟨h.push { cls := .type "method-wrapper", data := .fields #[.builtin "list.__init__", .ref x] }, g, d, t + 1, os⟩) (E := fun _ _ => False)
    (wpAny_call_entry F.ks_slot_super_ga (hT _) F.ks_entry_super_ga (sup_ga G (by kernel_rfl) (by decide +kernel) hso hx ⟨_, rfl, rfl, rfl⟩) (F.ks_gaArgs_super _ _)) (fun v s' hv => ?_) fun _ _ z => z.elim
  obtain ⟨rfl, rfl⟩ := hv
  exact wpAny_pure (wpAny_pure hq)
end

end
section
/- Mk3a -/
section
variable {prog : Program} {w : World} {A : Around} {E : Value → Shared → Prop} {s : Shared}
theorem mw_init {q x dx : Addr} {Q : Value → Shared → Prop} (G : Gr w s.heap) (hq : s.heap.get? q = some { cls := .type "method-wrapper", data := .fields #[.builtin "list.__init__", .ref x] }) (hx : s.heap.get? x = some (accObj dx #[] 0))
    (h : ∀ h' n, Heap.SameBut x s.heap h' → h'.get? x = some (accObj dx #[] n) → Q .none { s with heap := h' }) :
    wpAny (model prog w) A (call (.ref q) []) Q E s := by
  refine wpAny_call (codeAny_of_tree ?_)
  show wpAny _ _ (callAny (.ref q) _) _ _ _
  unfold callAny
  refine wpAny_bind (wpAny_load hq ?_)
  try dsimp only
  rw [if_pos (by decide)]
  have hb : checkBoundCall "list.__init__" ⟨[.ref x], []⟩ = pure () := by kernel_rfl
  have he : entryFor table "list.__init__" = some Builtin.«list.__init__» := entryFor_of_tree (by kernel_rfl)
  refine wpAny_bind (m := checkBoundCall "list.__init__" ⟨[.ref x], []⟩) (wpAny_of_eq hb (wpAny_pure (a := Fin.again (.builtin "list.__init__" ⟨[.ref x], []⟩)) ⟨Code.quiet_builtin _ (by decide +kernel), codeAny_builtin he ?_⟩))
  show wpAny _ _ (do
    let old ← Builtin.List.listItems (.ref x)
    Builtin.List.listUpdate (.ref x) fun _ => #[]
    letGo old.toList.reverse
    ret .none) _ _ s
  unfold Builtin.List.listItems
  refine wpAny_bind (wpAny_bind (wpAny_seqItems hx rfl (wpAny_pure ?_)))
  show wpAny _ _ (updateSeq x _ >>= _) _ _ s
  refine wpAny_bind (wpAny_updateSeq hx rfl ?_ (by rw [sizeLine_eq]; simp) (by rw [sizeLine_eq]; simp))
  refine wpAny_bind (wpAny_letGo (wpAny_pure (h _ (if ((#[] : Array Value).size == (#[] : Array Value).size) = true then 0 else 0 + 1) (Heap.SameBut.update ..) ?_)))
  have e : Obj.mapSeq (fun _ => #[]) (accObj dx #[] 0) = accObj dx #[] (if ((#[] : Array Value).size == (#[] : Array Value).size) = true then 0 else 0 + 1) := by simp [Obj.mapSeq]
  rw [Heap.get?_update_self _ hx (by rw [e]; rfl), e]
end

end
section
/- Make3 -/
theorem acc_init {w : World} {A : Around} {s : Shared} {R : Result → Shared → Prop} {x dx : Nat} {g0 : Heap}
  (hroom : A.depth < recursionLimit) (G0 : Gr w g0) (hg0 : Sub g0 s.heap) (O1 : g0.get? x = none) (O2 : g0.get? dx = none) (hx : s.heap.get? x = some (accObj dx #[] 0)) (hd : s.heap.get? dx = some emptyDict)
  (hR : ∀ h' tk' n, s.toks ≤ tk' → h'.get? x = some (accObj dx #[] n) → AccD w h' dx → (∀ b o, b ≠ x → b ≠ dx → s.heap.get? b = some o → h'.get? b = some o) → R (.ok (.ret .none)) { s with heap := h', toks := tk' }) :
  codeAny (model Challenge.rw_xg0051_01.row.prog w) A (.call (.ref 59) ⟨[.ref x], []⟩) R s := by
  have G : Gr w s.heap := G0.up hg0
  obtain ⟨fo, hfo, hlk⟩ : ∃ fo, s.heap.get? 59 = some fo ∧ (Mine.heapK w.params).lookup 59 = some fo := ⟨_, G.k 59 _ rfl, rfl⟩
  have e0 := hlk
  conv at e0 => lhs; whnf
  have e1 := Option.some.inj e0
  subst e1
  refine ks_codeAny_call_defAt hroom hfo rfl G.nolimit (codeRec_of G.k (by k_is)) rfl (binds := [("self", .ref x), ("initial_size", .int 0 240)]) (by first | exact BindsTo.of_eq rfl | exact binds_K G.k rfl (by k_is) rfl rfl rfl) (by decide) (locs rfl) ?_
  intro h₀ hns hk
  clear e0 hlk
  have O := hideOff ((s.heap.hide x).hide dx) s.heap.objs.size
  have hsub : Sub g0 ((s.heap.hide x).hide dx) := sub_hide (sub_hide hg0 O1) O2
  have Gb := G0.up hsub
  have nL : ∀ {b : Addr} {o : Obj}, s.heap.get? b = some o → b ≠ s.heap.objs.size := fun e => Nat.ne_of_lt (Heap.lt_size e)
  have hxd : x ≠ dx := fun q => by rw [q, hd] at hx; cases hx
  have F : Fx ((s.heap.hide x).hide dx) s.heap.objs.size h₀ (fun y => List.lookup y [("initial_size", Value.int 0 240), ("self", .ref x)]) := ⟨hns, fun b o e => hk _ _ (Heap.of_hide (Heap.of_hide e))⟩
  have Ob : ((s.heap.hide x).hide dx).get? s.heap.objs.size = none := by
    cases q : ((s.heap.hide x).hide dx).get? s.heap.objs.size with
    | none => rfl
    | some o => exact absurd (Heap.lt_size (Heap.of_hide (Heap.of_hide q))) (Nat.lt_irrefl _)
  have Od : ((s.heap.hide x).hide dx).get? dx = none := hideOff _ _
  have Ox : ((s.heap.hide x).hide dx).get? x = none := by rw [Heap.hide_ne _ hxd]; exact hideOff _ _
  refine ks_wpAt_execs_cons (ks_wpAt_Assign_Attr (wpAt_of_wpAny ?_))
  refine nmL F rfl ?_
  refine nmL F rfl ?_
  have G1 := G.up hk
  refine setFirst (C := 120) G1.k (accInst (hk _ _ hx) (hk _ _ hd)) rfl (by k_is) rfl rfl (by kernel_rfl) ?pp (by k_is) rfl ?_
  case pp => intro self; rw [refuseLoop_ref]; kernel_rfl
  intro h1 S1 hd1
  have hx1 : h1.get? x = some (accObj dx #[] 0) := (S1.2 _ hxd).trans (hk _ _ hx)
  have F1 := F.same S1 Od (Ne.symm (nL hd))
  have G2 := Gb.up F1.keep
  try dsimp only
  refine ks_wpAt_execs_cons (ks_wpAt_Expr_any (ks_wpAt_MethodCall ?_))
  obtain ⟨_, mg, mb, _, T⟩ := Gb.t
  refine ks_wpAt_super_base (f := 59) (cc := 58) (by rfl) (by rfl) (by decide +kernel) (by rfl) (G2.k 59 _ rfl) rfl rfl (by rfl) (G2.k 58 _ rfl) rfl rfl (by decide +kernel) (by decide +kernel) ?_
  refine ks_loadName_global (by rfl) (by rfl) (loadGlobal_builtin (T.g.keeps F1.keep) (mg_none_of Gb.k T.g (by k_is)) (T.b.keeps F1.keep) ((T.builtins _ (by decide +kernel)).trans (by first | boot_by_name | boot_fast)) ⟨rfl, ?_⟩)
  obtain ⟨oc, hoc, hcell⟩ : ∃ oc, h1.get? 46 = some oc ∧ oc.data = .cell (some (.ref 120)) := ⟨_, G2.k 46 _ rfl, rfl⟩
  refine wpAny_loadName_free (by rfl) (by rfl) (by rfl) ⟨_, hoc, hcell⟩ ?_
  refine ldL F1 rfl ?_
  obtain ⟨oC, hC, cd, hCd⟩ : ∃ oC, h1.get? 120 = some oC ∧ ∃ cd, oC.data = .cls cd := ⟨_, G2.k 120 _ rfl, _, rfl⟩
  refine ks_wpAny_isType_cls hC hCd ⟨rfl, ?_⟩
  refine ks_wpAny_call_super hC hCd hx1 rfl (fun c e => by cases e) (looks_subIn G2.k (by k_is)) (fun h2 e k => ?_)
  have F2 := F1.up k
  have G3 := Gb.up F2.keep
  have hx2 := k _ _ hx1
  generalize h1.objs.size = so at e
  refine sup_method G3 e hx2 ?_
  try dsimp only
  have Lm : ∀ {h : Heap} {q : Addr}, h.get? q = some { cls := .type "method-wrapper", data := .fields #[.builtin "list.__init__", .ref x] } → Looks (model Challenge.rw_xg0051_01.row.prog w) h (keeperOf (.ref q)) .machine := fun z => (Looks.ld (part := none) z).andThen .now
  generalize eq3 : h2.push _ = h3
  have k3 : Sub h2 h3 := fun b o q => by rw [← eq3]; exact Heap.get?_push_of_some _ q
  have hm3 : h3.get? h2.objs.size = some { cls := .type "method-wrapper", data := .fields #[.builtin "list.__init__", .ref x] } := by rw [← eq3]; exact Heap.get?_push_size _ rfl
  generalize h2.objs.size = mw at hm3
  refine callWith_of (P := fun h => h.get? mw = some { cls := .type "method-wrapper", data := .fields #[.builtin "list.__init__", .ref x] }) rfl (fun h z => ⟨.machine, .inr (.inl rfl), Lm z⟩) (evalArgs_nil3 ⟨hm3, ?_⟩)
  have F3 := F2.up k3
  refine mw_init (Gb.up F3.keep) hm3 (k3 _ _ hx2) ?_
  intro h4 n4 S4 hx4
  try dsimp only
  refine wpAt_of_wpAny (wpAny_execs_nil ?_)
  have hd4 : h4.get? dx = _ := (S4.2 _ (Ne.symm hxd)).trans (k3 _ _ (k _ _ hd1))
  have htt : s.toks ≤ s.toks + [(Str.ofString "self", Value.ref x), (Str.ofString "initial_size", Value.int 0 240)].length + 2 + 1 := by walk_at "om"
  refine hR h4 _ n4 htt hx4 ⟨_, _, hd4⟩ fun b o hb1 hb2 e => ?_
  exact (S4.2 _ hb1).trans (k3 _ _ (k _ _ ((S1.2 _ hb2).trans (hk _ _ e))))

end
section
/- New -/
section
variable {w : World} {A : Around} {E : Value → Shared → Prop} {s : Shared}
theorem acc_new {Q : Value → Shared → Prop} (G : Gr w s.heap) (hd : A.depth + 3 < recursionLimit)
    (h : ∀ (a d : Nat) h' tk' n, s.heap.objs.size < a → s.toks ≤ tk' → Sub s.heap h' → s.heap.get? a = none → s.heap.get? d = none → h'.get? a = some (accObj d #[] n) → AccD w h' d → Q (.ref a) { s with heap := h', toks := tk' }) :
    wpAny (model Challenge.rw_xg0051_01.row.prog w) A (call (.ref 120) []) Q E s := by
  obtain ⟨hp, g, dr, tk, os⟩ := s
  have k : Sub hp ((hp.push emptyDict).push (accObj hp.objs.size #[] 0)) := fun b o e => Heap.get?_push_of_some _ (Heap.get?_push_of_some _ e)
  have hd0 : (hp.push emptyDict).get? hp.objs.size = some emptyDict := Heap.get?_push_size _ rfl
  have hx : ((hp.push emptyDict).push (accObj hp.objs.size #[] 0)).get? (hp.objs.size + 1) = some (accObj hp.objs.size #[] 0) := by
    have := Heap.get?_push_size (hp.push emptyDict) (o := accObj hp.objs.size #[] 0) rfl
    rwa [Heap.size_push] at this
  have n1 : hp.get? (hp.objs.size + 1) = none := by
    cases q : hp.get? (hp.objs.size + 1) with
    | none => rfl
    | some o => have := ltN (Heap.lt_size q); walk_at "om"
  refine wpAny_call (make_acc G ?_)
  refine acc_init (s := ⟨_, g, dr, tk, os⟩) ?_ G k n1 (new_none _) hx (Heap.get?_push_of_some _ hd0) ?_
  · simp only [depth_under_make, depth_in1]
    walk_at "om"
  · intro h' tk' n ht ha hD hk
    exact ⟨rfl, h _ _ h' tk' n (Nat.lt_succ_self _) ht (fun b o e => hk b o (fun q => by rw [q, n1] at e; cases e) (fun q => by rw [q, new_none] at e; cases e) (k _ _ e)) n1 (new_none _) ha hD⟩
end

end
section
/- New2 -/
theorem tc_init {w : World} {A : Around} {s : Shared} {R : Result → Shared → Prop} {x dx l : Nat} {g0 : Heap}
  (hd' : A.depth < recursionLimit) (hh : A.handled = none) (G0 : Gr w g0) (hg0 : Sub g0 s.heap) (O2 : g0.get? dx = none) (hx : s.heap.get? x = some (instObj 148 dx)) (hd : s.heap.get? dx = some emptyDict)
  (hR : ∀ h' tk' tk, s.toks ≤ tk' → h'.get? dx = some (dictOf [⟨PyData.keyHash w.params (Str.ofString "comp_select_list"), .str (Str.ofString "comp_select_list") tk, .ref l⟩] 1) → (∀ b o, b ≠ dx → s.heap.get? b = some o → h'.get? b = some o) → R (.ok (.ret .none)) { s with heap := h', toks := tk' }) :
  codeAny (model Challenge.rw_xg0051_01.row.prog w) A (.call (.ref 138) ⟨[.ref x, .ref l], []⟩) R s := by
  have G : Gr w s.heap := G0.up hg0
  have hsub := sub_of_hide s.heap dx
  have Gb := G0.up (sub_hide hg0 O2)
  have Ob := hideOff s.heap dx
  refine' enter [("self", .ref x), ("comp_select_list", .ref l)] (s.heap.hide dx) G.k G.nolimit (by first | exact fun _ _ e => e | assumption) ?k1 ?k2 ?k3 ?k4 ?k5 ?_ ?c2 ?c3 ?c4 ?c5
  case k1 => k_is
  case k2 => k_is
  case k3 => walk_at "om"
  case k4 => first | exact BindsTo.of_eq rfl | exact binds_K G.k rfl (by k_is) rfl rfl rfl
  case k5 => exact locs rfl
  case c2 => decide
  case c3 => exact rfl
  case c4 => exact rfl
  case c5 => exact rfl
  intro L h' A' tk0 hL hkeep F O eh ed eu htk
  have hh' : A'.handled = none := eh.trans hh
  refine wpAny_execs_cons (plainObj_wpAny_Assign_Attribute (nmL F rfl ?_))
  refine nmL F rfl ?_
  have G1 := G.up hkeep
  refine setFirst (C := 148) G1.k ⟨hkeep _ _ hx, rfl, rfl, hkeep _ _ hd⟩ rfl (by k_is) rfl rfl (by kernel_rfl) ?pp (by k_is) rfl ?_
  case pp => intro self; rw [refuseLoop_ref]; kernel_rfl
  intro h1 S1 hd1
  dsimp only at hd1 S1
  walk_at "un"
  refine wpAny_execs_nil ?_
  exact hR h1 _ _ (by dsimp only; walk_at "om") hd1 fun b o hb e => (S1.2 _ hb).trans (hkeep _ _ e)

section
variable {w : World} {A : Around} {E : Value → Shared → Prop} {s : Shared}
theorem tc_new {l t : Nat} {way : Int} {t1 tw n : Nat} {Q : Value → Shared → Prop} (G : Gr w s.heap) (hd : A.depth + 3 < recursionLimit) (hu : A.units + 20 < cLine) (hh : A.handled = none)
    (hl : s.heap.get? l = some (listOf #[.ref t] n)) (ht : IsTup s.heap t #[.int 1 t1, .int way tw])
    (h : ∀ (x dx : Nat) h' tk' tk, s.toks ≤ tk' → Sub s.heap h' → s.heap.get? x = none → s.heap.get? dx = none → h'.get? x = some (instObj 148 dx) → h'.get? dx = some (dictOf [⟨PyData.keyHash w.params (Str.ofString "comp_select_list"), .str (Str.ofString "comp_select_list") tk, .ref l⟩] 1) → Q (.ref x) { s with heap := h', toks := tk' }) :
    wpAny (model Challenge.rw_xg0051_01.row.prog w) A (call (.ref 148) [.ref l]) Q E s := by
  obtain ⟨hp, g, dr, tk, os⟩ := s
  have k : Sub hp ((hp.push emptyDict).push (instObj 148 hp.objs.size)) := fun b o e => Heap.get?_push_of_some _ (Heap.get?_push_of_some _ e)
  have hd0 : (hp.push emptyDict).get? hp.objs.size = some emptyDict := Heap.get?_push_size _ rfl
  have hx : ((hp.push emptyDict).push (instObj 148 hp.objs.size)).get? (hp.objs.size + 1) = some (instObj 148 hp.objs.size) := by
    have := Heap.get?_push_size (hp.push emptyDict) (o := instObj 148 hp.objs.size) rfl
    rwa [Heap.size_push] at this
  have n1 : hp.get? (hp.objs.size + 1) = none := by
    cases q : hp.get? (hp.objs.size + 1) with
    | none => rfl
    | some o => have := ltN (Heap.lt_size q); walk_at "om"
  have X := G.k
  refine wpAny_call (make_core (makes_of X (by k_is)) (looks_findIn X (by k_is)) (fun self => bind_fn X self (by k_is)) (.inl rfl) ?_)
  refine tc_init (s := ⟨_, g, dr, tk, os⟩) ?_ hh G k (new_none _) hx (Heap.get?_push_of_some _ hd0) ?_
  · simp only [depth_under_make, depth_in1]
    walk_at "om"
  · intro h' tk' tk2 ht' hD hk
    have k2 : Sub hp h' := fun b o e => hk b o (fun q => by rw [q, new_none] at e; cases e) (k _ _ e)
    exact ⟨rfl, h _ _ h' tk' _ ht' k2 n1 (new_none _) (hk _ _ (Nat.succ_ne_self _) hx) hD⟩
end

end
section
/- Cell -/
/-- entering a def of the text some of whose names are cells -/
theorem enterC {prog : Program} {w : World} {A : Around} {s : Shared} {K : Frag} {R : Result → Shared → Prop} {name qual : Str} {params : Arguments} {body : List Stmt} {scope : Scope}
    {dV kV doc pm cdv ct oc : Value} {an od : Option Addr} {osl : Array (Option Value)} {f : Addr} {args : Args} (binds : List (Str × Value)) (g : Heap)
    (X : K.In s.heap) (hlim : s.heap.NoLimit) (hg : Sub g s.heap)
    (ho : K.lookup f = some ⟨oc, od, .func (fnOf name qual params body scope dV kV doc pm an cdv ct), osl⟩) (hcd : codeIn K cdv qual = true) (hroom : A.depth < recursionLimit)
    (hbind : BindsTo s (fnOf name qual params body scope dV kV doc pm an cdv ct) args binds)
    (hkind : ∀ n, ∀ x ∈ binds, scope.names.lookup x.1 = some .local ∨ (scope.names.lookup x.1 = some .cell ∧ ((cellsFrom n scope.names []).lookup x.1).isSome = true))
    (h : ∀ (L' : Nat) h₁ A' tk, L' = s.heap.objs.size → Sub s.heap h₁ → Fx g L' h₁ (bindL (envOfC qual scope L' f cdv).kindOf binds fun _ => none) →
      (∀ n c, (cellsFrom (L' + 1) scope.names []).lookup n = some c → h₁.IsCell c (bindC (envOfC qual scope L' f cdv).kindOf binds (fun _ => none) n)) → (∀ b : Nat, L' ≤ b → g.get? b = none) →
      A'.handled = A.handled → A'.depth = A.depth + 1 → A'.units = A.units + 3 → s.toks ≤ tk →
      wpAny (model prog w) A' (execs body (envX qual scope L' f cdv (cellsFrom (L' + 1) scope.names [])))
        (fun fl s' => R (.ok (.ret (match fl with | .ret v => v | _ => .none))) s') (fun _ _ => False) { s with heap := h₁, toks := tk })
    (hco : scope.isCoroutine = false) (hgen : scope.isGenerator = false) (hk : scope.kind = .function) :
    codeAny (model prog w) A (.call (.ref f) args) R s := by
  refine codeAny_call_function hroom (X _ _ ho) rfl hco hgen rfl (codeRec_of X hcd) (hbind _ _ _ _ ?_)
  refine wpAny_with_toks (Nat.le_refl s.toks) (wpAny_newFunctionEnv_cells hk (hkind _) fun env' he s' x => ?_)
  subst he
  intro ht
  refine ⟨hlim.keeps x.toInCall.keep, codeAny_func ?_⟩
  obtain ⟨h₁, tk, rfl, _⟩ := x.done
  have hk₁ := x.toInCall.keep
  have hn : ∀ b : Nat, s.heap.objs.size ≤ b → g.get? b = none := fun b hb => by
    cases q : g.get? b with
    | none => rfl
    | some o => have := ltN (Heap.lt_size (hg _ _ q)); walk_at "om"
  exact wpAny_mono (h s.heap.objs.size h₁ (A.deeper (envX qual scope s.heap.objs.size f cdv (cellsFrom (s.heap.objs.size + 1) scope.names []))) tk rfl hk₁ ⟨x.toInCall.ns, fun b o e => hk₁ b o (hg b o e)⟩ (fun n c e => x.cell n c e) hn rfl rfl rfl ht) (fun fl s' hl => hl) fun _ _ y => y.elim

section
variable {M : Model} {A : Around} {E : Value → Shared → Prop} {s : Shared} {env : Env} {g : Heap} {L c : Addr} {m : Str → Option Value} {x : Str} {pos : Pos} {v : Value}
/-- a name that is a cell -/
theorem nmG {Q : Value → Shared → Prop} (F : Fx g L s.heap m) (hc : env.cells.lookup x = some c) (hcell : g.IsCell c (some v)) (h : Q v s)
    (hk : env.scope.kind = .function := by k_dflt rfl) (hx : env.kindOf x = some .cell := by k_dflt rfl) (hb : (x == ("__debug__" : Str)) = false := by k_dflt decide) :
    wpAny M A (eval (.Name x pos) env) Q E s := wpAny_Name (wpAny_loadName_cell hk hx hc (hcell.keeps F.keep) h) hb
/-- a store into a cell -/
theorem stG {v₀ : Option Value} {Q : Unit → Shared → Prop} (F : Fx g L s.heap m) (hc : env.cells.lookup x = some c) (hcell : s.heap.IsCell c v₀) (O : g.get? c = none) (hL : L ≠ c)
    (h : ∀ h', Fx g L h' m → Heap.SameBut c s.heap h' → h'.IsCell c (some v) → Q () { s with heap := h' })
    (hk : env.scope.kind = .function := by k_dflt rfl) (hx : env.kindOf x = some .cell := by k_dflt rfl) : wpAny M A (storeName env x v) Q E s :=
  wpAny_storeName_cell hk hx hc hcell fun h' hv hs => h h' (F.same hs O hL) hs hv
end
theorem IsCell.hide {h : Heap} {c b : Addr} {v : Option Value} (x : h.IsCell c v) (hb : c ≠ b) : (h.hide b).IsCell c v := let ⟨o, e, r⟩ := x; ⟨o, hide_in e hb, r⟩
noncomputable def forBody : Stmt → List Stmt
  | .For _ _ b _ _ => b
  | _ => []
noncomputable def nthBody (l : List Stmt) (n : Nat) : List Stmt := match l.drop n with
  | s :: _ => forBody s
  | [] => []
noncomputable def envC (P : Params) (a : Addr) (L : Nat) (cells : List (Str × Addr)) : Env := envX (qualAt P a) (scopeAt P a) L a (codeAtV P a) cells
theorem hid_sub {X : List Nat} {h h' : Heap} (k : ∀ b : Nat, ∀ o, b ∉ X → h.get? b = some o → h'.get? b = some o) : Sub (hideAll h X) (hideAll h' X) := fun b o e => by
  have hb : b ∉ X := fun q => by rw [hideAll_none _ q] at e; cases e
  exact hideAll_get _ (k b o hb (of_hideAll _ e)) hb
theorem hid_get {X : List Nat} {h : Heap} {b : Nat} {o : Obj} (e : (hideAll h X).get? b = some o) : h.get? b = some o ∧ b ∉ X :=
  ⟨of_hideAll _ e, fun q => by rw [hideAll_none _ q] at e; cases e⟩
/-- a row of signs, told apart from what may change (the places X) -/
noncomputable def RowAt (w : World) (X : List Nat) (h : Heap) (a d : Nat) (cs : List Nat) : Prop := ∃ items n, h.get? a = some (accObj d items n) ∧ AccD w (hideAll h X) d ∧ Pc (hideAll h X) items cs
theorem RowAt.move {w : World} {X X' : List Nat} {h h' : Heap} {a d : Nat} {cs : List Nat} (R : RowAt w X h a d cs) (k : Sub (hideAll h X) (hideAll h' X')) (ka : ∀ o, h.get? a = some o → h'.get? a = some o) : RowAt w X' h' a d cs :=
  let ⟨items, n, e, D, P⟩ := R
  ⟨items, n, ka _ e, D.up k, P.up k⟩
theorem Pc.push {h : Heap} {items : Array Value} {cs : List Nat} {t t1 t2 c : Nat} (P : Pc h items cs) (ht : IsTup h t #[Value.str (Str.ofString "") t1, Value.str ⟨#[c]⟩ t2]) : Pc h (items.push (.ref t)) (cs ++ [c]) := by
  obtain ⟨h1, h2⟩ := P
  refine ⟨by simp [h1], fun i c' e => ?_⟩
  by_cases hi : i < cs.length
  · rw [List.getElem?_append_left hi] at e
    obtain ⟨p, u1, u2, e1, e2⟩ := h2 i c' e
    refine ⟨p, u1, u2, ?_, e2⟩
    rw [Array.getElem?_push, if_neg (by walk_at "om")]
    exact e1
  · have : i = cs.length := by
      have := (List.getElem?_eq_some_iff.mp e).1
      simp at this; walk_at "om"
    subst this
    simp at e; subst e
    exact ⟨t, t1, t2, by rw [Array.getElem?_push, if_pos h1.symm], ht⟩
theorem Pc.take {h : Heap} {items : Array Value} {cs : List Nat} (P : Pc h items cs) (k : Nat) : Pc h (items.toList.take k).toArray (cs.take k) := by
  obtain ⟨h1, h2⟩ := P
  refine ⟨by simp [h1], fun i c' e => ?_⟩
  rw [List.getElem?_take] at e
  split at e
  · rename_i hi
    obtain ⟨p, u1, u2, e1, e2⟩ := h2 i c' e
    refine ⟨p, u1, u2, ?_, e2⟩
    simp [List.getElem?_take, hi]
    simpa using e1
  · cases e
section
variable {M : Model} {A : Around} {E : Value → Shared → Prop} {s : Shared} {env : Env} {w : World} {g : Heap} {L : Addr} {m : Str → Option Value} {x : Str} {pos : Pos} {v : Value} {Q : Value → Shared → Prop}
theorem nmKF (F : Fx g L s.heap m) (G : Gr w g) (e : nsIn (Mine.heapK w.params) mainGlobals x = some (some v)) (h : Q v s)
    (hgl : env.globals = mainGlobals := by k_dflt rfl) (hk : env.scope.kind = .function := by k_dflt rfl) (hx : env.kindOf x = some .globalImplicit := by k_dflt rfl) (hd : (x == ("__debug__" : Str)) = false := by k_dflt decide) :
    wpAny M A (eval (.Name x pos) env) Q E s := nmK G F e h hgl hk hx hd
theorem nmBF (F : Fx g L s.heap m) (G : Gr w g) (e : nsIn (Mine.heapK w.params) mainGlobals x = some none) (hv : bootBuiltins x = some v) (hn : x ≠ "__name__") (h : Q v s)
    (hgl : env.globals = mainGlobals := by k_dflt rfl) (hbl : env.builtins = builtinsNs := by k_dflt rfl) (hk : env.scope.kind = .function := by k_dflt rfl) (hx : env.kindOf x = some .globalImplicit := by k_dflt rfl) (hd : (x == ("__debug__" : Str)) = false := by k_dflt decide) :
    wpAny M A (eval (.Name x pos) env) Q E s := nmB G F e hv hn h hgl hbl hk hx hd
end

end
end Mine
local macro_rules | `(tactic| walk_at "eval Name") => `(tactic| with_reducible first | refine Mine.nmL (by assumption) (by k_dflt rfl) ?_ | refine Mine.nmKF (by assumption) (by assumption) (by k_dflt k_is) ?_ | refine Mine.nmBF (by assumption) (by assumption) (by k_dflt k_is) (by k_dflt (first | boot_by_name | boot_fast)) (by k_dflt decide) ?_ | refine Mine.nmG (by assumption) (by k_dflt rfl) (by assumption) ?_)
local macro_rules | `(tactic| walk_at "h4") => `(tactic| first | with_reducible refine Mine.hlSubR ?_ | with_reducible refine Mine.hlSub0 ?_ | with_reducible refine Mine.hlSubM ?_ | walk_at "h3")
local macro_rules | `(tactic| walk_at "halt") => `(tactic| walk_at "h4")
namespace Mine
section
/- Laid0 -/
local macro_rules | `(tactic| walk_at "subscriptTail") => `(tactic| ((with_reducible show wpAny _ _ (subscriptTail _ _ (Value.ref _) (Value.int _ _)) _ _ _); k_dflt (refine item_tupleT (IsTup.keeps (by assumption) (Mine.Fx.keep (by assumption))) (by decide) (by decide) (by rfl) (by rfl) ?_)))
noncomputable def cmpN (way : Int) (p c : Nat) : Int := if p < c then -way else if c < p then way else 0
noncomputable def toldM (way : Int) (c : Nat) (cs : List Nat) : List Int := cs.map fun p => cmpN way p c
theorem cmpI_one (way : Int) (p c : Nat) : cmpI way ⟨#[p]⟩ ⟨#[c]⟩ = cmpN way p c := by
  unfold cmpI cmpN
  have h1 : ∀ x y : Nat, ((⟨#[x]⟩ : Str).cps.toList < (⟨#[y]⟩ : Str).cps.toList) = (x < y) := by
    intro x y
    show ([x] < [y]) = (x < y)
    rw [List.cons_lt_cons_iff]
    simp
  simp only [h1]
theorem IntsB.up {B B' : Nat} {vs : List Value} {ns : List Int} (h : IntsB B vs ns) (hB : B ≤ B') : IntsB B' vs ns := by
  induction h with
  | nil => exact .nil
  | cons a b c r ih => exact .cons a b (Nat.lt_of_lt_of_le c hB) ih
theorem IntsB.snoc {B : Nat} {vs : List Value} {ns : List Int} {n : Int} {t : Nat} (h : IntsB B vs ns) (h1 : smallInt n = true) (h2 : 0 < t) (h3 : t < B) : IntsB B (vs ++ [.int n t]) (ns ++ [n]) := by
  induction h with
  | nil => exact .cons h1 h2 h3 .nil
  | cons a b c r ih => exact .cons a b c ih
theorem OrderAt.up {w : World} {h h' : Heap} {x tw : Nat} {way : Int} (o : OrderAt w h x way tw) (hk : Sub h h') : OrderAt w h' x way tw := by
  obtain ⟨dx, lo, to, tko, t1o, no, o1, o2, o3, o4⟩ := o.ex
  exact ⟨dx, lo, to, tko, t1o, no, hk _ _ o1, hk _ _ o2, hk _ _ o3, o4.keeps hk⟩
theorem OrderAt.inst {w : World} {h : Heap} {x tw : Nat} {way : Int} (o : OrderAt w h x way tw) : ∃ dx od, InstAt h x (instObj 148 dx) 148 (some od) ∧ shadowIn (some od) "compare" = some false := by
  obtain ⟨dx, lo, to, tko, t1o, no, o1, o2, o3, o4⟩ := o.ex
  exact ⟨dx, _, ⟨o1, rfl, rfl, o2⟩, rfl⟩
theorem hid_ne {X : List Nat} {h : Heap} {b c : Nat} {o : Obj} (hc : c ∈ X) (e : (hideAll h X).get? b = some o) : b ≠ c := fun q => by rw [q, hideAll_none _ hc] at e; cases e
theorem acc_method {prog : Program} {w : World} {A : Around} {E : Value → Shared → Prop} {s : Shared} {a d n f : Nat} {items : Array Value} {name : Str} {pl : Sem Bool} {Q : Value × List Value → Shared → Prop}
    (G : Gr w s.heap) (ha : s.heap.get? a = some (accObj d items n)) (hD : AccD w s.heap d) (hf : findIn (Mine.heapK w.params) (.ref 120) name = some (some (.ref f))) (ht : typeIn (Mine.heapK w.params) (.ref f) = some (.type "function"))
    (hs : ∀ k t0 h0, lookIn name (dictOf [⟨h0, .str (Str.ofString "_initial_size") k, .int 0 t0⟩] 1) = some none) (h : Q (.ref f, [.ref a]) s) : wpAny (model prog w) A (getMethod (.ref a) name pl) Q E s := by
  obtain ⟨tk, t0, e⟩ := hD
  have I := accInst ha e
  have X := G.k
  obtain ⟨ga, hga, hcan⟩ : ∃ ga, findIn (Mine.heapK w.params) (.ref 120) "__getattribute__" = some (some (.builtin ga)) ∧ Manifest.canonical ga = "object.__getattribute__" := ⟨_, by k_is, by decide +kernel⟩
  have hgt : findIn (Mine.heapK w.params) (.ref 120) "__getattr__" = some none := by k_is
  unfold getMethod specialOf
  refine wpAny_bind (wpAny_bind (I.type.here ((looks_findIn X hga).here ?_)))
  try dsimp only
  rw [hcan, if_neg (by decide)]
  refine wpAny_bind (wpAny_bind (I.type.here ((looks_findIn X hgt).here ?_)))
  refine wpAny_bind (wpAny_bind (I.type.here ((looks_findIn X hf).here (wpAny_bind ((looks_typeIn X ht).here ?_)))))
  rw [if_neg (by decide +kernel)]
  refine wpAny_bind (wpAny_loadPart I.at_ ?_)
  refine wpAny_bind (wpAny_bind (wpAny_loadPart e ?_))
  rw [nsLook_of (hs _ _ _)]
  exact wpAny_pure (wpAny_bind (wpAny_rule (wpAny_pure h)))
theorem acc_push_m {prog : Program} {w : World} {A : Around} {E : Value → Shared → Prop} {s : Shared} {a d n : Nat} {items : Array Value} {pl : Sem Bool} {Q : Value × List Value → Shared → Prop}
    (G : Gr w s.heap) (ha : s.heap.get? a = some (accObj d items n)) (hD : AccD w s.heap d) (h : Q (.ref 66, [.ref a]) s) : wpAny (model prog w) A (getMethod (.ref a) "push" pl) Q E s := by
  exact acc_method G ha hD (by k_is) (by k_is) (fun _ _ _ => rfl) h
theorem acc_pop_m {prog : Program} {w : World} {A : Around} {E : Value → Shared → Prop} {s : Shared} {a d n : Nat} {items : Array Value} {pl : Sem Bool} {Q : Value × List Value → Shared → Prop}
    (G : Gr w s.heap) (ha : s.heap.get? a = some (accObj d items n)) (hD : AccD w s.heap d) (h : Q (.ref 74, [.ref a]) s) : wpAny (model prog w) A (getMethod (.ref a) "pop_from" pl) Q E s := by
  exact acc_method G ha hD (by k_is) (by k_is) (fun _ _ _ => rfl) h
theorem RowAt.pushed {w : World} {X : List Nat} {h h' : Heap} {a d t t1 t2 c n' : Nat} {items : Array Value} {cs : List Nat} (hX : ∀ b : Nat, b ∈ X → h.get? b ≠ none) (ha : a ∈ X) (k : ∀ b : Nat, ∀ o, b ≠ a → h.get? b = some o → h'.get? b = some o)
    (a' : h'.get? a = some (accObj d (items.push (.ref t)) n')) (T : IsTup h' t #[Value.str (Str.ofString "") t1, Value.str ⟨#[c]⟩ t2]) (n : h.get? t = none) (D : AccD w (hideAll h X) d) (P : Pc (hideAll h X) items cs) : RowAt w X h' a d (cs ++ [c]) := by
  have kX : Sub (hideAll h X) (hideAll h' X) := hid_sub fun b o hb e => k b o (fun q => hb (by rw [q]; exact ha)) e
  have T' : IsTup (hideAll h' X) t #[Value.str (Str.ofString "") t1, Value.str ⟨#[c]⟩ t2] := by
    obtain ⟨o, e, r⟩ := T
    exact ⟨o, hideAll_get _ e (fun q => hX _ q n), r⟩
  exact ⟨_, _, a', D.up kX, (P.up kX).push T'⟩
theorem RowAt.cut {w : World} {X : List Nat} {h h' : Heap} {a d n' : Nat} {items : Array Value} {cs : List Nat} (k : Nat) (ha : a ∈ X) (kk : ∀ b : Nat, ∀ o, b ≠ a → h.get? b = some o → h'.get? b = some o)
    (a' : h'.get? a = some (accObj d (items.toList.take k).toArray n')) (D : AccD w (hideAll h X) d) (P : Pc (hideAll h X) items cs) : RowAt w X h' a d (cs.take k) := by
  have kX : Sub (hideAll h X) (hideAll h' X) := hid_sub fun b o hb e => kk b o (fun q => hb (by rw [q]; exact ha)) e
  exact ⟨_, _, a', D.up kX, (P.up kX).take k⟩
theorem idx_of_any {ns : List Int} (h : ns.any (· == 1) = true) : ns.idxOf 1 < ns.length := by
  rw [List.any_eq_true] at h
  obtain ⟨x, hx, e⟩ := h
  rw [beq_iff_eq] at e
  subst e
  exact List.idxOf_lt_length_of_mem hx
theorem fx_at {h : Heap} {L : Nat} {m : Str → Option Value} (N : h.Ns L m) : Fx (h.hide L) L h m := ⟨N, sub_of_hide h L⟩
theorem RowAt.same {w : World} {X : List Nat} {h h' : Heap} {a d L : Nat} {cs : List Nat} (R : RowAt w X h a d cs) (S : Heap.SameBut L h h') (hL : L ∈ X) (n1 : a ≠ L) : RowAt w X h' a d cs :=
  R.move (hid_sub fun b o hb e => (S.2 b fun q => hb (by rw [q]; exact hL)).trans e) fun o e => (S.2 a n1).trans e
theorem RowAt.sub {w : World} {X : List Nat} {h h' : Heap} {a d : Nat} {cs : List Nat} (R : RowAt w X h a d cs) (S : Sub h h') : RowAt w X h' a d cs :=
  R.move (hid_sub fun b o _ e => S b o e) fun o e => S _ _ e
theorem all_same {X : List Nat} {h h' : Heap} {L : Nat} {m : Str → Option Value} (H : ∀ b : Nat, b ∈ X → h.get? b ≠ none) (S : Heap.SameBut L h h') (N : h'.Ns L m) : ∀ b : Nat, b ∈ X → h'.get? b ≠ none := fun b q => by
  by_cases hb : b = L
  · rw [hb]; obtain ⟨o, _, _, e, _⟩ := N; rw [e]; simp
  · rw [S.2 b hb]; exact H b q
theorem all_sub {X : List Nat} {h h' : Heap} (H : ∀ b : Nat, b ∈ X → h.get? b ≠ none) (S : Sub h h') : ∀ b : Nat, b ∈ X → h'.get? b ≠ none := fun b q => by
  cases e : h.get? b with
  | none => exact absurd e (H b q)
  | some o => rw [S _ _ e]; simp
theorem all_but {X : List Nat} {h h' : Heap} {a : Nat} {o : Obj} (H : ∀ b : Nat, b ∈ X → h.get? b ≠ none) (k : ∀ b : Nat, ∀ o, b ≠ a → h.get? b = some o → h'.get? b = some o) (e : h'.get? a = some o) : ∀ b : Nat, b ∈ X → h'.get? b ≠ none := fun b q => by
  by_cases hb : b = a
  · rw [hb, e]; simp
  · cases e : h.get? b with
    | none => exact absurd e (H b q)
    | some o => rw [k b o hb e]; simp
theorem cell_same {h h' : Heap} {L c : Nat} {v : Option Value} (x : h.IsCell c v) (S : Heap.SameBut L h h') (hc : c ≠ L) : h'.IsCell c v := let ⟨o, e, r⟩ := x; ⟨o, (S.2 c hc).trans e, r⟩
theorem cell_but {h h' : Heap} {a c : Nat} {v : Option Value} (x : h.IsCell c v) (k : ∀ b : Nat, ∀ o, b ≠ a → h.get? b = some o → h'.get? b = some o) (hc : c ≠ a) : h'.IsCell c v := let ⟨o, e, r⟩ := x; ⟨o, k _ _ hc e, r⟩
/-- push on a row, told of RowAt -/
theorem push_row {w : World} {A : Around} {s : Shared} {R : Result → Shared → Prop} {a d t1 t2 c : Nat} {X : List Nat} {cs : List Nat}
  (G : Gr w (hideAll s.heap X)) (hh : A.handled = none) (hd : A.depth + 1 < recursionLimit) (hu : A.units + 20 < cLine) (ha : a ∈ X) (HX : ∀ b : Nat, b ∈ X → s.heap.get? b ≠ none) (Rw : RowAt w X s.heap a d cs) (hl : cs.length ≤ 1000)
  (hR : ∀ h' tk', s.toks ≤ tk' → RowAt w X h' a d (cs ++ [c]) → (∀ b o, b ≠ a → s.heap.get? b = some o → h'.get? b = some o) → (∀ b : Nat, b ∈ X → h'.get? b ≠ none) → R (.ok (.ret .none)) { s with heap := h', toks := tk' }) :
  codeAny (model Challenge.rw_xg0051_01.row.prog w) A (.call (.ref 66) ⟨[.ref a, .str (Str.ofString "") t1, .str ⟨#[c]⟩ t2], []⟩) R s := by
  obtain ⟨items, n, e, D, P⟩ := Rw
  have hs : Sub (hideAll s.heap X) s.heap := fun b o e => of_hideAll _ e
  refine push_spec (g0 := hideAll s.heap X) ⟨G.up hs, hd, by walk_at "om", hh⟩ G hs (hideAll_none X ha) e D (by rw [P.1]; exact hl) ?_
  intro t h' tk' q a' T n' k
  exact hR h' tk' q (RowAt.pushed HX ha k a' T n' D P) k (all_but HX k a')
theorem RowAt.weak {w : World} {X X' : List Nat} {h : Heap} {a d : Nat} {cs : List Nat} (R : RowAt w X' h a d cs) (hX : ∀ b, b ∈ X → b ∈ X') : RowAt w X h a d cs :=
  R.move (fun b o e => hideAll_get _ (of_hideAll _ e) fun q => (hid_get e).2 (hX b q)) fun o e => e
theorem RowAt.wide {w : World} {X : List Nat} {h h' : Heap} {a d I : Nat} {cs : List Nat} (R : RowAt w X h a d cs) (S : Sub h h') (n : h.get? I = none) : RowAt w (I :: X) h' a d cs :=
  R.move (fun b o e => hideAll_get _ (S _ _ (of_hideAll _ e)) fun q => by
    rcases List.mem_cons.mp q with q | q
    · have := of_hideAll _ e; rw [q, n] at this; cases this
    · exact (hid_get e).2 q) fun o e => S _ _ e
theorem item0 {prog : Program} {w : World} {A : Around} {E : Value → Shared → Prop} {s : Shared} {Q : Value → Shared → Prop} {value slice : Expr} {l : Addr} {items : Array Value} {u : Tok} {v : Value} (hl : s.heap.IsList l items) (hk : items[0]? = some v) (h : Q v s)
    (hs : subscripted slice false (.ref l) (.int 0 u) = operate [.ref l, .int 0 u] (getItem (.ref l) (.int 0 u)) := by with_unfolding_all rfl) :
    wpAny (model prog w) A (subscriptTail value slice (.ref l) (.int 0 u)) Q E s :=
  tail_any hl.typeIs slot_list_getitem.lookup (wpAny_getItem_list hl (by walk_at "om") (by walk_at "om") hk h) hs
noncomputable def laidNames : List Str := ["told", "behind", "piece"]
theorem told_off {m : Str → Option Value} {v : Option Value} {vr : Value} (hr : m "row" = some vr) : ∀ z, laidNames.contains z = false → (if z = Str.ofString "told" then v else if z = Str.ofString "row" then some vr else m z) = m z := fun z hz => by
  rw [if_neg (fun q => by rw [q] at hz; revert hz; decide)]
  split
  · rename_i q; rw [q]; exact hr.symm
  · rfl
noncomputable def laidBody (P : Params) : List Stmt := nthBody (nthBody (stmtsAt P 190) 2) 0
noncomputable abbrev laidCells (L : Nat) : List (Str × Addr) := [("sign", L + 2), ("order", L + 1)]


theorem Pc.drop {h : Heap} {items : Array Value} {cs : List Nat} (P : Pc h items cs) (k : Nat) : Pc h (items.toList.drop k).toArray (cs.drop k) := by
  obtain ⟨h1, h2⟩ := P
  refine ⟨by simp [h1], fun i c' e => ?_⟩
  rw [List.getElem?_drop] at e
  obtain ⟨p, u1, u2, e1, e2⟩ := h2 (k + i) c' e
  refine ⟨p, u1, u2, ?_, e2⟩
  simp [List.getElem?_drop]
  simpa using e1

/-- what comes behind the push: the pieces behind go back, and the sign is the first of them -/
theorem laid_tail {w : World} {A : Around} {s : Shared} {L a d bh c0 : Nat} {m : Str → Option Value} {pre rest X : List Nat} {items : Array Value} {v0 : Option Value} {Q : Flow → Shared → Prop}
  {trr : Sem Flow} (htr : trr = execs ((laidBody w.params).drop 4) (envC w.params 190 L (laidCells L)))
  (HX : ∀ b : Nat, b ∈ X → s.heap.get? b ≠ none) (hL : L ∈ X) (hc : L + 2 ∈ X) (ha : a ∈ X) (n1 : a ≠ L) (n2 : a ≠ L + 2)
  (G : Gr w (hideAll s.heap X)) (hh : A.handled = none) (hd : A.depth + 3 < recursionLimit) (hu : A.units + 60 < cLine)
  (N : s.heap.Ns L m) (mb : m "behind" = some (.ref bh)) (mr : m "row" = some (.ref a)) (hs : s.heap.IsCell (L + 2) v0) (R : RowAt w X s.heap a d pre) (hl : pre.length + rest.length ≤ 30)
  (lb : (hideAll s.heap X).get? bh = some (listOf items 0)) (P : Pc (hideAll s.heap X) items (c0 :: rest))
  (hN : ∀ h' m' (tk' tc' : Nat), s.toks ≤ tk' → h'.Ns L m' → (∀ z, [Str.ofString "piece"].contains z = false → m' z = m z) → h'.IsCell (L + 2) (some (.str ⟨#[c0]⟩ tc')) → RowAt w X h' a d (pre ++ rest) →
    (∀ b : Nat, ∀ o, b ≠ L → b ≠ a → b ≠ L + 2 → s.heap.get? b = some o → h'.get? b = some o) → Q .next { s with heap := h', toks := tk' }) :
  wpAny (model Challenge.rw_xg0051_01.row.prog w) A trr Q (fun _ _ => False) s := by
  subst htr
  have e1 : envC w.params 190 L (laidCells L) = envC w.params 190 L (laidCells L) := rfl
  conv at e1 => rhs; unfold envC
  conv at e1 => rhs; arg 2; whnf
  conv at e1 => rhs; arg 5; whnf
  rw [e1]
  clear e1
  have F0 : Fx (hideAll s.heap X) L s.heap (fun y => if y = Str.ofString "behind" then some (.ref bh) else if y = Str.ofString "row" then some (.ref a) else m y) :=
    Fx.cast ⟨N, fun b o e => of_hideAll _ e⟩ fun y => by walk_at "upd"
  have lbs : s.heap.IsList bh items := ⟨_, of_hideAll _ lb, rfl, 0, rfl⟩
  have hsz : items.size = rest.length + 1 := P.1
  walk_at "un"
  refine wpAny_execs_cons ?_
  walk_at "hideN"
  refine wpAny_For ?_
  walk_at "go"
  refine Mine.sliceF F0 lbs (by first | exact IsPart.none | exact IsPart.int _ _) (by first | exact IsPart.none | exact IsPart.int _ _) ?_ (hsz := by walk_at "om")
  intro sl h9 F9 K9 l9 nsl
  dsimp only at K9 nsl
  have esl : slicePick items (some 1) none none = (items.toList.drop 1).toArray := by
    have := slicePick_from items 1 (by walk_at "om")
    rw [show (some (1 : Int)) = some ((1 : Nat) : Int) from rfl, this]
  rw [esl] at l9
  walk_at "un"
  refine wpAny_pyIter_list l9 ?_
  try dsimp only
  have i1 : L < h9.objs.size := F9.ns.lt
  have i2 : sl < h9.objs.size := by obtain ⟨_, q, _⟩ := l9; exact Heap.lt_size q
  have X9 := all_sub HX K9
  have i4 : ∀ b : Nat, b ∈ X → b < h9.objs.size := fun b q => by
    cases e : h9.get? b with
    | none => exact absurd e (X9 b q)
    | some o => exact Heap.lt_size e
  have i3 := i4 _ ha
  have i5 : ∀ b : Nat, ∀ o, s.heap.get? b = some o → b < h9.objs.size := fun b o e => Heap.lt_size (K9 _ _ e)
  have nsX : ∀ b : Nat, b ∈ X → sl ≠ b := fun b q z => HX b q (by rw [← z]; exact nsl)
  have nsL := nsX _ hL
  have nsa := nsX _ ha
  have push9 : Sub h9 (h9.push { cls := .type "list_iterator", data := .fields #[.ref sl, .int 0 0] }) := fun b o e => Heap.get?_push_of_some _ e
  have R9 := R.sub K9
  generalize hI : h9.objs.size = I at *
  have nI : h9.get? I = none := by rw [← hI]; exact new_none _
  refine for_rule (Walks.list hh I sl (neN (by walk_at "om")) (items.toList.drop 1).toArray)
    (fun i s' => Ex3 fun h tk v => And6 (s' = { s with heap := h, toks := tk }) (s.toks ≤ tk) (h.Ns L (ov [Str.ofString "piece"] v (fun y => if y = Str.ofString "behind" then some (.ref bh) else if y = Str.ofString "row" then some (.ref a) else m y))) (RowAt w (I :: X) h a d (pre ++ rest.take i)) ((∀ b : Nat, ∀ o, b ≠ a → b ≠ L → b ≠ I → h9.get? b = some o → h.get? b = some o)) ((∀ b : Nat, b ∈ X → h.get? b ≠ none))) ?_ ?_ ?_ ?_ ?_
  · exact ⟨⟨_, by rw [← hI]; exact Heap.get?_push_size _ rfl, rfl, rfl⟩, l9.push _⟩
  · refine ⟨_, _, _, rfl, by walk_at "om", (F9.up push9).ov0 _ |>.ns, ?_, fun b o _ _ _ e => push9 _ _ e, all_sub X9 push9⟩
    rw [List.take_zero, List.append_nil]
    exact R9.wide push9 nI
  · rintro i s' h₁ tk₁ ⟨h, tk, v, rfl, t1, N1, R1, k1, X1⟩ hk' ht
    have hk2 : ∀ b : Nat, ∀ o, b ≠ I → h.get? b = some o → h₁.get? b = some o := fun b o hb e => hk' b o (by simpa using hb) e
    refine ⟨h₁, tk₁, v, rfl, Nat.le_trans t1 ht, N1.at' (fun o e => hk2 _ _ (neN (by walk_at "om")) e), R1.move (hid_sub fun b o hb e => hk2 _ _ (fun q => hb (by rw [q]; exact List.mem_cons_self ..)) e) (fun o e => hk2 _ _ (neN (by walk_at "om")) e), fun b o b1 b2 b3 e => hk2 _ _ b3 (k1 b o b1 b2 b3 e), ?_⟩
    intro b q
    cases e : h.get? b with
    | none => exact absurd e (X1 b q)
    | some o => rw [hk2 b o (neN (by have := i4 b q; walk_at "om")) e]; simp
  · rintro i x s₁ hi hx hJJ hst
    try walk_at "hideN"
    obtain ⟨h, tk, v, rfl, t1, N1, R1, k1, X1⟩ := hJJ
    have hi' : i < rest.length := by simp at hi; walk_at "om"
    obtain ⟨c9, hc9⟩ : ∃ c9, rest[i]? = some c9 := ⟨_, List.getElem?_eq_getElem (by walk_at "om")⟩
    obtain ⟨p, u1, u2, ep, tp⟩ := P.2 (i + 1) c9 (by simpa using hc9)
    have hxp : x = .ref p := by
      have e : (items.toList.drop 1)[i]? = some x := by simpa using hx
      rw [List.getElem?_drop] at e
      have e2 : items.toList[1 + i]? = some (.ref p) := by rw [Nat.add_comm]; simpa using ep
      rw [e2] at e; exact (Option.some.inj e).symm
    subst hxp
    have XI : ∀ b : Nat, b ∈ (I :: X) → h.get? b ≠ none := fun b q => by
      rcases List.mem_cons.mp q with q | q
      · obtain ⟨o, e, _⟩ := hst.1; rw [q]; intro z; rw [z] at e; cases e
      · exact X1 b q
    have oldh : ∀ b o, (hideAll s.heap X).get? b = some o → h.get? b = some o := fun b o e => k1 _ _ (hid_ne ha e) (hid_ne hL e) (neN (by have := i5 _ _ (of_hideAll _ e); walk_at "om")) (K9 _ _ (of_hideAll _ e))
    have F1 := fx_at N1
    have O1 := hideOff h L
    have up1 : Sub (hideAll s.heap X) (h.hide L) := fun b o e => hide_in (oldh _ _ e) (hid_ne hL e)
    have G1 : Gr w (h.hide L) := G.up up1
    have tp1 := tp.keeps up1
    clear F9 F0
    walk_at "un"
    refine wpAny_assign_Name (stL F1 O1 ?_)
    intro h11 F11 S11
    dsimp only at S11
    have R11 := R1.same S11 (List.mem_cons_of_mem _ hL) n1
    have X11 := all_same XI S11 F11.ns
    have GI : Gr w (hideAll h11 (I :: X)) := G.up fun b o e => by
      refine hideAll_get _ ((S11.2 _ (hid_ne hL e)).trans (oldh _ _ e)) fun q => ?_
      rcases List.mem_cons.mp q with q | q
      · exact Nat.lt_irrefl I (by have := i5 _ _ (of_hideAll _ e); rwa [show b = I from q] at this)
      · exact (hid_get e).2 q
    obtain ⟨it11, n11, a11, D11, P11⟩ := id R11
    walk_at "go"
    refine acc_method (G1.up F11.keep) a11 (D11.up fun b o e => of_hideAll _ e) (by k_is) (by k_is) (fun _ _ _ => rfl) ?_
    walk_at "go"
    refine ⟨F11.keep, wpAny_call (push_row (c := c9) (X := I :: X) GI hh (by walk_at "om") (by walk_at "om") (List.mem_cons_of_mem _ ha) X11 R11 (by simp; walk_at "om") ?_)⟩
    intro h12 tk12 q12 R12 k12 X12
    dsimp only at q12 k12
    have N12 := F11.ns.at' (fun o e => k12 _ _ (Ne.symm n1) e)
    walk_at "go"
    try dsimp only
    have kall : ∀ b : Nat, ∀ o, b ≠ a → b ≠ L → h.get? b = some o → h12.get? b = some o := fun b o b1 b2 e => k12 _ _ b1 ((S11.2 _ b2).trans e)
    refine ⟨⟨h12, _, _, rfl, by walk_at "om", (Fx.forget [Str.ofString "piece"] (fx_at N12) (by walk_at "forget")).ns, ?_, fun b o b1 b2 b3 e => kall _ _ b1 b2 (k1 b o b1 b2 b3 e), fun b q => X12 b (List.mem_cons_of_mem _ q)⟩, ?_⟩
    · have ez : pre ++ rest.take (i + 1) = pre ++ rest.take i ++ [c9] := by
        rw [List.take_succ, hc9]
        simp
      rw [ez]
      exact R12
    · intro b hb o e
      simp only [List.mem_cons, List.not_mem_nil, or_false] at hb
      rcases hb with hb | hb <;> (replace hb := hb.symm; subst hb)
      · exact kall _ _ (neN (by walk_at "om")) (neN (by walk_at "om")) e
      · exact kall _ _ nsa nsL e
  · rintro s₂ hJJ
    try walk_at "hideN"
    obtain ⟨h, tk, v, rfl, t1, N1, R1, k1, X1⟩ := hJJ
    have ecs : rest.take (items.toList.drop 1).toArray.size = rest := List.take_of_length_le (by simp; walk_at "om")
    rw [ecs] at R1
    have R2 := R1.weak (X := X) fun b q => List.mem_cons_of_mem _ q
    have F1 : Fx (hideAll h [L, L + 2]) L h _ := ⟨N1, fun b o e => of_hideAll _ e⟩
    have O1 : (hideAll h [L, L + 2]).get? (L + 2) = none := hideAll_none _ (by simp)
    have oldh : ∀ b o, (hideAll s.heap X).get? b = some o → h.get? b = some o := fun b o e => k1 _ _ (hid_ne ha e) (hid_ne hL e) (neN (by have := i5 _ _ (of_hideAll _ e); walk_at "om")) (K9 _ _ (of_hideAll _ e))
    have up1 : Sub (hideAll s.heap X) (hideAll h [L, L + 2]) := fun b o e => hideAll_get _ (oldh _ _ e) (fun q => by
      simp only [List.mem_cons, List.not_mem_nil, or_false] at q
      rcases q with q | q
      · exact (hid_get e).2 (q ▸ hL)
      · exact (hid_get e).2 (q ▸ hc))
    have G1 : Gr w (hideAll h [L, L + 2]) := G.up up1
    clear F9 F0
    obtain ⟨p, u1, u2, ep, tp⟩ := P.2 0 c0 rfl
    have tp1 := tp.keeps up1
    have lbh : h.IsList bh items := ⟨_, oldh _ _ lb, rfl, 0, rfl⟩
    have ch : h.IsCell (L + 2) v0 := let ⟨o, e, r⟩ := hs; ⟨o, k1 _ _ (Ne.symm n2) (by walk_at "om") (neN (by have := i4 _ hc; walk_at "om")) (K9 _ _ e), r⟩
    walk_at "un"
    refine wpAny_execs_nil ?_
    try dsimp only
    walk_at "go"
    refine item0 lbh ep ?_
    walk_at "go"
    walk_at "un"
    refine stG F1 (by rfl) ch O1 (by show (L : Nat) ≠ L + 2; walk_at "om") ?_
    intro h2 F2 S2 c2
    dsimp only at S2
    try dsimp only
    walk_at "un"
    refine wpAny_execs_nil ?_
    refine hN h2 _ _ _ (by walk_at "om") F2.ns (fun z hz => ?_) c2 (R2.move (hid_sub fun b o hb e => (S2.2 b fun q => hb (by rw [q]; exact hc)).trans e) fun o e => (S2.2 a n2).trans e) (fun b o b1 b2 b3 e => (S2.2 b b3).trans (k1 b o b2 b1 (neN (by have := i5 b o e; walk_at "om")) (K9 _ _ e)))
    show ov _ _ _ z = m z
    unfold ov
    rw [hz]
    show (if z = Str.ofString "behind" then some (Value.ref bh) else if z = Str.ofString "row" then some (.ref a) else m z) = m z
    split
    · rename_i q; rw [q]; exact mb.symm
    · split
      · rename_i q; rw [q]; exact mr.symm
      · rfl

end
section
/- Laid1 -/
theorem laid_turn {w : World} {A : Around} {s : Shared} {L x a d tw c tc : Nat} {way : Int} {m : Str → Option Value} {cs X : List Nat} {Q : Flow → Shared → Prop}
  {trr : Sem Flow} (htr : trr = execs (laidBody w.params) (envC w.params 190 L (laidCells L)))
  (hX : ∀ b : Nat, b ∈ X → s.heap.get? b ≠ none) (hL : L ∈ X) (hc : L + 2 ∈ X) (ha : a ∈ X) (n1 : a ≠ L) (n2 : a ≠ L + 2) (l94 : 94 < L) (a94 : 94 < a)
  (G : Gr w (hideAll s.heap X)) (hh : A.handled = none) (hd : A.depth + 3 < recursionLimit) (hu : A.units + 60 < cLine)
  (N : s.heap.Ns L m) (ho : (hideAll s.heap X).IsCell (L + 1) (some (.ref x))) (hs : s.heap.IsCell (L + 2) (some (.str ⟨#[c]⟩ tc))) (OA : OrderAt w (hideAll s.heap X) x way tw) (ht0 : 0 < tw) (ht1 : tw < s.toks) (hway : way = 1 ∨ way = -1)
  (hr : m "row" = some (.ref a)) (R : RowAt w X s.heap a d cs) (hl : cs.length ≤ 20)
  (hB : ∀ s' m', (toldM way c cs).any (· == 1) = false → Kp [L, a, L + 2] s s' → s'.heap.Ns L m' → (∀ z, laidNames.contains z = false → m' z = m z) → s'.heap.IsCell (L + 2) (some (.str ⟨#[c]⟩ tc)) → RowAt w X s'.heap a d (cs ++ [c]) → Q .brk s')
  (hN : ∀ s' m' (k c' tc' : Nat), (toldM way c cs).any (· == 1) = true → (toldM way c cs).idxOf 1 = k → cs[k]? = some c' → Kp [L, a, L + 2] s s' → s'.heap.Ns L m' → (∀ z, laidNames.contains z = false → m' z = m z) → s'.heap.IsCell (L + 2) (some (.str ⟨#[c']⟩ tc')) →
    RowAt w X s'.heap a d (cs.take k ++ c :: cs.drop (k + 1)) → Q .next s') :
  wpAny (model Challenge.rw_xg0051_01.row.prog w) A trr Q (fun _ _ => False) s := by
  subst htr
  have e1 : envC w.params 190 L (laidCells L) = envC w.params 190 L (laidCells L) := rfl
  conv at e1 => rhs; unfold envC
  conv at e1 => rhs; arg 2; whnf
  conv at e1 => rhs; arg 5; whnf
  rw [e1]
  clear e1
  have Gs : Gr w s.heap := G.up fun b o e => of_hideAll _ e
  have F : Fx (hideAll s.heap X) L s.heap m := ⟨N, fun b o e => of_hideAll _ e⟩
  have O := hideAll_none X (h := s.heap) hL
  have Oa := hideAll_none X (h := s.heap) ha
  have Oc := hideAll_none X (h := s.heap) hc
  obtain ⟨items, n, ra, rD, rP⟩ := R
  obtain ⟨od, hod⟩ : ∃ od, s.heap.get? d = some od := let ⟨_, _, e⟩ := rD; ⟨_, of_hideAll _ e⟩
  have F0 : Fx (hideAll s.heap X) L s.heap (fun y => if y = Str.ofString "row" then some (.ref a) else m y) := Fx.cast F fun y => by
    split
    · rename_i q; rw [q]; exact hr
    · rfl
  have hsz : items.size = cs.length := rP.1
  walk_at "un"
  refine wpAny_execs_cons ?_
  refine comp_asg (X := []) ?_
  walk1
  refine src_acc hh Gs ra hod (fun vs tk => IntsB tk vs (toldM way c (cs.take vs.length))) (by walk_at "om") (XOk.nil _) .nil (fun vs t t' q ht => IntsB.up q ht) ?_ ?_
  · intro C vs v s₃ m₃ hlt hC hv hU K hns hm
    have F5 : Fx s.heap C s₃.heap (fun y => if y = Str.ofString "piece" then some v else m₃ y) := Fx.cast ⟨hns, fun b o e => K.heap b o (by simp) e⟩ fun y => by
      split
      · rename_i q; rw [q]; exact hm
      · rfl
    have hs' := hs
    have ho' : s.heap.IsCell (L + 1) (some (.ref x)) := ho.keeps fun b o e => of_hideAll _ e
    obtain ⟨pc, hpc⟩ : ∃ pc, cs[vs.length]? = some pc := ⟨_, List.getElem?_eq_getElem (by walk_at "om")⟩
    obtain ⟨p, u1, u2, ep, tp⟩ := rP.2 _ _ hpc
    have : v = .ref p := by rw [hv] at ep; exact Option.some.inj ep
    subst this
    walk_at "go"
    have up3 : Sub s.heap s₃.heap := fun b o e => K.heap b o (by simp) e
    have OA3 := OA.up fun b o e => up3 _ _ (of_hideAll _ e)
    obtain ⟨dx, odx, I3, sh3⟩ := OA3.inst
    have G3 : Gr w s₃.heap := Gs.up up3
    refine method_fn (C := 148) G3.k I3 (by k_is) (by k_is) (by k_is) (by k_is) sh3 ?_
    walk_at "go"
    rename_i h4 F4 K4 T4
    refine ⟨F4.keep, wpAny_call (compare_spec ⟨G3.up K4, by walk_at "om", by walk_at "om", hh⟩ (OA3.up K4) (tp.keeps fun b o e => K4 _ _ (up3 _ _ (of_hideAll _ e))) T4 ht0 (by have := K.toks; dsimp only; walk_at "om") ?_)⟩
    intro t9 h9 tk9 q1 q2 q3 K9
    dsimp only at q3 K9 ⊢
    walk_at "un"
    refine ⟨Kp.of (fun b o e => K9 _ _ (K4 _ _ e)) (by walk_at "om"), ?_⟩
    rw [cmpI_one, List.length_append, List.length_singleton, List.take_succ, hpc]
    unfold toldM at hU ⊢
    rw [List.map_append]
    refine (hU.up (by walk_at "om")).snoc ?_ q1 q2
    unfold cmpN
    rcases hway with rfl | rfl <;> (repeat' split) <;> decide
  · intro D C s1 m1 vs hD hC hDC hns hpl hlen hU K
    rw [hlen, hsz, List.take_length] at hU
    have F1 : Fx (hideAll s.heap X) L s1.heap _ := F0.up fun b o e => K.heap b o (by simp) e
    walk_at "un"
    refine stL F1 O ?_
    intro h2 F2 S2
    have hLn : s.heap.get? L ≠ none := hX _ hL
    refine ⟨fun o e => (S2.2 _ (fun q => hLn (by rw [← q]; exact hC))).trans e, fun h3 S3 => ?_⟩
    have hCL : C ≠ L := fun q => hLn (by rw [← q]; exact hC)
    have hDL : D ≠ L := fun q => hLn (by rw [← q]; exact hD)
    have k3 : ∀ b : Nat, ∀ o, b ≠ L → s.heap.get? b ≠ none → s1.heap.get? b = some o → h3.get? b = some o := fun b o hb hn e => (S3.2 _ (fun q => hn (by rw [q]; exact hC))).trans ((S2.2 _ hb).trans e)
    have F3 : Fx (hideAll s.heap X) L h3 _ := F2.same S3 (by
      cases q : (hideAll s.heap X).get? C with
      | none => rfl
      | some o => have := of_hideAll _ q; rw [hC] at this; cases this) (Ne.symm hCL)
    have hD3 : h3.IsList D vs.toArray := by
      obtain ⟨nn, e⟩ := hpl
      exact ⟨_, (S3.2 _ hDC).trans ((S2.2 _ hDL).trans e), rfl, nn, rfl⟩
    have Kf : ∀ hf tkf, s1.toks ≤ tkf → (∀ b : Nat, ∀ o, b ≠ L → b ≠ a → b ≠ L + 2 → s.heap.get? b ≠ none → h3.get? b = some o → hf.get? b = some o) → Kp [L, a, L + 2] s { s1 with heap := hf, toks := tkf } := fun hf tkf ht hk =>
      (K.weak (fun b q => absurd q (List.not_mem_nil))).grow [L, a, L + 2] (fun b o hb hn e => by
        simp only [List.mem_cons, List.not_mem_nil, or_false, not_or] at hb
        exact hk b o hb.1 hb.2.1 hb.2.2 hn (k3 b o hb.1 hn e)) (fun b q => q) (by simp; walk_at "om") (by simp; walk_at "om") ht
    have kk : s.toks ≤ s1.toks := K.toks
    have old : ∀ b : Nat, ∀ o, b ≠ L → s.heap.get? b = some o → h3.get? b = some o := fun b o hb e => k3 b o hb (by rw [e]; simp) (K.heap b o (by simp) e)
    clear S3 S2 F2 F1 hpl
    try dsimp only
    walk_at "go"
    refine ⟨F3.keep, wpAny_call (contains_spec ⟨G.up F3.keep, by walk_at "om", by walk_at "om", hh⟩ hD3 hU.are ?_)⟩
    intro h4 tk4 q4 K4
    have F4 := F3.up K4
    have G4 := G.up F4.keep
    dsimp only at q4 K4
    have a4 : h4.get? a = some (accObj d items n) := K4 _ _ (old _ _ n1 ra)
    have c4 : h4.IsCell (L + 2) (some (.str ⟨#[c]⟩ tc)) := let ⟨o, e, r⟩ := hs; ⟨o, K4 _ _ (old _ _ (Nat.ne_of_gt (Nat.lt_add_of_pos_right (by decide))) e), r⟩
    have c4' : (h4.hide a).IsCell (L + 2) (some (.str ⟨#[c]⟩ tc)) := IsCell.hide c4 (Ne.symm n2)
    have D4 : AccD w h4 d := rD.up F4.keep
    have hX4 : ∀ b : Nat, b ∈ X → h4.get? b ≠ none := fun b q => by
      by_cases hb : b = L
      · rw [hb]; obtain ⟨o, _, _, e, _⟩ := F4.ns; rw [e]; simp
      · cases e : s.heap.get? b with
        | none => exact absurd e (hX b q)
        | some o => rw [K4 _ _ (old b o hb e)]; simp
    have kX4 : Sub (hideAll s.heap X) (hideAll h4 X) := hid_sub fun b o hb e => K4 _ _ (old b o (fun q => hb (by rw [q]; exact hL)) e)
    have D4' := rD.up kX4
    have P4' := rP.up kX4
    cases hany : (toldM way c cs).any (· == 1) with
    | false =>
      try dsimp only
      have F4' : Fx (h4.hide L) L h4 _ := F4.re
      have G4' : Gr w (h4.hide L) := G.up (sub_hide F4.keep O)
      have c5 : (h4.hide L).IsCell (L + 2) (some (.str ⟨#[c]⟩ tc)) := IsCell.hide c4 (by show (L + 2 : Nat) ≠ L; walk_at "om")
      clear F4 F3
      walk_at "go"
      refine acc_push_m G4 a4 D4 ?_
      walk_at "go"
      have O4 : ∀ b : Nat, b ∈ X → (hideAll s.heap X).get? b = none := fun b q => hideAll_none X q
      refine ⟨F4'.keep, wpAny_call (push_spec (g0 := hideAll s.heap X) ⟨G4, by walk_at "om", by walk_at "om", hh⟩ G (fun b o e => K4 _ _ (old _ _ (hid_ne hL e) (of_hideAll _ e))) (O4 _ ha) a4 rD (by walk_at "om") ?_)⟩
      intro t5 h5 tk5 q5 a5 T5 n5 k5
      dsimp only at q5 k5 n5
      walk_at "go"
      try dsimp only
      refine hB _ _ hany (Kf h5 tk5 (by walk_at "om") fun b o b1 b2 b3 bn e => k5 _ _ b2 (K4 _ _ e)) (F4'.ns.at' fun o e => k5 _ _ (Ne.symm n1) e) (fun z hz => ?_) (let ⟨o, e, r⟩ := c4; ⟨o, k5 _ _ (Ne.symm n2) e, r⟩) (RowAt.pushed hX4 ha k5 a5 T5 n5 D4' P4')
      exact told_off hr z hz
    | true =>
      try dsimp only
      walk_at "go"
      refine acc_method G4 a4 D4 (by k_is) (by k_is) (fun _ _ _ => rfl) ?_
      walk_at "go"
      have hD4 : h4.IsList D vs.toArray := IsL.keeps hD3 K4
      have hlt := idx_of_any hany
      have hlen2 : (toldM way c cs).length = cs.length := by simp [toldM]
      refine ⟨F4.keep, wpAny_call (indexOf_spec ⟨G4, by walk_at "om", by walk_at "om", hh⟩ hD4 (hU.up (by walk_at "om")) (by decide) (by walk_at "om") hlt ?_)⟩
      intro u5 h5 tk5 q5 K5
      dsimp only at q5 K5
      have F5 := F4.up K5
      generalize hk : (toldM way c cs).idxOf 1 = k at *
      walk_at "go"
      refine ⟨F5.keep, wpAny_call (pop_from_spec (g0 := hideAll s.heap X) (k := k) ⟨G.up F5.keep, by walk_at "om", by walk_at "om", hh⟩ G F5.keep Oa (K5 _ _ a4) rD (by walk_at "om") (by walk_at "om") ?_)⟩
      intro bh h6 tk6 n6 q6 a6 l6 nq k6
      dsimp only at q6 k6 nq
      have nbL : bh ≠ L := fun q => by obtain ⟨_, _, _, e, _⟩ := F5.ns; rw [q, e] at nq; cases nq
      have nba : bh ≠ a := fun q => by rw [q, K5 _ _ a4] at nq; cases nq
      have N6 := F5.ns.at' (fun o e => k6 _ _ (Ne.symm n1) e)
      have F6 := fx_at N6
      have O6 := hideOff h6 L
      have R6 : RowAt w X h6 a d (cs.take k) := RowAt.cut k ha (fun b o hb e => k6 b o hb (K5 _ _ e)) a6 D4' P4'
      have c6 : h6.IsCell (L + 2) (some (.str ⟨#[c]⟩ tc)) := let ⟨o, e, r⟩ := c4; ⟨o, k6 _ _ (Ne.symm n2) (K5 _ _ e), r⟩
      have c6' : (h6.hide L).IsCell (L + 2) (some (.str ⟨#[c]⟩ tc)) := IsCell.hide c6 (by show (L + 2 : Nat) ≠ L; walk_at "om")
      have old6 : ∀ b o, b ≠ a → h4.get? b = some o → h6.get? b = some o := fun b o hb e => k6 _ _ hb (K5 _ _ e)
      have G6 : Gr w (h6.hide L) := G.up fun b o e => hide_in (old6 _ _ (hid_ne ha e) (F4.keep _ _ e)) (hid_ne hL e)
      have X6 : ∀ b : Nat, b ∈ X → h6.get? b ≠ none := fun b q => by
        by_cases hb : b = a
        · rw [hb, a6]; simp
        · cases e : h4.get? b with
          | none => exact absurd e (hX4 b q)
          | some o => rw [old6 b o hb e]; simp
      clear F5 F4 F3
      try dsimp only
      walk_at "go"
      rename_i h7 F7 S7
      have R7 := R6.same S7 hL n1
      have X7 := all_same X6 S7 F7.ns
      have c7 := cell_same c6 S7 (by walk_at "om")
      have l7 : h7.get? bh = _ := (S7.2 _ nbL).trans l6
      have old7 : ∀ b o, b ≠ a → b ≠ L → h4.get? b = some o → h7.get? b = some o := fun b o hb1 hb2 e => (S7.2 _ hb2).trans (old6 _ _ hb1 e)
      obtain ⟨it7, n7, a7, D7, P7⟩ := id R7
      refine acc_method (G6.up F7.keep) a7 (D7.up fun b o e => of_hideAll _ e) (by k_is) (by k_is) (fun _ _ _ => rfl) ?_
      walk_at "go"
      have Gx : ∀ {h : Heap}, (∀ b o, b ≠ a → b ≠ L → h4.get? b = some o → h.get? b = some o) → Gr w (hideAll h X) := fun {h} k => G.up fun b o e => hideAll_get _ (k _ _ (hid_ne ha e) (hid_ne hL e) (K4 _ _ (old _ _ (hid_ne hL e) (of_hideAll _ e)))) (fun q => hid_ne q e rfl)
      refine ⟨F7.keep, wpAny_call (push_row (X := X) (Gx old7) hh (by walk_at "om") (by walk_at "om") ha X7 R7 (by rw [List.length_take]; walk_at "om") ?_)⟩
      intro h8 tk8 q8 R8 k8 X8
      dsimp only at q8 k8
      have N8 := F7.ns.at' (fun o e => k8 _ _ (Ne.symm n1) e)
      have F8 := fx_at N8
      have O8 := hideOff h8 L
      have c8 := cell_but c7 k8 (Ne.symm n2)
      have l8 : h8.get? bh = _ := k8 _ _ nba l7
      have old8 : ∀ b o, b ≠ a → b ≠ L → h4.get? b = some o → h8.get? b = some o := fun b o hb1 hb2 e => k8 _ _ hb1 (old7 _ _ hb1 hb2 e)
      have G8 : Gr w (h8.hide L) := (Gx old8).up fun b o e => hide_in (of_hideAll _ e) (hid_ne hL e)
      clear R7 X7 c7 l7 a7 D7 P7 F7 S7 R6 F6 G6 X6 c6 c6' l6
      obtain ⟨c0, hc0⟩ : ∃ c0, cs[k]? = some c0 := ⟨_, List.getElem?_eq_getElem (by walk_at "om")⟩
      have ed : cs.drop k = c0 :: cs.drop (k + 1) := by
        rw [List.drop_eq_getElem_cons (by walk_at "om")]
        congr 1
        rw [List.getElem?_eq_getElem (by walk_at "om")] at hc0
        exact Option.some.inj hc0
      have P8 : Pc (hideAll h8 X) (items.toList.drop k).toArray (c0 :: cs.drop (k + 1)) := by
        rw [← ed]
        exact (P4'.up (hid_sub fun b o hb e => old8 _ _ (fun q => hb (by rw [q]; exact ha)) (fun q => hb (by rw [q]; exact hL)) e)).drop k
      have nbX : bh ∉ X := fun q => by
        cases e : h4.get? bh with
        | none => exact hX4 bh q e
        | some o => rw [K5 _ _ e] at nq; cases nq
      walk_at "un"
      have lt := laid_tail (by exact rfl) (A := A) (Q := Q) (s := { s1 with heap := h8, toks := tk8 }) (bh := bh) X8 hL hc ha n1 n2 (Gx old8) hh hd hu N8 rfl rfl c8 R8 (by simp; walk_at "om") (hideAll_get _ l8 nbX) P8 ?_
      · have e1 : envC w.params 190 L (laidCells L) = envC w.params 190 L (laidCells L) := rfl
        conv at e1 => rhs; unfold envC
        conv at e1 => rhs; arg 2; whnf
        conv at e1 => rhs; arg 5; whnf
        rw [e1] at lt
        walk_at "un"
        exact lt
      · intro h' m' tk' tc' t1 N' hm' c' R' k'
        dsimp only at t1
        refine hN _ _ k c0 tc' hany rfl hc0 (Kf h' tk' (by walk_at "om") fun b o b1 b2 b3 bn e => k' b o b1 b2 b3 (old8 _ _ b2 b1 (K4 _ _ e))) N' (fun z hz => ?_) c' (by rw [show cs.take k ++ c :: cs.drop (k + 1) = cs.take k ++ [c] ++ cs.drop (k + 1) by simp]; exact R')
        have hz' : [Str.ofString "piece"].contains z = false := by
          cases q : [Str.ofString "piece"].contains z with
          | false => rfl
          | true =>
            have : z = Str.ofString "piece" := by simpa using q
            subst this
            revert hz; decide
        rw [hm' z hz', if_neg (fun q => by rw [q] at hz; revert hz; decide)]
        exact told_off hr z hz

end
section
/- Laid2 -/
noncomputable def insM (way : Int) : List (List Nat) → Nat → List (List Nat)
  | [], _ => []
  | r :: rs, c => if (toldM way c r).any (· == 1) then (r.take ((toldM way c r).idxOf 1) ++ c :: r.drop ((toldM way c r).idxOf 1 + 1)) :: insM way rs (r.getD ((toldM way c r).idxOf 1) 0) else (r ++ [c]) :: rs
noncomputable def laidM (way : Int) (cs : List Nat) : List (List Nat) := cs.foldl (fun rows c => insM way rows c) [[], [], []]
/-- three rows -/
noncomputable def RowsAt (w : World) (X : List Nat) (h : Heap) (ad : List (Nat × Nat)) (rs : List (List Nat)) : Prop := ad.length = rs.length ∧ ∀ (j a d : Nat) r, ad[j]? = some (a, d) → rs[j]? = some r → RowAt w X h a d r
/-- one sign each -/
inductive SgAre : List Value → List Nat → Prop
  | nil : SgAre [] []
  | cons (c t : Nat) {vs cs} : SgAre vs cs → SgAre (.str ⟨#[c]⟩ t :: vs) (c :: cs)
theorem Kp.new {X : List Nat} {s sA s' : Shared} (K : Kp X sA s') (k : Kp [] s sA) (hn : ∀ b : Nat, b ∈ X → s.heap.get? b = none) : Kp [] s s' where
  heap := fun b o _ e => K.heap b o (fun q => by rw [hn b q] at e; cases e) (k.heap b o (by simp) e)
  gens := fun g => K.gens (k.gens g)
  tb := fun t => K.tb (k.tb t)
  drawn := K.drawn.trans k.drawn
  os := K.os.trans k.os
  toks := Nat.le_trans k.toks K.toks

theorem SgAre.get {vs : List Value} {cs : List Nat} (h : SgAre vs cs) {k : Nat} {v : Value} (e : vs[k]? = some v) : ∃ c t : Nat, cs[k]? = some c ∧ v = .str ⟨#[c]⟩ t := by
  induction h generalizing k with
  | nil => simp at e
  | cons c t r ih =>
    cases k with
    | zero => simp at e; exact ⟨c, t, rfl, e.symm⟩
    | succ k => exact ih (by simpa using e)
theorem SgAre.length {vs : List Value} {cs : List Nat} (h : SgAre vs cs) : vs.length = cs.length := by
  induction h with
  | nil => rfl
  | cons c t r ih => simp [ih]
theorem insM_len (way : Int) {B : Nat} : ∀ (rows : List (List Nat)) (c : Nat), (∀ r ∈ rows, r.length ≤ B) → (insM way rows c).length = rows.length ∧ ∀ r ∈ insM way rows c, r.length ≤ B + 1
  | [], c, _ => ⟨rfl, fun r h => absurd h (List.not_mem_nil)⟩
  | r :: rs, c, h => by
    unfold insM
    have h1 := h r (List.mem_cons_self ..)
    split
    · rename_i q
      have := idx_of_any q
      have e : (toldM way c r).length = r.length := by simp [toldM]
      obtain ⟨i1, i2⟩ := insM_len way rs (r.getD ((toldM way c r).idxOf 1) 0) fun r' q => h r' (List.mem_cons_of_mem _ q)
      refine ⟨by rw [List.length_cons, i1, List.length_cons], fun r' q => ?_⟩
      rcases List.mem_cons.mp q with q | q
      · subst q; simp; walk_at "om"
      · exact i2 r' q
    · refine ⟨by simp, fun r' q => ?_⟩
      rcases List.mem_cons.mp q with q | q
      · subst q; simp; walk_at "om"
      · have := h r' (List.mem_cons_of_mem _ q); walk_at "om"
theorem RowsAt.weak {w : World} {X X' : List Nat} {h : Heap} {ad : List (Nat × Nat)} {rs : List (List Nat)} (R : RowsAt w X' h ad rs) (hX : ∀ b, b ∈ X → b ∈ X') : RowsAt w X h ad rs := ⟨R.1, fun j a d r e1 e2 => (R.2 j a d r e1 e2).weak hX⟩
theorem RowsAt.wide {w : World} {X : List Nat} {h h' : Heap} {I : Nat} {ad : List (Nat × Nat)} {rs : List (List Nat)} (R : RowsAt w X h ad rs) (S : Sub h h') (n : h.get? I = none) : RowsAt w (I :: X) h' ad rs := ⟨R.1, fun j a d r e1 e2 => (R.2 j a d r e1 e2).wide S n⟩
theorem RowsAt.move {w : World} {X : List Nat} {h h' : Heap} {ad : List (Nat × Nat)} {rs : List (List Nat)} (Y : List Nat) (R : RowsAt w X h ad rs) (k : ∀ b : Nat, ∀ o, b ∉ Y → h.get? b = some o → h'.get? b = some o) (hY : ∀ b, b ∈ Y → b ∈ X) (hn : ∀ p ∈ ad, p.1 ∉ Y) : RowsAt w X h' ad rs :=
  ⟨R.1, fun j a d r e1 e2 => (R.2 j a d r e1 e2).move (hid_sub fun b o hb e => k b o (fun q => hb (hY b q)) e) fun o e => k a o (hn (a, d) (List.mem_of_getElem? e1)) e⟩
theorem RowsAt.step {w : World} {X Y : List Nat} {h h' : Heap} {ad : List (Nat × Nat)} {done rest : List (List Nat)} {r r' : List Nat} {a d : Nat} (R : RowsAt w X h ad (done ++ r :: rest)) (hj : ad[done.length]? = some (a, d)) (hnd : (ad.map (·.1)).Nodup)
    (k : ∀ b : Nat, ∀ o, b ∉ Y → h.get? b = some o → h'.get? b = some o) (hY : ∀ b, b ∈ Y → b ∈ X) (hn : ∀ p ∈ ad, p.1 = a ∨ p.1 ∉ Y) (R' : RowAt w X h' a d r') : RowsAt w X h' ad (done ++ r' :: rest) := by
  obtain ⟨l1, l2⟩ := R
  refine ⟨by simp at l1 ⊢; walk_at "om", fun j a1 d1 r1 e1 e2 => ?_⟩
  by_cases hjd : j = done.length
  · subst hjd
    rw [hj] at e1; cases e1
    rw [List.getElem?_append_right (Nat.le_refl _)] at e2
    simp at e2; subst e2
    exact R'
  · have e2' : (done ++ r :: rest)[j]? = some r1 := by
      rcases Nat.lt_or_ge j done.length with q | q
      · rw [List.getElem?_append_left q] at e2 ⊢; exact e2
      · rw [List.getElem?_append_right q] at e2 ⊢
        have : j - done.length = (j - done.length - 1) + 1 := by walk_at "om"
        rw [this] at e2 ⊢
        exact e2
    refine (l2 j a1 d1 r1 e1 e2').move (hid_sub fun b o hb e => k b o (fun q => hb (hY b q)) e) fun o e => k a1 o ?_ e
    rcases hn (a1, d1) (List.mem_of_getElem? e1) with q | q
    · exfalso
      have q' : a1 = a := q
      subst q'
      have g1 : (ad.map (·.1))[j]? = some a1 := by rw [List.getElem?_map, e1]; rfl
      have g2 : (ad.map (·.1))[done.length]? = some a1 := by rw [List.getElem?_map, hj]; rfl
      exact hjd ((List.getElem?_inj (List.getElem?_eq_some_iff.mp g1).1 hnd).mp (g1.trans g2.symm))
    · exact q
noncomputable def laidNms : List Str := ["row", "told", "behind", "piece"]

theorem Kp.less {X : List Nat} {s s' : Shared} {J : Nat} (K : Kp (J :: X) s s') (n : s.heap.get? J = none) : Kp X s s' :=
  ⟨fun b o hb e => K.heap b o (fun q => by
    rcases List.mem_cons.mp q with q | q
    · rw [q, n] at e; cases e
    · exact hb q) e, K.gens, K.tb, K.drawn, K.os, K.toks⟩
theorem laid_loop {w : World} {A : Around} {s : Shared} {L x l D tw : Nat} {way : Int} {m : Str → Option Value} {vs : List Value} {cs X Y : List Nat} {ad : List (Nat × Nat)} {v0 : Option Value} {Q : Flow → Shared → Prop}
  {trr : Sem Flow} (htr : trr = execs ((stmtsAt w.params 190).drop 2) (envC w.params 190 L (laidCells L)))
  (HX : ∀ b : Nat, b ∈ X → s.heap.get? b ≠ none) (hYX : ∀ b, b ∈ Y → b ∈ X) (hLY : L ∈ Y) (hcY : L + 2 ∈ Y) (l94 : 94 < L) (hadY : ∀ p ∈ ad, p.1 ∈ Y ∧ p.1 ≠ L ∧ p.1 ≠ L + 2 ∧ 94 < p.1) (hnd : (ad.map (·.1)).Nodup) (h3 : ad.length = 3)
  (G : Gr w (hideAll s.heap X)) (hh : A.handled = none) (hd : A.depth + 3 < recursionLimit) (hu : A.units + 60 < cLine)
  (N : s.heap.Ns L m) (ms : m "signs" = some (.ref l)) (mr : m "rows" = some (.ref D)) (ho : (hideAll s.heap X).IsCell (L + 1) (some (.ref x))) (hs : s.heap.IsCell (L + 2) v0)
  (OA : OrderAt w (hideAll s.heap X) x way tw) (ht0 : 0 < tw) (ht1 : tw < s.toks) (hway : way = 1 ∨ way = -1)
  (R : RowsAt w X s.heap ad [[], [], []]) (hl : (hideAll s.heap X).IsList l vs.toArray) (hi : SgAre vs cs) (h6 : cs.length ≤ 10) (hD : (hideAll s.heap X).IsList D (ad.map fun p => Value.ref p.1).toArray)
  (hR : ∀ s', Kp Y s s' → RowsAt w X s'.heap ad (laidM way cs) → Q (.ret (.ref D)) s') :
  wpAny (model Challenge.rw_xg0051_01.row.prog w) A trr Q (fun _ _ => False) s := by
  subst htr
  have e1 : envC w.params 190 L (laidCells L) = envC w.params 190 L (laidCells L) := rfl
  conv at e1 => rhs; unfold envC
  conv at e1 => rhs; arg 2; whnf
  conv at e1 => rhs; arg 5; whnf
  rw [e1]
  clear e1
  have hL := hYX _ hLY
  have hc := hYX _ hcY
  have had : ∀ p ∈ ad, p.1 ∈ X ∧ p.1 ≠ L ∧ p.1 ≠ L + 2 ∧ 94 < p.1 := fun p q => ⟨hYX _ (hadY p q).1, (hadY p q).2⟩
  have F0 : Fx (hideAll s.heap X) L s.heap (fun y => if y = Str.ofString "signs" then some (.ref l) else if y = Str.ofString "rows" then some (.ref D) else m y) :=
    Fx.cast ⟨N, fun b o e => of_hideAll _ e⟩ fun y => by walk_at "upd"
  have hlen := hi.length
  walk_at "un"
  refine wpAny_execs_cons ?_
  walk_at "hideN"
  refine wpAny_For ?_
  walk_at "go"
  have hls : s.heap.IsList l vs.toArray := IsL.keeps hl fun b o e => of_hideAll _ e
  walk_at "un"
  refine wpAny_pyIter_list hls ?_
  try dsimp only
  have i1 : ∀ b : Nat, ∀ o, s.heap.get? b = some o → b < s.heap.objs.size := fun b o e => Heap.lt_size e
  have i2 : ∀ b : Nat, b ∈ X → b < s.heap.objs.size := fun b q => by
    cases e : s.heap.get? b with
    | none => exact absurd e (HX b q)
    | some o => exact i1 b o e
  have il : l < s.heap.objs.size := by obtain ⟨_, q, _⟩ := hls; exact i1 _ _ q
  have iL := i2 _ hL
  have ic := i2 _ hc
  have push1 : Sub s.heap (s.heap.push { cls := .type "list_iterator", data := .fields #[.ref l, .int 0 0] }) := fun b o e => Heap.get?_push_of_some _ e
  have lX : l ∉ X := fun q => by obtain ⟨_, e, _⟩ := hl; exact (hid_get e).2 q
  have nI : s.heap.get? s.heap.objs.size = none := new_none _
  have hI94 : 94 < s.heap.objs.size := by walk_at "om"
  generalize hI : s.heap.objs.size = I at *
  refine for_rule (Walks.list hh I l (neN (by walk_at "om")) vs.toArray)
    (fun i s' => Ex2 fun v v1 => And6 (Kp (I :: Y) s s') (s'.heap.Ns L (ov laidNms v (fun y => if y = Str.ofString "signs" then some (.ref l) else if y = Str.ofString "rows" then some (.ref D) else m y))) (RowsAt w (I :: X) s'.heap ad ((cs.take i).foldl (fun rows c => insM way rows c) [[], [], []])) (s'.heap.IsCell (L + 2) v1) ((∀ b : Nat, b ∈ X → s'.heap.get? b ≠ none)) ((∀ r ∈ (cs.take i).foldl (fun rows c => insM way rows c) [[], [], []], r.length ≤ i))) ?_ ?_ ?_ ?_ ?_
  · exact ⟨⟨_, by rw [← hI]; exact Heap.get?_push_size _ rfl, rfl, rfl⟩, hls.push _⟩
  · refine ⟨_, v0, Kp.of push1 (Nat.le_refl _) |>.weak (fun b q => absurd q (List.not_mem_nil)), ((F0.up push1).ov0 _).ns, (R.wide push1 nI), hs.keeps push1, all_sub HX push1, ?_⟩
    intro r q
    simp at q
    simp [q]
  · rintro i s' h₁ tk₁ ⟨v, v1, K1, N1, R1, c1, X1, B1⟩ hk' ht
    have hk2 : ∀ b : Nat, ∀ o, b ≠ I → s'.heap.get? b = some o → h₁.get? b = some o := fun b o hb e => hk' b o (by simpa using hb) e
    refine ⟨v, v1, K1.grow [I] (fun b o hb _ e => hk2 b o (by simpa using hb) e) (by simp) (by simp; walk_at "om") (by simp; walk_at "om") ht, N1.at' (fun o e => hk2 _ _ (neN (by walk_at "om")) e), R1.move [I] (fun b o hb e => hk2 b o (by simpa using hb) e) (by simp) (fun p q => ?_), let ⟨o, e, r⟩ := c1; ⟨o, hk2 _ _ (neN (by walk_at "om")) e, r⟩, ?_, B1⟩
    · have := i2 _ (had p q).1
      simp; walk_at "om"
    · intro b q
      cases e : s'.heap.get? b with
      | none => exact absurd e (X1 b q)
      | some o => rw [hk2 b o (neN (by have := i2 b q; walk_at "om")) e]; simp
  · rintro i z s₁ hi' hz hJJ hst
    obtain ⟨v, v1, K1, N1, R1, c1, X1, B1⟩ := hJJ
    obtain ⟨c, tc, hcs, rfl⟩ := hi.get (k := i) (v := z) (by simpa using hz)
    have er : (cs.take (i + 1)).foldl (fun rows c => insM way rows c) [[], [], []] = insM way ((cs.take i).foldl (fun rows c => insM way rows c) [[], [], []]) c := by
      rw [List.take_succ, hcs, List.foldl_append]; rfl
    rw [er]
    generalize (cs.take i).foldl (fun rows c => insM way rows c) [[], [], []] = rows at *
    walk_at "hideN"
    have hi10 : i < 10 := by have := (List.getElem?_eq_some_iff.mp hcs).1; walk_at "om"
    have XI : ∀ b : Nat, b ∈ I :: X → s₁.heap.get? b ≠ none := fun b q => by
      rcases List.mem_cons.mp q with q | q
      · obtain ⟨o, e, _⟩ := hst.1; rw [q]; intro z; rw [z] at e; cases e
      · exact X1 b q
    have F1 : Fx (hideAll s₁.heap (I :: X)) L s₁.heap _ := ⟨N1, fun b o e => of_hideAll _ e⟩
    have O1 : (hideAll s₁.heap (I :: X)).get? (L + 2) = none := hideAll_none _ (List.mem_cons_of_mem _ hc)
    walk_at "un"
    refine wpAny_assign_Name (stG F1 (by rfl) c1 O1 (by show (L : Nat) ≠ L + 2; walk_at "om") ?_)
    intro h2 F2 S2 c2
    have upB : ∀ b o, (hideAll s.heap X).get? b = some o → s₁.heap.get? b = some o := fun b o e => K1.heap b o (fun q => by
      rcases List.mem_cons.mp q with q | q
      · exact Nat.lt_irrefl I (by have := i1 b o (of_hideAll _ e); rwa [q] at this)
      · exact (hid_get e).2 (hYX _ q)) (of_hideAll _ e)
    have upC : ∀ b o, (hideAll s.heap X).get? b = some o → h2.get? b = some o := fun b o e => (S2.2 b (hid_ne hc e)).trans (upB b o e)
    have hD2 : h2.IsList D (ad.map fun p => Value.ref p.1).toArray := let ⟨o, e, r⟩ := hD; ⟨o, upC _ _ e, r⟩
    have X2 : ∀ b : Nat, b ∈ I :: X → h2.get? b ≠ none := fun b q => by
      by_cases hb : b = L + 2
      · rw [hb]; obtain ⟨o, e, _⟩ := c2; rw [e]; simp
      · rw [S2.2 b hb]; exact XI b q
    walk_at "un"
    refine wpAny_execs_cons ?_
    walk_at "hideN"
    refine wpAny_For ?_
    walk_at "go"
    walk_at "un"
    refine wpAny_pyIter_list hD2 ?_
    try dsimp only
    have j1 : ∀ b : Nat, ∀ o, h2.get? b = some o → b < h2.objs.size := fun b o e => Heap.lt_size e
    have j2 : ∀ b : Nat, b ∈ I :: X → b < h2.objs.size := fun b q => by
      cases e : h2.get? b with
      | none => exact absurd e (X2 b q)
      | some o => exact j1 b o e
    have jD : D < h2.objs.size := by obtain ⟨_, q, _⟩ := hD2; exact j1 _ _ q
    have push2 : Sub h2 (h2.push { cls := .type "list_iterator", data := .fields #[.ref D, .int 0 0] }) := fun b o e => Heap.get?_push_of_some _ e
    have nJ : h2.get? h2.objs.size = none := new_none _
    have kJ : h2.objs.size = h2.objs.size := rfl
    have itJ : (h2.push { cls := .type "list_iterator", data := .fields #[.ref D, .int 0 0] }).IsListIter h2.objs.size D 0 := ⟨_, Heap.get?_push_size _ rfl, rfl, rfl⟩
    generalize h2.objs.size = J at *
    have nJs : s.heap.get? J = none := by
      cases e : s.heap.get? J with
      | none => rfl
      | some o =>
        exfalso
        by_cases q : J ∈ I :: X
        · exact X2 J q nJ
        · have e2 := K1.heap J o (fun z => q (by rcases List.mem_cons.mp z with z | z; exact z ▸ List.mem_cons_self ..; exact List.mem_cons_of_mem _ (hYX _ z))) e
          have e3 := (S2.2 J (fun z => q (by rw [z]; exact List.mem_cons_of_mem _ hc))).trans e2
          rw [nJ] at e3; cases e3
    have lI : I ≠ l := neN (by walk_at "om")
    obtain ⟨ol, el, _⟩ := id hl
    have outer_end : ∀ (s' : Shared) v' v1', Kp (J :: I :: Y) s s' → s'.heap.Ns L (ov laidNms v' (fun y => if y = Str.ofString "signs" then some (.ref l) else if y = Str.ofString "rows" then some (.ref D) else m y)) → RowsAt w (J :: I :: X) s'.heap ad (insM way rows c) → s'.heap.IsCell (L + 2) v1' → (∀ b : Nat, b ∈ X → s'.heap.get? b ≠ none) → (∀ o, s₁.heap.get? I = some o → s'.heap.get? I = some o) →
        ((Ex2 fun v v1 => And6 (Kp (I :: Y) s s') (s'.heap.Ns L (ov laidNms v (fun y => if y = Str.ofString "signs" then some (.ref l) else if y = Str.ofString "rows" then some (.ref D) else m y))) (RowsAt w (I :: X) s'.heap ad (insM way rows c)) (s'.heap.IsCell (L + 2) v1) ((∀ b : Nat, b ∈ X → s'.heap.get? b ≠ none)) ((∀ r ∈ insM way rows c, r.length ≤ i + 1))) ∧ ∀ b ∈ [I, l], ∀ o, s₁.heap.get? b = some o → s'.heap.get? b = some o) := fun s' v' v1' K' N' R' c' X' I' =>
      ⟨⟨v', v1', K'.less nJs, N', R'.weak (fun b q => List.mem_cons_of_mem _ q), c', X', (insM_len way rows c B1).2⟩, fun b hb o e => by
        simp only [List.mem_cons, List.not_mem_nil, or_false] at hb
        rcases hb with hb | hb <;> (replace hb := hb.symm; subst hb)
        · exact I' o e
        · have e1 := upB _ _ el
          rw [e1] at e; cases e
          refine K'.heap _ _ (fun q => ?_) (of_hideAll _ el)
          rcases List.mem_cons.mp q with q | q
          · rw [q] at el; have := of_hideAll _ el; rw [nJs] at this; cases this
          · rcases List.mem_cons.mp q with q | q
            · exact lI q.symm
            · exact lX (hYX _ q)⟩
    refine for_rule (Walks.list hh J D (neN (by walk_at "om")) (ad.map fun p => Value.ref p.1).toArray)
      (fun j s' => Ex5 fun v (c' : Nat) (tc' : Nat) (done : List (List Nat)) (rest : List (List Nat)) => And9 (Kp (J :: I :: Y) s s') (s'.heap.Ns L (ov laidNms v (fun y => if y = Str.ofString "signs" then some (.ref l) else if y = Str.ofString "rows" then some (.ref D) else m y))) (done.length = j) (insM way rows c = done ++ insM way rest c') (RowsAt w (J :: I :: X) s'.heap ad (done ++ rest)) (s'.heap.IsCell (L + 2) (some (.str ⟨#[c']⟩ tc'))) ((∀ b : Nat, b ∈ X → s'.heap.get? b ≠ none)) ((∀ o, s₁.heap.get? I = some o → s'.heap.get? I = some o)) ((∀ r ∈ rest, r.length ≤ i))) ?_ ?_ ?_ ?_ ?_
    · exact ⟨itJ, hD2.push _⟩
    · refine ⟨_, c, tc, [], rows, (K1.weak fun b q => List.mem_cons_of_mem _ q).grow [L + 2] (fun b o hb _ e => push2 _ _ ((S2.2 b (by simpa using hb)).trans e)) (fun b q => ?_) (by simp; walk_at "om") (by simp; walk_at "om") (Nat.le_refl _), (F2.up push2).ns, rfl, rfl,
        (R1.move (h' := h2) [L + 2] (fun b o hb e => (S2.2 b (by simpa using hb)).trans e) (by simp; exact Or.inr hc) (fun p q => ?_)).wide push2 nJ, c2.keeps push2, fun b q => all_sub X2 push2 b (List.mem_cons_of_mem _ q), fun o e => push2 _ _ ((S2.2 I (neN (by walk_at "om"))).trans e), B1⟩
      · rw [List.mem_singleton.mp q]; exact List.mem_cons_of_mem _ (List.mem_cons_of_mem _ hcY)
      · have := (had p q).2.2.1
        simpa using this
    · rintro j s' h₁ tk₁ ⟨v', c', tc', done, rest, K', N', e1, e2, R', x', X', I', B'⟩ hk' ht
      have hk2 : ∀ b : Nat, ∀ o, b ≠ J → s'.heap.get? b = some o → h₁.get? b = some o := fun b o hb e => hk' b o (by simpa using hb) e
      have jL : L < J := j2 _ (List.mem_cons_of_mem _ hL)
      have jc : L + 2 < J := j2 _ (List.mem_cons_of_mem _ hc)
      have jI : I < J := j2 _ (List.mem_cons_self ..)
      refine ⟨v', c', tc', done, rest, K'.grow [J] (fun b o hb _ e => hk2 b o (by simpa using hb) e) (by simp) (by simp; walk_at "om") (by simp; walk_at "om") ht, N'.at' (fun o e => hk2 _ _ (neN (by walk_at "om")) e), e1, e2, R'.move [J] (fun b o hb e => hk2 b o (by simpa using hb) e) (by simp) (fun p q => ?_), let ⟨o, e, r⟩ := x'; ⟨o, hk2 _ _ (neN (by walk_at "om")) e, r⟩, ?_, fun o e => hk2 _ _ (neN (by walk_at "om")) (I' o e), B'⟩
      · have := j2 _ (List.mem_cons_of_mem _ (had p q).1)
        simp; walk_at "om"
      · intro b q
        cases e : s'.heap.get? b with
        | none => exact absurd e (X' b q)
        | some o => rw [hk2 b o (neN (by have := j2 b (List.mem_cons_of_mem _ q); walk_at "om")) e]; simp
    · rintro j z s' hj hz hJJ hst2
      try walk_at "hideN"
      obtain ⟨v', c', tc', done, rest, K', N', e1, e2, R', x', X', I', B'⟩ := hJJ
      have hz' : (ad.map fun p => Value.ref p.1)[j]? = some z := by simpa using hz
      obtain ⟨⟨a, d⟩, hadj, rfl⟩ : ∃ p : Nat × Nat, ad[j]? = some p ∧ z = .ref p.1 := by
        rw [List.getElem?_map, Option.map_eq_some_iff] at hz'
        obtain ⟨p, h1, h2⟩ := hz'
        exact ⟨p, h1, h2.symm⟩
      have hlr := R'.1
      obtain ⟨r, rest', rfl⟩ : ∃ r rest', rest = r :: rest' := by
        cases rest with
        | nil =>
          have := (List.getElem?_eq_some_iff.mp hadj).1
          simp at hlr; walk_at "om"
        | cons r rest' => exact ⟨r, rest', rfl⟩
      obtain ⟨ha1, ha2, ha3, ha4⟩ := had _ (List.mem_of_getElem? hadj)
      dsimp only at ha1 ha2 ha3 ha4
      have hadj' : ad[done.length]? = some (a, d) := by rw [e1]; exact hadj
      have Rj := R'.2 _ _ _ r hadj' (by simp)
      have XJ : ∀ b : Nat, b ∈ J :: I :: X → s'.heap.get? b ≠ none := fun b q => by
        rcases List.mem_cons.mp q with q | q
        · obtain ⟨o, e, _⟩ := hst2.1; rw [q]; intro z; rw [z] at e; cases e
        · rcases List.mem_cons.mp q with q | q
          · obtain ⟨o, e, _⟩ := hst.1; rw [q, I' o e]; simp
          · exact X' b q
      have upJ : Sub (hideAll s.heap X) (hideAll s'.heap (J :: I :: X)) := fun b o e => by
        have e0 := of_hideAll _ e
        have nb : b ∉ J :: I :: X := fun q => by
          rcases List.mem_cons.mp q with q | q
          · rw [q, nJs] at e0; cases e0
          · rcases List.mem_cons.mp q with q | q
            · rw [q, nI] at e0; cases e0
            · exact (hid_get e).2 q
        exact hideAll_get _ (K'.heap b o (fun z => nb (by rcases List.mem_cons.mp z with z | z; exact z ▸ List.mem_cons_self ..; rcases List.mem_cons.mp z with z | z; exact List.mem_cons_of_mem _ (z ▸ List.mem_cons_self ..); exact List.mem_cons_of_mem _ (List.mem_cons_of_mem _ (hYX _ z)))) e0) nb
      have FJ : Fx (hideAll s'.heap (J :: I :: X)) L s'.heap _ := ⟨N', fun b o e => of_hideAll _ e⟩
      have OJ : (hideAll s'.heap (J :: I :: X)).get? L = none := hideAll_none _ (List.mem_cons_of_mem _ (List.mem_cons_of_mem _ hL))
      walk_at "un"
      refine wpAny_assign_Name (stL FJ OJ ?_)
      intro h4 F4 S4
      have up4 : Sub (hideAll s'.heap (J :: I :: X)) (hideAll h4 (J :: I :: X)) := hid_sub fun b o hb e => (S4.2 b fun q => hb (by rw [q]; exact List.mem_cons_of_mem _ (List.mem_cons_of_mem _ hL))).trans e
      have Xh : ∀ b : Nat, b ∈ J :: I :: X → h4.get? b ≠ none := all_same XJ S4 F4.ns
      have kT := K'.toks
      have inX : ∀ b, b ∈ [L, a, L + 2] → b ∈ J :: I :: X := fun b q => by
        simp only [List.mem_cons, List.not_mem_nil, or_false] at q
        rcases q with q | q | q <;> (replace q := q.symm; subst q)
        · exact List.mem_cons_of_mem _ (List.mem_cons_of_mem _ hL)
        · exact List.mem_cons_of_mem _ (List.mem_cons_of_mem _ ha1)
        · exact List.mem_cons_of_mem _ (List.mem_cons_of_mem _ hc)
      have inY : ∀ b, b ∈ [L, a, L + 2] → b ∈ J :: I :: Y := fun b q => by
        simp only [List.mem_cons, List.not_mem_nil, or_false] at q
        rcases q with q | q | q <;> (replace q := q.symm; subst q)
        · exact List.mem_cons_of_mem _ (List.mem_cons_of_mem _ hLY)
        · exact List.mem_cons_of_mem _ (List.mem_cons_of_mem _ (hadY _ (List.mem_of_getElem? hadj)).1)
        · exact List.mem_cons_of_mem _ (List.mem_cons_of_mem _ hcY)
      have K4 : Kp (J :: I :: Y) s { s' with heap := h4, toks := s'.toks + 1 } := K'.grow [L] (fun b o hb _ e => (S4.2 b (by simpa using hb)).trans e) (fun b q => inY b (by rw [List.mem_singleton.mp q]; exact List.mem_cons_self ..)) (by simp; walk_at "om") (by simp; walk_at "om") (Nat.le_succ _)
      have R4 : RowsAt w (J :: I :: X) h4 ad (done ++ r :: rest') := R'.move [L] (fun b o hb e => (S4.2 b (by simpa using hb)).trans e) (fun b q => inX b (by rw [List.mem_singleton.mp q]; exact List.mem_cons_self ..)) (fun p q => by have := (had p q).2.1; simpa using this)
      have hoff : ∀ p ∈ ad, p.1 = a ∨ p.1 ∉ [L, a, L + 2] := fun p q => by
        by_cases h : p.1 = a
        · exact .inl h
        · have := had p q
          refine .inr fun z => ?_
          simp only [List.mem_cons, List.not_mem_nil, or_false] at z
          rcases z with z | z | z
          · exact this.2.1 z
          · exact h z
          · exact this.2.2.1 z
      have Ioff : I ∉ [L, a, L + 2] := fun z => by
        simp only [List.mem_cons, List.not_mem_nil, or_false] at z
        have := i2 a ha1
        walk_at "om"
      have I4 : ∀ o, s₁.heap.get? I = some o → h4.get? I = some o := fun o e => (S4.2 I (neN (by walk_at "om"))).trans (I' o e)
      have names : ∀ m' : Str → Option Value, (∀ z, laidNames.contains z = false → m' z = (if z = Str.ofString "row" then some (Value.ref a) else ov laidNms v' (fun y => if y = Str.ofString "signs" then some (.ref l) else if y = Str.ofString "rows" then some (.ref D) else m y) z)) → ∀ z, laidNms.contains z = false → m' z = (fun y => if y = Str.ofString "signs" then some (.ref l) else if y = Str.ofString "rows" then some (.ref D) else m y) z := fun m' hm z hz => by
        have h1 : laidNames.contains z = false := by
          cases q : laidNames.contains z with
          | false => rfl
          | true =>
            have : z = Str.ofString "told" ∨ z = Str.ofString "behind" ∨ z = Str.ofString "piece" := by simpa [laidNames] using q
            rcases this with rfl | rfl | rfl <;> (revert hz; decide)
        rw [hm z h1, if_neg (fun q => by rw [q] at hz; revert hz; decide)]
        unfold ov
        rw [hz]; rfl
      have lt := laid_turn (by exact rfl) (A := A) (Q := fun f s₃ => match f with
          | .next | .cont => (Ex5 fun v (c' : Nat) (tc' : Nat) (done : List (List Nat)) (rest : List (List Nat)) => And9 (Kp (J :: I :: Y) s s₃) (s₃.heap.Ns L (ov laidNms v (fun y => if y = Str.ofString "signs" then some (.ref l) else if y = Str.ofString "rows" then some (.ref D) else m y))) (done.length = j + 1) (insM way rows c = done ++ insM way rest c') (RowsAt w (J :: I :: X) s₃.heap ad (done ++ rest)) (s₃.heap.IsCell (L + 2) (some (.str ⟨#[c']⟩ tc'))) ((∀ b : Nat, b ∈ X → s₃.heap.get? b ≠ none)) ((∀ o, s₁.heap.get? I = some o → s₃.heap.get? I = some o)) ((∀ r ∈ rest, r.length ≤ i))) ∧ ∀ b ∈ [J, D], ∀ o, s'.heap.get? b = some o → s₃.heap.get? b = some o
          | .brk => ((Ex2 fun v v1 => And6 (Kp (I :: Y) s s₃) (s₃.heap.Ns L (ov laidNms v (fun y => if y = Str.ofString "signs" then some (.ref l) else if y = Str.ofString "rows" then some (.ref D) else m y))) (RowsAt w (I :: X) s₃.heap ad (insM way rows c)) (s₃.heap.IsCell (L + 2) v1) ((∀ b : Nat, b ∈ X → s₃.heap.get? b ≠ none)) ((∀ r ∈ insM way rows c, r.length ≤ i + 1))) ∧ ∀ b ∈ [I, l], ∀ o, s₁.heap.get? b = some o → s₃.heap.get? b = some o)
          | .ret v => False) (s := { s' with heap := h4, toks := s'.toks + 1 }) (X := J :: I :: X) (c := c') (tc := tc') (cs := r) (a := a) (d := d) (x := x) (tw := tw) (way := way) Xh (List.mem_cons_of_mem _ (List.mem_cons_of_mem _ hL)) (List.mem_cons_of_mem _ (List.mem_cons_of_mem _ hc)) (List.mem_cons_of_mem _ (List.mem_cons_of_mem _ ha1)) ha2 ha3 l94 ha4
          (G.up fun b o e => up4 _ _ (upJ _ _ e)) hh hd hu F4.ns (ho.keeps fun b o e => up4 _ _ (upJ _ _ e)) (cell_same x' S4 (by walk_at "om")) (OA.up fun b o e => up4 _ _ (upJ _ _ e)) ht0 (by dsimp only; walk_at "om") hway rfl (Rj.same S4 (List.mem_cons_of_mem _ (List.mem_cons_of_mem _ hL)) ha2) (by have := B' r (List.mem_cons_self ..); walk_at "om") ?_ ?_
      · have e1 : envC w.params 190 L (laidCells L) = envC w.params 190 L (laidCells L) := rfl
        conv at e1 => rhs; unfold envC
        conv at e1 => rhs; arg 2; whnf
        conv at e1 => rhs; arg 5; whnf
        rw [e1] at lt
        walk_at "un"
        refine wpAny_mono lt (fun f s₃ z => ?_) fun _ _ x => x.elim
        cases f with
        | next => exact z
        | cont => exact z
        | brk => (walk_at "un"; refine wpAny_execs_nil ?_; walk_at "un"; exact z)
        | ret v => exact z.elim
      · intro s2 m' hany Ks Ns hm cs2 Rs
        have ei : insM way rows c = done ++ (r ++ [c']) :: rest' := by
          rw [e2]
          show done ++ (if (toldM way c' r).any (· == 1) = true then _ else _) = _
          rw [if_neg (by rw [hany]; exact Bool.false_ne_true)]
        refine outer_end s2 m' _ (K4.trans (Ks.weak inY)) (Fx.forget laidNms (fx_at Ns) (names m' hm)).ns ?_ cs2 (fun b q => ?_) (fun o e => Ks.heap I o Ioff (I4 o e))
        · rw [ei]
          exact R4.step hadj' hnd (fun b o hb e => Ks.heap b o hb e) inX hoff Rs
        · by_cases hb : b ∈ [L, a, L + 2]
          · simp only [List.mem_cons, List.not_mem_nil, or_false] at hb
            rcases hb with hb | hb | hb <;> (replace hb := hb.symm; subst hb)
            · obtain ⟨o, _, _, e, _⟩ := Ns; rw [e]; simp
            · obtain ⟨_, _, e, _⟩ := Rs; rw [e]; simp
            · obtain ⟨o, e, _⟩ := cs2; rw [e]; simp
          · cases e : h4.get? b with
            | none => exact absurd e (Xh b (List.mem_cons_of_mem _ (List.mem_cons_of_mem _ q)))
            | some o => rw [Ks.heap b o hb e]; simp
      · intro s2 m' k c2' tc2 hany hk hc2 Ks Ns hm cs2 Rs
        have eg : r.getD k 0 = c2' := by rw [List.getD_eq_getElem?_getD, hc2]; rfl
        have ei : insM way rows c = (done ++ [r.take k ++ c' :: r.drop (k + 1)]) ++ insM way rest' c2' := by
          rw [e2]
          show done ++ (if (toldM way c' r).any (· == 1) = true then _ else _) = _
          rw [if_pos hany, hk, eg]
          simp
        refine ⟨⟨m', c2', tc2, done ++ [r.take k ++ c' :: r.drop (k + 1)], rest', K4.trans (Ks.weak inY), (Fx.forget laidNms (fx_at Ns) (names m' hm)).ns, by simp [e1], ei, ?_, cs2, (fun b q => ?_), (fun o e => Ks.heap I o Ioff (I4 o e)), fun r' q => B' r' (List.mem_cons_of_mem _ q)⟩, ?_⟩
        · rw [List.append_assoc]
          exact R4.step hadj' hnd (fun b o hb e => Ks.heap b o hb e) inX hoff Rs
        · by_cases hb : b ∈ [L, a, L + 2]
          · simp only [List.mem_cons, List.not_mem_nil, or_false] at hb
            rcases hb with hb | hb | hb <;> (replace hb := hb.symm; subst hb)
            · obtain ⟨o, _, _, e, _⟩ := Ns; rw [e]; simp
            · obtain ⟨_, _, e, _⟩ := Rs; rw [e]; simp
            · obtain ⟨o, e, _⟩ := cs2; rw [e]; simp
          · cases e : h4.get? b with
            | none => exact absurd e (Xh b (List.mem_cons_of_mem _ (List.mem_cons_of_mem _ q)))
            | some o => rw [Ks.heap b o hb e]; simp
        · intro b hb o e
          have nb : b ∉ [L, a, L + 2] := fun z => by
            have hbJ : b = J ∨ b = D := by simpa using hb
            have jJ := j2 a (List.mem_cons_of_mem _ ha1)
            have jL := j2 L (List.mem_cons_of_mem _ hL)
            have jc := j2 (L + 2) (List.mem_cons_of_mem _ hc)
            simp only [List.mem_cons, List.not_mem_nil, or_false] at z
            rcases hbJ with q | q
            · have q' : (b : Nat) = J := q
              walk_at "om"
            · subst q
              obtain ⟨o, e, _⟩ := hD
              rcases z with z | z | z
              · exact (hid_get e).2 (z ▸ hL)
              · exact (hid_get e).2 (z ▸ ha1)
              · exact (hid_get e).2 (z ▸ hc)
          refine Ks.heap b o nb ((S4.2 b fun z => nb (by rw [z]; exact List.mem_cons_self ..)).trans e)
    · rintro s' hJJ
      try walk_at "hideN"
      obtain ⟨v', c', tc', done, rest, K', N', e1, e2, R', x', X', I', B'⟩ := hJJ
      have hlr := R'.1
      obtain rfl : rest = [] := by
        have e3 : done.length = 3 := by rw [e1]; simp [h3]
        simp [h3, e3] at hlr
        exact hlr
      rw [List.append_nil] at R'
      have e3 : insM way rows c = done := by rw [e2]; simp [insM]
      walk_at "un"
      refine wpAny_execs_nil ?_
      try dsimp only
      walk_at "un"
      refine wpAny_execs_nil ?_
      exact outer_end s' v' _ K' N' (by rw [e3]; exact R') x' X' I'
  · rintro s₂ hJJ
    try walk_at "hideN"
    obtain ⟨v, v1, K1, N1, R1, c1, X1, B1⟩ := hJJ
    have ecs : cs.take vs.toArray.size = cs := List.take_of_length_le (by simp; walk_at "om")
    rw [ecs] at R1
    have F1 := fx_at N1
    walk_at "un"
    refine wpAny_execs_nil ?_
    try dsimp only
    walk_at "go"
    exact hR _ (K1.less nI) (R1.weak fun b q => List.mem_cons_of_mem _ q)

end
section
/- Laid3 -/
local macro_rules | `(tactic| walk_at "halt") => `(tactic| first | with_reducible refine Mine.hlList ?_ | walk_at "h4")
theorem mem6 {P : Nat → Prop} {a b c d e f x : Nat} (q : x ∈ [a, b, c, d, e, f]) (h1 : P a) (h2 : P b) (h3 : P c) (h4 : P d) (h5 : P e) (h6 : P f) : P x := by
  simp only [List.mem_cons, List.not_mem_nil, or_false] at q
  rcases q with rfl | rfl | rfl | rfl | rfl | rfl <;> assumption
theorem mem3 {P : Nat → Prop} {a b c x : Nat} (q : x ∈ [a, b, c]) (h1 : P a) (h2 : P b) (h3 : P c) : P x := by
  simp only [List.mem_cons, List.not_mem_nil, or_false] at q
  rcases q with rfl | rfl | rfl <;> assumption
theorem mem5 {P : Nat → Prop} {a b c d e x : Nat} (q : x ∈ [a, b, c, d, e]) (h1 : P a) (h2 : P b) (h3 : P c) (h4 : P d) (h5 : P e) : P x := by
  simp only [List.mem_cons, List.not_mem_nil, or_false] at q
  rcases q with rfl | rfl | rfl | rfl | rfl <;> assumption
theorem mem7 {P : Nat → Prop} {a b c d e f g x : Nat} (q : x ∈ [a, b, c, d, e, f, g]) (h1 : P a) (h2 : P b) (h3 : P c) (h4 : P d) (h5 : P e) (h6 : P f) (h7 : P g) : P x := by
  simp only [List.mem_cons, List.not_mem_nil, or_false] at q
  rcases q with rfl | rfl | rfl | rfl | rfl | rfl | rfl <;> assumption
theorem nmem6 {a b c d e f x : Nat} (h1 : x ≠ a) (h2 : x ≠ b) (h3 : x ≠ c) (h4 : x ≠ d) (h5 : x ≠ e) (h6 : x ≠ f) : x ∉ [a, b, c, d, e, f] := fun q =>
  mem6 (P := fun y => x = y → False) q h1 h2 h3 h4 h5 h6 rfl
theorem nnOf {α : Type} {o : Option α} {x : α} (e : o = some x) : o ≠ none := fun q => by rw [q] at e; cases e
theorem m61 {a b c d e f : Nat} : a ∈ [a, b, c, d, e, f] := .head _
theorem m62 {a b c d e f : Nat} : b ∈ [a, b, c, d, e, f] := .tail _ (.head _)
theorem m31 {a b c : Nat} : a ∈ [a, b, c] := .head _
theorem m32 {a b c : Nat} : b ∈ [a, b, c] := .tail _ (.head _)
theorem m33 {a b c : Nat} : c ∈ [a, b, c] := .tail _ (.tail _ (.head _))
theorem twoNe {hb : Heap} {b c : Nat} {o o' : Obj} (e1 : hb.get? b = some o) (e2 : hb.get? c = some o') (hne : o ≠ o') : b ≠ c := fun q => hne (by rw [q, e2] at e1; exact (Option.some.inj e1).symm)
theorem noNe {hb : Heap} {b c : Nat} (e1 : hb.get? b = none) (e2 : hb.get? c ≠ none) : b ≠ c := fun q => e2 (by rw [← q]; exact e1)
theorem ltP {a b j k : Nat} (h : a + j < b) (e : Nat.ble k j = true) : a + k ≠ b := Nat.ne_of_lt (Nat.lt_of_le_of_lt (omC e) h)
theorem ltP0 {a b j : Nat} (h : a + j < b) : a ≠ b := Nat.ne_of_lt (Nat.lt_of_le_of_lt omB h)
theorem ltQ {c a b j : Nat} (h : a + j < b) (k : c < a) : c < b := Nat.lt_trans k (Nat.lt_of_le_of_lt omB h)
theorem law_laid_spec {w : World} {A : Around} {s : Shared} {R : Result → Shared → Prop} {l tw : Nat} {way : Int} {vs : List Value} {cs : List Nat}
  (C : Cx w A s 10) (T : Tb s.heap) (hl : s.heap.IsList l vs.toArray) (hi : SgAre vs cs) (hcs6 : cs.length ≤ 10) (ht0 : 0 < tw) (ht1 : tw < s.toks) (hway : way = 1 ∨ way = -1)
  (hR : ∀ (D a0 d0 a1 d1 a2 d2 : Nat) s', Kp [] s s' → (∀ b ∈ [D, a0, d0, a1, d1, a2, d2], s.heap.get? b = none) → 94 < a0 → 94 < a1 → 94 < a2 → [a0, a1, a2].Nodup →
    s'.heap.PlainList D #[.ref a0, .ref a1, .ref a2] → D ∉ [90, a0, a1, a2] → RowsAt w [90, a0, a1, a2] s'.heap [(a0, d0), (a1, d1), (a2, d2)] (laidM way cs) → R (.ok (.ret (.ref D))) s') :
  codeAny (model Challenge.rw_xg0051_01.row.prog w) A (.call (.ref 190) ⟨[.ref l, .int way tw], []⟩) R s := by
  have G := C.G
  have hd' := C.hd
  have hh := C.hh
  have hu' := C.hu
  have hsub := sub_of_hide s.heap 90
  have Gb := G.hide90 T
  refine' enterC [("signs", .ref l), ("way", .int way tw)] (s.heap.hide 90) G.k G.nolimit (by first | exact fun _ _ e => e | assumption) ?k1 ?k2 ?k3 ?k4 ?k5 ?_ ?c2 ?c3 ?c4
  case k1 => k_is
  case k2 => k_is
  case k3 => walk_at "om"
  case k4 => first | exact BindsTo.of_eq rfl | exact binds_K G.k rfl (by k_is) rfl rfl rfl
  case k5 => (intro n y hy; simp only [List.mem_cons, List.not_mem_nil, or_false] at hy; repeat' (rcases hy with rfl | hy)); all_goals first | (subst hy; exact .inl rfl) | (subst hy; exact .inr ⟨rfl, rfl⟩) | exact .inl rfl | exact .inr ⟨rfl, rfl⟩
  case c2 => exact rfl
  case c3 => exact rfl
  case c4 => exact rfl
  intro L h' A' tk0 hL hkeep F hcells O eh ed eu htk
  have hh' : A'.handled = none := eh.trans hh
  have F0 : Fx (s.heap.hide 90) L h' (fun y => if y = Str.ofString "way" then some (.int way tw) else if y = Str.ofString "signs" then some (.ref l) else none) := F
  have c1 : h'.IsCell (L + 1) none := hcells "order" (L + 1) rfl
  have c2 : h'.IsCell (L + 2) none := hcells "sign" (L + 2) rfl
  clear F hcells
  have OL := O L (Nat.le_refl _)
  have O1 := O (L + 1) (Nat.le_add_right _ _)
  have O2 := O (L + 2) (Nat.le_add_right _ _)
  walk_at "go"
  refine acc_new (Gb.up F0.keep) (by walk_at "om") ?_
  intro a0 d0 h1 tk1 n0 z0 q1 K1 na0 nd0 A0 D0
  dsimp only at z0 q1 K1 na0 nd0
  have F1 := F0.up K1
  walk_at "go"
  refine acc_new (Gb.up F1.keep) (by walk_at "om") ?_
  intro a1 d1 h2 tk2 n1 z1 q2 K2 na1 nd1 A1 D1
  dsimp only at z1 q2 K2 na1 nd1
  have F2 := F1.up K2
  walk_at "go"
  refine acc_new (Gb.up F2.keep) (by walk_at "om") ?_
  intro a2 d2 h3 tk3 n2 z2 q3 K3 na2 nd2 A2 D2
  dsimp only at z2 q3 K3 na2 nd2
  have F3 := F2.up K3
  have F0s := F0.ns
  clear F0 F1 F2
  walk_at "go"
  refine newListF F3 ?_
  intro h4 F4 K4 l4
  have nD := new_none h3
  generalize h3.objs.size = D at l4 nD
  dsimp only at K4
  walk_at "go"
  rename_i h5 F5 S5 h6 F6 K6 T6
  dsimp only at T6 K6
  have n6 : ∀ b o, s.heap.get? b = some o → b ≠ L := fun b o e q => by
    have := Heap.lt_size e
    rw [q, hL] at this; exact Nat.lt_irrefl _ this
  refine newListF F6 ?_
  intro h7 F7 K7 l7
  dsimp only at K7
  have T7 := T6.keeps K7
  walk_at "go"
  refine ⟨F7.keep, tc_new (Gb.up F7.keep) (by walk_at "om") (by walk_at "om") hh' l7 T7 ?_⟩
  intro x dx h8 tk8 tkx q8 K8 nx ndx x8 dx8
  dsimp only at q8 K8 nx ndx
  have F8 := F7.up K8
  have c8 : h8.IsCell (L + 1) none := (cell_same (((c1.keeps K1).keeps K2).keeps K3 |>.keeps K4) S5 (by walk_at "om")).keeps fun b o e => K8 _ _ (K7 _ _ (K6 _ _ e))
  walk_at "un"
  refine stG F8 (by rfl) c8 O1 (by show (L : Nat) ≠ L + 1; walk_at "om") ?_
  intro h9 F9 S9 c9
  dsimp only at S9
  have up49 : ∀ b : Nat, ∀ o, b ≠ L → b ≠ L + 1 → h4.get? b = some o → h9.get? b = some o := fun b o hb hb2 e => (S9.2 b hb2).trans (K8 _ _ (K7 _ _ (K6 _ _ ((S5.2 b hb).trans e))))
  have zL : L < h'.objs.size := F0s.lt
  have hL' : L = s.heap.objs.size := hL
  have e94 : 94 < L := by
    have := ltN C.G.lt94
    walk_at "om"
  have k2 : L + 2 < h'.objs.size := c2.lt
  have x0 : a0 < h1.objs.size := Heap.lt_size A0
  have x1 : a1 < h2.objs.size := Heap.lt_size A1
  have x2 : a2 < h3.objs.size := Heap.lt_size A2
  have A1' := K2 _ _ A0
  have nL0 : ∀ {b : Nat} {o : Obj}, s.heap.get? b = some o → b < L := fun e => by rw [hL']; exact Heap.lt_size e
  obtain ⟨op, v90, e90, d90⟩ := T.at90
  -- what lies in h' and stays
  have up1 : Sub h' h4 := fun b o e => K4 _ _ (K3 _ _ (K2 _ _ (K1 _ _ e)))
  have g0 : L + 2 < a0 := by walk_at "om"
  have g1 : L + 2 < a1 := by walk_at "om"
  have g2 : L + 2 < a2 := by walk_at "om"
  have j0 : 94 < a0 := ltQ g0 e94
  have j1 : 94 < a1 := ltQ g1 e94
  have j2 : 94 < a2 := ltQ g2 e94
  have neX : ∀ (hb : Heap), Sub h' hb → (∀ b : Nat, b ∈ [L, L + 2, 90] → hb.get? b ≠ none) := fun hb k b q =>
    mem3 (P := fun b => hb.get? b ≠ none) q (by obtain ⟨o, _, _, e, _⟩ := F0s; exact nnOf (k _ _ e)) (by obtain ⟨o, e, _⟩ := c2; exact nnOf (k _ _ e)) (nnOf (k _ _ (hkeep _ _ e90)))
  have in9 : ∀ {b : Nat} {o : Obj}, b ∉ [L, L + 2, a0, a1, a2, 90] → b ≠ L + 1 → h4.get? b = some o → (hideAll h9 [L, L + 2, a0, a1, a2, 90]).get? b = some o := fun hb h1 e => hideAll_get _ (up49 _ _ (fun q => hb (by rw [q]; simp)) h1 e) hb
  have n0' : ∀ b : Nat, b ∈ [L, L + 2, 90] → b ≠ a0 ∧ b ≠ a1 ∧ b ≠ a2 := fun b q => by
    have : b ≤ L + 2 := mem3 (P := fun b => b ≤ L + 2) q omB (Nat.le_refl _) (Nat.le_trans (Nat.le_of_lt (Nat.lt_trans (by decide) e94)) omB)
    exact ⟨Nat.ne_of_lt (Nat.lt_of_le_of_lt this g0), Nat.ne_of_lt (Nat.lt_of_le_of_lt this g1), Nat.ne_of_lt (Nat.lt_of_le_of_lt this g2)⟩
  have row : ∀ (a d n : Nat), a ∈ [a0, a1, a2] → h4.get? a = some (accObj d #[] n) → AccD w h4 d → d ∉ [L, L + 2, a0, a1, a2, 90] → d ≠ L + 1 → RowAt w [L, L + 2, a0, a1, a2, 90] h9 a d [] := fun a d n hm e D hd hd2 => by
    refine ⟨#[], n, up49 _ _ ?_ ?_ e, ?_, ⟨rfl, fun i c e => by simp at e⟩⟩
    · exact mem3 (P := fun a => a ≠ L) hm (ltP0 g0).symm (ltP0 g1).symm (ltP0 g2).symm
    · exact mem3 (P := fun a => a ≠ L + 1) hm (ltP g0 rfl).symm (ltP g1 rfl).symm (ltP g2 rfl).symm
    · obtain ⟨tk, t0, e⟩ := D
      exact ⟨tk, t0, in9 hd hd2 e⟩
  have c1s : ∀ hb, Sub h' hb → hb.get? (L + 1) ≠ none := fun hb k => by obtain ⟨o, e, _⟩ := c1; exact nnOf (k _ _ e)
  have r1 : Sub h' h1 := K1
  have r2 : Sub h' h2 := fun b o e => K2 _ _ (r1 _ _ e)
  have r3 : Sub h' h3 := fun b o e => K3 _ _ (r2 _ _ e)
  have dd0 : d0 ∉ [L, L + 2, a0, a1, a2, 90] ∧ d0 ≠ L + 1 := by
    obtain ⟨tk, t0, e⟩ := D0
    exact ⟨nmem6 (noNe nd0 (neX h' (fun _ _ e => e) _ m31)) (noNe nd0 (neX h' (fun _ _ e => e) _ m32)) (twoNe e A0 (fun z => by cases z)) ((noNe na1 (nnOf e)).symm) ((noNe na2 (nnOf (K2 _ _ e))).symm) (noNe nd0 (neX h' (fun _ _ e => e) _ m33)), noNe nd0 (c1s _ fun _ _ e => e)⟩
  have dd1 : d1 ∉ [L, L + 2, a0, a1, a2, 90] ∧ d1 ≠ L + 1 := by
    obtain ⟨tk, t0, e⟩ := D1
    exact ⟨nmem6 (noNe nd1 (neX h1 r1 _ m31)) (noNe nd1 (neX h1 r1 _ m32)) (noNe nd1 (nnOf A0)) (twoNe e A1 (fun z => by cases z)) ((noNe na2 (nnOf e)).symm) (noNe nd1 (neX h1 r1 _ m33)), noNe nd1 (c1s _ r1)⟩
  have dd2 : d2 ∉ [L, L + 2, a0, a1, a2, 90] ∧ d2 ≠ L + 1 := by
    obtain ⟨tk, t0, e⟩ := D2
    exact ⟨nmem6 (noNe nd2 (neX h2 r2 _ m31)) (noNe nd2 (neX h2 r2 _ m32)) (noNe nd2 (nnOf (K2 _ _ A0))) (noNe nd2 (nnOf A1)) (twoNe e A2 (fun z => by cases z)) (noNe nd2 (neX h2 r2 _ m33)), noNe nd2 (c1s _ r2)⟩
  have A0f : h4.get? a0 = some (accObj d0 #[] n0) := K4 _ _ (K3 _ _ (K2 _ _ A0))
  have A1f : h4.get? a1 = some (accObj d1 #[] n1) := K4 _ _ (K3 _ _ A1)
  have A2f : h4.get? a2 = some (accObj d2 #[] n2) := K4 _ _ A2
  have X4 : ∀ b : Nat, b ∈ [L, L + 2, a0, a1, a2, 90] → h4.get? b ≠ none := fun b q =>
    mem6 (P := fun b => h4.get? b ≠ none) q (neX h4 up1 _ m31) (neX h4 up1 _ m32) (nnOf A0f) (nnOf A1f) (nnOf A2f) (neX h4 up1 _ m33)
  have X3 : ∀ b : Nat, b ∈ [L, L + 2, a0, a1, a2, 90] → h3.get? b ≠ none := fun b q =>
    mem6 (P := fun b => h3.get? b ≠ none) q (neX h3 r3 _ m31) (neX h3 r3 _ m32) (nnOf (K3 _ _ (K2 _ _ A0))) (nnOf (K3 _ _ A1)) (nnOf A2) (neX h3 r3 _ m33)
  have X5 := all_same X4 S5 F5.ns
  have X6 := all_sub X5 K6
  have X7 := all_sub X6 K7
  have X8 := all_sub X7 K8
  have X9 : ∀ b : Nat, b ∈ [L, L + 2, a0, a1, a2, 90] → h9.get? b ≠ none := fun b q => by
    by_cases hb : b = L + 1
    · rw [hb]; obtain ⟨o, e, _⟩ := c9; exact nnOf e
    · rw [S9.2 b hb]; exact X8 b q
  have c1_7 : h7.get? (L + 1) ≠ none := by
    obtain ⟨o, e, _⟩ := (cell_same (((c1.keeps K1).keeps K2).keeps K3 |>.keeps K4) S5 (by walk_at "om")).keeps (h' := h7) fun b o e => K7 _ _ (K6 _ _ e)
    exact nnOf e
  have off : ∀ {hb : Heap} {b : Nat}, hb.get? b = none → (∀ b : Nat, b ∈ [L, L + 2, a0, a1, a2, 90] → hb.get? b ≠ none) → b ∉ [L, L + 2, a0, a1, a2, 90] := fun e H q => H _ q e
  have OA9 : OrderAt w (hideAll h9 [L, L + 2, a0, a1, a2, 90]) x way tw := by
    have hx1 := noNe nx c1_7
    have hd1 := noNe ndx c1_7
    have c1_6 : h6.get? (L + 1) ≠ none := by
      obtain ⟨o, e, _⟩ := (cell_same (((c1.keeps K1).keeps K2).keeps K3 |>.keeps K4) S5 (by walk_at "om")).keeps (h' := h6) fun b o e => K6 _ _ e
      exact nnOf e
    have c1_5 : h5.get? (L + 1) ≠ none := by
      obtain ⟨o, e, _⟩ := cell_same (((c1.keeps K1).keeps K2).keeps K3 |>.keeps K4) S5 (by walk_at "om")
      exact nnOf e
    have g9 : ∀ {b : Nat} {o : Obj}, b ∉ [L, L + 2, a0, a1, a2, 90] → b ≠ L + 1 → h8.get? b = some o → (hideAll h9 [L, L + 2, a0, a1, a2, 90]).get? b = some o := fun hb h1 e => hideAll_get _ ((S9.2 _ h1).trans e) hb
    obtain ⟨o, e, r⟩ := T7
    exact ⟨dx, _, h5.objs.size, _, _, _, g9 (off nx X7) hx1 x8, g9 (off ndx X7) hd1 dx8, g9 (off (new_none h6) X6) (noNe (new_none h6) c1_6) (K8 _ _ l7), o, g9 (off (new_none h5) X5) (noNe (new_none h5) c1_5) (K8 _ _ e), r⟩
  have hls : (hideAll h9 [L, L + 2, a0, a1, a2, 90]).IsList l vs.toArray := by
    obtain ⟨o, e, cc, nn', dd⟩ := hl
    have l1 := nL0 e
    refine ⟨o, in9 ?_ (by walk_at "om") (up1 _ _ (hkeep _ _ e)), cc, nn', dd⟩
    have l2 := Nat.lt_of_lt_of_le l1 (Nat.le_add_right L 2)
    refine nmem6 (Nat.ne_of_lt l1) (Nat.ne_of_lt l2) (Nat.ne_of_lt (Nat.lt_trans l2 g0)) (Nat.ne_of_lt (Nat.lt_trans l2 g1)) (Nat.ne_of_lt (Nat.lt_trans l2 g2)) fun q => ?_
    rw [q, e90] at e; cases e; rw [d90] at dd; cases dd
  have hD9 : (hideAll h9 [L, L + 2, a0, a1, a2, 90]).IsList D ([(a0, d0), (a1, d1), (a2, d2)].map fun p => Value.ref p.1).toArray :=
    ⟨_, in9 (off nD X3) (noNe nD (c1s _ r3)) l4, rfl, 0, rfl⟩
  have Gx : Gr w (hideAll h9 [L, L + 2, a0, a1, a2, 90]) := Gb.up fun b o e => by
    have e0 := of_hideAll _ (show (hideAll s.heap [90]).get? b = some o from e)
    have b0 := ltN (nL0 e0)
    refine in9 ?_ (neN (by walk_at "om")) (up1 _ _ (hkeep _ _ e0))
    have b2 : b < L + 2 := Nat.lt_of_lt_of_le b0 (Nat.le_add_right L 2)
    exact nmem6 (Nat.ne_of_lt b0) (Nat.ne_of_lt b2) (Nat.ne_of_lt (Nat.lt_trans b2 g0)) (Nat.ne_of_lt (Nat.lt_trans b2 g1)) (Nat.ne_of_lt (Nat.lt_trans b2 g2)) fun q => by rw [q] at e; have := hideOff s.heap 90; rw [this] at e; cases e
  have c1n : L + 1 ∉ [L, L + 2, a0, a1, a2, 90] := by
    exact nmem6 (omN' rfl).symm (omM rfl) (ltP g0 rfl) (ltP g1 rfl) (ltP g2 rfl) (Nat.ne_of_gt (Nat.lt_of_lt_of_le (Nat.lt_trans (by decide) e94) omB))
  have lp := laid_loop (by exact rfl) (A := A') (Y := [L, L + 2, a0, a1, a2]) (Q := fun fl s' => R (.ok (.ret (match fl with | .ret v => v | _ => .none))) s') (s := { s with heap := h9, toks := tk8 }) (ad := [(a0, d0), (a1, d1), (a2, d2)]) (D := D) (cs := cs) X9 (fun b q => by
      simp only [List.mem_cons, List.not_mem_nil, or_false] at q ⊢
      rcases q with q | q | q | q | q <;> simp [q]) (by simp) (by simp) (by walk_at "om") ?_ ?_ rfl Gx hh' (by walk_at "om") (by walk_at "om") F9.ns rfl rfl (let ⟨o, e, r⟩ := c9; ⟨o, hideAll_get _ e c1n, r⟩) (cell_same ((((c2.keeps K1).keeps K2).keeps K3 |>.keeps K4 |> fun c => cell_same c S5 (by walk_at "om")).keeps fun b o e => K8 _ _ (K7 _ _ (K6 _ _ e))) S9 (by walk_at "om")) OA9 ht0 (by dsimp only; walk_at "om") hway ?_ hls hi hcs6 hD9 ?_
  · have e1 : envC w.params 190 L (laidCells L) = envC w.params 190 L (laidCells L) := rfl
    conv at e1 => rhs; unfold envC
    conv at e1 => rhs; arg 2; whnf
    conv at e1 => rhs; arg 5; whnf
    rw [e1] at lp
    walk_at "un"
    exact lp
  · intro p q
    simp only [List.mem_cons, List.not_mem_nil, or_false] at q
    rcases q with rfl | rfl | rfl <;> (refine ⟨by simp, ?_, ?_, ?_⟩ <;> dsimp only <;> walk_at "om")
  · simp
    walk_at "om"
  · refine ⟨rfl, fun j a d r e1 e2 => ?_⟩
    match j with
    | 0 => simp at e1 e2; obtain ⟨rfl, rfl⟩ := e1; subst e2; exact row _ _ _ (by simp) A0f ((D0.up K2).up K3 |>.up K4) dd0.1 dd0.2
    | 1 => simp at e1 e2; obtain ⟨rfl, rfl⟩ := e1; subst e2; exact row _ _ _ (by simp) A1f (D1.up K3 |>.up K4) dd1.1 dd1.2
    | 2 => simp at e1 e2; obtain ⟨rfl, rfl⟩ := e1; subst e2; exact row _ _ _ (by simp) A2f (D2.up K4) dd2.1 dd2.2
    | j + 3 => simp at e1
  · intro s' K' R'
    try dsimp only
    have dn : ∀ {b : Nat}, h'.get? b = none → s.heap.get? b = none := fun e => none_of_sub hkeep e
    have sub9 : Sub s.heap h9 := fun b o e => up49 _ _ (neN (by have := ltN (nL0 e); walk_at "om")) (neN (by have := ltN (nL0 e); walk_at "om")) (up1 _ _ (hkeep _ _ e))
    have nL' : ∀ b : Nat, L ≤ b → s.heap.get? b = none := fun b hb => by
      cases q : s.heap.get? b with
      | none => rfl
      | some o => have := nL0 q; walk_at "om"
    have D9 : D ∉ [L, L + 2, a0, a1, a2, 90] := off nD X3
    refine hR D a0 d0 a1 d1 a2 d2 s' (K'.new (Kp.of sub9 (by walk_at "om")) (fun b q => nL' b ?_)) (fun b q => ?_) (by walk_at "om") (by walk_at "om") (by walk_at "om") (by simp; walk_at "om") ⟨0, ?_⟩ (fun q => D9 (by simp at q ⊢; rcases q with q | q | q | q <;> simp [q])) (R'.weak fun b q => by simp at q ⊢; rcases q with q | q | q | q <;> simp [q])
    · have gl : ∀ {x : Nat}, L + 2 < x → L ≤ x := fun h => Nat.le_of_lt (Nat.lt_of_le_of_lt omB h)
      exact mem5 (P := fun b => L ≤ b) q (Nat.le_refl _) omB (gl g0) (gl g1) (gl g2)
    · have gl : ∀ {x : Nat}, L + 2 < x → L ≤ x := fun h => Nat.le_of_lt (Nat.lt_of_le_of_lt omB h)
      exact mem7 (P := fun b => s.heap.get? b = none) q (none_of_sub (fun b o e => r3 _ _ (hkeep _ _ e)) nD) (nL' _ (gl g0)) (dn nd0) (nL' _ (gl g1))
        (none_of_sub (fun b o e => r1 _ _ (hkeep _ _ e)) nd1) (nL' _ (gl g2)) (none_of_sub (fun b o e => r2 _ _ (hkeep _ _ e)) nd2)
    · refine K'.heap D _ (fun q => D9 ?_) (up49 _ _ (fun q => D9 (by rw [q]; simp)) (noNe nD (c1s _ r3)) l4)
      simp only [List.mem_cons, List.not_mem_nil, or_false] at q ⊢
      rcases q with q | q | q | q | q <;> simp [q]

end
section
/- Zip -/
noncomputable abbrev ZT : String := "str_ascii_iterator"
theorem IsStrIter.but {h h' : Heap} {a b : Addr} {x : Str} {t : Tok} {i : Nat} (y : h.IsStrIter a ZT x t i) (hs : Heap.ExtBut b h h') (n : a ≠ b) : h'.IsStrIter a ZT x t i := y.extBut hs n
section
variable {prog : Program} {w : World} {A : Around} {E : Value → Shared → Prop} {s : Shared}
theorem zipS_item {n k c d : Nat} {x y : Str} {tx ty : Tok} {a b : Value} {Q : Value → Shared → Prop}
    (hz : IsZip s.heap (n + 4) (n + 2) (n + 3) .none) (hTI : IsPair s.heap (n + 2) (.ref n) (.ref (n + 1))) (hTO : IsPair s.heap (n + 3) a b)
    (h1 : s.heap.IsStrIter n ZT x tx k) (h2 : s.heap.IsStrIter (n + 1) ZT y ty k) (hx : x.cps[k]? = some c) (hy : y.cps[k]? = some d)
    (hQ : ∀ h', IsZip h' (n + 4) (n + 2) (n + 3) (rawInt s.heap.objs.size) → IsPair h' (n + 3) (.str ⟨#[c]⟩ s.toks) (.str ⟨#[d]⟩ (s.toks + 1)) → h'.IsStrIter n ZT x tx (k + 1) → h'.IsStrIter (n + 1) ZT y ty (k + 1) →
      IsPair h' s.heap.objs.size (.str ⟨#[c]⟩ s.toks) (.str ⟨#[d]⟩ (s.toks + 1)) →
      (∀ e : Nat, ∀ o, e ≠ n + 4 → e ≠ n + 3 → e ≠ n → e ≠ n + 1 → s.heap.get? e = some o → h'.get? e = some o) → Q (.ref s.heap.objs.size) { s with heap := h', toks := s.toks + 1 + 1 }) :
    wpAny (model prog w) A (Builtin.«zip.__next__» ⟨[.ref (n + 4)], []⟩) (fun fin s' => ∃ v, fin = .done (.ret v) ∧ Q v s') E s := by
  have D1 : (n : Nat) ≠ n + 4 := by walk_at "om"
  have D2 : (n + 1 : Nat) ≠ n + 4 := by walk_at "om"
  have D3 : (n + 3 : Nat) ≠ n + 4 := by walk_at "om"
  have D4 : (n + 3 : Nat) ≠ n := by walk_at "om"
  have D5 : (n + 3 : Nat) ≠ n + 1 := by walk_at "om"
  have D6 : (n : Nat) ≠ n + 1 := by walk_at "om"
  show wpAny _ _ (field (.ref (n + 4)) 2 >>= _) _ _ _
  refine wpAny_bind (wpAny_field hz rfl (x := .bool false) rfl ?_)
  show wpAny _ _ (field (.ref (n + 4)) 3 >>= _) _ _ _
  refine wpAny_bind (wpAny_field hz rfl (x := .ref (n + 2)) rfl ?_)
  refine wpAny_bind (wpAny_seqItems hTI rfl ?_)
  show wpAny _ _ (Builtin.SmallTypes.ownedTupleIsFree (.ref (n + 4)) >>= _) _ _ _
  refine wpAny_bind ?_
  unfold Builtin.SmallTypes.ownedTupleIsFree
  refine wpAny_bind (wpAny_field hz rfl (x := .none) rfl (wpAny_pure ?_))
  simp only [if_true]
  refine wpAny_bind (wpAny_rule ?_)
  refine wpAny_bind (wpAny_field hz rfl (x := .ref (n + 3)) rfl ?_)
  refine wpAny_bind (wpAny_setField_rec hz (by simp) fun h₁ hz₁ hs₁ => ?_)
  replace hz₁ : IsZip h₁ (n + 4) (n + 2) (n + 3) .ellipsis := hz₁
  refine wpAny_bind ?_
  simp only [List.zipIdx_cons, List.zipIdx_nil, List.forIn_cons, List.forIn_nil]
  refine wpAny_bind (wpAny_bind (wpAny_onRaise ?_))
  show wpAny _ _ (Builtin.SmallTypes.nextOf (.ref n) >>= _) _ _ _
  refine wpAny_bind (wpAny_nextOf_ascii_item (h1.extBut hs₁.extBut D1) hx fun h₂ h1₂ hs₂ => wpAny_pure ?_)
  have hTO₂ : IsPair h₂ (n + 3) a b := hs₂.extBut _ _ D4 (hs₁.extBut _ _ D3 hTO)
  refine wpAny_bind (wpAny_seqItems hTO₂ rfl ?_)
  refine wpAny_bind (wpAny_updateSeq_pair hTO₂ fun h₃ hTO₃ hs₃ => ?_)
  replace hTO₃ : IsPair h₃ (n + 3) (.str ⟨#[c]⟩ s.toks) b := hTO₃
  refine wpAny_bind (wpAny_letGo (wpAny_pure ?_))
  refine wpAny_bind (wpAny_bind (wpAny_onRaise ?_))
  show wpAny _ _ (Builtin.SmallTypes.nextOf (.ref (n + 1)) >>= _) _ _ _
  refine wpAny_bind (wpAny_nextOf_ascii_item (((h2.extBut hs₁.extBut D2).extBut hs₂.extBut D6.symm).extBut hs₃.extBut D5.symm) hy fun h₄ h2₄ hs₄ => wpAny_pure ?_)
  have hTO₄ : IsPair h₄ (n + 3) (.str ⟨#[c]⟩ s.toks) b := hs₄.extBut _ _ D5 hTO₃
  refine wpAny_bind (wpAny_seqItems hTO₄ rfl ?_)
  refine wpAny_bind (wpAny_updateSeq_pair hTO₄ fun h₅ hTO₅ hs₅ => ?_)
  replace hTO₅ : IsPair h₅ (n + 3) (.str ⟨#[c]⟩ s.toks) (.str ⟨#[d]⟩ (s.toks + 1)) := hTO₅
  refine wpAny_bind (wpAny_letGo (wpAny_pure (wpAny_pure ?_)))
  refine wpAny_bind (wpAny_seqItems hTO₅ rfl ?_)
  refine wpAny_bind (wpAny_newTuple ?_)
  have hsz : h₅.objs.size = s.heap.objs.size := by rw [hs₅.1, hs₄.1, hs₃.1, hs₂.1, hs₁.1]
  have hz₅ : IsZip h₅ (n + 4) (n + 2) (n + 3) .ellipsis := hs₅.extBut _ _ D3.symm (hs₄.extBut _ _ D2.symm (hs₃.extBut _ _ D3.symm (hs₂.extBut _ _ D1.symm hz₁)))
  have hk₅ : ∀ e : Nat, ∀ o, e ≠ n + 4 → e ≠ n + 3 → e ≠ n → e ≠ n + 1 → s.heap.get? e = some o → h₅.get? e = some o := fun c o c1 c2 c3 c4 e =>
    hs₅.extBut _ _ c2 (hs₄.extBut _ _ c4 (hs₃.extBut _ _ c2 (hs₂.extBut _ _ c3 (hs₁.extBut _ _ c1 e))))
  have h1₅ : h₅.IsStrIter n ZT x tx (k + 1) := ((h1₂.extBut hs₃.extBut D4.symm).extBut hs₄.extBut D6).extBut hs₅.extBut D4.symm
  have h2₅ : h₅.IsStrIter (n + 1) ZT y ty (k + 1) := h2₄.extBut hs₅.extBut D5.symm
  have hzlt : (n + 4 : Nat) < h₅.objs.size := Heap.lt_size hz₅
  show wpAny _ _ (Builtin.SmallTypes.ownedTupleHandOut (.ref (n + 4)) (.ref h₅.objs.size) >>= _) _ _ _
  refine wpAny_bind ?_
  unfold Builtin.SmallTypes.ownedTupleHandOut
  have hz₆ : IsZip (h₅.push { cls := .type "tuple", data := .seq #[.str ⟨#[c]⟩ s.toks, .str ⟨#[d]⟩ (s.toks + 1)] }) (n + 4) (n + 2) (n + 3) .ellipsis := Heap.get?_push_of_some _ hz₅
  refine wpAny_bind (wpAny_setField_rec hz₆ (by simp) fun h₇ hz₇ hs₇ => ?_)
  replace hz₇ : IsZip h₇ (n + 4) (n + 2) (n + 3) (rawInt h₅.objs.size) := hz₇
  refine wpAny_setField_rec hz₇ (by simp) fun h₈ hz₈ hs₈ => ?_
  replace hz₈ : IsZip h₈ (n + 4) (n + 2) (n + 3) (rawInt h₅.objs.size) := hz₈
  have up : ∀ e : Nat, ∀ o, e ≠ n + 4 → h₅.get? e = some o → h₈.get? e = some o := fun c o c1 e => hs₈.extBut _ _ c1 (hs₇.extBut _ _ c1 (Heap.get?_push_of_some _ e))
  have hT₈ : IsPair h₈ h₅.objs.size (.str ⟨#[c]⟩ s.toks) (.str ⟨#[d]⟩ (s.toks + 1)) := hs₈.extBut _ _ (Nat.ne_of_gt hzlt) (hs₇.extBut _ _ (Nat.ne_of_gt hzlt) (Heap.get?_push_size _ rfl))
  rw [hsz] at hz₈ hT₈
  refine wpAny_pure ⟨_, rfl, ?_⟩
  show Q (.ref h₅.objs.size) _
  rw [hsz]
  refine hQ h₈ hz₈ (up _ _ D3 hTO₅) ?_ ?_ hT₈ fun c o c1 c2 c3 c4 e => up c o c1 (hk₅ c o c1 c2 c3 c4 e)
  · obtain ⟨o, e, r⟩ := h1₅; exact ⟨o, up _ _ D1 e, r⟩
  · obtain ⟨o, e, r⟩ := h2₅; exact ⟨o, up _ _ D2 e, r⟩
end
section
variable {prog : Program} {w : World} {A : Around} {E : Value → Shared → Prop} {s : Shared}
theorem zipS_end {n k : Nat} {x y : Str} {tx ty : Tok} {a b : Value} {Q : Fin → Shared → Prop} (hh : A.handled = none)
    (hz : IsZip s.heap (n + 4) (n + 2) (n + 3) .none) (hTI : IsPair s.heap (n + 2) (.ref n) (.ref (n + 1))) (hTO : IsPair s.heap (n + 3) a b)
    (h1 : s.heap.IsStrIter n ZT x tx k) (h2 : s.heap.IsStrIter (n + 1) ZT y ty k) (hend : x.cps[k]? = none ∨ y.cps[k]? = none)
    (hE : ∀ h' e tk, s.toks ≤ tk → (∀ e : Nat, ∀ o, e ≠ n + 4 → e ≠ n + 3 → e ≠ n → e ≠ n + 1 → s.heap.get? e = some o → h'.get? e = some o) → (∃ o, h'.get? e = some o ∧ o.cls = .type "StopIteration") → E (.ref e) { s with heap := h', toks := tk }) :
    wpAny (model prog w) A (Builtin.«zip.__next__» ⟨[.ref (n + 4)], []⟩) Q E s := by
  have D1 : (n : Nat) ≠ n + 4 := by walk_at "om"
  have D2 : (n + 1 : Nat) ≠ n + 4 := by walk_at "om"
  have D3 : (n + 3 : Nat) ≠ n + 4 := by walk_at "om"
  have D4 : (n + 3 : Nat) ≠ n := by walk_at "om"
  have D5 : (n + 3 : Nat) ≠ n + 1 := by walk_at "om"
  have D6 : (n : Nat) ≠ n + 1 := by walk_at "om"
  show wpAny _ _ (field (.ref (n + 4)) 2 >>= _) _ _ _
  refine wpAny_bind (wpAny_field hz rfl (x := .bool false) rfl ?_)
  show wpAny _ _ (field (.ref (n + 4)) 3 >>= _) _ _ _
  refine wpAny_bind (wpAny_field hz rfl (x := .ref (n + 2)) rfl ?_)
  refine wpAny_bind (wpAny_seqItems hTI rfl ?_)
  show wpAny _ _ (Builtin.SmallTypes.ownedTupleIsFree (.ref (n + 4)) >>= _) _ _ _
  refine wpAny_bind ?_
  unfold Builtin.SmallTypes.ownedTupleIsFree
  refine wpAny_bind (wpAny_field hz rfl (x := .none) rfl (wpAny_pure ?_))
  simp only [if_true]
  refine wpAny_bind (wpAny_rule ?_)
  refine wpAny_bind (wpAny_field hz rfl (x := .ref (n + 3)) rfl ?_)
  refine wpAny_bind (wpAny_setField_rec hz (by simp) fun h₁ hz₁ hs₁ => ?_)
  replace hz₁ : IsZip h₁ (n + 4) (n + 2) (n + 3) .ellipsis := hz₁
  refine wpAny_bind ?_
  simp only [List.zipIdx_cons, List.zipIdx_nil, List.forIn_cons, List.forIn_nil]
  refine wpAny_bind (wpAny_bind (wpAny_onRaise ?_))
  show wpAny _ _ (Builtin.SmallTypes.nextOf (.ref n) >>= _) _ _ _
  cases hx : x.cps[k]? with
  | none =>
    refine wpAny_bind (wpAny_nextOf_ascii_end hh (h1.extBut hs₁.extBut D1) hx fun h₂ e hs₂ he => ?_)
    obtain ⟨oe, hoe, hce⟩ := he
    have hz₂ : IsZip h₂ (n + 4) (n + 2) (n + 3) .ellipsis := hs₂ _ _ D1.symm hz₁
    have hez : e ≠ n + 4 := fun x => by subst x; rw [hz₂] at hoe; cases hoe; simp at hce
    refine wpAny_setField_rec hz₂ (by simp) fun h₃ _ hs₃ => hE h₃ e s.toks (Nat.le_refl _) (fun c o c1 c2 c3 c4 x => hs₃.extBut _ _ c1 (hs₂ _ _ c3 (hs₁.extBut _ _ c1 x))) ⟨oe, hs₃.extBut _ _ hez hoe, hce⟩
  | some c =>
    have hy : y.cps[k]? = none := by rcases hend with h | h; rw [hx] at h; cases h; exact h
    refine wpAny_bind (wpAny_nextOf_ascii_item (h1.extBut hs₁.extBut D1) hx fun h₂ h1₂ hs₂ => wpAny_pure ?_)
    have hTO₂ : IsPair h₂ (n + 3) a b := hs₂.extBut _ _ D4 (hs₁.extBut _ _ D3 hTO)
    refine wpAny_bind (wpAny_seqItems hTO₂ rfl ?_)
    refine wpAny_bind (wpAny_updateSeq_pair hTO₂ fun h₃ hTO₃ hs₃ => ?_)
    refine wpAny_bind (wpAny_letGo (wpAny_pure ?_))
    refine wpAny_bind (wpAny_bind (wpAny_onRaise ?_))
    show wpAny _ _ (Builtin.SmallTypes.nextOf (.ref (n + 1)) >>= _) _ _ _
    refine wpAny_bind (wpAny_nextOf_ascii_end hh (((h2.extBut hs₁.extBut D2).extBut hs₂.extBut D6.symm).extBut hs₃.extBut D5.symm) hy fun h₄ e hs₄ he => ?_)
    obtain ⟨oe, hoe, hce⟩ := he
    have hz₄ : IsZip h₄ (n + 4) (n + 2) (n + 3) .ellipsis := hs₄ _ _ D2.symm (hs₃.extBut _ _ D3.symm (hs₂.extBut _ _ D1.symm hz₁))
    have hez : e ≠ n + 4 := fun x => by subst x; rw [hz₄] at hoe; cases hoe; simp at hce
    refine wpAny_setField_rec hz₄ (by simp) fun h₅ _ hs₅ => hE h₅ e (s.toks + 1) (Nat.le_succ _) (fun c o c1 c2 c3 c4 x => hs₅.extBut _ _ c1 (hs₄ _ _ c4 (hs₃.extBut _ _ c2 (hs₂.extBut _ _ c3 (hs₁.extBut _ _ c1 x))))) ⟨oe, hs₅.extBut _ _ hez hoe, hce⟩

theorem zipS_next {n k c d : Nat} {x y : Str} {tx ty : Tok} {a b : Value} {Q : Option Value → Shared → Prop}
    (hz : IsZip s.heap (n + 4) (n + 2) (n + 3) .none) (hTI : IsPair s.heap (n + 2) (.ref n) (.ref (n + 1))) (hTO : IsPair s.heap (n + 3) a b)
    (h1 : s.heap.IsStrIter n ZT x tx k) (h2 : s.heap.IsStrIter (n + 1) ZT y ty k) (hx : x.cps[k]? = some c) (hy : y.cps[k]? = some d)
    (hQ : ∀ h', IsZip h' (n + 4) (n + 2) (n + 3) (rawInt s.heap.objs.size) → IsPair h' (n + 3) (.str ⟨#[c]⟩ s.toks) (.str ⟨#[d]⟩ (s.toks + 1)) → h'.IsStrIter n ZT x tx (k + 1) → h'.IsStrIter (n + 1) ZT y ty (k + 1) →
      IsPair h' s.heap.objs.size (.str ⟨#[c]⟩ s.toks) (.str ⟨#[d]⟩ (s.toks + 1)) →
      (∀ e : Nat, ∀ o, e ≠ n + 4 → e ≠ n + 3 → e ≠ n → e ≠ n + 1 → s.heap.get? e = some o → h'.get? e = some o) → Q (some (.ref s.heap.objs.size)) { s with heap := h', toks := s.toks + 1 + 1 }) :
    wpAny (model prog w) A (pyNext (.ref (n + 4))) Q E s := by
  have hT : s.TypeIs (.ref (n + 4)) "zip" := ⟨_, hz, rfl⟩
  unfold pyNext
  exact wpAny_bind (wpAny_attempt (wpAny_callSpecial?_slot (name := Str.ofString "__next__") hT F.slot_zip_next
    (wpAny_call_entry F.slot_zip_next hT F.entry_zip_next
      (zipS_item hz hTI hTO h1 h2 hx hy fun h' a1 a2 a3 a4 a5 a6 => wpAny_pure (hQ h' a1 a2 a3 a4 a5 a6)) (F.args_zip_next_1 _))))
theorem zipS_done {n k : Nat} {x y : Str} {tx ty : Tok} {a b : Value} {Q : Option Value → Shared → Prop} (hh : A.handled = none)
    (hz : IsZip s.heap (n + 4) (n + 2) (n + 3) .none) (hTI : IsPair s.heap (n + 2) (.ref n) (.ref (n + 1))) (hTO : IsPair s.heap (n + 3) a b)
    (h1 : s.heap.IsStrIter n ZT x tx k) (h2 : s.heap.IsStrIter (n + 1) ZT y ty k) (hend : x.cps[k]? = none ∨ y.cps[k]? = none)
    (hQ : ∀ h' tk, s.toks ≤ tk → (∀ e : Nat, ∀ o, e ≠ n + 4 → e ≠ n + 3 → e ≠ n → e ≠ n + 1 → s.heap.get? e = some o → h'.get? e = some o) → Q none { s with heap := h', toks := tk }) : wpAny (model prog w) A (pyNext (.ref (n + 4))) Q E s := by
  have hT : s.TypeIs (.ref (n + 4)) "zip" := ⟨_, hz, rfl⟩
  unfold pyNext
  refine wpAny_bind (wpAny_attempt (wpAny_callSpecial?_slot (name := Str.ofString "__next__") hT F.slot_zip_next
    (wpAny_call_entry F.slot_zip_next hT F.entry_zip_next (zipS_end hh hz hTI hTO h1 h2 hend fun h' e tk ht hk he => ?_) (F.args_zip_next_1 _))))
  obtain ⟨o, ho, hc⟩ := he
  refine wpAny_bind (wpAny_isInstance (T := "StopIteration") (b := true) ⟨o, ho, hc⟩ isSubtype_stop ?_)
  exact wpAny_pure (hQ _ _ ht hk)
end
structure ZSt (n : Nat) (x : Str) (tx : Tok) (y : Str) (ty : Tok) (i : Nat) (h : Heap) : Prop where
  z : IsZip h (n + 4) (n + 2) (n + 3) .none
  ti : IsPair h (n + 2) (.ref n) (.ref (n + 1))
  to : ∃ a b, IsPair h (n + 3) a b
  a : h.IsStrIter n ZT x tx i
  b : h.IsStrIter (n + 1) ZT y ty i
theorem ZSt.at {n i : Nat} {x y : Str} {tx ty : Tok} {h h' : Heap} (Z : ZSt n x tx y ty i h) (k : ∀ e : Nat, n ≤ e → e ≤ n + 4 → ∀ o, h.get? e = some o → h'.get? e = some o) : ZSt n x tx y ty i h' := by
  obtain ⟨a, b, e⟩ := Z.to
  obtain ⟨o1, e1, r1⟩ := Z.a
  obtain ⟨o2, e2, r2⟩ := Z.b
  exact ⟨k _ (by walk_at "om") (by walk_at "om") _ Z.z, k _ (by walk_at "om") (by walk_at "om") _ Z.ti, ⟨a, b, k _ (by walk_at "om") (by walk_at "om") _ e⟩, ⟨o1, k _ (by walk_at "om") (by walk_at "om") _ e1, r1⟩, ⟨o2, k _ (by walk_at "om") (by walk_at "om") _ e2, r2⟩⟩

noncomputable abbrev zsH1 (h : Heap) (x : Str) (tx : Tok) : Heap := h.push { cls := .type "str_ascii_iterator", data := .fields #[.str x tx, .int 0 0] }
noncomputable abbrev zsH2 (h : Heap) (x y : Str) (tx ty : Tok) : Heap := (zsH1 h x tx).push { cls := .type "str_ascii_iterator", data := .fields #[.str y ty, .int 0 0] }
noncomputable abbrev zsH3 (h : Heap) (x y : Str) (tx ty : Tok) : Heap := (zsH2 h x y tx ty).push { cls := .type "tuple", data := .seq #[.ref h.objs.size, .ref (zsH1 h x tx).objs.size] }
noncomputable abbrev zsH4 (h : Heap) (x y : Str) (tx ty : Tok) : Heap := (zsH3 h x y tx ty).push { cls := .type "tuple", data := .seq #[.none, .none] }
noncomputable abbrev zsH5 (h : Heap) (x y : Str) (tx ty : Tok) : Heap := (zsH4 h x y tx ty).push { cls := .type "zip", data := .fields #[.none, .bool false, .bool false, .ref (zsH2 h x y tx ty).objs.size, .ref (zsH3 h x y tx ty).objs.size] }

theorem meets_zipS (x y : Str) (tx ty : Tok) (hx : x.cps.all (· < 128) = true) (hy : y.cps.all (· < 128) = true) :
    Meets (Builtin.«zip.__new__» ⟨[.type "zip", .str x tx, .str y ty], []⟩) (fun _ R s => R (.ok (.ret (.ref (zsH4 s.heap x y tx ty).objs.size))) { s with heap := zsH5 s.heap x y tx ty }) :=
  .of_wp fun prog w A R s h => by
    obtain ⟨hp, g, d, tk, os⟩ := s
    have hsub := sub_zip
    repeat (first | with_reducible refine wpAny_pyIter_ascii hx ?_ | with_reducible refine wpAny_pyIter_ascii hy ?_ | with_reducible refine wpAny_pure ?_ | with_reducible refine wpAny_bind ?_ | with_reducible refine wpAny_alloc' ?_ | wp_delta | wp_step)
    exact ⟨_, rfl, h⟩
theorem zipS_call {prog : Program} {w : World} {A : Around} {E : Value → Shared → Prop} {s : Shared} {x y : Str} {tx ty : Tok} {Q : Value → Shared → Prop} (hx : x.cps.all (· < 128) = true) (hy : y.cps.all (· < 128) = true)
    (h : ∀ h', ZSt s.heap.objs.size x tx y ty 0 h' → h'.objs.size = s.heap.objs.size + 5 → Sub s.heap h' → Q (.ref (s.heap.objs.size + 4)) { s with heap := h' }) :
    wpAny (model prog w) A (call (.type "zip") [.str x tx, .str y ty]) Q E s := by
  refine callType_new F.called_zip (by decide) (F.typeCall_zip_2 _ _) (F.newCall_zip_2 _ _) (fun obj => F.args_object_init_3 obj _ _) F.entry_zip_new
    (meets_zipS x y tx ty hx hy) ?_
  have z1 : (zsH1 s.heap x tx).objs.size = s.heap.objs.size + 1 := Heap.size_push ..
  have z2 : (zsH2 s.heap x y tx ty).objs.size = s.heap.objs.size + 2 := by rw [Heap.size_push, z1]
  have z3 : (zsH3 s.heap x y tx ty).objs.size = s.heap.objs.size + 3 := by rw [Heap.size_push, z2]
  have z4 : (zsH4 s.heap x y tx ty).objs.size = s.heap.objs.size + 4 := by rw [Heap.size_push, z3]
  have z5 : (zsH5 s.heap x y tx ty).objs.size = s.heap.objs.size + 5 := by rw [Heap.size_push, z4]
  have g5 : (zsH5 s.heap x y tx ty).get? (zsH4 s.heap x y tx ty).objs.size = some _ := Heap.get?_push_size _ rfl
  have g4 : (zsH5 s.heap x y tx ty).get? (zsH3 s.heap x y tx ty).objs.size = some _ := Heap.get?_push_of_some _ (Heap.get?_push_size _ rfl)
  have g3 : (zsH5 s.heap x y tx ty).get? (zsH2 s.heap x y tx ty).objs.size = some _ := Heap.get?_push_of_some _ (Heap.get?_push_of_some _ (Heap.get?_push_size _ rfl))
  have g2 : (zsH5 s.heap x y tx ty).get? (zsH1 s.heap x tx).objs.size = some _ := Heap.get?_push_of_some _ (Heap.get?_push_of_some _ (Heap.get?_push_of_some _ (Heap.get?_push_size _ rfl)))
  have g1 : (zsH5 s.heap x y tx ty).get? s.heap.objs.size = some _ := Heap.get?_push_of_some _ (Heap.get?_push_of_some _ (Heap.get?_push_of_some _ (Heap.get?_push_of_some _ (Heap.get?_push_size _ rfl))))
  show _ ∧ _
  rw [z2, z3, z4] at g5
  rw [z1, z2] at g3
  rw [z3] at g4
  rw [z1] at g2
  rw [z4]
  exact ⟨⟨_, g5, rfl⟩, h _ ⟨g5, g3, ⟨_, _, g4⟩, ⟨_, g1, rfl, rfl⟩, ⟨_, g2, rfl, rfl⟩⟩ z5 fun c o x =>
    Heap.get?_push_of_some _ (Heap.get?_push_of_some _ (Heap.get?_push_of_some _ (Heap.get?_push_of_some _ (Heap.get?_push_of_some _ x))))⟩

end
section
/- Zip2 -/
section
variable {prog : Program} {w : World} {A : Around} {E : Value → Shared → Prop} {env : Env}
theorem comp_blockZ {elt iter : Expr} {xa xb : Str} {pa pb pt : Pos} {kt : Nat} {scope : Scope} {cl : List (Str × Addr)} {pos : Pos} {s₂ : Shared} {n : Nat} {x y : Str} {tx ty : Tok} (N : Nat)
    (hh : A.handled = none) (Z : ZSt n x tx y ty 0 s₂.heap) (hN : N = min x.cps.size y.cps.size) (h94 : 94 < n) (hsz : N ≤ 1000) (U : List Value → Nat → Prop) {RR : Value → Addr → Result → Shared → Prop}
    (hcell : ∀ y ∈ scope.names, y.2 ≠ .cell) (hkind : scope.kind = .function) (hxa : scope.names.lookup xa = some .local) (hxb : scope.names.lookup xb = some .local) (hab : xa ≠ xb)
    (hU0 : U [] s₂.toks) (hUm : ∀ vs t t', U vs t → t ≤ t' → U vs t')
    (helt : ∀ (C : Addr) (vs : List Value) (c d ua ub : Nat) s₃ m, vs.length < N → s₂.heap.get? C = none → x.cps[vs.length]? = some c → y.cps[vs.length]? = some d → s₂.toks ≤ ua → ua < s₃.toks → s₂.toks ≤ ub → ub < s₃.toks → U vs s₃.toks →
      Kp [n + 4, n + 3, n, n + 1] s₂ s₃ → s₃.heap.Ns C m → m xa = some (.str ⟨#[c]⟩ ua) → m xb = some (.str ⟨#[d]⟩ ub) →
      wpAny (model prog w) A (eval elt (compEnvC scope cl C env)) (fun v s₄ => Kp [] s₃ s₄ ∧ U (vs ++ [v]) s₄.toks) (fun _ _ => False) s₃)
    (hRR : ∀ D C s' m' (vs : List Value), s₂.heap.get? D = none → s₂.heap.get? C = none → D ≠ C → s'.heap.Ns C m' → s'.heap.PlainList D vs.toArray → vs.length = N → U vs s'.toks → Kp [n + 4, n + 3, n, n + 1] s₂ s' → RR (.ref D) C (.ok .next) s') :
    wpAny (model prog w) A (newList []) (fun acc s₃ => wpAny (model prog w) A (newFunctionEnv scope env.globals cl [] env.qual none .none (some env)) (fun cenv s₄ =>
      codeAny (model prog w) A (.compStart (.ListComp elt [⟨.Tuple [.Name xa pa, .Name xb pb] kt pt, iter, [], 0⟩] scope pos) 0 (.ref (n + 4)) acc { cenv with scope := relabel scope env }) (RR acc cenv.locals) s₄) E s₃) E s₂ := by
  refine wpAny_newObj_type (wpAny_newFunctionEnv hcell (by intro y hy; simp at hy) (fun h₁ hns₁ hsb₁ => ?_) hkind)
  dsimp only at hns₁ hsb₁ ⊢
  walk_at "un"
  generalize hH2 : s₂.heap.push { cls := .type "list", dict := none, data := .seq ([] : List Value).toArray } = H2 at hns₁ hsb₁ ⊢
  have hn : n + 4 < s₂.heap.objs.size := Heap.lt_size Z.z
  have hC : H2.objs.size = s₂.heap.objs.size + 1 := by rw [← hH2, Heap.size_push]
  have hDC : s₂.heap.objs.size ≠ H2.objs.size := by rw [hC]; exact Nat.ne_of_lt (Nat.lt_succ_self _)
  have below : ∀ b, b < s₂.heap.objs.size → b ≠ H2.objs.size ∧ b ≠ s₂.heap.objs.size := fun b hb => ⟨by rw [hC]; exact Nat.ne_of_lt (Nat.lt_succ_of_lt hb), Nat.ne_of_lt hb⟩
  have old : ∀ b o, s₂.heap.get? b = some o → h₁.get? b = some o := fun b o e => hsb₁.extBut b o (below b (Heap.lt_size e)).1 (Heap.get?_push_of_some _ (hH2 ▸ Heap.get?_push_of_some _ e))
  have hacc : h₁.PlainList s₂.heap.objs.size #[] := ⟨_, hsb₁.extBut _ _ hDC (Heap.get?_push_of_some _ (hH2 ▸ Heap.get?_push_size _ rfl))⟩
  have hst₁ : ZSt n x tx y ty 0 h₁ := Z.at fun e _ _ o q => old e o q
  have fresh : ∀ a, s₂.heap.objs.size ≤ a → s₂.heap.get? a = none := fun a ha => by
    cases e : s₂.heap.get? a with
    | none => rfl
    | some o' => exact absurd (Heap.lt_size e) (Nat.not_lt.mpr ha)
  have dD : ∀ {b : Addr}, s₂.heap.get? b ≠ none → b ≠ s₂.heap.objs.size := fun hb q => hb (q ▸ fresh _ (Nat.le_refl _))
  have dC : ∀ {b : Addr}, s₂.heap.get? b ≠ none → b ≠ H2.objs.size := fun hb q => hb (q ▸ fresh _ (by rw [hC]; exact Nat.le_succ _))
  have cD : ∀ e : Nat, e ≤ n + 4 → e ≠ s₂.heap.objs.size := fun e he => neN (by walk_at "om")
  have cC : ∀ e : Nat, e ≤ n + 4 → e ≠ H2.objs.size := fun e he => by rw [hC]; exact neN (by walk_at "om")
  have loop : ∀ s₃ : Shared, s₃ = { s₂ with heap := h₁, toks := s₂.toks + ([] : List (Str × Value)).length } →
      codeAny (model prog w) A (.compLoop (.ListComp elt [⟨.Tuple [.Name xa pa, .Name xb pb] kt pt, iter, [], 0⟩] scope pos) 0 (.ref (n + 4)) (.ref s₂.heap.objs.size) (compEnvC scope cl H2.objs.size env))
        (RR (.ref s₂.heap.objs.size) H2.objs.size) s₃ := by
    rintro s₃ rfl
    refine LCp.codeAny_compLoop_pair
      (fun k s' => ∃ m', ∃ vs : List Value, ZSt n x tx y ty vs.length s'.heap ∧ s'.heap.PlainList s₂.heap.objs.size vs.toArray ∧ s'.heap.Ns H2.objs.size m' ∧ U vs s'.toks ∧ vs.length ≤ N ∧ k = N + 1 - vs.length ∧ Kp [n + 4, n + 3, n, n + 1] s₂ s') ?_ (N + 1)
      ⟨_, [], hst₁, hacc, hns₁, hU0, Nat.zero_le _, rfl, (Kp.refl _ _).grow [] (fun b o _ _ e => old b o e) (by simp) (by simp) (by simp) (Nat.le_refl _)⟩
    rintro k s' ⟨m', vs, hst', hacc', hn', hU, hle, rfl, K⟩
    obtain ⟨va, vb, hto⟩ := hst'.to
    by_cases hlt : vs.length < N
    · obtain ⟨c, hc⟩ : ∃ c, x.cps[vs.length]? = some c := ⟨_, Array.getElem?_eq_getElem (by walk_at "om")⟩
      obtain ⟨d, hd⟩ : ∃ d, y.cps[vs.length]? = some d := ⟨_, Array.getElem?_eq_getElem (by walk_at "om")⟩
      refine zipS_next hst'.z hst'.ti hto hst'.a hst'.b hc hd fun h₁ z1 to1 a1 b1 p1 k1 => ?_
      have hTz : (s'.heap.objs.size : Nat) ≠ n + 4 := Nat.ne_of_gt (Heap.lt_size hst'.z)
      try dsimp only
      refine wpAny_letOwnedTupleGo_zip z1 fun h₂ z2 S2 => ?_
      have p2 : h₂.IsTuple s'.heap.objs.size #[.str ⟨#[c]⟩ s'.toks, .str ⟨#[d]⟩ (s'.toks + 1)] := ⟨_, (S2.2 _ hTz).trans p1, rfl, 0, rfl⟩
      refine wpAny_assign_Tuple hh p2 rfl rfl fun h₃ x3 => ?_
      replace x3 : Sub h₂ h₃ := fun b o e => x3 b o (Nat.ne_of_lt (Heap.lt_size e)) e
      have up3 : ∀ e : Nat, ∀ o, e ≠ n + 4 → e ≠ n + 3 → e ≠ n → e ≠ n + 1 → s'.heap.get? e = some o → h₃.get? e = some o := fun e o e1 e2 e3 e4 q => x3 _ _ ((S2.2 e e1).trans (k1 e o e1 e2 e3 e4 q))
      have nC3 : h₃.Ns H2.objs.size m' := hn'.at' fun o e => up3 _ _ (cC _ (by walk_at "om")).symm (cC _ (by walk_at "om")).symm (cC _ (by walk_at "om")).symm (cC _ (by walk_at "om")).symm e
      have Z3 : ZSt n x tx y ty (vs.length + 1) h₃ := by
        have q3 : (n + 3 : Nat) ≠ n + 4 := by walk_at "om"
        have q1 : (n + 1 : Nat) ≠ n + 4 := by walk_at "om"
        have q0 : (n : Nat) ≠ n + 4 := by walk_at "om"
        refine ⟨x3 _ _ z2, up3 _ _ (by walk_at "om") (by walk_at "om") (by walk_at "om") (by walk_at "om") hst'.ti, ⟨_, _, x3 _ _ ((S2.2 _ q3).trans to1)⟩, ?_, ?_⟩
        · obtain ⟨o, e, r⟩ := a1; exact ⟨o, x3 _ _ ((S2.2 _ q0).trans e), r⟩
        · obtain ⟨o, e, r⟩ := b1; exact ⟨o, x3 _ _ ((S2.2 _ q1).trans e), r⟩
      refine asg_cons (wpAny_storeName_local (lookup_relabel_local hxa) nC3 (fun h₄ n₄ s₄ => ?_) (by simp [compEnvC, relabel, hkind]))
      refine asg_cons (wpAny_storeName_local (lookup_relabel_local hxb) n₄ (fun h₅ n₅ s₅ => ?_) (by simp [compEnvC, relabel, hkind]))
      refine asg_nil ?_
      replace s₄ : Heap.SameBut H2.objs.size h₃ h₄ := s₄
      replace s₅ : Heap.SameBut H2.objs.size h₄ h₅ := s₅
      replace n₅ : h₅.Ns H2.objs.size _ := n₅
      have up5 : ∀ e : Nat, ∀ o, e ≠ n + 4 → e ≠ n + 3 → e ≠ n → e ≠ n + 1 → e ≠ H2.objs.size → s'.heap.get? e = some o → h₅.get? e = some o := fun e o e1 e2 e3 e4 e5 q => (s₅.2 e e5).trans ((s₄.2 e e5).trans (up3 e o e1 e2 e3 e4 q))
      have Z5 : ZSt n x tx y ty (vs.length + 1) h₅ := Z3.at fun e e1 e2 o q => (s₅.2 e (cC e e2)).trans ((s₄.2 e (cC e e2)).trans q)
      have K₅ : Kp [n + 4, n + 3, n, n + 1] s₂ { s' with heap := h₅, toks := s'.toks + 1 + 1 + 1 + 1 } := K.grow [n + 4, n + 3, n, n + 1] (fun b o hb hn' e => by
          simp only [List.mem_cons, List.not_mem_nil, or_false, not_or] at hb
          exact up5 b o hb.1 hb.2.1 hb.2.2.1 hb.2.2.2 (dC hn') e) (fun b hb => hb) (by simp; walk_at "om") (by simp; walk_at "om") (by walk_at "om")
      have hKt := K.toks
      refine wpAny_mono (helt H2.objs.size vs c d s'.toks (s'.toks + 1) _ _ hlt (fresh _ (by rw [hC]; exact Nat.le_succ _)) hc hd hKt (by dsimp only; walk_at "om") (by walk_at "om") (by dsimp only; walk_at "om") (hUm _ _ _ hU (by dsimp only; walk_at "om")) K₅ n₅ (by simp [hab]) (by simp)) (fun v s₆ h₆ => ?_) fun _ _ y => y.elim
      obtain ⟨K₆, hU₆⟩ := h₆
      have K₇ := K₅.trans (K₆.weak (fun b q => absurd q (List.not_mem_nil)))
      have k6 : ∀ b o, h₅.get? b = some o → s₆.heap.get? b = some o := fun b o e => K₆.heap b o (List.not_mem_nil) e
      have hacc₆ : s₆.heap.PlainList s₂.heap.objs.size vs.toArray := hacc'.at fun o e => k6 _ _ (up5 _ _ (cD _ (by walk_at "om")).symm (cD _ (by walk_at "om")).symm (cD _ (by walk_at "om")).symm (cD _ (by walk_at "om")).symm hDC e)
      have hn₆ : s₆.heap.Ns H2.objs.size _ := n₅.at' fun o e => k6 _ o e
      have Z6 : ZSt n x tx y ty (vs.length + 1) s₆.heap := Z5.at fun e _ _ o q => k6 _ _ q
      refine wpAny_list_append_plain (hsz := by rw [List.size_toArray, sizeLine_eq]; walk_at "om") hacc₆ fun h₇ hl₇ hs₇ => ?_
      refine ⟨N + 1 - (vs.length + 1), by walk_at "om", _, vs ++ [v], ?_, by simpa using hl₇, hn₆.sameBut hs₇ (Ne.symm hDC), hU₆, by rw [List.length_append, List.length_singleton]; exact hlt, by rw [List.length_append, List.length_singleton], ?_⟩
      · rw [List.length_append, List.length_singleton]
        exact Z6.at fun e e1 e2 o q => hs₇.extBut e o (cD e e2) q
      · exact K₇.grow [] (fun b o _ hn e => hs₇.extBut b o (dD hn) e) (by simp) (by simp) (by simp) (Nat.le_refl _)
    · have hin : vs.length = N := by walk_at "om"
      have hend : x.cps[vs.length]? = none ∨ y.cps[vs.length]? = none := by
        rcases Nat.le_total x.cps.size y.cps.size with h | h
        · exact .inl (Array.getElem?_eq_none (by walk_at "om"))
        · exact .inr (Array.getElem?_eq_none (by walk_at "om"))
      refine zipS_done hh hst'.z hst'.ti hto hst'.a hst'.b hend fun h₁ tk₁ htk₁ hk₁ => ?_
      exact hRR _ _ _ m' vs (fresh _ (Nat.le_refl _)) (fresh _ (by rw [hC]; exact Nat.le_succ _)) hDC (hn'.at' fun o e => hk₁ _ o (cC _ (by walk_at "om")).symm (cC _ (by walk_at "om")).symm (cC _ (by walk_at "om")).symm (cC _ (by walk_at "om")).symm e)
        (hacc'.at fun o e => hk₁ _ o (cD _ (by walk_at "om")).symm (cD _ (by walk_at "om")).symm (cD _ (by walk_at "om")).symm (cD _ (by walk_at "om")).symm e) hin (hUm _ _ _ hU htk₁)
        (K.grow [n + 4, n + 3, n, n + 1] (fun b o hb _ e => by
          simp only [List.mem_cons, List.not_mem_nil, or_false, not_or] at hb
          exact hk₁ b o hb.1 hb.2.1 hb.2.2.1 hb.2.2.2 e) (fun b hb => hb) (by simp; walk_at "om") (by simp; walk_at "om") htk₁)
  exact codeAny_compStart_list (loop _ rfl) (wpAny_pyIter_zip hst₁.z (loop _ rfl))
end
section
variable {prog : Program} {w : World} {A : Around} {E : Value → Shared → Prop} {env : Env} {s : Shared}
theorem comp_evalZ {elt iter : Expr} {xa xb : Str} {pa pb pt : Pos} {kt : Nat} {scope : Scope} {cl : List (Str × Addr)} {pos : Pos} {Q : Value → Shared → Prop} (hh : A.handled = none)
    (h : wpAny (model prog w) A (eval iter env) (fun xv s₁ => wpAny (model prog w) A (pyIter xv) (fun it s₂ => ∃ (n N : Nat) (x y : Str) (tx ty : Tok) (U : List Value → Nat → Prop), it = .ref (n + 4) ∧ ZSt n x tx y ty 0 s₂.heap ∧ N = min x.cps.size y.cps.size ∧ 94 < n ∧ N ≤ 1000 ∧ U [] s₂.toks ∧ (∀ vs t t', U vs t → t ≤ t' → U vs t') ∧
      (∀ (C : Addr) (vs : List Value) (c d ua ub : Nat) s₃ m, vs.length < N → s₂.heap.get? C = none → x.cps[vs.length]? = some c → y.cps[vs.length]? = some d → s₂.toks ≤ ua → ua < s₃.toks → s₂.toks ≤ ub → ub < s₃.toks → U vs s₃.toks →
        Kp [n + 4, n + 3, n, n + 1] s₂ s₃ → s₃.heap.Ns C m → m xa = some (.str ⟨#[c]⟩ ua) → m xb = some (.str ⟨#[d]⟩ ub) →
        wpAny (model prog w) A (eval elt (compEnvC scope cl C env)) (fun v s₄ => Kp [] s₃ s₄ ∧ U (vs ++ [v]) s₄.toks) (fun _ _ => False) s₃) ∧
      (∀ D C s' m' (vs : List Value), s₂.heap.get? D = none → s₂.heap.get? C = none → D ≠ C → s'.heap.Ns C m' → s'.heap.PlainList D vs.toArray → vs.length = N → U vs s'.toks → Kp [n + 4, n + 3, n, n + 1] s₂ s' → ∀ h', Heap.SameBut C s'.heap h' → Q (.ref D) { s' with heap := h' })) E s₁) E s)
    (hclos : closureFor scope env = pure cl := by rfl) (hcell : ∀ y ∈ scope.names, y.2 ≠ .cell := by decide) (hkind : scope.kind = .function := by rfl)
    (hnames : ∀ y ∈ scope.names, y.2 = .local → scope.names.lookup y.1 = some .local := by decide) (hxa : scope.names.lookup xa = some .local := by rfl) (hxb : scope.names.lookup xb = some .local := by rfl) (hab : xa ≠ xb := by decide)
    (hs : ∀ x, foldedSetIterable iter env x = pure x := by intro _; rfl) :
    wpAny (model prog w) A (eval (.ListComp elt [⟨.Tuple [.Name xa pa, .Name xb pb] kt pt, iter, [], 0⟩] scope pos) env) Q E s := by
  rw [eval_ListComp]
  refine wpAny_comprehension_free (use := none) rfl hs hclos hkind hnames (wpAny_mono h (fun xv s₁ h₁ => wpAny_mono h₁ (fun it s₂ h₂ => ?_) fun _ _ e => e) fun _ _ e => e)
  obtain ⟨n, N, x, y, tx, ty, U, rfl, Z, hN, h94, hsz, hU0, hUm, helt, hQ⟩ := h₂
  refine comp_blockZ (RR := fun acc C => compPost (model prog w) A E none Q acc C) N hh Z hN h94 hsz U hcell hkind hxa hxb hab hU0 hUm helt ?_
  intro D C s' m' vs hD hC hDC hn hpl hlen hU K
  exact ⟨m', hn, fun h'' hs'' => hQ D C s' m' vs hD hC hDC hn hpl hlen hU K h'' hs''⟩

/-- two single signs glued -/
theorem addOne {c d : Nat} {t u : Nat} {Q : Value → Shared → Prop} (h : Q (.str ⟨#[c, d]⟩ s.toks) { s with toks := s.toks + 1 }) :
    wpAny (model prog w) A (binaryOp .Add (.str ⟨#[c]⟩ t) (.str ⟨#[d]⟩ u)) Q E s := by
  refine P.add_str ?_
  rw [if_neg (by simp [Str.length]), if_neg (by simp [Str.length])]
  refine ⟨?_, h⟩
  show (2 : Nat) ≤ sizeLine
  rw [sizeLine_eq]; walk_at "om"
/-- an item of a list at a place told as an int -/
theorem itemI {value slice : Expr} {l : Addr} {items : Array Value} {i : Int} {u : Tok} {v : Value} {Q : Value → Shared → Prop} (hl : s.heap.IsList l items) (h0 : 0 ≤ i) (h63 : i < 2 ^ 63) (hk : items[i.toNat]? = some v) (h : Q v s)
    (hs : subscripted slice false (.ref l) (.int i u) = operate [.ref l, .int i u] (getItem (.ref l) (.int i u)) := by with_unfolding_all rfl) :
    wpAny (model prog w) A (subscriptTail value slice (.ref l) (.int i u)) Q E s :=
  tail_any hl.typeIs slot_list_getitem.lookup (wpAny_getItem_list hl h0 h63 hk h) hs
end
noncomputable def pairsM (x y : List Nat) : List (List Nat) := (x.zip y).map fun p => [p.1, p.2]
noncomputable def linesM (rs : List (List Nat)) : List (List Nat) := [] :: rs ++ [[]]
noncomputable def aboveM (rs : List (List Nat)) (lo hi k : Nat) : Nat := (pairsM ((linesM rs).getD k []) ((linesM rs).getD (k + 1) [])).count [lo, hi]
noncomputable def placeM (lo : Nat) (r : List Nat) : Nat := if lo = 97 then r.count 65 else 0
noncomputable def moreM (rs : List (List Nat)) (lo hi k : Nat) : Int := (aboveM rs lo hi k : Int) + ((linesM rs).getD k []).count hi - aboveM rs lo hi (k - 1)
noncomputable def newRowM (rs : List (List Nat)) (lo hi k : Nat) : List Nat :=
  let r := (linesM rs).getD k []
  r.take (placeM lo r) ++ repM lo (moreM rs lo hi k) ++ repM hi ((r.count lo + r.count hi : Nat) - moreM rs lo hi k) ++ (r.drop (placeM lo r)).drop (r.count lo + r.count hi)
noncomputable def movedM (rs : List (List Nat)) (lo hi : Nat) : List (List Nat) := [newRowM rs lo hi 1, newRowM rs lo hi 2, newRowM rs lo hi 3]

end
section
/- Moved1 -/
local macro_rules | `(tactic| walk_at "subscriptTail") => `(tactic| ((with_reducible show wpAny _ _ (subscriptTail _ _ (Value.ref _) (Value.int _ _)) _ _ _); k_dflt (refine item_tupleT (IsTup.keeps (by assumption) (Mine.Fx.keep (by assumption))) (by decide) (by decide) (by rfl) (by rfl) ?_)))
noncomputable def movedBody (P : Params) : List Stmt := nthBody (stmtsAt P 195) 2
noncomputable abbrev movedCells (L : Nat) : List (Str × Addr) := [("lines", L + 3), ("high", L + 2), ("low", L + 1)]
noncomputable def movedNms : List Str := ["k", "lows", "highs", "place", "behind", "more", "sign", "piece"]
/-- the pieces behind are pushed again -/
theorem moved_last {w : World} {A : Around} {s : Shared} {L a d Dr bh tk k l1 l2 tl1 tl2 : Nat} {m : Str → Option Value} {pre cs X : List Nat} {vr : List Value} {items : Array Value} {Q : Flow → Shared → Prop}
  {trr : Sem Flow} (htr : trr = execs ((movedBody w.params).drop 7) (envC w.params 195 L (movedCells L)))
  (HX : ∀ b : Nat, b ∈ X → s.heap.get? b ≠ none) (hL : L ∈ X) (ha : a ∈ X) (n1 : a ≠ L)
  (G : Gr w (hideAll s.heap X)) (hh : A.handled = none) (hd : A.depth + 3 < recursionLimit) (hu : A.units + 60 < cLine)
  (N : s.heap.Ns L m) (mk : m "k" = some (.int (k : Nat) tk)) (mr : m "rows" = some (.ref Dr)) (mb : m "behind" = some (.ref bh)) (ml : m "lows" = some (.int (l1 : Nat) tl1)) (mh : m "highs" = some (.int (l2 : Nat) tl2))
  (lr : (hideAll s.heap X).IsList Dr vr.toArray) (er : vr[k - 1]? = some (.ref a))
  (lb : (hideAll s.heap X).get? bh = some (listOf items 0)) (P : Pc (hideAll s.heap X) items cs)
  (hk : 1 ≤ k ∧ k ≤ 3) (R : RowAt w X s.heap a d pre) (hl : pre.length ≤ 200 ∧ cs.length ≤ 10 ∧ l1 + l2 ≤ cs.length)
  (hQ : ∀ h' m' (tk' : Nat), s.toks ≤ tk' → h'.Ns L m' → (∀ z, [Str.ofString "piece"].contains z = false → m' z = m z) → RowAt w X h' a d (pre ++ cs.drop (l1 + l2)) →
    (∀ b : Nat, ∀ o, b ≠ L → b ≠ a → s.heap.get? b = some o → h'.get? b = some o) → Q .next { s with heap := h', toks := tk' }) :
  wpAny (model Challenge.rw_xg0051_01.row.prog w) A trr Q (fun _ _ => False) s := by
  subst htr
  have e1 : envC w.params 195 L (movedCells L) = envC w.params 195 L (movedCells L) := rfl
  conv at e1 => rhs; unfold envC
  conv at e1 => rhs; arg 2; whnf
  conv at e1 => rhs; arg 5; whnf
  rw [e1]
  clear e1
  have F0 : Fx (hideAll s.heap X) L s.heap (fun y => if y = Str.ofString "k" then some (.int (k : Nat) tk) else if y = Str.ofString "rows" then some (.ref Dr) else if y = Str.ofString "behind" then some (.ref bh) else if y = Str.ofString "lows" then some (.int (l1 : Nat) tl1) else if y = Str.ofString "highs" then some (.int (l2 : Nat) tl2) else m y) :=
    Fx.cast ⟨N, fun b o e => of_hideAll _ e⟩ fun y => by walk_at "upd"
  have lbs : s.heap.IsList bh items := ⟨_, of_hideAll _ lb, rfl, 0, rfl⟩
  have hsz : items.size = cs.length := P.1
  walk_at "un"
  refine wpAny_execs_cons ?_
  walk_at "hideN"
  refine wpAny_For ?_
  walk_at "go"
  have esum : ((l1 : Nat) : Int) + (l2 : Nat) = ((l1 + l2 : Nat) : Int) := by walk_at "om"
  try rw [esum]
  refine Mine.sliceF F0 lbs (by first | exact IsPart.none | exact IsPart.int _ _) (by first | exact IsPart.none | exact IsPart.int _ _) ?_ (hsz := by walk_at "om")
  intro sl h9 F9 K9 l9 nsl
  dsimp only at K9 nsl
  rw [slicePick_from items (l1 + l2) (by walk_at "om")] at l9
  walk_at "go"
  walk_at "un"
  refine wpAny_pyIter_list l9 ?_
  try dsimp only
  have i1 : L < h9.objs.size := F9.ns.lt
  have i2 : sl < h9.objs.size := by obtain ⟨_, q, _⟩ := l9; exact Heap.lt_size q
  have X9 := all_sub HX K9
  have i4 : ∀ b : Nat, b ∈ X → b < h9.objs.size := fun b q => by
    cases e : h9.get? b with
    | none => exact absurd e (X9 b q)
    | some o => exact Heap.lt_size e
  have i3 := i4 _ ha
  have i5 : ∀ b : Nat, ∀ o, s.heap.get? b = some o → b < h9.objs.size := fun b o e => Heap.lt_size (K9 _ _ e)
  have nsX : ∀ b : Nat, b ∈ X → sl ≠ b := fun b q z => HX b q (by rw [← z]; exact nsl)
  have nsL := nsX _ hL
  have nsa := nsX _ ha
  have push9 : Sub h9 (h9.push { cls := .type "list_iterator", data := .fields #[.ref sl, .int 0 0] }) := fun b o e => Heap.get?_push_of_some _ e
  have R9 := R.sub K9
  generalize hI : h9.objs.size = I at *
  have nI : h9.get? I = none := by rw [← hI]; exact new_none _
  have hdl : (cs.drop (l1 + l2)).length = (items.toList.drop (l1 + l2)).length := by simp [hsz]
  refine for_rule (Walks.list hh I sl (neN (by walk_at "om")) (items.toList.drop (l1 + l2)).toArray)
    (fun i s' => Ex3 fun h tk' v => And6 (s' = { s with heap := h, toks := tk' }) (s.toks ≤ tk') (h.Ns L (ov [Str.ofString "piece"] v (fun y => if y = Str.ofString "k" then some (.int (k : Nat) tk) else if y = Str.ofString "rows" then some (.ref Dr) else if y = Str.ofString "behind" then some (.ref bh) else if y = Str.ofString "lows" then some (.int (l1 : Nat) tl1) else if y = Str.ofString "highs" then some (.int (l2 : Nat) tl2) else m y))) (RowAt w (I :: X) h a d (pre ++ (cs.drop (l1 + l2)).take i)) ((∀ b : Nat, ∀ o, b ≠ a → b ≠ L → b ≠ I → h9.get? b = some o → h.get? b = some o)) ((∀ b : Nat, b ∈ X → h.get? b ≠ none))) ?_ ?_ ?_ ?_ ?_
  · exact ⟨⟨_, by rw [← hI]; exact Heap.get?_push_size _ rfl, rfl, rfl⟩, l9.push _⟩
  · refine ⟨_, _, _, rfl, by walk_at "om", (F9.up push9).ov0 _ |>.ns, ?_, fun b o _ _ _ e => push9 _ _ e, all_sub X9 push9⟩
    rw [List.take_zero, List.append_nil]
    exact R9.wide push9 nI
  · rintro i s' h₁ tk₁ ⟨h, tk', v, rfl, t1, N1, R1, k1, X1⟩ hk' ht
    have hk2 : ∀ b : Nat, ∀ o, b ≠ I → h.get? b = some o → h₁.get? b = some o := fun b o hb e => hk' b o (by simpa using hb) e
    refine ⟨h₁, tk₁, v, rfl, Nat.le_trans t1 ht, N1.at' (fun o e => hk2 _ _ (neN (by walk_at "om")) e), R1.move (hid_sub fun b o hb e => hk2 _ _ (fun q => hb (by rw [q]; exact List.mem_cons_self ..)) e) (fun o e => hk2 _ _ (neN (by walk_at "om")) e), fun b o b1 b2 b3 e => hk2 _ _ b3 (k1 b o b1 b2 b3 e), ?_⟩
    intro b q
    cases e : h.get? b with
    | none => exact absurd e (X1 b q)
    | some o => rw [hk2 b o (neN (by have := i4 b q; walk_at "om")) e]; simp
  · rintro i x s₁ hi hx hJJ hst
    try walk_at "hideN"
    obtain ⟨h, tk', v, rfl, t1, N1, R1, k1, X1⟩ := hJJ
    have hi' : l1 + l2 + i < cs.length := by simp at hi; walk_at "om"
    obtain ⟨c9, hc9⟩ : ∃ c9, cs[l1 + l2 + i]? = some c9 := ⟨_, List.getElem?_eq_getElem (by walk_at "om")⟩
    obtain ⟨p, u1, u2, ep, tp⟩ := P.2 (l1 + l2 + i) c9 hc9
    have hxp : x = .ref p := by
      have e : (items.toList.drop (l1 + l2))[i]? = some x := by simpa using hx
      rw [List.getElem?_drop] at e
      have e2 : items.toList[l1 + l2 + i]? = some (.ref p) := by simpa using ep
      rw [e2] at e; exact (Option.some.inj e).symm
    subst hxp
    have XI : ∀ b : Nat, b ∈ (I :: X) → h.get? b ≠ none := fun b q => by
      rcases List.mem_cons.mp q with q | q
      · obtain ⟨o, e, _⟩ := hst.1; rw [q]; intro z; rw [z] at e; cases e
      · exact X1 b q
    have oldh : ∀ b o, (hideAll s.heap X).get? b = some o → h.get? b = some o := fun b o e => k1 _ _ (hid_ne ha e) (hid_ne hL e) (neN (by have := i5 _ _ (of_hideAll _ e); walk_at "om")) (K9 _ _ (of_hideAll _ e))
    have F1 := fx_at N1
    have O1 := hideOff h L
    have up1 : Sub (hideAll s.heap X) (h.hide L) := fun b o e => hide_in (oldh _ _ e) (hid_ne hL e)
    have G1 : Gr w (h.hide L) := G.up up1
    have tp1 := tp.keeps up1
    clear F9 F0
    walk_at "un"
    refine wpAny_assign_Name (stL F1 O1 ?_)
    intro h11 F11 S11
    dsimp only at S11
    have R11 := R1.same S11 (List.mem_cons_of_mem _ hL) n1
    have X11 := all_same XI S11 F11.ns
    have GI : Gr w (hideAll h11 (I :: X)) := G.up fun b o e => by
      refine hideAll_get _ ((S11.2 _ (hid_ne hL e)).trans (oldh _ _ e)) fun q => ?_
      rcases List.mem_cons.mp q with q | q
      · exact Nat.lt_irrefl I (by have := i5 _ _ (of_hideAll _ e); rwa [show b = I from q] at this)
      · exact (hid_get e).2 q
    have lr11 : h11.IsList Dr vr.toArray := let ⟨o, e, r⟩ := lr; ⟨o, (S11.2 _ (hid_ne hL e)).trans (oldh _ _ e), r⟩
    obtain ⟨it11, n11, a11, D11, P11⟩ := id R11
    walk_at "go"
    with_reducible refine itemI lr11 (by walk_at "om") (by walk_at "om") (v := .ref a) ?_ ?_
    · rw [show ((k : Int) - 1).toNat = k - 1 by walk_at "om"]
      simpa using er
    walk_at "go"
    refine acc_method (G1.up F11.keep) a11 (D11.up fun b o e => of_hideAll _ e) (by k_is) (by k_is) (fun _ _ _ => rfl) ?_
    walk_at "go"
    refine ⟨F11.keep, wpAny_call (push_row (c := c9) (X := I :: X) GI hh (by walk_at "om") (by walk_at "om") (List.mem_cons_of_mem _ ha) X11 R11 (by simp; walk_at "om") ?_)⟩
    intro h12 tk12 q12 R12 k12 X12
    dsimp only at q12 k12
    have N12 := F11.ns.at' (fun o e => k12 _ _ (Ne.symm n1) e)
    walk_at "go"
    try dsimp only
    have kall : ∀ b : Nat, ∀ o, b ≠ a → b ≠ L → h.get? b = some o → h12.get? b = some o := fun b o b1 b2 e => k12 _ _ b1 ((S11.2 _ b2).trans e)
    refine ⟨⟨h12, _, _, rfl, by walk_at "om", (Fx.forget [Str.ofString "piece"] (fx_at N12) (by walk_at "forget")).ns, ?_, fun b o b1 b2 b3 e => kall _ _ b1 b2 (k1 b o b1 b2 b3 e), fun b q => X12 b (List.mem_cons_of_mem _ q)⟩, ?_⟩
    · have ez : pre ++ (cs.drop (l1 + l2)).take (i + 1) = pre ++ (cs.drop (l1 + l2)).take i ++ [c9] := by
        rw [List.take_succ, List.getElem?_drop, hc9]
        simp
      rw [ez]
      exact R12
    · intro b hb o e
      simp only [List.mem_cons, List.not_mem_nil, or_false] at hb
      rcases hb with hb | hb <;> (replace hb := hb.symm; subst hb)
      · exact kall _ _ (neN (by walk_at "om")) (neN (by walk_at "om")) e
      · exact kall _ _ nsa nsL e
  · rintro s₂ hJJ
    try walk_at "hideN"
    obtain ⟨h, tk', v, rfl, t1, N1, R1, k1, X1⟩ := hJJ
    have ecs : (cs.drop (l1 + l2)).take (items.toList.drop (l1 + l2)).toArray.size = cs.drop (l1 + l2) := List.take_of_length_le (by simp; walk_at "om")
    rw [ecs] at R1
    have R2 := R1.weak (X := X) fun b q => List.mem_cons_of_mem _ q
    walk_at "un"
    refine wpAny_execs_nil ?_
    try dsimp only
    walk_at "un"
    refine wpAny_execs_nil ?_
    refine hQ h _ _ t1 N1 (fun z hz => ?_) R2 (fun b o b1 b2 e => k1 b o b2 b1 (neN (by have := i5 b o e; walk_at "om")) (K9 _ _ e))
    unfold ov
    rw [hz]
    show (fun y => if y = Str.ofString "k" then some (.int (k : Nat) tk) else if y = Str.ofString "rows" then some (.ref Dr) else if y = Str.ofString "behind" then some (.ref bh) else if y = Str.ofString "lows" then some (.int (l1 : Nat) tl1) else if y = Str.ofString "highs" then some (.int (l2 : Nat) tl2) else m y) z = m z
    try dsimp only
    walk_at "upd"


end
section
/- Moved2 -/
theorem for_ascii2 {prog : Program} {w : World} {A : Around} {env : Env} {target : Expr} {body orelse : List Stmt} {I : Addr} {x : Str} {t : Tok} {R : Result → Shared → Prop} {s : Shared}
    (hh : A.handled = none) (hst : s.heap.IsStrIter I "str_ascii_iterator" x t 0) (J : Nat → Shared → Prop) (h0 : J 0 s)
    (hJ : ∀ i s h' tk, J i s → (∀ b o, b ≠ I → s.heap.get? b = some o → h'.get? b = some o) → s.toks ≤ tk → J i { s with heap := h', toks := tk })
    (turn : ∀ i c (u : Nat) s₁, x.cps[i]? = some c → s.toks ≤ u → u < s₁.toks → J i s₁ → s₁.heap.get? I ≠ none → wpAny (model prog w) A (assign target env (.str ⟨#[c]⟩ u)) (fun _ s₂ => wpAny (model prog w) A (execs body env) (fun f s₃ => match f with
        | .next | .cont => J (i + 1) s₃ ∧ ∀ o, s₁.heap.get? I = some o → s₃.heap.get? I = some o
        | .brk => R (.ok .next) s₃
        | .ret v => R (.ok (.ret v)) s₃) (fun _ _ => False) s₂) (fun _ _ => False) s₁)
    (done : ∀ s', J x.cps.size s' → s.toks ≤ s'.toks → wpAny (model prog w) A (execs orelse env) (fun f s₃ => R (.ok f) s₃) (fun _ _ => False) s') (ht : ∀ v, letOwnedTupleGo target (.ref I) v = pure () := by intro _; rfl) :
    codeAny (model prog w) A (.forLoop target (.ref I) body orelse env) R s := by
  refine codeAny_forLoop (fun k s' => ∃ i, i ≤ x.cps.size ∧ k = x.cps.size + 1 - i ∧ J i s' ∧ s'.heap.IsStrIter I "str_ascii_iterator" x t i ∧ s.toks ≤ s'.toks) ?_ (x.cps.size + 1) ⟨0, Nat.zero_le _, rfl, h0, hst, Nat.le_refl _⟩ ht
  rintro k s' ⟨i, hi, rfl, hJi, hS, hT⟩
  by_cases hlt : i < x.cps.size
  · have hx : x.cps[i]? = some (x.cps[i]'hlt) := Array.getElem?_eq_getElem hlt
    refine wpAny_pyNext_ascii_item hS hx fun h₁ hst₁ hk₁ => ?_
    have hJ₁ := hJ i s' h₁ (s'.toks + 1) hJi (fun b o hb e => hk₁.extBut b o hb e) (Nat.le_succ _)
    refine wpAny_mono (wpAny_toks_of (n := s.toks) (by show s.toks ≤ s'.toks + 1; walk_at "om") (turn i _ s'.toks _ hx hT (Nat.lt_succ_self _) hJ₁ (by obtain ⟨o, e, _⟩ := hst₁; show h₁.get? I ≠ none; rw [e]; simp))) (fun _ s₂ z₂ => wpAny_mono (wpAny_toks_of z₂.1 z₂.2) (fun f s₃ z₃ => ?_) fun _ _ x => x.2.elim) fun _ _ x => x.2.elim
    obtain ⟨z1, z₃⟩ := z₃
    cases f with
    | ret v => exact z₃
    | brk => exact z₃
    | next => exact ⟨x.cps.size + 1 - (i + 1), by walk_at "om", i + 1, hlt, rfl, z₃.1, (let ⟨o, ho, r⟩ := hst₁; ⟨o, z₃.2 o ho, r⟩), z1⟩
    | cont => exact ⟨x.cps.size + 1 - (i + 1), by walk_at "om", i + 1, hlt, rfl, z₃.1, (let ⟨o, ho, r⟩ := hst₁; ⟨o, z₃.2 o ho, r⟩), z1⟩
  · have hin : i = x.cps.size := by walk_at "om"
    subst hin
    refine wpAny_pyNext_ascii_end hh hS (by simp) fun h₁ hk₁ => ?_
    exact wpAny_mono (done _ (hJ _ s' h₁ s'.toks hJi (fun b o hb e => hk₁ b o hb e) (Nat.le_refl _)) hT) (fun _ _ x => x) fun _ _ x => x.elim

/-- the end of a turn: the signs and the pieces behind are pushed again -/
theorem moved_end {w : World} {A : Around} {s : Shared} {L a d Dr bh lo hi tl th tk k l1 l2 tl1 tl2 tm : Nat} {mo : Int} {m : Str → Option Value} {pre cs X : List Nat} {vr : List Value} {items : Array Value} {Q : Flow → Shared → Prop}
  {trr : Sem Flow} (htr : trr = execs ((movedBody w.params).drop 6) (envC w.params 195 L (movedCells L)))
  (HX : ∀ b : Nat, b ∈ X → s.heap.get? b ≠ none) (hL : L ∈ X) (ha : a ∈ X) (n1 : a ≠ L)
  (G : Gr w (hideAll s.heap X)) (hh : A.handled = none) (hd : A.depth + 3 < recursionLimit) (hu : A.units + 60 < cLine)
  (N : s.heap.Ns L m) (mk : m "k" = some (.int (k : Nat) tk)) (mr : m "rows" = some (.ref Dr)) (mb : m "behind" = some (.ref bh)) (ml : m "lows" = some (.int (l1 : Nat) tl1)) (mh : m "highs" = some (.int (l2 : Nat) tl2)) (mm : m "more" = some (.int mo tm))
  (cl : (hideAll s.heap X).IsCell (L + 1) (some (.str ⟨#[lo]⟩ tl))) (ch : (hideAll s.heap X).IsCell (L + 2) (some (.str ⟨#[hi]⟩ th)))
  (lr : (hideAll s.heap X).IsList Dr vr.toArray) (er : vr[k - 1]? = some (.ref a))
  (lb : (hideAll s.heap X).get? bh = some (listOf items 0)) (P : Pc (hideAll s.heap X) items cs)
  (hk : 1 ≤ k ∧ k ≤ 3) (hlo : Let lo) (hhi : Let hi) (R : RowAt w X s.heap a d pre) (hl : pre.length ≤ 10 ∧ cs.length ≤ 10 ∧ l1 + l2 ≤ cs.length) (hmo : -50 ≤ mo ∧ mo ≤ 50)
  (hQ : ∀ h' m' (tk' : Nat), s.toks ≤ tk' → h'.Ns L m' → (∀ z, [Str.ofString "sign", Str.ofString "piece"].contains z = false → m' z = m z) → RowAt w X h' a d (pre ++ repM lo mo ++ repM hi ((l1 + l2 : Nat) - mo) ++ cs.drop (l1 + l2)) →
    (∀ b : Nat, ∀ o, b ≠ L → b ≠ a → s.heap.get? b = some o → h'.get? b = some o) → Q .next { s with heap := h', toks := tk' }) :
  wpAny (model Challenge.rw_xg0051_01.row.prog w) A trr Q (fun _ _ => False) s := by
  subst htr
  have e1 : envC w.params 195 L (movedCells L) = envC w.params 195 L (movedCells L) := rfl
  conv at e1 => rhs; unfold envC
  conv at e1 => rhs; arg 2; whnf
  conv at e1 => rhs; arg 5; whnf
  rw [e1]
  clear e1
  have up0 : Sub (hideAll s.heap X) s.heap := fun b o e => of_hideAll _ e
  have F0 : Fx (hideAll s.heap X) L s.heap (fun y => if y = Str.ofString "k" then some (.int (k : Nat) tk) else if y = Str.ofString "rows" then some (.ref Dr) else if y = Str.ofString "behind" then some (.ref bh) else
      if y = Str.ofString "lows" then some (.int (l1 : Nat) tl1) else if y = Str.ofString "highs" then some (.int (l2 : Nat) tl2) else if y = Str.ofString "more" then some (.int mo tm) else m y) :=
    Fx.cast ⟨N, up0⟩ fun y => by walk_at "upd"
  have O := hideAll_none X (h := s.heap) hL
  have Oa := hideAll_none X (h := s.heap) ha
  walk_at "un"
  refine wpAny_execs_cons ?_
  walk_at "hideN"
  refine wpAny_For ?_
  walk_at "go"
  rename_i t3 k3 q3 z3 t4 k4 q4 z4 t5 k5 q5 z5
  have eW : (List.replicate mo.toNat lo ++ List.replicate ((l1 : Int) + l2 - mo).toNat hi) = repM lo mo ++ repM hi ((l1 + l2 : Nat) - mo) := by unfold repM; simp
  rw [eW]
  have lW : (repM lo mo ++ repM hi ((l1 + l2 : Nat) - mo)).length ≤ 150 := by unfold repM; simp; walk_at "om"
  have aW : ∀ c ∈ (repM lo mo ++ repM hi ((l1 + l2 : Nat) - mo)), c < 128 := fun c q => by
    rcases List.mem_append.mp q with q | q
    · have := (List.mem_replicate.mp q).2
      rcases hlo with h | h | h <;> walk_at "om"
    · have := (List.mem_replicate.mp q).2
      rcases hhi with h | h | h <;> walk_at "om"
  generalize eW' : (repM lo mo ++ repM hi ((l1 + l2 : Nat) - mo)) = W at *
  have asc : (⟨W.toArray⟩ : Str).cps.all (· < 128) = true := by
    show W.toArray.all (· < 128) = true
    rw [List.all_toArray, List.all_eq_true]
    exact fun c q => decide_eq_true (aW c q)
  walk_at "un"
  refine wpAny_pyIter_ascii asc ?_
  try dsimp only
  have i1 : ∀ b : Nat, ∀ o, s.heap.get? b = some o → b < s.heap.objs.size := fun b o e => Heap.lt_size e
  have i2 : ∀ b : Nat, b ∈ X → b < s.heap.objs.size := fun b q => by
    cases e : s.heap.get? b with
    | none => exact absurd e (HX b q)
    | some o => exact i1 b o e
  have iL := i2 _ hL
  have ia := i2 _ ha
  have itI : ∀ o, (s.heap.push o).get? s.heap.objs.size = some o ∨ True := fun _ => .inr trivial
  have push1 : ∀ ob, Sub s.heap (s.heap.push ob) := fun ob b o e => Heap.get?_push_of_some _ e
  have stI : (s.heap.push { cls := .type "str_ascii_iterator", data := .fields #[.str ⟨W.toArray⟩ t5, .int 0 0] }).IsStrIter s.heap.objs.size "str_ascii_iterator" ⟨W.toArray⟩ t5 0 := ⟨_, Heap.get?_push_size _ rfl, rfl, rfl⟩
  have nI : s.heap.get? s.heap.objs.size = none := new_none _
  generalize hI : s.heap.objs.size = I at *
  refine for_ascii2 hh stI
    (fun i s' => Ex3 fun h tk' v => And6 (s' = { s with heap := h, toks := tk' }) (k5 ≤ tk') (h.Ns L (ov [Str.ofString "sign"] v (fun y => if y = Str.ofString "k" then some (.int (k : Nat) tk) else if y = Str.ofString "rows" then some (.ref Dr) else if y = Str.ofString "behind" then some (.ref bh) else if y = Str.ofString "lows" then some (.int (l1 : Nat) tl1) else if y = Str.ofString "highs" then some (.int (l2 : Nat) tl2) else if y = Str.ofString "more" then some (.int mo tm) else m y))) (RowAt w (I :: X) h a d (pre ++ W.take i)) ((∀ b : Nat, ∀ o, b ≠ a → b ≠ L → b ≠ I → s.heap.get? b = some o → h.get? b = some o)) ((∀ b : Nat, b ∈ X → h.get? b ≠ none))) ?_ ?_ ?_ ?_
  · refine ⟨_, _, _, rfl, Nat.le_refl _, ((F0.up (push1 _)).ov0 _).ns, ?_, fun b o _ _ _ e => push1 _ _ _ e, all_sub HX (push1 _)⟩
    rw [List.take_zero, List.append_nil]
    exact R.wide (push1 _) nI
  · rintro i s' h₁ tk₁ ⟨h, tk', v, rfl, t1, N1, R1, k1, X1⟩ hk' ht
    have hk2 : ∀ b : Nat, ∀ o, b ≠ I → h.get? b = some o → h₁.get? b = some o := fun b o hb e => hk' b o hb e
    refine ⟨h₁, tk₁, v, rfl, Nat.le_trans t1 ht, N1.at' (fun o e => hk2 _ _ (neN (by walk_at "om")) e), R1.move (hid_sub fun b o hb e => hk2 _ _ (fun q => hb (by rw [q]; exact List.mem_cons_self ..)) e) (fun o e => hk2 _ _ (neN (by walk_at "om")) e), fun b o b1 b2 b3 e => hk2 _ _ b3 (k1 b o b1 b2 b3 e), ?_⟩
    intro b q
    cases e : h.get? b with
    | none => exact absurd e (X1 b q)
    | some o => rw [hk2 b o (neN (by have := i2 b q; walk_at "om")) e]; simp
  · rintro i c u s₁ hc hu1 hu2 hJJ hIn
    try walk_at "hideN"
    obtain ⟨h, tk', v, rfl, t1, N1, R1, k1, X1⟩ := hJJ
    have hcW : W[i]? = some c := by simpa using hc
    have XI : ∀ b : Nat, b ∈ (I :: X) → h.get? b ≠ none := fun b q => by
      rcases List.mem_cons.mp q with q | q
      · rw [q]; exact hIn
      · exact X1 b q
    have oldh : ∀ b o, (hideAll s.heap X).get? b = some o → h.get? b = some o := fun b o e => k1 _ _ (hid_ne ha e) (hid_ne hL e) (neN (by have := i1 _ _ (of_hideAll _ e); walk_at "om")) (of_hideAll _ e)
    have F1 := fx_at N1
    have O1 := hideOff h L
    have up1 : Sub (hideAll s.heap X) (h.hide L) := fun b o e => hide_in (oldh _ _ e) (hid_ne hL e)
    have G1 : Gr w (h.hide L) := G.up up1
    clear F0
    walk_at "un"
    refine wpAny_assign_Name (stL F1 O1 ?_)
    intro h11 F11 S11
    dsimp only at S11
    have R11 := R1.same S11 (List.mem_cons_of_mem _ hL) n1
    have X11 := all_same XI S11 F11.ns
    have GI : Gr w (hideAll h11 (I :: X)) := G.up fun b o e => by
      refine hideAll_get _ ((S11.2 _ (hid_ne hL e)).trans (oldh _ _ e)) fun q => ?_
      rcases List.mem_cons.mp q with q | q
      · exact Nat.lt_irrefl I (by have := i1 _ _ (of_hideAll _ e); rwa [show b = I from q] at this)
      · exact (hid_get e).2 q
    have lr11 : h11.IsList Dr vr.toArray := let ⟨o, e, r⟩ := lr; ⟨o, (S11.2 _ (hid_ne hL e)).trans (oldh _ _ e), r⟩
    obtain ⟨it11, n11, a11, D11, P11⟩ := id R11
    walk_at "go"
    with_reducible refine itemI lr11 (by walk_at "om") (by walk_at "om") (v := .ref a) ?_ ?_
    · rw [show ((k : Int) - 1).toNat = k - 1 by walk_at "om"]
      simpa using er
    walk_at "go"
    refine acc_method (G1.up F11.keep) a11 (D11.up fun b o e => of_hideAll _ e) (by k_is) (by k_is) (fun _ _ _ => rfl) ?_
    walk_at "go"
    refine ⟨F11.keep, wpAny_call (push_row (c := c) (X := I :: X) GI hh (by walk_at "om") (by walk_at "om") (List.mem_cons_of_mem _ ha) X11 R11 (by simp; walk_at "om") ?_)⟩
    intro h12 tk12 q12 R12 k12 X12
    dsimp only at q12 k12
    have N12 := F11.ns.at' (fun o e => k12 _ _ (Ne.symm n1) e)
    walk_at "go"
    try dsimp only
    have kall : ∀ b : Nat, ∀ o, b ≠ a → b ≠ L → h.get? b = some o → h12.get? b = some o := fun b o b1 b2 e => k12 _ _ b1 ((S11.2 _ b2).trans e)
    refine ⟨⟨h12, _, _, rfl, by walk_at "om", (Fx.forget [Str.ofString "sign"] (fx_at N12) (by walk_at "forget")).ns, ?_, fun b o b1 b2 b3 e => kall _ _ b1 b2 (k1 b o b1 b2 b3 e), fun b q => X12 b (List.mem_cons_of_mem _ q)⟩, ?_⟩
    · have ez : pre ++ W.take (i + 1) = pre ++ W.take i ++ [c] := by
        rw [List.take_succ, hcW]
        simp
      rw [ez]
      exact R12
    · intro o e
      exact kall _ _ (neN (by walk_at "om")) (neN (by walk_at "om")) e
  · rintro s₂ hJJ htt
    try walk_at "hideN"
    obtain ⟨h, tk', v, rfl, t1, N1, R1, k1, X1⟩ := hJJ
    rw [show (⟨W.toArray⟩ : Str).cps.size = W.length by simp, List.take_length] at R1
    have R2 := R1.weak (X := X) fun b q => List.mem_cons_of_mem _ q
    walk_at "un"
    refine wpAny_execs_nil ?_
    try dsimp only
    have upX : Sub (hideAll s.heap X) (hideAll h X) := hid_sub fun b o hb e => k1 b o (fun q => hb (by rw [q]; exact ha)) (fun q => hb (by rw [q]; exact hL)) (neN (by have := i1 b o e; walk_at "om")) e
    have lt := moved_last (by exact rfl) (A := A) (Q := Q) (s := { s with heap := h, toks := tk' }) (bh := bh) (l1 := l1) (l2 := l2) (k := k) X1 hL ha n1 (G.up upX) hh hd hu N1 rfl rfl rfl rfl rfl (let ⟨o, e, r⟩ := lr; ⟨o, upX _ _ e, r⟩) er (upX _ _ lb) (P.up upX) hk R2 ⟨by simp; walk_at "om", hl.2⟩ ?_
    · have e1 : envC w.params 195 L (movedCells L) = envC w.params 195 L (movedCells L) := rfl
      conv at e1 => rhs; unfold envC
      conv at e1 => rhs; arg 2; whnf
      conv at e1 => rhs; arg 5; whnf
      rw [e1] at lt
      walk_at "un"
      exact lt
    · intro h' m' tk2 u1 N' hm' R' k'
      dsimp only at u1 k'
      refine hQ h' m' tk2 (by walk_at "om") N' (fun z hz => ?_) (by rw [show pre ++ repM lo mo ++ repM hi ((l1 + l2 : Nat) - mo) = pre ++ W by rw [List.append_assoc, eW']]; exact R') (fun b o b1 b2 e => k' b o b1 b2 (k1 b o b2 b1 (neN (by have := i1 b o e; walk_at "om")) e))
      have h1 : [Str.ofString "piece"].contains z = false := by
        cases q : [Str.ofString "piece"].contains z with
        | false => rfl
        | true =>
          have : z = Str.ofString "piece" := by simpa using q
          subst this; revert hz; decide
      have h2 : [Str.ofString "sign"].contains z = false := by
        cases q : [Str.ofString "sign"].contains z with
        | false => rfl
        | true =>
          have : z = Str.ofString "sign" := by simpa using q
          subst this; revert hz; decide
      rw [hm' z h1]
      unfold ov
      rw [h2]
      show (fun y => if y = Str.ofString "k" then some (.int (k : Nat) tk) else if y = Str.ofString "rows" then some (.ref Dr) else if y = Str.ofString "behind" then some (.ref bh) else if y = Str.ofString "lows" then some (.int (l1 : Nat) tl1) else if y = Str.ofString "highs" then some (.int (l2 : Nat) tl2) else if y = Str.ofString "more" then some (.int mo tm) else m y) z = m z
      try dsimp only
      walk_at "upd"

end
section
/- Moved3 -/
theorem lines_len {rs : List (List Nat)} (hl : ∀ r ∈ linesM rs, r.length ≤ 10) (k : Nat) : ((linesM rs).getD k []).length ≤ 10 := by
  rw [List.getD_eq_getElem?_getD]
  cases e : (linesM rs)[k]? with
  | none => simp
  | some r => exact hl r (List.mem_of_getElem? e)
theorem above_le {rs : List (List Nat)} (hl : ∀ r ∈ linesM rs, r.length ≤ 10) (lo hi k : Nat) : aboveM rs lo hi k ≤ 10 := by
  unfold aboveM pairsM
  have h1 := lines_len hl k
  refine Nat.le_trans (List.count_le_length ..) ?_
  rw [List.length_map, List.length_zip]
  walk_at "om"
/-- from the place on -/
theorem moved_mid {w : World} {A : Around} {s : Shared} {L a d Dr Da lo hi tl th tk k tl1 tl2 tp : Nat} {m : Str → Option Value} {r X : List Nat} {rs : List (List Nat)} {vr va : List Value} {Q : Flow → Shared → Prop}
  {trr : Sem Flow} (htr : trr = execs ((movedBody w.params).drop 4) (envC w.params 195 L (movedCells L)))
  (HX : ∀ b : Nat, b ∈ X → s.heap.get? b ≠ none) (hL : L ∈ X) (ha : a ∈ X) (n1 : a ≠ L)
  (G : Gr w (hideAll s.heap X)) (hh : A.handled = none) (hd : A.depth + 3 < recursionLimit) (hu : A.units + 60 < cLine)
  (N : s.heap.Ns L m) (mk : m "k" = some (.int (k : Nat) tk)) (mr : m "rows" = some (.ref Dr)) (ma : m "above" = some (.ref Da)) (ml : m "lows" = some (.int (r.count lo : Nat) tl1)) (mh : m "highs" = some (.int (r.count hi : Nat) tl2)) (mp : m "place" = some (.int (placeM lo r : Nat) tp))
  (cl : (hideAll s.heap X).IsCell (L + 1) (some (.str ⟨#[lo]⟩ tl))) (ch : (hideAll s.heap X).IsCell (L + 2) (some (.str ⟨#[hi]⟩ th)))
  (lr : (hideAll s.heap X).IsList Dr vr.toArray) (er : vr[k - 1]? = some (.ref a))
  (la : (hideAll s.heap X).IsList Da va.toArray) (ia : IntsAre va ((List.range 4).map fun j => (aboveM rs lo hi j : Int))) (hr : (linesM rs)[k]? = some r)
  (hk : 1 ≤ k ∧ k ≤ 3) (hlo : Let lo) (hhi : Let hi) (R : RowAt w X s.heap a d r) (hl : ∀ r ∈ linesM rs, r.length ≤ 10) (hok : placeM lo r + (r.count lo + r.count hi) ≤ r.length)
  (hQ : ∀ h' m' (tk' : Nat), s.toks ≤ tk' → h'.Ns L m' → (∀ z, movedNms.contains z = false → m' z = m z) → RowAt w X h' a d (newRowM rs lo hi k) →
    (∀ b : Nat, ∀ o, b ≠ L → b ≠ a → s.heap.get? b = some o → h'.get? b = some o) → Q .next { s with heap := h', toks := tk' }) :
  wpAny (model Challenge.rw_xg0051_01.row.prog w) A trr Q (fun _ _ => False) s := by
  subst htr
  have e1 : envC w.params 195 L (movedCells L) = envC w.params 195 L (movedCells L) := rfl
  conv at e1 => rhs; unfold envC
  conv at e1 => rhs; arg 2; whnf
  conv at e1 => rhs; arg 5; whnf
  rw [e1]
  clear e1
  have up0 : Sub (hideAll s.heap X) s.heap := fun b o e => of_hideAll _ e
  have F0 : Fx (hideAll s.heap X) L s.heap (fun y => if y = Str.ofString "k" then some (.int (k : Nat) tk) else if y = Str.ofString "rows" then some (.ref Dr) else if y = Str.ofString "above" then some (.ref Da) else if y = Str.ofString "lows" then some (.int (r.count lo : Nat) tl1) else if y = Str.ofString "highs" then some (.int (r.count hi : Nat) tl2) else if y = Str.ofString "place" then some (.int (placeM lo r : Nat) tp) else m y) :=
    Fx.cast ⟨N, up0⟩ fun y => by walk_at "upd"
  have O := hideAll_none X (h := s.heap) hL
  have Oa := hideAll_none X (h := s.heap) ha
  have rlen : r.length ≤ 10 := hl r (List.mem_of_getElem? hr)
  obtain ⟨items, n, ra, rD, rP⟩ := id R
  walk_at "un"
  refine wpAny_execs_cons ?_
  walk_at "go"
  with_reducible refine itemI (IsL.keeps lr up0) (by walk_at "om") (by walk_at "om") (v := .ref a) ?_ ?_
  · rw [show ((k : Int) - 1).toNat = k - 1 by walk_at "om"]
    simpa using er
  walk_at "go"
  refine acc_method (G.up up0) ra (rD.up up0) (by k_is) (by k_is) (fun _ _ _ => rfl) ?_
  walk_at "go"
  refine ⟨up0, wpAny_call (pop_from_spec (g0 := hideAll s.heap X) (k := placeM lo r) ⟨G.up up0, by walk_at "om", by walk_at "om", hh⟩ G up0 Oa ra rD (by rw [rP.1]; walk_at "om") (by rw [rP.1]; walk_at "om") ?_)⟩
  intro bh h1 tk1 n1' q1 a1 l1 nq k1
  dsimp only at q1 k1 nq
  have nbX : bh ∉ X := fun q => HX bh q nq
  have nbL : bh ≠ L := fun q => nbX (by rw [q]; exact hL)
  have nba : bh ≠ a := fun q => nbX (by rw [q]; exact ha)
  have N1 := F0.ns.at' (fun o e => k1 _ _ (Ne.symm n1) e)
  have F1 : Fx (hideAll s.heap X) L h1 _ := ⟨N1, fun b o e => k1 b o (hid_ne ha e) (of_hideAll _ e)⟩
  have R1 : RowAt w X h1 a d (r.take (placeM lo r)) := RowAt.cut _ ha k1 a1 rD rP
  have X1 := all_but HX k1 a1
  have up1 : Sub (hideAll s.heap X) (hideAll h1 X) := hid_sub fun b o hb e => k1 b o (fun q => hb (by rw [q]; exact ha)) e
  clear F0
  walk_at "go"
  rename_i h2 F2 S2
  have la2 : h2.IsList Da va.toArray := IsL.keeps la F2.keep
  have a4 : ∀ j : Nat, j < 4 → ∃ t, va[j]? = some (.int (aboveM rs lo hi j : Nat) t) := fun j hj => by
    obtain ⟨t, e⟩ := ints_at' ia (k := j) (by simp; walk_at "om")
    refine ⟨t, ?_⟩
    rw [e, List.getD_eq_getElem?_getD, List.getElem?_map, List.getElem?_range hj]
    rfl
  obtain ⟨ta, ea⟩ := a4 k (by walk_at "om")
  obtain ⟨tb, eb⟩ := a4 (k - 1) (by walk_at "om")
  have b1 := above_le hl lo hi k
  have b2 := above_le hl lo hi (k - 1)
  have b3 : r.count hi ≤ r.length := List.count_le_length ..
  clear ia a4
  with_reducible refine itemL la2 ea (by walk_at "om") ?_
  walk_at "go"
  with_reducible refine itemI la2 (by walk_at "om") (by walk_at "om") (v := .int (aboveM rs lo hi (k - 1) : Nat) tb) ?_ ?_
  · rw [show ((k : Int) - 1).toNat = k - 1 by walk_at "om"]
    simpa using eb
  repeat' (first | ((fail_if_success (with_reducible show wpAny _ _ (execs (Stmt.For _ _ _ _ _ :: _) _) _ _ _)); walk_at "one"))
  try dsimp only
  rename_i h3 F3 S3
  have eg : (linesM rs).getD k [] = r := by rw [List.getD_eq_getElem?_getD, hr]; rfl
  have em : ((aboveM rs lo hi k : Nat) : Int) + (r.count hi : Nat) - (aboveM rs lo hi (k - 1) : Nat) = moreM rs lo hi k := by unfold moreM; rw [eg]
  have bm : -50 ≤ moreM rs lo hi k ∧ moreM rs lo hi k ≤ 50 := by rw [← em]; walk_at "om"
  rw [em] at F3
  have up3 : ∀ b : Nat, ∀ o, b ≠ L → h1.get? b = some o → h3.get? b = some o := fun b o hb e => (S3.2 _ hb).trans ((S2.2 _ hb).trans e)
  have upX : Sub (hideAll s.heap X) (hideAll h3 X) := fun b o e => hideAll_get _ (up3 _ _ (hid_ne hL e) (k1 _ _ (hid_ne ha e) (of_hideAll _ e))) (hid_get e).2
  have X3 : ∀ b : Nat, b ∈ X → h3.get? b ≠ none := all_same (all_same X1 S2 F2.ns) S3 F3.ns
  have me := moved_end (by exact rfl) (A := A) (Q := Q) (s := { s with heap := h3, toks := tk1 + 1 + 1 + 1 + 1 + 1 + 1 }) (bh := bh) (k := k) (lo := lo) (hi := hi) (mo := moreM rs lo hi k) X3 hL ha n1 (G.up upX) hh hd hu F3.ns rfl rfl rfl rfl rfl rfl
    (cl.keeps upX) (ch.keeps upX) (IsL.keeps lr upX) er (hideAll_get _ (up3 _ _ nbL l1) nbX) ((rP.up upX).drop (placeM lo r)) hk hlo hhi ((R1.same S2 hL n1).same S3 hL n1) ⟨by simp; walk_at "om", by simp; walk_at "om", by simp; walk_at "om"⟩ bm ?_
  · have e1 : envC w.params 195 L (movedCells L) = envC w.params 195 L (movedCells L) := rfl
    conv at e1 => rhs; unfold envC
    conv at e1 => rhs; arg 2; whnf
    conv at e1 => rhs; arg 5; whnf
    rw [e1] at me
    exact me
  · intro h' m' tk2 u1 N' hm' R' k'
    dsimp only at u1 k'
    refine hQ h' m' tk2 (by walk_at "om") N' (fun z hz => ?_) ?_ (fun b o c1 c2 e => k' b o c1 c2 (up3 _ _ c1 (k1 _ _ c2 e)))
    · have h1 : [Str.ofString "sign", Str.ofString "piece"].contains z = false := by
        cases q : [Str.ofString "sign", Str.ofString "piece"].contains z with
        | false => rfl
        | true =>
          have : z = Str.ofString "sign" ∨ z = Str.ofString "piece" := by simpa using q
          rcases this with rfl | rfl <;> (revert hz; decide)
      rw [hm' z h1]
      rw [if_neg (fun q => by rw [q] at hz; revert hz; decide), if_neg (fun q => by rw [q] at hz; revert hz; decide)]
      walk_at "upd"
    · unfold newRowM
      try dsimp only
      rw [eg]
      exact R'

end
section
/- Moved4 -/
/-- a turn of the move: one row -/
theorem moved_turn {w : World} {A : Around} {s : Shared} {L a d Dr Da Dl lo hi tl th tr tk k : Nat} {m : Str → Option Value} {r X : List Nat} {rs : List (List Nat)} {vr va vl : List Value} {Q : Flow → Shared → Prop}
  {trr : Sem Flow} (htr : trr = execs (movedBody w.params) (envC w.params 195 L (movedCells L)))
  (HX : ∀ b : Nat, b ∈ X → s.heap.get? b ≠ none) (hL : L ∈ X) (ha : a ∈ X) (n1 : a ≠ L)
  (G : Gr w (hideAll s.heap X)) (hh : A.handled = none) (hd : A.depth + 3 < recursionLimit) (hu : A.units + 60 < cLine)
  (N : s.heap.Ns L m) (mk : m "k" = some (.int (k : Nat) tk)) (mr : m "rows" = some (.ref Dr)) (ma : m "above" = some (.ref Da))
  (cl : (hideAll s.heap X).IsCell (L + 1) (some (.str ⟨#[lo]⟩ tl))) (ch : (hideAll s.heap X).IsCell (L + 2) (some (.str ⟨#[hi]⟩ th))) (cn : (hideAll s.heap X).IsCell (L + 3) (some (.ref Dl)))
  (lr : (hideAll s.heap X).IsList Dr vr.toArray) (er : vr[k - 1]? = some (.ref a))
  (la : (hideAll s.heap X).IsList Da va.toArray) (ia : IntsAre va ((List.range 4).map fun j => (aboveM rs lo hi j : Int)))
  (ll : (hideAll s.heap X).IsList Dl vl.toArray) (el : vl[k]? = some (.str ⟨r.toArray⟩ tr)) (hr : (linesM rs)[k]? = some r)
  (htl : 0 < tl ∧ tl < s.toks) (hth : 0 < th ∧ th < s.toks)
  (hk : 1 ≤ k ∧ k ≤ 3) (hlo : lo = 65 ∨ lo = 97) (hhi : Let hi) (hLet : ∀ c ∈ r, Let c) (R : RowAt w X s.heap a d r) (hl : ∀ r ∈ linesM rs, r.length ≤ 10) (hok : placeM lo r + (r.count lo + r.count hi) ≤ r.length)
  (hQ : ∀ h' m' (tk' : Nat), s.toks ≤ tk' → h'.Ns L m' → (∀ z, movedNms.contains z = false → m' z = m z) → RowAt w X h' a d (newRowM rs lo hi k) →
    (∀ b : Nat, ∀ o, b ≠ L → b ≠ a → s.heap.get? b = some o → h'.get? b = some o) → Q .next { s with heap := h', toks := tk' }) :
  wpAny (model Challenge.rw_xg0051_01.row.prog w) A trr Q (fun _ _ => False) s := by
  subst htr
  have e1 : envC w.params 195 L (movedCells L) = envC w.params 195 L (movedCells L) := rfl
  conv at e1 => rhs; unfold envC
  conv at e1 => rhs; arg 2; whnf
  conv at e1 => rhs; arg 5; whnf
  rw [e1]
  clear e1
  have up0 : Sub (hideAll s.heap X) s.heap := fun b o e => of_hideAll _ e
  have F0 : Fx (hideAll s.heap X) L s.heap (fun y => if y = Str.ofString "k" then some (.int (k : Nat) tk) else if y = Str.ofString "rows" then some (.ref Dr) else if y = Str.ofString "above" then some (.ref Da) else m y) :=
    Fx.cast ⟨N, up0⟩ fun y => by walk_at "upd"
  have O := hideAll_none X (h := s.heap) hL
  have Oa := hideAll_none X (h := s.heap) ha
  walk_at "un"
  refine wpAny_execs_cons ?_
  have lls : s.heap.IsList Dl vl.toArray := IsL.keeps ll up0
  have asc : r.toArray.all (· < 128) = true := by
    rw [List.all_toArray, List.all_eq_true]
    exact fun c q => decide_eq_true (by rcases hLet c q with h | h | h <;> walk_at "om")
  have elA : vl[k]? = some (.str ⟨r.toArray⟩ tr) := el
  walk_at "go"
  with_reducible refine itemL lls el (by walk_at "om") ?_
  walk_at "go"
  refine ⟨up0, wpAny_call (countOf_str (x := r) (c := lo) ⟨G.up up0, by walk_at "om", by walk_at "om", hh⟩ asc htl.1 htl.2 ?_)⟩
  intro t1 h1 tk1 q1 K1
  try dsimp only at q1 K1
  have F1 := F0.up K1
  walk_at "go"
  rename_i h2 F2 S2
  have l2s : h2.IsList Dl vl.toArray := IsL.keeps ll F2.keep
  with_reducible refine itemL l2s el (by walk_at "om") ?_
  walk_at "go"
  refine ⟨F2.keep, wpAny_call (countOf_str (x := r) (c := hi) ⟨G.up F2.keep, by walk_at "om", by walk_at "om", hh⟩ asc hth.1 (by dsimp only; walk_at "om") ?_)⟩
  intro t3 h3 tk3 q3 K3
  try dsimp only at q3 K3
  have F3 := F2.up K3
  have fin : ∀ (hf : Heap) (mf : Str → Option Value) (tkf : Nat) {t1 t3 tp : Nat}, (∀ b : Nat, ∀ o, b ≠ L → s.heap.get? b = some o → hf.get? b = some o) → hf.Ns L mf → mf "k" = some (.int (k : Nat) tk) → mf "rows" = some (.ref Dr) → mf "above" = some (.ref Da) →
      mf "lows" = some (.int (r.count lo : Nat) t1) → mf "highs" = some (.int (r.count hi : Nat) t3) → mf "place" = some (.int (placeM lo r : Nat) tp) → (∀ z, movedNms.contains z = false → mf z = m z) → s.toks ≤ tkf →
      wpAny (model Challenge.rw_xg0051_01.row.prog w) A (execs ((movedBody w.params).drop 4) (envX (qualAt w.params 195) (scopeAt w.params 195) L 195 (codeAtV w.params 195) (movedCells L))) Q (fun _ _ => False) { s with heap := hf, toks := tkf } := by
    intro hf mf tkf t1 t3 tp up Nf f1 f2 f3 f4 f5 f6 off ht
    have upX : Sub (hideAll s.heap X) (hideAll hf X) := fun b o e => hideAll_get _ (up _ _ (hid_ne hL e) (of_hideAll _ e)) (hid_get e).2
    have Xf : ∀ b : Nat, b ∈ X → hf.get? b ≠ none := fun b q => by
      by_cases hb : b = L
      · rw [hb]; obtain ⟨o, _, _, e, _⟩ := Nf; rw [e]; simp
      · cases e : s.heap.get? b with
        | none => exact absurd e (HX b q)
        | some o => rw [up b o hb e]; simp
    walk_at "un"
    refine (moved_mid (by exact rfl) (s := { s with heap := hf, toks := tkf }) (k := k) (lo := lo) (hi := hi) (rs := rs) Xf hL ha n1 (G.up upX) hh hd hu Nf f1 f2 f3 f4 f5 f6 (cl.keeps upX) (ch.keeps upX) (IsL.keeps lr upX) er (IsL.keeps la upX) ia hr hk (by rcases hlo with h | h; exact .inl h; exact .inr (.inl h)) hhi (R.move upX fun o e => up a o n1 e) hl hok ?_ : wpAny _ _ _ _ _ _)
    intro h' m' tk' u1 N' hm' R' k'
    dsimp only at u1 k'
    exact hQ h' m' tk' (by walk_at "om") N' (fun z hz => (hm' z hz).trans (off z hz)) R' (fun b o b1 b2 e => k' b o b1 b2 (up b o b1 e))
  repeat' (first | ((fail_if_success (with_reducible show wpAny _ _ (execs (Stmt.Assign [Expr.Name (Str.ofString "behind") _] _ _ :: _) _) _ _ _)); walk_at "onh"))
  all_goals (try (with_reducible refine Mine.unstop ?_))
  · rename_i h4 F4 S4 h5 F5 S5 hb
    have h97 : lo = 97 := by
      rw [ofa, str1_beq, beq_iff_eq] at hb; exact hb
    have l5s : h5.IsList Dl vl.toArray := IsL.keeps ll F5.keep
    with_reducible refine itemL l5s el (by walk_at "om") ?_
    walk_at "go"
    refine ⟨F5.keep, ?_⟩
    rw [ofA]
    refine wpAny_call (countOf_str (x := r) (c := 65) ⟨G.up F5.keep, by walk_at "om", by walk_at "om", hh⟩ asc (by walk_at "om") (by (try dsimp only); walk_at "om") ?_)
    intro t6 h6 tk6 q6 K6
    dsimp only at q6 K6
    have F6 := F5.up K6
    have hp : r.count 65 = placeM lo r := by unfold placeM; rw [if_pos h97]
    rw [hp]
    repeat' (first | ((fail_if_success (with_reducible show wpAny _ _ (execs (Stmt.Assign [Expr.Name (Str.ofString "behind") _] _ _ :: _) _) _ _ _)); walk_at "onh"))
    all_goals (try (with_reducible refine Mine.unstop ?_))
    rename_i h7 F7 S7
    have up7 : ∀ b : Nat, ∀ o, b ≠ L → s.heap.get? b = some o → h7.get? b = some o := fun b o hb e => (S7.2 _ hb).trans (K6 _ _ ((S5.2 _ hb).trans ((S4.2 _ hb).trans (K3 _ _ ((S2.2 _ hb).trans (K1 _ _ e))))))
    try dsimp only
    exact fin h7 _ _ up7 F7.ns rfl rfl rfl rfl rfl rfl (fun z hz => by
      rw [if_neg (fun q => by rw [q] at hz; revert hz; decide), if_neg (fun q => by rw [q] at hz; revert hz; decide), if_neg (fun q => by rw [q] at hz; revert hz; decide), if_neg (fun q => by rw [q] at hz; revert hz; decide)]
      walk_at "upd") (by walk_at "om")
  · rename_i h4 F4 S4 h5 F5 S5 hb
    have h97 : lo ≠ 97 := by
      rw [ofa, str1_beq, beq_eq_false_iff_ne] at hb; exact hb
    have up5 : ∀ b : Nat, ∀ o, b ≠ L → s.heap.get? b = some o → h5.get? b = some o := fun b o hb e => (S5.2 _ hb).trans ((S4.2 _ hb).trans (K3 _ _ ((S2.2 _ hb).trans (K1 _ _ e))))
    have hp : placeM lo r = 0 := by unfold placeM; rw [if_neg h97]
    try dsimp only
    exact fin h5 _ _ up5 F5.ns rfl rfl rfl rfl rfl (by rw [hp]; rfl) (fun z hz => by
      rw [if_neg (fun q => by rw [q] at hz; revert hz; decide), if_neg (fun q => by rw [q] at hz; revert hz; decide), if_neg (fun q => by rw [q] at hz; revert hz; decide)]
      walk_at "upd") (by walk_at "om")

end
section
/- Moved5 -/
local macro_rules | `(tactic| walk_at "halt") => `(tactic| first | with_reducible refine Mine.hlLc ?_ | with_reducible refine Mine.hlType ?_ | with_reducible refine Mine.hlSubP ?_ | with_reducible refine Mine.hlAddS ?_ | walk_at "h4")
theorem addL {prog : Program} {w : World} {A : Around} {E : Value → Shared → Prop} {s : Shared} {l b : Addr} {vs ws : List Value} {Q : Value → Shared → Prop} (hl : s.heap.IsList l vs.toArray) (hb : s.heap.IsList b ws.toArray)
    (h : Q (.ref s.heap.objs.size) { s with heap := s.heap.push { cls := .type "list", data := .seq (vs ++ ws).toArray } }) (hsz : vs.length + ws.length ≤ 1000) :
    wpAny (model prog w) A (binaryOp .Add (.ref l) (.ref b)) Q E s := by
  obtain ⟨⟨cls, dd, data, sl⟩, ho, hc, n, hd⟩ := id hl
  obtain ⟨⟨cls2, dd2, data2, sl2⟩, ho2, hc2, n2, hd2⟩ := id hb
  simp only at hc hd hc2 hd2
  subst hc hd hc2 hd2
  have e : vs.toArray ++ ws.toArray = (vs ++ ws).toArray := by simp
  refine concat_meets ⟨_, ho, rfl⟩ ⟨_, ho2, rfl⟩ noFill_list_add seq_list_add PySem.F.slot_list_add PySem.F.entry_list_add (PySem.F.args_list_add_2 _ _) (list_addW l b vs.toArray ws.toArray n n2 dd dd2 sl sl2 (by rw [sizeLine_eq]; simp; walk_at "om")) ⟨ho, ho2, ?_⟩
  rw [e]
  exact h
theorem TxtsAre.length {vs : List Value} {ls : List (List Nat)} (h : TxtsAre vs ls) : vs.length = ls.length := by
  induction h with
  | nil => rfl
  | cons l t r ih => simp [ih]
theorem TxtsAre.get {vs : List Value} {ls : List (List Nat)} (h : TxtsAre vs ls) {k : Nat} {l : List Nat} (e : ls[k]? = some l) : ∃ t : Nat, vs[k]? = some (.str ⟨l.toArray⟩ t) := by
  induction h generalizing k with
  | nil => simp at e
  | cons c t r ih =>
    cases k with
    | zero => simp at e; exact ⟨t, by rw [← e]; rfl⟩
    | succ k => exact ih (by simpa using e)
theorem TxtsAre.snoc {vs : List Value} {ls : List (List Nat)} (h : TxtsAre vs ls) (l : List Nat) (t : Nat) : TxtsAre (vs ++ [.str ⟨l.toArray⟩ t]) (ls ++ [l]) := by
  induction h with
  | nil => exact .cons _ _ .nil
  | cons c u r ih => exact .cons _ _ ih

theorem StrsB.snoc {B : Nat} {vs : List Value} {ls : List (List Nat)} {l : List Nat} {t : Nat} (h : StrsB B vs ls) (h1 : 0 < t) (h2 : t < B) : StrsB B (vs ++ [.str ⟨l.toArray⟩ t]) (ls ++ [l]) := by
  induction h with
  | nil => exact .cons h1 h2 .nil
  | cons a b r ih => exact .cons a b ih
theorem pairs_at {x y : List Nat} {i c d : Nat} (h1 : x[i]? = some c) (h2 : y[i]? = some d) : (pairsM x y)[i]? = some [c, d] := by
  unfold pairsM
  have e : (x.zip y)[i]? = some (c, d) := by rw [List.getElem?_zip_eq_some]; exact ⟨h1, h2⟩
  rw [List.getElem?_map, e]
  rfl
/-- the pairs counted -/
theorem moved_above {w : World} {A : Around} {s : Shared} {L Dl lo hi tl th : Nat} {m : Str → Option Value} {X : List Nat} {rs : List (List Nat)} {vl : List Value} {Q : Flow → Shared → Prop}
  {trr : Sem Flow} (htr : trr = execs ((stmtsAt w.params 195).drop 1) (envC w.params 195 L (movedCells L)))
  (hL : L ∈ X) (G : Gr w (hideAll s.heap X)) (hh : A.handled = none) (hd : A.depth + 3 < recursionLimit) (hu : A.units + 60 < cLine) (h94 : 94 < s.heap.objs.size) (l94 : 94 < L)
  (N : s.heap.Ns L m) (cl : (hideAll s.heap X).IsCell (L + 1) (some (.str ⟨#[lo]⟩ tl))) (ch : (hideAll s.heap X).IsCell (L + 2) (some (.str ⟨#[hi]⟩ th))) (cn : (hideAll s.heap X).IsCell (L + 3) (some (.ref Dl)))
  (ll : (hideAll s.heap X).IsList Dl vl.toArray) (iv : TxtsAre vl (linesM rs)) (h3 : rs.length = 3) (hlet : ∀ r ∈ linesM rs, ∀ c ∈ r, Let c) (hl : ∀ r ∈ linesM rs, r.length ≤ 10) (ht0 : 0 < s.toks)
  (rest : ∀ s' (Da : Nat) va, Kp [L] s s' → s'.heap.Ns L (fun y => if y = Str.ofString "above" then some (.ref Da) else m y) → s.heap.get? Da = none → s'.heap.IsList Da (List.toArray va) → IntsAre va ((List.range 4).map fun j => (aboveM rs lo hi j : Int)) →
    wpAny (model Challenge.rw_xg0051_01.row.prog w) A (execs ((stmtsAt w.params 195).drop 2) (envX (qualAt w.params 195) (scopeAt w.params 195) L 195 (codeAtV w.params 195) (movedCells L))) Q (fun _ _ => False) s') :
  wpAny (model Challenge.rw_xg0051_01.row.prog w) A trr Q (fun _ _ => False) s := by
  subst htr
  have e1 : envC w.params 195 L (movedCells L) = envC w.params 195 L (movedCells L) := rfl
  conv at e1 => rhs; unfold envC
  conv at e1 => rhs; arg 2; whnf
  conv at e1 => rhs; arg 5; whnf
  rw [e1]
  clear e1
  have up0 : Sub (hideAll s.heap X) s.heap := fun b o e => of_hideAll _ e
  have F0 : Fx (hideAll s.heap X) L s.heap m := ⟨N, up0⟩
  have O := hideAll_none X (h := s.heap) hL
  walk_at "un"
  refine wpAny_execs_cons ?_
  refine comp_asg (X := []) ?_
  walk_at "go"
  refine call_range_1 ?_
  walk_at "go"
  try dsimp only
  obtain ⟨r1, r2⟩ := range0n 4 (by walk_at "om")
  generalize eh1 : s.heap.push _ = h1
  have k1 : Sub s.heap h1 := fun b o q => by rw [← eh1]; exact Heap.get?_push_of_some _ q
  obtain ⟨ra, rb, rc, hr1⟩ : ∃ ra rb rc : Tok, IsRange h1 s.heap.objs.size 0 ((4 : Nat) : Int) 1 ra rb rc := ⟨_, _, _, by rw [← eh1]; exact IsRange.new _ _ _ _ _ _ _⟩
  have sz1 : h1.objs.size = s.heap.objs.size + 1 := by rw [← eh1]; exact Heap.size_push ..
  clear eh1
  have hlines : ∀ j : Nat, j ≤ 4 → ∃ lj tj, (linesM rs)[j]? = some lj ∧ vl[j]? = some (.str ⟨List.toArray lj⟩ tj) := fun j hj => by
    have hlen : (linesM rs).length = 5 := by simp [linesM, h3]
    obtain ⟨lj, elj⟩ : ∃ lj, (linesM rs)[j]? = some lj := ⟨_, List.getElem?_eq_getElem (by walk_at "om")⟩
    obtain ⟨tj, etj⟩ := iv.get elj
    exact ⟨lj, tj, elj, etj⟩
  refine src_range (s := { s with heap := h1, toks := s.toks + 1 + 1 + 1 }) hh hr1 r1 r2 (fun vs _ => IntsAre vs ((List.range vs.length).map fun j => (aboveM rs lo hi j : Int))) (by walk_at "om") (XOk.nil _) (by show (94 : Nat) < h1.objs.size; walk_at "om") .nil (fun _ _ _ q _ => q) ?_ ?_
  · rintro C vs v s₃ m₃ hlt hC ⟨tv, rfl⟩ hU K hns hm
    have ks : Sub s.heap s₃.heap := fun b o e => K.heap b o (by simp) (k1 _ _ e)
    have F5 : Fx (hideAll s.heap X) C s₃.heap (fun y => if y = Str.ofString "k" then some (.int (vs.length : Nat) tv) else m₃ y) := Fx.cast ⟨hns, fun b o e => ks _ _ (of_hideAll _ e)⟩ fun y => by
      split
      · rename_i q; rw [q]; exact hm
      · rfl
    obtain ⟨la, ta, ela, eta⟩ := hlines vs.length (by walk_at "om")
    obtain ⟨lb, tb, elb, etb⟩ := hlines (vs.length + 1) (by walk_at "om")
    have lls : s₃.heap.IsList Dl vl.toArray := IsL.keeps ll F5.keep
    walk_at "go"
    refine comp_evalZ hh ?_
    walk_at "go"
    with_reducible refine itemL lls eta (by walk_at "om") ?_
    walk_at "go"
    with_reducible refine itemI lls (by walk_at "om") (by walk_at "om") (v := .str ⟨lb.toArray⟩ tb) ?_ ?_
    · rw [show ((vs.length : Int) + 1).toNat = vs.length + 1 by walk_at "om"]
      simpa using etb
    walk_at "go"
    have ascii : ∀ (j : Nat) (lj : List Nat), (linesM rs)[j]? = some lj → (⟨lj.toArray⟩ : Str).cps.all (· < 128) = true := fun j lj e => by
      show lj.toArray.all (· < 128) = true
      rw [List.all_toArray, List.all_eq_true]
      exact fun c q => decide_eq_true (by rcases hlet lj (List.mem_of_getElem? e) c q with h | h | h <;> walk_at "om")
    have lena := hl la (List.mem_of_getElem? ela)
    have lenb := hl lb (List.mem_of_getElem? elb)
    have kT := K.toks
    dsimp only at kT
    have sz3 : s.heap.objs.size < s₃.heap.objs.size := Heap.lt_size (K.heap _ _ (by simp) hr1)
    refine zipS_call (ascii _ _ ela) (ascii _ _ elb) ?_
    intro h6 Z sz6 K6
    dsimp only at Z sz6 K6 ⊢
    walk_at "un"
    refine wpAny_pyIter_zip Z.z ?_
    refine ⟨s₃.heap.objs.size, min la.length lb.length, ⟨la.toArray⟩, ⟨lb.toArray⟩, ta, tb, fun vs t => StrsB t vs ((pairsM la lb).take vs.length), rfl, Z, by simp, by walk_at "om", by walk_at "om", .nil, fun vs t t' q h => q.mono h, ?_, ?_⟩
    · intro C2 vs2 c d ua ub s5 m5 hlt2 hC2 hc hd ha1 ha2 hb1 hb2 hU2 K2 hns2 hma hmb
      have hc' : la[vs2.length]? = some c := by simpa using hc
      have hd' : lb[vs2.length]? = some d := by simpa using hd
      have F6 : Fx (s5.heap.hide C2) C2 s5.heap (fun z => if z = Str.ofString "x" then some (.str ⟨#[c]⟩ ua) else if z = Str.ofString "y" then some (.str ⟨#[d]⟩ ub) else m5 z) := Fx.cast (fx_at hns2) fun z => by
        walk_at "upd"
      walk_at "go"
      refine addOne ?_
      dsimp only at ha1
      walk_at "un"
      refine ⟨Kp.of (fun _ _ e => e) (Nat.le_succ _), ?_⟩
      show StrsB (s5.toks + 1) (vs2 ++ [Value.str ⟨#[c, d]⟩ s5.toks]) ((pairsM la lb).take (vs2 ++ [Value.str ⟨#[c, d]⟩ s5.toks]).length)
      rw [List.length_append, List.length_singleton, List.take_succ, pairs_at hc' hd']
      exact (StrsB.mono hU2 (Nat.le_succ _)).snoc (by walk_at "om") (Nat.lt_succ_self _)
    · intro D2 C3 s6 m6 vs2 hD2 hC3 hDC2 hns2 hpl2 hlen2 hU2 K2 h7 S7
      dsimp only at hD2 hC3
      have k36 : Sub s₃.heap s6.heap := fun b o e => K2.heap b o (by
        have := ltN (Heap.lt_size e)
        simp only [List.mem_cons, List.not_mem_nil, or_false, not_or]
        exact ⟨neN (by walk_at "om"), neN (by walk_at "om"), neN (by walk_at "om"), neN (by walk_at "om")⟩) (K6 _ _ e)
      have nC3 : s₃.heap.get? C3 = none := none_of_sub K6 hC3
      have k37 : Sub s₃.heap h7 := fun b o e => (S7.2 b (fun q => by rw [q, nC3] at e; cases e)).trans (k36 _ _ e)
      have F7 := F5.up k37
      have hD7 : h7.IsList D2 vs2.toArray := by
        obtain ⟨nn, e⟩ := hpl2
        exact ⟨_, (S7.2 _ hDC2).trans e, rfl, nn, rfl⟩
      have kT2 := K2.toks
      dsimp only at kT2
      have hpz : (pairsM la lb).take vs2.length = pairsM la lb := List.take_of_length_le (by rw [hlen2]; simp [pairsM])
      rw [hpz] at hU2
      walk_at "go"
      refine addOne ?_
      walk_at "go"
      refine ⟨F7.keep, wpAny_call (countOf_list (y := [lo, hi]) ⟨G.up F7.keep, by walk_at "om", by walk_at "om", hh⟩ hD7 hU2 (by walk_at "om") ?_)⟩
      intro t8 h8 tk8 q8 K8
      dsimp only at q8 K8 ⊢
      walk_at "un"
      have K36 : Kp [] s₃ s6 := Kp.new K2 (Kp.of K6 (by walk_at "om")) (fun b q => by
        simp only [List.mem_cons, List.not_mem_nil, or_false] at q
        cases e : s₃.heap.get? b with
        | none => rfl
        | some o =>
          have := ltN (Heap.lt_size e)
          walk_at "om")
      refine ⟨K36.grow [] (fun b o _ hn e => K8 _ _ ((S7.2 b (fun q => hn (by rw [q]; exact nC3))).trans e)) (by simp) (by simp) (by simp) (by walk_at "om"), ?_⟩
      have eA : (pairsM la lb).count [lo, hi] = aboveM rs lo hi vs.length := by
        unfold aboveM
        rw [List.getD_eq_getElem?_getD, ela, List.getD_eq_getElem?_getD, elb]; rfl
      rw [List.length_append, List.length_singleton, List.range_succ, List.map_append, eA]
      exact hU.append (.cons _ _ .nil)
  · intro D C s' m' vs hD hC hDC hns hpl hlen hU K
    have ks : Sub s.heap s'.heap := fun b o e => K.heap b o (by simp) (k1 _ _ e)
    have sD : s.heap.get? D = none := none_of_sub k1 hD
    have sC : s.heap.get? C = none := none_of_sub k1 hC
    have F1 : Fx (hideAll s.heap X) L s'.heap m := F0.up ks
    have hLn : s.heap.get? L ≠ none := by obtain ⟨o, _, _, e, _⟩ := N; rw [e]; simp
    have hCL : C ≠ L := fun q => hLn (by rw [← q]; exact sC)
    have hDL : D ≠ L := fun q => hLn (by rw [← q]; exact sD)
    walk_at "un"
    refine stL F1 O ?_
    intro h2 F2 S2
    refine ⟨fun o e => (S2.2 C hCL).trans e, fun h3 S3 => ?_⟩
    rw [hlen] at hU
    dsimp only at S2 S3 ⊢
    walk_at "un"
    have kT := K.toks
    dsimp only at kT
    have K0 : Kp [L] s s' := ⟨fun b o _ e => ks _ _ e, K.gens, fun t => K.tb (t.keep k1), K.drawn, K.os, by walk_at "om"⟩
    refine rest _ D vs (K0.grow [L] (fun b o hb hn e => (S3.2 b (fun q => hn (by rw [q]; exact sC))).trans ((S2.2 b (by simpa using hb)).trans e)) (fun b q => q) (by simp; walk_at "om") (by simp; walk_at "om") (Nat.le_succ _)) (F2.ns.sameBut S3 (Ne.symm hCL)) sD ?_ hU
    obtain ⟨nn, e⟩ := hpl
    exact ⟨_, (S3.2 _ hDC).trans ((S2.2 _ hDL).trans e), rfl, nn, rfl⟩

end
section
/- MovedL -/
local macro_rules | `(tactic| walk_at "halt") => `(tactic| first | with_reducible refine Mine.hlLc ?_ | with_reducible refine Mine.hlType ?_ | walk_at "h4")
theorem range14 : Builtin.Range.small 1 4 1 = true ∧ Builtin.Range.rangeSize 1 4 1 = 3 := by decide +kernel
theorem newRow_mo {mo : Int} {a b c : Nat} (e : mo = (a : Int) + c - b) (ha : (a : Int) ≤ 10) (hc : (c : Int) ≤ 10) : mo ≤ 20 := by omega
theorem newRow_le {mo : Int} {a b c d : Nat} (e : mo = (a : Int) + c - b) (hb : (b : Int) ≤ 10) (hc : (c : Int) ≤ 10) (hd : (d : Int) ≤ 10) : ((d + c : Nat) : Int) - mo ≤ 30 := by omega
theorem newRow_sum {p L c : Nat} {mo : Int} (hL : L ≤ 10) (h1 : mo ≤ 20) (h2 : (c : Int) - mo ≤ 30) : min p L + mo.toNat + ((c : Int) - mo).toNat + (L - p - c) ≤ 200 :=
  Nat.le_trans (Nat.add_le_add (Nat.add_le_add (Nat.add_le_add (Nat.le_trans (Nat.min_le_right p L) hL) (Int.toNat_le.mpr h1)) (Int.toNat_le.mpr h2)) (Nat.le_trans (Nat.sub_le _ _) (Nat.le_trans (Nat.sub_le _ _) hL))) (by decide)
theorem newRow_len {rs : List (List Nat)} (hl : ∀ r ∈ linesM rs, r.length ≤ 10) (lo hi k : Nat) : (newRowM rs lo hi k).length ≤ 200 := by
  have b1 : (aboveM rs lo hi k : Int) ≤ 10 := Int.ofNat_le.mpr (above_le hl lo hi k)
  have b2 : (aboveM rs lo hi (k - 1) : Int) ≤ 10 := Int.ofNat_le.mpr (above_le hl lo hi (k - 1))
  have b3 := lines_len hl k
  have b4 : (((linesM rs).getD k []).count hi : Int) ≤ 10 := Int.ofNat_le.mpr (Nat.le_trans List.count_le_length b3)
  have b5 : (((linesM rs).getD k []).count lo : Int) ≤ 10 := Int.ofNat_le.mpr (Nat.le_trans List.count_le_length b3)
  unfold newRowM repM
  try dsimp only
  have em : moreM rs lo hi k = (aboveM rs lo hi k : Int) + ((linesM rs).getD k []).count hi - aboveM rs lo hi (k - 1) := rfl
  generalize moreM rs lo hi k = mo at *
  generalize (linesM rs).getD k [] = r at *
  simp only [List.length_append, List.length_take, List.length_replicate, List.length_drop]
  exact newRow_sum b3 (newRow_mo em b1 b4) (newRow_le em b2 b4 b5)
theorem moved_nth {rs : List (List Nat)} {lo hi i : Nat} {r' : List Nat} (h : i < 3) (e : (movedM rs lo hi)[i]? = some r') : newRowM rs lo hi (i + 1) = r' := by
  rcases lt3 h with rfl | rfl | rfl <;> exact Option.some.inj e
theorem mix_at {rs : List (List Nat)} {ms : List (List Nat)} (h : rs.length = 3) (h2 : ms.length = 3) {i : Nat} (hi : i < 3) : ∃ r r', rs[i]? = some r ∧ ms[i]? = some r' ∧ ms.take i ++ rs.drop i = ms.take i ++ r :: rs.drop (i + 1) ∧ ms.take (i + 1) ++ rs.drop (i + 1) = ms.take i ++ r' :: rs.drop (i + 1) := by
  walk_at "un"
  refine ⟨rs[i], ms[i], List.getElem?_eq_getElem (by walk_at "om"), List.getElem?_eq_getElem (by walk_at "om"), ?_, ?_⟩
  · rw [List.drop_eq_getElem_cons (by walk_at "om")]
  · rw [List.take_succ, List.getElem?_eq_getElem (by walk_at "om"), Option.toList_some, List.append_assoc]; rfl

theorem moved_loop {w : World} {A : Around} {s : Shared} {L Dr Da Dl lo hi tl th : Nat} {m : Str → Option Value} {X Y : List Nat} {rs : List (List Nat)} {ad : List (Nat × Nat)} {va vl : List Value} {Q : Flow → Shared → Prop}
  {trr : Sem Flow} (htr : trr = execs ((stmtsAt w.params 195).drop 2) (envC w.params 195 L (movedCells L)))
  (HX : ∀ b : Nat, b ∈ X → s.heap.get? b ≠ none) (hYX : ∀ b, b ∈ Y → b ∈ X) (hLY : L ∈ Y) (h90 : 90 ∈ Y) (hadY : ∀ p ∈ ad, p.1 ∈ Y ∧ p.1 ≠ L ∧ 94 < p.1) (hnd : (ad.map (·.1)).Nodup) (h3 : ad.length = 3) (l94 : 94 < L)
  (G : Gr w (hideAll s.heap X)) (T : Tb s.heap) (hh : A.handled = none) (hd : A.depth + 8 < recursionLimit) (hu : A.units + 160 < cLine)
  (N : s.heap.Ns L m) (mr : m "rows" = some (.ref Dr)) (ma : m "above" = some (.ref Da))
  (cl : (hideAll s.heap X).IsCell (L + 1) (some (.str ⟨#[lo]⟩ tl))) (ch : (hideAll s.heap X).IsCell (L + 2) (some (.str ⟨#[hi]⟩ th))) (cn : (hideAll s.heap X).IsCell (L + 3) (some (.ref Dl)))
  (lr : (hideAll s.heap X).IsList Dr (ad.map fun p => Value.ref p.1).toArray)
  (la : (hideAll s.heap X).IsList Da va.toArray) (ia : IntsAre va ((List.range 4).map fun j => (aboveM rs lo hi j : Int)))
  (ll : (hideAll s.heap X).IsList Dl vl.toArray) (iv : TxtsAre vl (linesM rs))
  (htl : 0 < tl ∧ tl < s.toks) (hth : 0 < th ∧ th < s.toks)
  (hlo : lo = 65 ∨ lo = 97) (hhi : Let hi) (hlet : ∀ r ∈ linesM rs, ∀ c ∈ r, Let c) (R : RowsAt w X s.heap ad rs) (hl : ∀ r ∈ linesM rs, r.length ≤ 10) (hok : ∀ r ∈ rs, placeM lo r + (r.count lo + r.count hi) ≤ r.length)
  (hR : ∀ (D : Nat) s' us, Kp Y s s' → s.heap.get? D = none → s'.heap.PlainList D (List.toArray us) → TxtsAre us (movedM rs lo hi) → RowsAt w X s'.heap ad (movedM rs lo hi) → Q (.ret (.ref D)) s') :
  wpAny (model Challenge.rw_xg0051_01.row.prog w) A trr Q (fun _ _ => False) s := by
  subst htr
  have e1 : envC w.params 195 L (movedCells L) = envC w.params 195 L (movedCells L) := rfl
  conv at e1 => rhs; unfold envC
  conv at e1 => rhs; arg 2; whnf
  conv at e1 => rhs; arg 5; whnf
  rw [e1]
  clear e1
  have hL := hYX _ hLY
  have up0 : Sub (hideAll s.heap X) s.heap := fun b o e => of_hideAll _ e
  have hY0 : ∀ b : Nat, b ∈ (L :: ad.map (·.1)) → b ∈ Y := fun b q => by
    rcases List.mem_cons.mp q with q | q
    · rw [q]; exact hLY
    · obtain ⟨p, hp, rfl⟩ := List.mem_map.mp q; exact (hadY p hp).1
  have F0 : Fx (hideAll s.heap X) L s.heap (fun y => if y = Str.ofString "rows" then some (.ref Dr) else if y = Str.ofString "above" then some (.ref Da) else m y) :=
    Fx.cast ⟨N, up0⟩ fun y => by walk_at "upd"
  have hrs : rs.length = 3 := by have := R.1; walk_at "om"
  have hms : (movedM rs lo hi).length = 3 := rfl
  walk_at "un"
  refine wpAny_execs_cons ?_
  walk_at "hideN"
  refine wpAny_For ?_
  walk_at "go"
  refine call_range_2 ?_
  try dsimp only
  generalize eh1 : s.heap.push _ = h1
  have k1 : Sub s.heap h1 := fun b o q => by rw [← eh1]; exact Heap.get?_push_of_some _ q
  obtain ⟨ra, rb, rc, hr1⟩ : ∃ ra rb rc : Tok, IsRange h1 s.heap.objs.size 1 4 1 ra rb rc := ⟨_, _, _, by rw [← eh1]; exact IsRange.new _ _ _ _ _ _ _⟩
  have sz1 : h1.objs.size = s.heap.objs.size + 1 := by rw [← eh1]; exact Heap.size_push ..
  clear eh1
  walk_at "un"
  refine wpAny_pyIter_range hr1 range14.1 ?_
  rw [range14.2]
  try dsimp only
  have i1 : ∀ b : Nat, ∀ o, s.heap.get? b = some o → b < h1.objs.size := fun b o e => Heap.lt_size (k1 _ _ e)
  have i2 : ∀ b : Nat, b ∈ X → b < h1.objs.size := fun b q => by
    cases e : s.heap.get? b with
    | none => exact absurd e (HX b q)
    | some o => exact i1 b o e
  have iL := i2 _ hL
  have nI : h1.get? h1.objs.size = none := new_none _
  have push1 : ∀ ob, Sub h1 (h1.push ob) := fun ob b o e => Heap.get?_push_of_some _ e
  have stI : IsRangeIter (h1.push { cls := .type "range_iterator", data := .fields #[rawInt 1, rawInt 3, rawInt 1] }) h1.objs.size 1 3 1 := Heap.get?_push_size _ rfl
  generalize h1.objs.size = I at *
  have upp := fun b o e => push1 { cls := .type "range_iterator", data := .fields #[rawInt 1, rawInt 3, rawInt 1] } b o (k1 b o e)
  refine for_rule (Walks.range hh I 1 1 3)
    (fun i s' => Ex3 fun h tk' v => And6 (s' = { s with heap := h, toks := tk' }) (s.toks ≤ tk') (h.Ns L (ov movedNms v (fun y => if y = Str.ofString "rows" then some (.ref Dr) else if y = Str.ofString "above" then some (.ref Da) else m y))) (RowsAt w (I :: X) h ad ((movedM rs lo hi).take i ++ rs.drop i)) ((∀ b : Nat, ∀ o, b ∉ (L :: ad.map (·.1)) → b ≠ I → s.heap.get? b = some o → h.get? b = some o)) ((∀ b : Nat, b ∈ X → h.get? b ≠ none))) ?_ ?_ ?_ ?_ ?_
  · show IsRangeIter _ _ _ _ _
    simpa using stI
  · refine ⟨_, _, _, rfl, by walk_at "om", ((F0.up upp).ov0 _).ns, ?_, fun b o _ _ e => upp _ _ e, all_sub HX upp⟩
    rw [List.take_zero, List.nil_append, List.drop_zero]
    exact (R.move (h' := h1) [] (fun b o _ e => k1 b o e) (by simp) (by simp)).wide (push1 _) nI
  · rintro i s' h₁ tk₁ ⟨h, tk', v, rfl, t1, N1, R1, k2, X1⟩ hk' ht
    have hk2 : ∀ b : Nat, ∀ o, b ≠ I → h.get? b = some o → h₁.get? b = some o := fun b o hb e => hk' b o (by simpa using hb) e
    walk_at "un"
    refine ⟨h₁, tk₁, v, rfl, Nat.le_trans t1 ht, N1.at' (fun o e => hk2 _ _ (neN (by walk_at "om")) e), R1.move [I] (fun b o hb e => hk2 b o (by simpa using hb) e) (by simp) (fun p q => ?_), fun b o b1 b2 e => hk2 _ _ b2 (k2 b o b1 b2 e), ?_⟩
    · have := i2 _ (hYX _ (hadY p q).1)
      simp; walk_at "om"
    · intro b q
      cases e : h.get? b with
      | none => exact absurd e (X1 b q)
      | some o => rw [hk2 b o (neN (by have := i2 b q; walk_at "om")) e]; simp
  · rintro i x s₁ hi3 ⟨tx, rfl⟩ hJJ hst
    try walk_at "hideN"
    obtain ⟨h, tk', v, rfl, t1, N1, R1, k2, X1⟩ := hJJ
    obtain ⟨r, r', er, er', em1, em2⟩ := mix_at hrs hms hi3
    obtain ⟨⟨a, d⟩, hadi⟩ : ∃ p, ad[i]? = some p := ⟨_, List.getElem?_eq_getElem (by walk_at "om")⟩
    obtain ⟨haY, haL, ha94⟩ := hadY _ (List.mem_of_getElem? hadi)
    dsimp only at haY haL ha94
    have XI : ∀ b : Nat, b ∈ I :: X → h.get? b ≠ none := fun b q => by
      rcases List.mem_cons.mp q with q | q
      · have hst' : h.get? I = some _ := hst
        rw [q, hst']; simp
      · exact X1 b q
    have FJ : Fx (hideAll h (I :: X)) L h _ := ⟨N1, fun b o e => of_hideAll _ e⟩
    have OJ : (hideAll h (I :: X)).get? L = none := hideAll_none _ (List.mem_cons_of_mem _ hL)
    walk_at "un"
    refine wpAny_assign_Name (stL FJ OJ ?_)
    intro h4 F4 S4
    have ek : (1 : Int) + (i : Int) * 1 = ((i + 1 : Nat) : Int) := by walk_at "om"
    rw [ek] at F4
    dsimp only at S4
    have upX : Sub (hideAll s.heap X) (hideAll h4 (I :: X)) := fun b o e => by
      have e0 := of_hideAll _ e
      have nb := (hid_get e).2
      have bI : b ≠ I := Nat.ne_of_lt (i1 b o e0)
      refine hideAll_get _ ((S4.2 b (fun q => nb (by rw [q]; exact hL))).trans (k2 b o (fun q => nb (hYX _ (hY0 _ q))) bI e0)) (fun q => ?_)
      rcases List.mem_cons.mp q with q | q
      · exact bI q
      · exact nb q
    have X4 := all_same XI S4 F4.ns
    have R4 : RowsAt w (I :: X) h4 ad ((movedM rs lo hi).take i ++ r :: rs.drop (i + 1)) := by
      rw [← em1]
      exact R1.move [L] (fun b o hb e => (S4.2 b (by simpa using hb)).trans e) (by simp [hL]) (fun p q => by have := (hadY p q).2.1; simpa using this)
    have tl3 : ((movedM rs lo hi).take i).length = i := by rw [List.length_take, hms]; walk_at "om"
    have hadj : ad[((movedM rs lo hi).take i).length]? = some (a, d) := by rw [tl3]; exact hadi
    have Rr : RowAt w (I :: X) h4 a d r := R4.2 _ a d r hadj (by simp)
    have elr : (linesM rs)[i + 1]? = some r := by
      show (rs ++ [[]])[i]? = some r
      rw [List.getElem?_append_left (by walk_at "om")]; exact er
    obtain ⟨tv, ev⟩ := iv.get elr
    have rmem := List.mem_of_getElem? elr
    have hnr : newRowM rs lo hi (i + 1) = r' := by
      exact moved_nth hi3 er'
    have mt := moved_turn (by exact rfl) (A := A) (Q := fun f s₃ => match f with
        | .next | .cont => (Ex3 fun h tk' v => And6 (s₃ = { s with heap := h, toks := tk' }) (s.toks ≤ tk') (h.Ns L (ov movedNms v (fun y => if y = Str.ofString "rows" then some (.ref Dr) else if y = Str.ofString "above" then some (.ref Da) else m y))) (RowsAt w (I :: X) h ad ((movedM rs lo hi).take (i + 1) ++ rs.drop (i + 1))) ((∀ b : Nat, ∀ o, b ∉ (L :: ad.map (·.1)) → b ≠ I → s.heap.get? b = some o → h.get? b = some o)) ((∀ b : Nat, b ∈ X → h.get? b ≠ none))) ∧ ∀ b ∈ [I], ∀ o, h.get? b = some o → s₃.heap.get? b = some o
        | _ => False) (s := { s with heap := h4, toks := tk' + 1 }) (k := i + 1) (r := r) (rs := rs) (a := a) (d := d) (lo := lo) (hi := hi) X4 (List.mem_cons_of_mem _ hL) (List.mem_cons_of_mem _ (hYX _ haY)) haL (G.up upX) hh (by walk_at "om") (by walk_at "om") F4.ns rfl rfl rfl
        (cl.keeps upX) (ch.keeps upX) (cn.keeps upX) (IsL.keeps lr upX) (by rw [Nat.add_sub_cancel, List.getElem?_map, hadi]; rfl) (IsL.keeps la upX) ia (IsL.keeps ll upX) ev elr ⟨htl.1, by dsimp only; walk_at "om"⟩ ⟨hth.1, by dsimp only; walk_at "om"⟩ ⟨by walk_at "om", by walk_at "om"⟩ hlo hhi (hlet r rmem) Rr hl (hok r (List.mem_of_getElem? er)) ?_
    · have e1 : envC w.params 195 L (movedCells L) = envC w.params 195 L (movedCells L) := rfl
      conv at e1 => rhs; unfold envC
      conv at e1 => rhs; arg 2; whnf
      conv at e1 => rhs; arg 5; whnf
      rw [e1] at mt
      walk_at "un"
      refine wpAny_mono mt (fun f s₃ z => ?_) fun _ _ x => x.elim
      cases f with
      | next => exact z
      | cont => exact z
      | brk => exact z.elim
      | ret v => exact z.elim
    · intro h' m' tk2 u1 N' hm' R' k'
      dsimp only at u1 k'
      rw [hnr] at R'
      walk_at "un"
      refine ⟨⟨h', tk2, m', rfl, by walk_at "om", (Fx.forget movedNms (fx_at N') (fun z hz => ?_)).ns, ?_, fun b o c1 c2 e => k' b o (fun q => c1 (by rw [q]; exact List.mem_cons_self ..)) (fun q => c1 (by rw [q]; exact List.mem_cons_of_mem _ (List.mem_map.mpr ⟨_, List.mem_of_getElem? hadi, rfl⟩))) ((S4.2 b (fun q => c1 (by rw [q]; exact List.mem_cons_self ..))).trans (k2 b o c1 c2 e)), fun b q => ?_⟩, fun b hb o e => ?_⟩
      · rw [hm' z hz, if_neg (fun q => by rw [q] at hz; revert hz; decide)]
        unfold ov
        rw [hz]; rfl
      · rw [em2]
        refine R4.step (Y := [L, a]) hadj hnd (fun b o hb e => k' b o (fun q => hb (by rw [q]; simp)) (fun q => hb (by rw [q]; simp)) e) (fun b q => ?_) (fun p q => ?_) R'
        · simp only [List.mem_cons, List.not_mem_nil, or_false] at q
          rcases q with q | q <;> (replace q := q.symm; subst q)
          · exact List.mem_cons_of_mem _ hL
          · exact List.mem_cons_of_mem _ (hYX _ haY)
        · by_cases hp : p.1 = a
          · exact .inl hp
          · refine .inr fun z => ?_
            simp only [List.mem_cons, List.not_mem_nil, or_false] at z
            rcases z with z | z
            · exact (hadY p q).2.1 z
            · exact hp z
      · by_cases hb : b = L ∨ b = a
        · rcases hb with hb | hb <;> (replace hb := hb.symm; subst hb)
          · obtain ⟨o, _, _, e, _⟩ := N'; rw [e]; simp
          · obtain ⟨_, _, e, _⟩ := R'; rw [e]; simp
        · cases e : h4.get? b with
          | none => exact absurd e (X4 b (List.mem_cons_of_mem _ q))
          | some o => rw [k' b o (fun q => hb (.inl q)) (fun q => hb (.inr q)) e]; simp
      · have hbI : b = I := by simpa using hb
        subst hbI
        have := i2 _ (hYX _ haY)
        exact k' _ _ (neN (by walk_at "om")) (neN (by walk_at "om")) ((S4.2 _ (neN (by walk_at "om"))).trans e)
  · rintro s₂ hJJ
    try walk_at "hideN"
    obtain ⟨h, tk', v, rfl, t1, N1, R1, k2, X1⟩ := hJJ
    have e3 : (movedM rs lo hi).take 3 ++ rs.drop 3 = movedM rs lo hi := by
      rw [List.drop_eq_nil_of_le (by walk_at "om"), List.append_nil]; rfl
    rw [e3] at R1
    have I94 : 94 < I := by walk_at "om"
    have K1 : Kp (I :: Y) s { s with heap := h, toks := tk' } := ((Kp.refl _ s)).grow (I :: L :: ad.map (·.1)) (fun b o hb _ e => k2 b o (fun q => hb (List.mem_cons_of_mem _ q)) (fun q => hb (by rw [q]; exact List.mem_cons_self ..)) e) (fun b q => by
        rcases List.mem_cons.mp q with q | q
        · rw [q]; exact List.mem_cons_self ..
        · exact List.mem_cons_of_mem _ (hY0 _ q)) (fun q => by
        rcases List.mem_cons.mp q with q | q
        · have q' : (90 : Nat) = I := q; walk_at "om"
        · rcases List.mem_cons.mp q with q | q
          · have q' : (90 : Nat) = L := q; walk_at "om"
          · obtain ⟨p, hp, q⟩ := List.mem_map.mp q; have := (hadY p hp).2.2; have q' : p.1 = (90 : Nat) := q; walk_at "om") (fun q => by
        rcases List.mem_cons.mp q with q | q
        · have q' : (94 : Nat) = I := q; walk_at "om"
        · rcases List.mem_cons.mp q with q | q
          · have q' : (94 : Nat) = L := q; walk_at "om"
          · obtain ⟨p, hp, q⟩ := List.mem_map.mp q; have := (hadY p hp).2.2; have q' : p.1 = (94 : Nat) := q; walk_at "om") t1
    have T1 : Tb h := K1.tb T
    have nIs : s.heap.get? I = none := by
      cases e : s.heap.get? I with
      | none => rfl
      | some o => exact absurd (i1 I o e) (Nat.lt_irrefl _)
    have upX : Sub (hideAll s.heap X) (hideAll h X) := fun b o e => hideAll_get _ (k2 b o (fun q => (hid_get e).2 (hYX _ (hY0 _ q))) (Nat.ne_of_lt (i1 b o (of_hideAll _ e))) (of_hideAll _ e)) (hid_get e).2
    have R2 : RowsAt w X h ad (movedM rs lo hi) := R1.weak fun b q => List.mem_cons_of_mem _ q
    have F1 : Fx (hideAll h X) L h _ := ⟨N1, fun b o e => of_hideAll _ e⟩
    have hDr : h.IsList Dr (ad.map fun p => Value.ref p.1).toArray := IsL.keeps lr fun b o e => of_hideAll _ (upX _ _ e)
    have Gh : Gr w h := G.up fun b o e => of_hideAll _ (upX _ _ e)
    walk_at "un"
    refine wpAny_execs_nil ?_
    try dsimp only
    walk_at "go"
    refine comp_eval (X := [90]) ?_
    walk_at "go"
    refine src_list (s := { s with heap := h, toks := tk' }) hh hDr (fun vs _ => TxtsAre vs ((movedM rs lo hi).take vs.length)) (by simp [h3]) (XOk.tab T1) Gh.lt94 .nil (fun _ _ _ q _ => q) ?_ ?_
    · intro C vs v2 s₃ m₃ hlt hC hv hU K hns hm
      have hlt3 : vs.length < 3 := by simpa [h3] using hlt
      obtain ⟨⟨a, d⟩, hadi⟩ : ∃ p, ad[vs.length]? = some p := ⟨_, List.getElem?_eq_getElem (by walk_at "om")⟩
      obtain ⟨haY, haL, ha94⟩ := hadY _ (List.mem_of_getElem? hadi)
      dsimp only at haY haL ha94
      obtain ⟨r, hr⟩ : ∃ r, (movedM rs lo hi)[vs.length]? = some r := ⟨_, List.getElem?_eq_getElem (by walk_at "om")⟩
      have hv2 : v2 = .ref a := by
        have e : (ad.map fun p => Value.ref p.1)[vs.length]? = some v2 := by simpa using hv
        rw [List.getElem?_map, hadi] at e
        exact (Option.some.inj e).symm
      subst hv2
      have Rr := R2.2 _ a d r hadi hr
      have R3 : RowAt w X s₃.heap a d r := Rr.move (hid_sub fun b o hb e => K.heap b o (fun q => hb (by rw [List.mem_singleton.mp q]; exact hYX _ h90)) e) (fun o e => K.heap a o (fun q => by have q' : a = 90 := List.mem_singleton.mp q; walk_at "om") e)
      obtain ⟨items, n, ea, eD, eP⟩ := R3
      have up3 : Sub (hideAll s.heap X) s₃.heap := fun b o e => K.heap b o (fun q => (hid_get e).2 (by rw [List.mem_singleton.mp q]; exact hYX _ h90)) (of_hideAll _ (upX _ _ e))
      have F5 : Fx (hideAll s.heap X) C s₃.heap (fun y => if y = Str.ofString "row" then some (.ref a) else m₃ y) := Fx.cast ⟨hns, up3⟩ fun y => by
        split
        · rename_i q; rw [q]; exact hm
        · rfl
      have T3 : Tb s₃.heap := K.tb T1
      have rl : items.size ≤ 1000 := by
        have h1 : r.length ≤ 200 := by
          have := List.mem_of_getElem? hr
          simp only [movedM, List.mem_cons, List.not_mem_nil, or_false] at this
          rcases this with rfl | rfl | rfl <;> exact newRow_len hl _ _ _
        rw [eP.1]; walk_at "om"
      walk_at "go"
      refine str_acc ⟨G.up up3, by walk_at "om", by walk_at "om", hh⟩ T3 ea (eD.up fun b o e => of_hideAll _ e) (eP.up fun b o e => of_hideAll _ e) rl ?_
      intro s4 t4 K4
      walk_at "un"
      refine ⟨K4, ?_⟩
      rw [List.length_append, List.length_singleton, List.take_succ, hr]
      exact hU.snoc r t4
    · intro D C s' m' us hD hC hDC hns hpl hlen hU K h' S
      have hus : us.length = 3 := by rw [hlen]; simp [h3]
      rw [hus] at hU
      have sub0 : ∀ b : Nat, s.heap.get? b ≠ none → h.get? b ≠ none := fun b hb => by
        by_cases q : b ∈ X
        · exact X1 b q
        · cases e : s.heap.get? b with
          | none => exact absurd e hb
          | some o => rw [k2 b o (fun z => q (hYX _ (hY0 _ z))) (Nat.ne_of_lt (i1 b o e)) e]; simp
      have sD : s.heap.get? D = none := by
        cases e : s.heap.get? D with
        | none => rfl
        | some o => exact absurd hD (sub0 D (by rw [e]; simp))
      have sC : s.heap.get? C = none := by
        cases e : s.heap.get? C with
        | none => rfl
        | some o => exact absurd hC (sub0 C (by rw [e]; simp))
      have kC : ∀ b : Nat, ∀ o, h.get? b = some o → b ≠ C := fun b o e q => by rw [q] at e; have hC' : h.get? C = none := hC; rw [hC'] at e; cases e
      have Kf : Kp Y s { s' with heap := h' } := ((K1.trans (K.weak fun b q => by rw [List.mem_singleton.mp q]; exact List.mem_cons_of_mem _ h90)).less nIs).grow [] (fun b o _ hn e => (S.2 b (fun q => hn (by rw [q]; exact sC))).trans e) (by simp) (by simp) (by simp) (Nat.le_refl _)
      walk_at "un"
      refine hR D _ us Kf sD (let ⟨nn, e⟩ := hpl; ⟨nn, (S.2 _ hDC).trans e⟩) hU ?_
      refine R2.move [90] (fun b o hb e => (S.2 b (kC b o e)).trans (K.heap b o hb e)) (fun b q => by rw [List.mem_singleton.mp q]; exact hYX _ h90) (fun p q => ?_)
      have := (hadY p q).2.2
      simp; walk_at "om"

end
section
/- Moved6 -/
local macro_rules | `(tactic| walk_at "halt") => `(tactic| first | with_reducible refine Mine.hlAddR ?_ | with_reducible refine Mine.hlAsgLc ?_ | walk_at "h4")
theorem law_moved_spec {w : World} {A : Around} {s : Shared} {RR : Result → Shared → Prop} {Dr Dt lo hi tl th : Nat} {X : List Nat} {ad : List (Nat × Nat)} {rs : List (List Nat)} {vt : List Value}
  (C : Cx w A s 12) (T : Tb s.heap) (HX : ∀ b : Nat, b ∈ X → s.heap.get? b ≠ none) (h90 : 90 ∈ X) (G0 : Gr w (hideAll s.heap X))
  (had : ∀ p ∈ ad, p.1 ∈ X ∧ 94 < p.1) (hnd : (ad.map (·.1)).Nodup) (had3 : ad.length = 3) (hD : (hideAll s.heap X).IsList Dr (ad.map fun p => Value.ref p.1).toArray)
  (hT : (hideAll s.heap X).IsList Dt vt.toArray) (it : TxtsAre vt rs) (R : RowsAt w X s.heap ad rs) (htl : 0 < tl ∧ tl < s.toks) (hth : 0 < th ∧ th < s.toks)
  (hlo : lo = 65 ∨ lo = 97) (hhi : Let hi) (hlet : ∀ r ∈ rs, ∀ c ∈ r, Let c) (hl : ∀ r ∈ rs, r.length ≤ 10) (hok : ∀ r ∈ rs, placeM lo r + (r.count lo + r.count hi) ≤ r.length)
  (hR : ∀ (D : Nat) s' us, Kp X s s' → s.heap.get? D = none → s'.heap.PlainList D (List.toArray us) → TxtsAre us (movedM rs lo hi) → RowsAt w X s'.heap ad (movedM rs lo hi) → RR (.ok (.ret (.ref D))) s') :
  codeAny (model Challenge.rw_xg0051_01.row.prog w) A (.call (.ref 195) ⟨[.ref Dr, .ref Dt, .str ⟨#[lo]⟩ tl, .str ⟨#[hi]⟩ th], []⟩) RR s := by
  have G := C.G
  have hd' := C.hd
  have hh := C.hh
  have hu' := C.hu
  have hsub : Sub (hideAll s.heap X) s.heap := fun b o e => of_hideAll _ e
  refine' enterC [("rows", .ref Dr), ("texts", .ref Dt), ("low", .str ⟨#[lo]⟩ tl), ("high", .str ⟨#[hi]⟩ th)] (hideAll s.heap X) G.k G.nolimit (by first | exact fun _ _ e => e | assumption) ?k1 ?k2 ?k3 ?k4 ?k5 ?_ ?c2 ?c3 ?c4
  case k1 => k_is
  case k2 => k_is
  case k3 => walk_at "om"
  case k4 => first | exact BindsTo.of_eq rfl | exact binds_K G.k rfl (by k_is) rfl rfl rfl
  case k5 => (intro n y hy; simp only [List.mem_cons, List.not_mem_nil, or_false] at hy; repeat' (rcases hy with rfl | hy)); all_goals first | (subst hy; exact .inl rfl) | (subst hy; exact .inr ⟨rfl, rfl⟩) | exact .inl rfl | exact .inr ⟨rfl, rfl⟩
  case c2 => exact rfl
  case c3 => exact rfl
  case c4 => exact rfl
  intro L h' A' tk0 hL hkeep F hcells O eh ed eu htk
  have hh' : A'.handled = none := eh.trans hh
  have F0 : Fx (hideAll s.heap X) L h' (fun y => if y = Str.ofString "texts" then some (.ref Dt) else if y = Str.ofString "rows" then some (.ref Dr) else none) := F
  have cl : h'.IsCell (L + 1) (some (.str ⟨#[lo]⟩ tl)) := hcells "low" (L + 1) rfl
  have ch : h'.IsCell (L + 2) (some (.str ⟨#[hi]⟩ th)) := hcells "high" (L + 2) rfl
  have cn : h'.IsCell (L + 3) none := hcells "lines" (L + 3) rfl
  clear F hcells
  have OL := O L (Nat.le_refl _)
  have O3 := O (L + 3) (Nat.le_add_right _ _)
  have hvt : vt.length = rs.length := it.length
  have hrs : rs.length = 3 := by have := R.1; walk_at "om"
  walk_at "go"
  rename_i e1 h1 F1 K1 l1 nw1
  have hT1 := IsL.keeps hT F1.keep
  refine addL (vs := [Value.str (Str.ofString "") tk0]) l1 hT1 ?_ (by simp; walk_at "om")
  try dsimp only
  generalize eh2 : h1.push _ = h2
  have K2 : Sub h1 h2 := fun b o e => by rw [← eh2]; exact Heap.get?_push_of_some _ e
  have l2 : h2.IsList h1.objs.size ([Value.str (Str.ofString "") tk0] ++ vt).toArray := ⟨_, by rw [← eh2]; exact Heap.get?_push_size _ rfl, rfl, 0, rfl⟩
  generalize h1.objs.size = e2 at l2
  have F2 := F1.up K2
  walk_at "go"
  rename_i e3 h3 F3 K3 l3 nw3
  refine addL (ws := [Value.str (Str.ofString "") (tk0 + 1)]) (IsL.keeps l2 K3) l3 ?_ (by simp; walk_at "om")
  try dsimp only
  generalize eh4 : h3.push _ = h4
  have K4 : Sub h3 h4 := fun b o e => by rw [← eh4]; exact Heap.get?_push_of_some _ e
  have l4 : h4.IsList h3.objs.size ((Value.str ⟨([] : List Nat).toArray⟩ tk0 :: vt ++ [Value.str ⟨([] : List Nat).toArray⟩ (tk0 + 1)]).toArray) := ⟨_, by rw [← eh4]; exact Heap.get?_push_size _ rfl, rfl, 0, by rw [ofE]; rfl⟩
  have nDl : h'.get? h3.objs.size = none := none_of_sub (fun b o e => K3 _ _ (K2 _ _ (K1 _ _ e))) (new_none h3)
  generalize h3.objs.size = Dl at l4 nDl
  have F4 := F3.up K4
  have up4 : Sub h' h4 := fun b o e => K4 _ _ (K3 _ _ (K2 _ _ (K1 _ _ e)))
  walk_at "un"
  refine stG F4 (by rfl) (cn.keeps up4) O3 (by show (L : Nat) ≠ L + 3; walk_at "om") ?_
  intro h5 F5 S5 c5
  dsimp only at S5
  have hL' : L = s.heap.objs.size := hL
  have l94 : 94 < L := by
    have := ltN C.G.lt94
    walk_at "om"
  have nLs : ∀ b : Nat, L ≤ b → s.heap.get? b = none := fun b hb => by
    cases q : s.heap.get? b with
    | none => rfl
    | some o => have := ltN (Heap.lt_size q); walk_at "om"
  have sub5 : Sub s.heap h5 := fun b o e => (S5.2 b (fun q => by rw [q, nLs _ (by walk_at "om")] at e; cases e)).trans (up4 _ _ (hkeep _ _ e))
  have k5 : ∀ b : Nat, ∀ o, b ≠ L + 3 → h'.get? b = some o → h5.get? b = some o := fun b o hb e => (S5.2 b hb).trans (up4 _ _ e)
  have nX : ∀ b : Nat, L ≤ b → b ∉ X := fun b hb q => HX b q (nLs b hb)
  have notLX : ∀ b : Nat, L < b → b ∉ L :: X := fun b hb q => by
    rcases List.mem_cons.mp q with q | q
    · walk_at "om"
    · exact nX b (by walk_at "om") q
  have upX : Sub (hideAll s.heap X) (hideAll h5 (L :: X)) := fun b o e => hideAll_get _ (sub5 _ _ (of_hideAll _ e)) (fun q => by
    rcases List.mem_cons.mp q with q | q
    · have := of_hideAll _ e; rw [q, nLs _ (Nat.le_refl _)] at this; cases this
    · exact (hid_get e).2 q)
  have cl5 : (hideAll h5 (L :: X)).IsCell (L + 1) (some (.str ⟨#[lo]⟩ tl)) := let ⟨o, e, r⟩ := cl; ⟨o, hideAll_get _ (k5 _ _ (by walk_at "om") e) (notLX _ (by walk_at "om")), r⟩
  have ch5 : (hideAll h5 (L :: X)).IsCell (L + 2) (some (.str ⟨#[hi]⟩ th)) := let ⟨o, e, r⟩ := ch; ⟨o, hideAll_get _ (k5 _ _ (by walk_at "om") e) (notLX _ (by walk_at "om")), r⟩
  have cn5 : (hideAll h5 (L :: X)).IsCell (L + 3) (some (.ref Dl)) := let ⟨o, e, r⟩ := c5; ⟨o, hideAll_get _ e (notLX _ (by walk_at "om")), r⟩
  have hLx : h'.get? L ≠ none := by obtain ⟨o, _, _, e, _⟩ := F0.ns; rw [e]; simp
  have hL3 : h'.get? (L + 3) ≠ none := by obtain ⟨o, e, _⟩ := cn; rw [e]; simp
  have ll5 : (hideAll h5 (L :: X)).IsList Dl (.str ⟨([] : List Nat).toArray⟩ tk0 :: vt ++ [.str ⟨([] : List Nat).toArray⟩ (tk0 + 1)] : List Value).toArray := by
    obtain ⟨o, e, r⟩ := l4
    walk_at "un"
    refine ⟨o, hideAll_get _ ((S5.2 _ (fun q => hL3 (by rw [← q]; exact nDl))).trans e) (fun q => ?_), r⟩
    rcases List.mem_cons.mp q with q | q
    · exact hLx (by rw [← q]; exact nDl)
    · cases e2 : s.heap.get? Dl with
      | none => exact HX Dl q e2
      | some o2 => rw [hkeep _ _ e2] at nDl; cases nDl
  have iv : TxtsAre (.str ⟨([] : List Nat).toArray⟩ tk0 :: vt ++ [.str ⟨([] : List Nat).toArray⟩ (tk0 + 1)]) (linesM rs) := (TxtsAre.cons [] tk0 it).snoc [] (tk0 + 1)
  have lin : ∀ r ∈ linesM rs, r ∈ rs ∨ r = [] := fun r q => by
    unfold linesM at q
    simp at q
    rcases q with q | q | q
    · exact .inr q
    · exact .inl q
    · exact .inr q
  have hlet' : ∀ r ∈ linesM rs, ∀ c ∈ r, Let c := fun r q c hc => by
    rcases lin r q with h | h
    · exact hlet r h c hc
    · subst h; simp at hc
  have hl' : ∀ r ∈ linesM rs, r.length ≤ 10 := fun r q => by
    rcases lin r q with h | h
    · exact hl r h
    · subst h; simp
  have K5 : Kp [] s { s with heap := h5, toks := tk0 + 1 + 1 } := Kp.of sub5 (by walk_at "om")
  have HX5 : ∀ b : Nat, b ∈ L :: X → h5.get? b ≠ none := fun b q => by
    rcases List.mem_cons.mp q with q | q
    · rw [q]; obtain ⟨o, _, _, e, _⟩ := F5.ns; rw [e]; simp
    · exact all_sub HX sub5 b q
  walk_at "un"
  refine (moved_above (by exact rfl) (s := { s with heap := h5, toks := tk0 + 1 + 1 }) (X := L :: X) (rs := rs) (List.mem_cons_self ..) (G0.up upX) hh' (by walk_at "om") (by walk_at "om") (by have := ltN (Heap.lt_size (cl5.choose_spec.1)); rw [hideAll_size] at this; show (94 : Nat) < h5.objs.size; walk_at "om") l94 F5.ns cl5 ch5 cn5 ll5 iv hrs hlet' hl' (by show 0 < tk0 + 1 + 1; walk_at "om") ?_ : wpAny _ _ _ _ _ _)
  intro s2 Da va K2 N2 nDa la ia
  have up2 : Sub (hideAll h5 (L :: X)) (hideAll s2.heap (L :: X)) := hid_sub fun b o hb e => K2.heap b o (fun q => hb (by rw [List.mem_singleton.mp q]; exact List.mem_cons_self ..)) e
  have HX2 : ∀ b : Nat, b ∈ L :: X → s2.heap.get? b ≠ none := fun b q => by
    by_cases hb : b = L
    · rw [hb]; obtain ⟨o, _, _, e, _⟩ := N2; rw [e]; simp
    · cases e : h5.get? b with
      | none => exact absurd e (HX5 b q)
      | some o => rw [K2.heap b o (by simpa using hb) e]; simp
  have kt2 := K2.toks
  dsimp only at kt2
  have upS : Sub (hideAll s.heap X) (hideAll s2.heap (L :: X)) := fun b o e => up2 _ _ (upX _ _ e)
  walk_at "un"
  refine (moved_loop (by exact rfl) (X := L :: X) (Y := L :: X) (rs := rs) (ad := ad) (lo := lo) (hi := hi) HX2 (fun b q => q) (List.mem_cons_self ..) (List.mem_cons_of_mem _ h90) (fun p q => ⟨List.mem_cons_of_mem _ (had p q).1, fun z => nX L (Nat.le_refl _) (by rw [← z]; exact (had p q).1), (had p q).2⟩) hnd had3 l94
    (G0.up upS) (K2.tb (K5.tb T)) hh' (by walk_at "om") (by walk_at "om") N2 rfl rfl (cl5.keeps up2) (ch5.keeps up2) (cn5.keeps up2) (IsL.keeps hD upS) ?_ ia (IsL.keeps ll5 up2) iv ⟨htl.1, by walk_at "om"⟩ ⟨hth.1, by walk_at "om"⟩ hlo hhi hlet' ?_ hl' hok ?_ : wpAny _ _ _ _ _ _)
  · obtain ⟨o, e, r⟩ := la
    walk_at "un"
    refine ⟨o, hideAll_get _ e (fun q => HX5 Da q nDa), r⟩
  · refine ⟨R.1, fun j a d r e1 e2 => (R.2 j a d r e1 e2).move upS fun o e => K2.heap a o ?_ (sub5 _ _ e)⟩
    have haX := (had _ (List.mem_of_getElem? e1)).1
    intro z
    exact nX L (Nat.le_refl _) (by rw [← List.mem_singleton.mp z]; exact haX)
  · intro D s' us K' nD hpl hus hrows
    have Kx : Kp (L :: X) s s' := ((K5.weak fun b q => absurd q (List.not_mem_nil)).trans (K2.weak fun b q => by rw [List.mem_singleton.mp q]; exact List.mem_cons_self ..)).trans K'
    walk_at "un"
    refine hR D s' us (Kx.less (nLs L (Nat.le_refl _))) ?_ hpl hus (hrows.weak fun b q => List.mem_cons_of_mem _ q)
    cases e : s.heap.get? D with
    | none => rfl
    | some o =>
      exfalso
      by_cases q : D ∈ L :: X
      · exact HX2 D q nD
      · rw [K2.heap D o (fun z => q (by rw [List.mem_singleton.mp z]; exact List.mem_cons_self ..)) (sub5 _ _ e)] at nD; cases nD

end
section
/- Items -/
theorem entry_itemiter : entryFor table "dict_itemiterator.__iter__" = some Builtin.«dict_keyiterator.__iter__» :=
  entryFor_alias (id' := "dict_keyiterator.__iter__") (by rw [fastTable_eq_tree]; kernel_rfl) (by first | rfl | decide +kernel) (by decide +kernel) (by rw [fastTable_eq_tree]; kernel_rfl)
theorem walks_items {prog : Program} {w : World} {A : Around} {K : Type} [DecidableEq K] {knd : KeyKind prog w K} (hh : A.handled = none) (I d : Addr) (hne : d ≠ I) (kvs : List (K × Value)) (ep : Nat) :
    WalksU prog w A I [I, d] [I] kvs.length (fun i vals => ∃ k v key, kvs[i]? = some (k, v) ∧ knd.is k key = true ∧ vals = #[key, v])
      (fun i h => (∃ ok ov, IsItemIter h I d i kvs.length ep ok ov) ∧ h.DictAt knd d kvs ep)
      (fun i T h => T ≠ I ∧ (∃ ok ov, IsItemIterOut h I d (i + 1) kvs.length ep ok ov T) ∧ h.DictAt knd d kvs ep) where
  sub := fun b hb => by simp at hb; simp [hb]
  frame := fun _ _ _ st hk => ⟨let ⟨ok, ov, e⟩ := st.1; ⟨ok, ov, hk I (by simp) _ e⟩, st.2.at fun o e => hk d (by simp) o e⟩
  item := fun i s Q E hi st hQ => by
    obtain ⟨⟨ok, ov, hit⟩, hm⟩ := st
    have hx : kvs[i]? = some (kvs[i].1, kvs[i].2) := List.getElem?_eq_getElem hi
    refine wpAny_pyNext_items_item hit hm hx fun key h' hkey hout htup hsz hk => ?_
    have nT : s.heap.objs.size ≠ I := fun q => by have := Heap.lt_size hit; rw [q] at this; exact Nat.lt_irrefl _ this
    exact hQ _ #[key, kvs[i].2] h' s.toks ⟨_, _, key, hx, hkey, rfl⟩ ⟨_, htup, rfl, _, rfl⟩ ⟨nT, ⟨_, _, hout⟩, hm.at fun o e => hk _ _ hne e⟩ fun b o hb e => hk b o (fun h => hb (by simp [h])) e
  go := fun elts k pos i T s Q E hm hQ => by
    obtain ⟨nT, ⟨ok, ov, hout⟩, hd⟩ := hm
    refine wpAny_letOwnedTupleGo_items hout fun h' hit hs => ?_
    exact hQ h' ⟨⟨_, _, hit⟩, hd.extBut (Heap.SameBut.extBut hs) hne⟩ fun b o hb e => Heap.SameBut.extBut hs b o (fun h => hb (by simp [h])) e
  apart := fun _ T _ hm hmem => hm.1 (List.mem_singleton.mp hmem)
  done := fun s Q E st hQ => by
    obtain ⟨⟨ok, ov, hit⟩, hm⟩ := st
    exact wpAny_pyNext_items_end hh hit hm (by simp) fun h' he' => hQ h' s.toks fun b o hb e => he' b o (fun h => hb (by simp [h])) e
  self := fun i s Q E st hQ => by
    obtain ⟨⟨ok, ov, hit⟩, hm⟩ := st
    have hT : s.TypeIs (.ref I) "dict_itemiterator" := ⟨_, hit, rfl⟩
    refine wpAny_pyIter_slot hT F.slot_dict_itemiterator_iter (wpAny_call_entry F.slot_dict_itemiterator_iter hT entry_itemiter ?_ (F.args_dict_itemiterator_iter_1 _))
    show wpAny _ _ (ret (.ref I)) _ _ s
    exact wpAny_pure ⟨_, rfl, "dict_itemiterator", _, hT, F.slot_dict_itemiterator_next.lookup, hQ⟩

/-- integers by keys: the map told by a list of pairs -/
noncomputable def putI (ms : List (Str × Int)) (k : Str) (x : Int) : List (Str × Int) :=
  if ms.any (fun kv => kv.1 = k) then ms.map (fun kv => if kv.1 = k then (kv.1, x) else kv) else ms ++ [(k, x)]
noncomputable def atI (ms : List (Str × Int)) (k : Str) : Option Int := (ms.find? fun kv => kv.1 = k).map (·.2)
noncomputable def addI (ms : List (Str × Int)) (kv : Str × Int) : List (Str × Int) := putI ms kv.1 (match atI ms kv.1 with | some z => z + kv.2 | none => kv.2)
inductive KvI : List (Str × Value) → List (Str × Int) → Prop
  | nil : KvI [] []
  | cons {k : Str} {x : Int} {t : Tok} {kvs ms} : KvI kvs ms → KvI ((k, .int x t) :: kvs) ((k, x) :: ms)
theorem KvI.length {kvs ms} (h : KvI kvs ms) : kvs.length = ms.length := by
  induction h with
  | nil => rfl
  | cons _ ih => simp [ih]
theorem KvI.keys {kvs ms} (h : KvI kvs ms) : kvs.map (·.1) = ms.map (·.1) := by
  induction h with
  | nil => rfl
  | cons _ ih => simp [ih]
theorem KvI.get {kvs ms} (h : KvI kvs ms) {i : Nat} {k : Str} {v : Value} (e : kvs[i]? = some (k, v)) : ∃ x t, v = .int x t ∧ ms[i]? = some (k, x) := by
  induction h generalizing i with
  | nil => simp at e
  | cons _ ih =>
    cases i with
    | zero => simp at e; exact ⟨_, _, e.2.symm, by simp [e.1]⟩
    | succ i => simp at e; obtain ⟨x, t, a, b⟩ := ih e; exact ⟨x, t, a, by simpa using b⟩
theorem KvI.append {kvs ms kvs' ms'} (h : KvI kvs ms) (h' : KvI kvs' ms') : KvI (kvs ++ kvs') (ms ++ ms') := by
  induction h with
  | nil => exact h'
  | cons _ ih => exact .cons ih
theorem KvI.any {kvs ms} (h : KvI kvs ms) (k : Str) : (kvs.any fun kv => decide (kv.1 = k)) = ms.any fun kv => decide (kv.1 = k) := by
  induction h with
  | nil => rfl
  | cons _ ih => simp [ih]
theorem KvI.mapped {kvs ms} (h : KvI kvs ms) (k : Str) (x : Int) (t : Tok) : KvI (kvs.map fun kv => if kv.1 = k then (kv.1, .int x t) else kv) (ms.map fun kv => if kv.1 = k then (kv.1, x) else kv) := by
  induction h with
  | nil => exact .nil
  | @cons k' x' t' kvs ms _ ih =>
    simp only [List.map_cons]
    by_cases q : k' = k
    · rw [if_pos q, if_pos q]; exact .cons ih
    · rw [if_neg q, if_neg q]; exact .cons ih
theorem KvI.stored {kvs ms} (h : KvI kvs ms) (k : Str) (x : Int) (t : Tok) : KvI (stored kvs k (.int x t)) (putI ms k x) := by
  unfold PySem.stored putI
  rw [h.any k]
  split
  · exact h.mapped k x t
  · exact h.append (.cons .nil)
theorem KvI.at {kvs ms} (h : KvI kvs ms) (k : Str) : (∃ x t, valueAt kvs k = some (.int x t) ∧ atI ms k = some x) ∨ (valueAt kvs k = none ∧ atI ms k = none) := by
  induction h with
  | nil => exact .inr ⟨rfl, rfl⟩
  | @cons k' x' t' kvs ms _ ih =>
    by_cases q : k' = k
    · exact .inl ⟨x', t', by simp [valueAt, q], by simp [atI, q]⟩
    · simpa [valueAt, atI, List.find?_cons, q] using ih
noncomputable def DictI (w : World) (h : Heap) (d : Addr) (ms : List (Str × Int)) : Prop := ∃ kvs, h.DictOf (strKind Challenge.rw_xg0051_01.row.prog w) d kvs ∧ KvI kvs ms
theorem DictI.keep {w : World} {h h' : Heap} {d : Addr} {ms} (x : DictI w h d ms) (hk : ∀ o, h.get? d = some o → h'.get? d = some o) : DictI w h' d ms :=
  let ⟨kvs, ⟨o, es, ep, ho, r⟩, K⟩ := x; ⟨kvs, ⟨o, es, ep, hk o ho, r⟩, K⟩
theorem DictI.lt {w : World} {h : Heap} {d : Addr} {ms} (x : DictI w h d ms) : d < h.objs.size :=
  by obtain ⟨_, ⟨_, _, _, ho, _⟩, _⟩ := x; exact Heap.lt_size ho
theorem DictI.nodup {w : World} {h : Heap} {d : Addr} {ms} (x : DictI w h d ms) : (ms.map (·.1)).Nodup :=
  by obtain ⟨_, ⟨_, _, _, _, _, _, _, _, n⟩, K⟩ := x; exact K.keys ▸ n
theorem putI_take {ms : List (Str × Int)} (hn : (ms.map (·.1)).Nodup) {i : Nat} {k : Str} {x : Int} (e : ms[i]? = some (k, x)) : putI (ms.take i) k x = ms.take (i + 1) := by
  obtain ⟨hi, e'⟩ := List.getElem?_eq_some_iff.mp e
  unfold putI
  rw [if_neg]
  · rw [List.take_add_one, e]; rfl
  · rw [List.any_eq_true]
    rintro ⟨p, hp, q⟩
    have q := of_decide_eq_true q
    obtain ⟨j, hj, ej⟩ := List.mem_take_iff_getElem.mp hp
    have hj' : j < ms.length := by walk_at "om"
    have := (List.nodup_iff_pairwise_ne.mp hn)
    rw [List.pairwise_map, List.pairwise_iff_getElem] at this
    have := this j i hj' hi (by walk_at "om")
    rw [ej, e'] at this
    exact this q
section
variable {w : World} {A : Around} {E : Value → Shared → Prop} {s : Shared} {env : Env} {g : Heap} {L : Addr} {m : Str → Option Value}
theorem dictF {pos : Pos} {Q : Value → Shared → Prop} (h : ∀ (D : Nat) h', D = s.heap.objs.size → Sub s.heap h' → DictI w h' D [] → s.heap.get? D = none → (∀ b : Nat, b ≠ D → s.heap.get? b = none → h'.get? b = none) → Q (.ref D) { s with heap := h' }) :
    wpAny (model Challenge.rw_xg0051_01.row.prog w) A (eval (.Dict [] [] pos) env) Q E s := by
  refine wpAny_Dict_empty (h _ _ rfl (fun b o e => Heap.get?_push_of_some _ e) ⟨[], Heap.DictOf.new _, .nil⟩ (new_none _) ?_)
  exact fun b hb e => (Heap.get?_push_ne _ _ _ hb).trans e
end
section
variable {w : World} {A : Around} {s : Shared} {env : Env} {g : Heap} {L D d : Nat} {m0 : Str → Option Value}
theorem items_for {body : List Stmt} {Q : Flow → Shared → Prop} {x y : Str} {px py pt pos apos cpos : Pos} {x1} {o : Expr} {src : List (Str × Int)} (acc : Nat → List (Str × Int))
    (hh : A.handled = none) (hL : env.locals = L) (hk : env.scope.kind = .function) (hx : env.kindOf x = some .local) (hy : env.kindOf y = some .local)
    (hdS : (d == sysModules) = false) (hd : DictI w g d src) (O : g.get? L = none) (OD : g.get? D = none) (nDL : D ≠ L) (F : Fx g L s.heap m0) (hD : DictI w s.heap D (acc 0))
    (hbase : attributeBase o "items" env (eval o env) = eval o env) (hline : (apos.endLine == cpos.line) = true)
    (ho : ∀ Q', Q' (.ref d) s → wpAny (model Challenge.rw_xg0051_01.row.prog w) A (eval o env) Q' (fun _ _ => False) s)
    (turn : ∀ i k xv tx tk' h u (tk : Nat), src[i]? = some (k, xv) → s.toks ≤ tk → Fx g L h (fun z => if z = y then some (.int xv tx) else if z = x then some (.str k tk') else ov [x, y] u m0 z) → DictI w h D (acc i) →
      wpAny (model Challenge.rw_xg0051_01.row.prog w) A (execs body env) (fun f s' => f = .next ∧ ∃ h' m' tk', s' = { s with heap := h', toks := tk' } ∧ tk ≤ tk' ∧ Fx g L h' m' ∧ (∀ z, [x, y].contains z = false → m' z = m0 z) ∧ DictI w h' D (acc (i + 1)) ∧
        ∀ b : Nat, ∀ ob, b ≠ L → b ≠ D → h.get? b = some ob → h'.get? b = some ob) (fun _ _ => False) { s with heap := h, toks := tk })
    (hQ : ∀ h' u (tk : Nat), s.toks ≤ tk → Fx g L h' (ov [x, y] u m0) → DictI w h' D (acc src.length) → Q .next { s with heap := h', toks := tk })
    (hs : ∀ x, foldedSetIterable (.Call (.Attribute o "items" apos) [] [] cpos) env x = pure x := by intro _; rfl) :
    wpAny (model Challenge.rw_xg0051_01.row.prog w) A (exec (.For (.Tuple [.Name x px, .Name y py] x1 pt) (.Call (.Attribute o "items" apos) [] [] cpos) body [] pos) env) Q (fun _ _ => False) s := by
  obtain ⟨kvs, hkv, K⟩ := id hd
  have hm : s.heap.DictOf (strKind Challenge.rw_xg0051_01.row.prog w) d kvs := hkv.keep F.keep
  obtain ⟨od, es, ep, hod, hrest⟩ := id hm
  have hat : s.heap.DictAt (strKind Challenge.rw_xg0051_01.row.prog w) d kvs ep := ⟨od, es, hod, hrest⟩
  refine wpAny_For (wpAny_Call_items hdS hm hbase hline ho ?_) hs
  refine wpAny_pyIter_items (knd := strKind Challenge.rw_xg0051_01.row.prog w) (d := d) (kvs := kvs) (ep := ep) ⟨_, Heap.get?_push_size _ rfl, rfl, rfl⟩ (hat.push _) ?_
  have hsz : (s.heap.push { cls := .type "dict_items", data := .fields #[.ref d] }).objs.size = s.heap.objs.size + 1 := Heap.size_push ..
  have lL : L < s.heap.objs.size := F.ns.lt
  have lD : D < s.heap.objs.size := hD.lt
  have ld : d < s.heap.objs.size := Heap.lt_size hod
  rw [hsz]
  have eI : s.heap.objs.size + 1 = s.heap.objs.size + 1 := rfl
  generalize hI : s.heap.objs.size + 1 = I at eI
  have up : ∀ b : Nat, ∀ ob, s.heap.get? b = some ob → (((s.heap.push { cls := .type "dict_items", data := .fields #[.ref d] }).push { cls := .type "dict_itemiterator", data := .fields #[.none, .bool false, .ref d, .int 0 0, .int kvs.length 0, .int ep 0, .none, .none] })).get? b = some ob :=
    fun b ob e => Heap.get?_push_of_some _ (Heap.get?_push_of_some _ e)
  have bI : ∀ b : Nat, b < s.heap.objs.size → b ≠ I := fun b hb => by walk_at "om"
  refine for_ruleU hh (walks_items (knd := strKind Challenge.rw_xg0051_01.row.prog w) hh I d (fun q => bI d ld q) kvs ep)
    (fun i s' => Ex3 fun h tk u => And4 (s' = { s with heap := h, toks := tk }) (s.toks ≤ tk) (Fx g L h (ov [x, y] u m0)) (DictI w h D (acc i))) ?_ ?_ ?_ ?_ rfl ?_ ?_
  · refine ⟨⟨.none, .none, ?_⟩, (hat.push _).push _⟩
    show Heap.get? _ _ = _
    rw [← hI, ← hsz]
    exact Heap.get?_push_size _ rfl
  · exact ⟨_, _, _, rfl, Nat.le_refl _, (F.up up).ov0 _, hD.keep fun ob e => up _ _ e⟩
  · rintro i s' h₁ tk₁ ⟨h, tk, u, rfl, h1, F1, D1⟩ hk ht
    have nI : ∀ b : Nat, b ≠ I → b ∉ [I] := fun b hb q => hb (List.mem_singleton.mp q)
    refine ⟨h₁, tk₁, u, rfl, Nat.le_trans h1 ht, ⟨F1.ns.at' (fun o e => hk _ _ (nI _ (bI _ lL)) e), fun b o e => hk _ _ (nI _ (bI b (Heap.lt_size (F.keep _ _ e)))) (F1.keep _ _ e)⟩, D1.keep fun ob e => hk _ _ (nI _ (bI _ lD)) e⟩
  · rintro i vals hi ⟨k, v, key, e1, e2, rfl⟩; rfl
  · rintro i vals s₁ hi ⟨k, v, key, e1, e2, rfl⟩ hJJ
    try walk_at "hideN"
    obtain ⟨h, tk, u, rfl, h1, F1, D1⟩ := hJJ
    obtain ⟨xv, tx, rfl, e3⟩ := K.get e1
    obtain ⟨tk', rfl⟩ : ∃ t, key = .str k t := Value.isStrOf_shape e2
    refine asg_cons (stL F1 O ?_ hL hk hx)
    intro h2 F2 S2
    refine asg_cons (stL F2 O ?_ hL hk hy)
    intro h3 F3 S3
    refine asg_nil ?_
    walk_at "un"
    refine wpAny_mono (turn i k xv tx tk' h3 u _ e3 ?_ F3 ?_) (fun f s₃ z => ?_) fun _ _ x => x
    · show s.toks ≤ tk + 1 + 1; exact Nat.le_trans h1 (by show tk ≤ tk + 1 + 1; exact Nat.le_trans (Nat.le_succ _) (Nat.le_succ _))
    · exact D1.keep fun ob e => (S3.2 _ nDL).trans ((S2.2 _ nDL).trans e)
    · obtain ⟨rfl, h4, m4, tk4, rfl, q4, F4, f4, D4, k4⟩ := z
      refine ⟨⟨h4, tk4, m4, rfl, ?_, F4.forget _ f4, D4⟩, fun b hb ob e => k4 b ob ?_ ?_ ((S3.2 _ ?_).trans ((S2.2 _ ?_).trans e))⟩
      · exact Nat.le_trans h1 (Nat.le_trans (Nat.le_trans (Nat.le_succ _) (Nat.le_succ _)) q4)
      all_goals simp only [List.mem_cons, List.not_mem_nil, or_false] at hb
      all_goals (rcases hb with hb | hb <;> (replace hb := hb.symm; subst hb))
      · exact (bI _ lL).symm
      · intro q; rw [q] at hod; obtain ⟨_, _, _, e, _⟩ := hkv; rw [q, O] at e; cases e
      · exact (bI _ lD).symm
      · intro q; obtain ⟨_, _, _, e, _⟩ := hkv; rw [q, OD] at e; cases e
      · exact (bI _ lL).symm
      · intro q; obtain ⟨_, _, _, e, _⟩ := hkv; rw [q, O] at e; cases e
      · exact (bI _ lL).symm
      · intro q; obtain ⟨_, _, _, e, _⟩ := hkv; rw [q, O] at e; cases e
  · rintro s' hJJ
    try walk_at "hideN"
    obtain ⟨h, tk, u, rfl, h1, F1, D1⟩ := hJJ
    walk_at "un"
    refine wpAny_execs_nil ?_
    rw [K.length] at D1
    walk_at "un"
    exact hQ h u tk h1 F1 D1
end

end
section
/- Callers -/
section
variable {w : World} {A : Around} {E : Value → Shared → Prop} {s : Shared} {D : Addr} {ms : List (Str × Int)} {k : Str} {tk : Tok}
theorem setI {x : Int} {t : Tok} {Q : Unit → Shared → Prop} (hd : DictI w s.heap D ms) (hl : ms.length ≤ 200) (h : ∀ h', DictI w h' D (putI ms k x) → Heap.SameBut D s.heap h' → Q () { s with heap := h', toks := s.toks + 1 }) :
    wpAny (model Challenge.rw_xg0051_01.row.prog w) A (setItem (.ref D) (.str k tk) (.int x t)) Q E s := by
  obtain ⟨kvs, hk, K⟩ := hd
  refine wpAny_setItem_pairs (knd := strKind Challenge.rw_xg0051_01.row.prog w) (k := k) (strKind_is _ _ k _) hk (fun h' d' S => h h' ⟨_, d', K.stored k x t⟩ S) ?_
  rw [K.length, sizeLine_eq]; walk_at "om"
theorem getI {x : Int} {Q : Value → Shared → Prop} (hd : DictI w s.heap D ms) (e : atI ms k = some x) (h : ∀ t, Q (.int x t) { s with toks := s.toks + 1 }) :
    wpAny (model Challenge.rw_xg0051_01.row.prog w) A (getItem (.ref D) (.str k tk)) Q E s := by
  obtain ⟨kvs, hk, K⟩ := hd
  rcases K.at k with ⟨x', t', e1, e2⟩ | ⟨_, e2⟩
  · rw [e2] at e; cases e
    exact wpAny_getItem_of (knd := strKind Challenge.rw_xg0051_01.row.prog w) (k := k) (strKind_is _ _ k _) hk.mapOf e1 (h t')
  · rw [e2] at e; cases e
theorem isinI {Q : Value → Shared → Prop} (hd : DictI w s.heap D ms) (n : (D == sysModules) = false) (h : Q (.bool (atI ms k).isSome) { s with toks := s.toks + 1 }) :
    wpAny (model Challenge.rw_xg0051_01.row.prog w) A (compareOp .In (.str k tk) (.ref D)) Q E s := by
  obtain ⟨kvs, hk, K⟩ := hd
  refine wpAny_in_of (knd := strKind Challenge.rw_xg0051_01.row.prog w) (k := k) (strKind_is _ _ k _) n hk.mapOf ?_
  rcases K.at k with ⟨x', t', e1, e2⟩ | ⟨e1, e2⟩
  · rw [e1]; rw [e2] at h; exact h
  · rw [e1]; rw [e2] at h; exact h
end
theorem putI_len (ms : List (Str × Int)) (k : Str) (x : Int) : (putI ms k x).length ≤ ms.length + 1 := by
  unfold putI; split <;> simp
theorem addI_len : ∀ (src ms : List (Str × Int)), (src.foldl addI ms).length ≤ ms.length + src.length
  | [], ms => by simp
  | kv :: r, ms => by
    have := addI_len r (addI ms kv)
    have h2 : (addI ms kv).length ≤ ms.length + 1 := putI_len ms kv.1 _
    simp only [List.foldl_cons, List.length_cons]; walk_at "om"
theorem addI_step (src ms : List (Str × Int)) {i : Nat} {kv : Str × Int} (e : src[i]? = some kv) : (src.take (i + 1)).foldl addI ms = addI ((src.take i).foldl addI ms) kv := by
  rw [List.take_add_one, e, List.foldl_append]; rfl
theorem addI_some {ms : List (Str × Int)} {k : Str} {x z : Int} (e : atI ms k = some z) : addI ms (k, x) = putI ms k (z + x) := by unfold addI; dsimp only; rw [e]
theorem addI_none {ms : List (Str × Int)} {k : Str} {x : Int} (e : atI ms k = none) : addI ms (k, x) = putI ms k x := by unfold addI; dsimp only; rw [e]
theorem add_callers_spec {w : World} {A : Around} {s : Shared} {R : Result → Shared → Prop} {t c : Nat} {tgt src : List (Str × Int)}
  (C : Cx w A s 1) (hT : DictI w s.heap t tgt) (hS : DictI w s.heap c src) (n1 : (t == sysModules) = false) (n2 : (c == sysModules) = false) (hl : tgt.length + src.length ≤ 100)
  (hR : ∀ (D : Nat) h' (tk' : Nat), s.toks ≤ tk' → Sub s.heap h' → s.heap.get? D = none → (D == sysModules) = false → DictI w h' D (src.foldl addI tgt) → R (.ok (.ret (.ref D))) { s with heap := h', toks := tk' }) :
  codeAny (model Challenge.rw_xg0051_01.row.prog w) A (.call (.ref 166) ⟨[.ref t, .ref c], []⟩) R s := by
  have G := C.G
  have hd := C.hd
  have hh := C.hh
  refine' enter [("target", .ref t), ("source", .ref c)] s.heap G.k G.nolimit (by first | exact fun _ _ e => e | assumption) ?k1 ?k2 ?k3 ?k4 ?k5 ?_ ?c2 ?c3 ?c4 ?c5
  case k1 => k_is
  case k2 => k_is
  case k3 => walk_at "om"
  case k4 => first | exact BindsTo.of_eq rfl | exact binds_K G.k rfl (by k_is) rfl rfl rfl
  case k5 => exact locs rfl
  case c2 => decide
  case c3 => exact rfl
  case c4 => exact rfl
  case c5 => exact rfl
  intro L h' A' tk0 hL hkeep F O eh ed eu htk
  have hh' : A'.handled = none := eh.trans hh
  refine wpAny_execs_cons ?_
  refine wpAny_Assign_Name ?_
  refine dictF ?_
  intro D h1 eD K1 D1 nD _
  have F1 := F.up K1
  walk_at "go"
  rename_i h2 F2 S2
  have OD : s.heap.get? D = none := by
    cases e : s.heap.get? D with
    | none => rfl
    | some o => have := F.keep _ _ e; dsimp only at nD; rw [nD] at this; cases this
  have nDL : D ≠ L := by
    intro q
    obtain ⟨_, _, _, e, _⟩ := F.ns
    dsimp only at nD; rw [q, e] at nD; cases nD
  have nDS : (D == sysModules) = false := by
    have l : sysModules < s.heap.objs.size := modules_low G.nolimit
    have l2 : L < h'.objs.size := F.ns.lt
    have : D ≠ sysModules := by
      dsimp only at eD; rw [eD]; intro q; rw [q] at l2
      exact absurd (Nat.lt_of_lt_of_le l (Nat.le_trans (Nat.le_of_eq hL.symm) (Nat.le_of_lt l2))) (Nat.lt_irrefl _)
    exact beq_eq_false_iff_ne.mpr this
  have D2 : DictI w h2 D (tgt.take 0) := D1.keep fun o e => (S2.2 _ nDL).trans e
  walk_at "un"
  refine items_for (g := s.heap) (L := L) (D := D) (d := t) (m0 := fun y => if y = Str.ofString "new_callers" then some (.ref D) else List.lookup y [("source", .ref c), ("target", .ref t)]) (fun i => tgt.take i) hh' rfl rfl rfl rfl n1 hT O OD nDL F2 D2 rfl rfl ?_ ?_ ?_
  · intro Q' hQ'
    exact nmL F2 rfl hQ'
  · intro i k xv tx tk' h u tk e1 e2 F3 D3
    walk_at "un"
    refine wpAny_execs_cons ?_
    refine wpAny_Assign_Subscript ?_
    walk_at "go"
    refine setI D3 (by rw [List.length_take]; walk_at "om") ?_
    intro h4 D4 S4
    walk_at "un"
    refine wpAny_execs_nil ?_
    rw [putI_take hT.nodup e1] at D4
    walk_at "un"
    refine ⟨rfl, h4, _, _, rfl, Nat.le_succ _, ⟨F3.ns.at' fun o e => (S4.2 _ (Ne.symm nDL)).trans e, fun b o e => (S4.2 _ (fun q => by rw [q, OD] at e; cases e)).trans (F3.keep _ _ e)⟩, ?_, D4, fun b ob b1 b2 e => (S4.2 _ b2).trans e⟩
    walk_at "forget"
  · intro h3 u tk3 q3 F3 D3
    dsimp only at q3 ⊢
    walk_at "un"
    rw [List.take_length] at D3
    walk_at "un"
    refine wpAny_execs_cons ?_
    walk_at "un"
    refine items_for (g := s.heap) (L := L) (D := D) (d := c) (m0 := ov ["func", "caller"] u fun y => if y = Str.ofString "new_callers" then some (.ref D) else List.lookup y [("source", .ref c), ("target", .ref t)]) (fun i => (src.take i).foldl addI tgt) hh' rfl rfl rfl rfl n2 hS O OD nDL F3 D3 rfl rfl ?_ ?_ ?_
    · intro Q' hQ'
      exact nmL F3 rfl hQ'
    · intro i k xv tx tk' h u' tk e1 e2 F4 D4
      have hlen := addI_len (src.take i) tgt
      rw [List.length_take] at hlen
      walk_at "un"
      refine wpAny_execs_cons ?_
      walk_at "go"
      refine isinI D4 nDS ?_
      cases ea : atI ((src.take i).foldl addI tgt) k with
      | none =>
        walk_at "go"
        · contradiction
        refine setI D4 (by walk_at "om") ?_
        intro h6 D6 S6
        repeat refine wpAny_execs_nil ?_
        walk_at "go"
        refine ⟨rfl, h6, _, _, rfl, by (try dsimp only); walk_at "om", ⟨F4.ns.at' fun o e => (S6.2 _ (Ne.symm nDL)).trans e, fun b o e => (S6.2 _ (fun q => by rw [q, OD] at e; cases e)).trans (F4.keep _ _ e)⟩, ?_, ?_, fun b ob b1 b2 e => (S6.2 _ b2).trans e⟩
        · exact fgS (by rfl) (fgS (by rfl) (fgP (by rfl) fgI))
        · rw [addI_step src tgt e1, addI_none ea]; exact D6
      | some z =>
        walk_at "go"
        rotate_left
        · contradiction
        refine getI D4 ea ?_
        intro tz
        walk_at "go"
        refine setI D4 (by walk_at "om") ?_
        intro h6 D6 S6
        repeat refine wpAny_execs_nil ?_
        walk_at "go"
        refine ⟨rfl, h6, _, _, rfl, by (try dsimp only); walk_at "om", ⟨F4.ns.at' fun o e => (S6.2 _ (Ne.symm nDL)).trans e, fun b o e => (S6.2 _ (fun q => by rw [q, OD] at e; cases e)).trans (F4.keep _ _ e)⟩, ?_, ?_, fun b ob b1 b2 e => (S6.2 _ b2).trans e⟩
        · exact fgS (by rfl) (fgS (by rfl) (fgP (by rfl) fgI))
        · rw [addI_step src tgt e1, addI_some ea]; exact D6
    · intro h5 u5 tk5 q5 F5 D5
      dsimp only at q5 ⊢
      walk_at "un"
      walk_at "go"
      rw [List.take_length] at D5
      try dsimp only
      walk_at "un"
      exact hR D h5 tk5 (by walk_at "om") F5.keep OD nDS D5

end
section
/- Stats -/
section
variable {prog : Program} {w : World} {A : Around} {E : Value → Shared → Prop} {s : Shared} {g : Heap} {L : Addr} {m : Str → Option Value} {env : Env}
theorem unpackT {p : Addr} {vals : Array Value} {elts : List Expr} {k : Nat} {pos : Pos} {Q : Unit → Shared → Prop} (hh : A.handled = none) (ht : s.heap.IsTuple p vals)
    (hl : (assignEach elts env).length = vals.size) (hs : (assignEach elts env).findIdx? (·.1) = none)
    (h : ∀ h', Sub s.heap h' → wpAny (model prog w) A (assignInOrder ((assignEach elts env).map (·.2)) vals.toList) Q E { s with heap := h' }) : wpAny (model prog w) A (assign (.Tuple elts k pos) env (.ref p)) Q E s :=
  wpAny_assign_Tuple hh ht hl hs fun h' hx => h h' fun b o e => hx b o (Nat.ne_of_lt (Heap.lt_size e)) e
end
noncomputable def BookAt (w : World) (h : Heap) (p : Addr) (c n t x : Int) (ms : List (Str × Int)) : Prop :=
  ∃ (tc tn tt tx : Tok) (d : Nat), h.IsTuple p #[.int c tc, .int n tn, .int t tt, .int x tx, .ref d] ∧ DictI w h d ms ∧ (d == sysModules) = false
theorem BookAt.keep {w : World} {h h' : Heap} {p : Addr} {c n t x : Int} {ms} (B : BookAt w h p c n t x ms) (k : Sub h h') : BookAt w h' p c n t x ms :=
  by obtain ⟨tc, tn, tt, tx, d, a, b, e⟩ := B; exact ⟨tc, tn, tt, tx, d, a.at fun o q => k _ _ q, b.keep fun o q => k _ _ q, e⟩
theorem add_func_stats_spec {w : World} {A : Around} {s : Shared} {R : Result → Shared → Prop} {pt ps : Nat} {c n t x c' n' t' x' : Int} {tgt src : List (Str × Int)}
  (C : Cx w A s 3) (hT : BookAt w s.heap pt c n t x tgt) (hS : BookAt w s.heap ps c' n' t' x' src) (hl : tgt.length + src.length ≤ 100)
  (hR : ∀ (D : Nat) h' (tk' : Nat), s.toks ≤ tk' → Sub s.heap h' → s.heap.get? D = none → (∀ X : List Nat, (∀ b : Nat, b ∈ X → s.heap.get? b ≠ none) → BookAt w (hideAll h' X) D (c' + c) (n' + n) (t' + t) (x' + x) (src.foldl addI tgt)) → R (.ok (.ret (.ref D))) { s with heap := h', toks := tk' }) :
  codeAny (model Challenge.rw_xg0051_01.row.prog w) A (.call (.ref 159) ⟨[.ref pt, .ref ps], []⟩) R s := by
  have G := C.G
  have hd := C.hd
  have hu := C.hu
  have hh := C.hh
  obtain ⟨tc, tn, tt, tx, dt, iT, dT, nT⟩ := hT
  obtain ⟨sc, sn, st, sx, ds, iS, dS, nS⟩ := hS
  refine' enter [("target", .ref pt), ("source", .ref ps)] s.heap G.k G.nolimit (by first | exact fun _ _ e => e | assumption) ?k1 ?k2 ?k3 ?k4 ?k5 ?_ ?c2 ?c3 ?c4 ?c5
  case k1 => k_is
  case k2 => k_is
  case k3 => walk_at "om"
  case k4 => first | exact BindsTo.of_eq rfl | exact binds_K G.k rfl (by k_is) rfl rfl rfl
  case k5 => exact locs rfl
  case c2 => decide
  case c3 => exact rfl
  case c4 => exact rfl
  case c5 => exact rfl
  intro L h' A' tk0 hL hkeep F O eh ed eu htk
  have hh' : A'.handled = none := eh.trans hh
  walk_at "go"
  refine unpackT hh' (Heap.IsTuple.at iS fun o e => hkeep _ _ e) rfl rfl ?_
  intro h1 K1
  have F1 := F.up K1
  repeat (refine asg_cons (Mine.stL (by assumption) O ?_); intro h' F' S'; (try dsimp only at S'); (try dsimp only))
  refine asg_nil ?_
  try dsimp only
  walk_at "go"
  refine unpackT hh' (Heap.IsTuple.at iT fun o e => Fx.keep (by assumption) _ _ e) rfl rfl ?_
  intro h3 K3
  have F3 := Fx.up (by assumption) K3
  repeat (refine asg_cons (Mine.stL (by assumption) O ?_); intro h' F' S'; (try dsimp only at S'); (try dsimp only))
  refine asg_nil ?_
  try dsimp only
  walk_at "go"
  have F5 := F'
  walk_at "un"
  refine ⟨F5.keep, wpAny_call (add_callers_spec ⟨G.up F5.keep, by walk_at "om", by walk_at "om", hh'⟩ (dT.keep fun o e => F5.keep _ _ e) (dS.keep fun o e => F5.keep _ _ e) nT nS hl ?_)⟩
  intro D h6 tk6 q6 K6 n6 nS6 D6
  try dsimp only at q6 K6
  have F6 := F5.up K6
  walk_at "go"
  rename_i h7 F7 K7 T7
  try dsimp only
  have o1 := none_of_sub F6.keep (new_none h6)
  have o2 := none_of_sub F5.keep n6
  walk_at "un"
  refine hR _ _ _ (by walk_at "om") F7.keep o1 fun X hX => ⟨_, _, _, _, D, Heap.IsTuple.at (h' := hideAll h7 X) T7 fun o e => hideAll_get _ e fun q => hX _ q o1, D6.keep fun o e => hideAll_get _ (K7 _ _ e) fun q => hX _ q o2, nS6⟩

end
section
/- TupNe -/
theorem ne_tup_same {prog : Program} {w : World} {A : Around} {E : Value → Shared → Prop} {s : Shared} {p q : Addr} {items items2 : Array Value} {Q : Value → Shared → Prop}
    (hp : s.heap.IsTuple p items) (hq : s.heap.IsTuple q items2) (hz : items.size = items2.size) (hu : A.units < cLine)
    (he : ∀ j (h1 : j < items.size) (h2 : j < items2.size), ∀ (E : Value → Shared → Prop) (Q : Bool → Shared → Prop), Q true s → wpAny (model prog w) A.in1 (eqBool items[j] items2[j]) Q E s)
    (h : Q (.bool false) s) : wpAny (model prog w) A (compareOp .NotEq (.ref p) (.ref q)) Q E s := by
  have tp : s.TypeIs (.ref p) "tuple" := by obtain ⟨o, e, c, _⟩ := hp; exact ⟨o, e, c⟩
  have tq : s.TypeIs (.ref q) "tuple" := by obtain ⟨o, e, c, _⟩ := hq; exact ⟨o, e, c⟩
  refine wpAny_richCompare_same_room (op := .NotEq) tp tq PySem.F.slot_tuple_ne (wpAny_call_entry PySem.F.slot_tuple_ne tp PySem.F.entry_tuple_ne ?_ (PySem.F.args_tuple_ne_2 _ _)) hu
  obtain ⟨⟨cls, dd, data, sl⟩, ho, hc, n, hd⟩ := id hp
  obtain ⟨⟨cls2, dd2, data2, sl2⟩, ho2, hc2, n2, hd2⟩ := id hq
  simp only at hc hd hc2 hd2
  subst hc hd hc2 hd2
  obtain ⟨hpp, g, d, tk, os⟩ := s
  have hl := ho
  have hb := ho2
  have f2 := AutoSeq1.sub_tuple_tuple
  have hZ : (items.toList.zip items2.toList).length = items.size := by simp [hz]
  wp_walk using AutoSeq1.wpAny_loadPart' hl, AutoSeq1.wpAny_loadPart' hb, wpAny_forIn_list _ (fun rest b s' => b.1 = none ∧ s' = ⟨hpp, g, d, tk, os⟩ ∧ ∃ i, rest = (items.toList.zip items2.toList).drop i) _
  case turn =>
    rintro ⟨y, x⟩ rest b s' ⟨hb', rfl, i, hz'⟩
    have hlt : i < (items.toList.zip items2.toList).length := by
      rcases Nat.lt_or_ge i (items.toList.zip items2.toList).length with h' | h'
      · exact h'
      · rw [List.drop_of_length_le h'] at hz'; cases hz'
    have h1 : i < items.size := hZ ▸ hlt
    have h2 : i < items2.size := hz ▸ h1
    rw [List.drop_eq_getElem_cons hlt] at hz'
    injection hz' with hyx hrest
    have hy : y = items[i] := by have := congrArg Prod.fst hyx; simpa using this
    have hx : x = items2[i] := by have := congrArg Prod.snd hyx; simpa using this
    subst hy hx
    refine wpAny_bind (he i h1 h2 _ _ ?_)
    wp_walk
    walk_at "un"
    exact ⟨rfl, rfl, i + 1, hrest⟩
  case fin =>
    rintro ⟨b1, b2⟩ s' ⟨hb', rfl, i, hz'⟩
    simp only at hb'
    subst hb'
    wp_walk
    walk_at "un"
    exact ⟨_, rfl, by simp [Builtin.Tuple.tupleCompareSizes, hz], by simpa [Builtin.Tuple.tupleCompareSizes, hz] using h⟩
  case h => exact ⟨rfl, rfl, 0, rfl⟩
theorem atI_mem {ms : List (Str × Int)} (hn : (ms.map (·.1)).Nodup) {k : Str} {x : Int} (e : (k, x) ∈ ms) : atI ms k = some x := by
  unfold atI
  induction ms with
  | nil => cases e
  | cons kv r ih =>
    rw [List.map_cons, List.nodup_cons] at hn
    rw [List.find?_cons]
    rcases List.mem_cons.mp e with rfl | e'
    · simp
    · have hne : kv.1 ≠ k := fun q => hn.1 (by rw [q]; exact List.mem_map.mpr ⟨_, e', rfl⟩)
      simp only [hne, decide_false]
      exact ih hn.2 e'
theorem hits_same {A : Around} {s : Shared} {kb : List (Str × Value)} {ms : List (Str × Int)} (hn : (ms.map (·.1)).Nodup) (Kb : KvI kb ms) : ∀ {ka : List (Str × Value)} {mr : List (Str × Int)}, KvI ka mr → (∀ kx ∈ mr, kx ∈ ms) → KeqHits A s kb ka true
  | _, _, .nil, _ => .nil
  | _, _, @KvI.cons k x t kvs mr K, hm => by
    rcases Kb.at k with ⟨x', t', e1, e2⟩ | ⟨_, e2⟩
    · have e3 : atI ms k = some x := atI_mem hn (hm _ List.mem_cons_self)
      rw [e3] at e2
      cases e2
      have := KeqHits.hit (A := A) (s := s) (r := kvs) (v := .int x t) e1 (e := true) (by have := SeqAt.EqAt.int_int (A := A) (s := s) x t x t'; rwa [beq_self_eq_true] at this) (hits_same hn Kb K fun kx q => hm kx (List.mem_cons_of_mem _ q))
      simpa using this
    · rw [atI_mem hn (hm _ List.mem_cons_self)] at e2; cases e2
theorem eqb_dicts {w : World} {A : Around} {E : Value → Shared → Prop} {s : Shared} {d d' : Addr} {ms : List (Str × Int)} {Q : Bool → Shared → Prop} (D : DictI w s.heap d ms) (D' : DictI w s.heap d' ms) (n : (d == sysModules) = false) (n' : (d' == sysModules) = false)
    (hu : A.units < cLine) (h : Q true s) : wpAny (model Challenge.rw_xg0051_01.row.prog w) A (eqBool (.ref d) (.ref d')) Q E s := by
  have hn := D.nodup
  obtain ⟨ka, da, Ka⟩ := D
  obtain ⟨kb, db, Kb⟩ := D'
  unfold eqBool
  refine wpAny_holding ?_
  refine wpAny_ite_split (fun _ => ?_) (fun _ => ?_)
  · exact wpAny_bind (wpAny_rule (wpAny_pure h))
  · refine wpAny_bind ?_
    show wpAny _ _ (compareOp .Eq (.ref d) (.ref d')) _ _ _
    refine keq_eq n n' da db hu (fun _ => hits_same hn Kb Ka fun _ q => q) ?_
    rw [Ka.length, Kb.length, beq_self_eq_true, Bool.true_and]
    exact wpAny_truthy_bool h
theorem ne_book {w : World} {A : Around} {E : Value → Shared → Prop} {s : Shared} {p q : Addr} {c n t x : Int} {ms : List (Str × Int)} {Q : Value → Shared → Prop} (B1 : BookAt w s.heap p c n t x ms) (B2 : BookAt w s.heap q c n t x ms) (hu : A.units + 64 < cLine)
    (h : Q (.bool false) s) : wpAny (model Challenge.rw_xg0051_01.row.prog w) A (compareOp .NotEq (.ref p) (.ref q)) Q E s := by
  obtain ⟨tc, tn, tt, tx, d, T1, D1, n1⟩ := B1
  obtain ⟨uc, un, ut, ux, d', T2, D2, n2⟩ := B2
  refine ne_tup_same T1 T2 rfl (by walk_at "om") (fun j h1 h2 E Q hq => ?_) h
  have num : ∀ (a : Int) (t u : Tok), wpAny (model Challenge.rw_xg0051_01.row.prog w) A.in1 (eqBool (.int a t) (.int a u)) Q E s := fun a t u => by
    refine SeqAt.EqAt.int_int (A := A.in1) (s := s) a t a u _ w E Q ?_
    rw [beq_self_eq_true]; exact hq
  rcases lt5 (show j < 5 from h1) with rfl | rfl | rfl | rfl | rfl
  · exact num _ _ _
  · exact num _ _ _
  · exact num _ _ _
  · exact num _ _ _
  · exact eqb_dicts D1 D2 n1 n2 (by show A.units + 1 < cLine; walk_at "om") hq

end
section
/- Law1 -/
local macro_rules | `(tactic| walk_at "halt") => `(tactic| first | with_reducible refine Mine.hlSubT ?_ | with_reducible refine Mine.hlAsgLc ?_ | walk_at "h4")
noncomputable abbrev lawCells (L : Nat) : List (Str × Addr) := [("exchanged", L + 4), ("k", L + 3), ("after", L + 2), ("signs", L + 1)]
noncomputable def sgOf (n : Nat) : Nat := [65, 97, 98].getD n 65
theorem ofAab : (Str.ofString "Aab") = ⟨[65, 97, 98].toArray⟩ := rfl
theorem SgAre.snoc {vs cs} (h : SgAre vs cs) (c t : Nat) : SgAre (vs ++ [.str ⟨#[c]⟩ t]) (cs ++ [c]) := by
  induction h with
  | nil => exact .cons _ _ .nil
  | cons a b _ ih => exact .cons a b ih
theorem law_A {w : World} {A : Around} {s : Shared} {R : Result → Shared → Prop} {l : Nat} {vs : List Value} {xs : List Int}
  (C : Cx w A s 16) (T : Tb s.heap) (hl : s.heap.IsList l vs.toArray) (hi : IntsAre vs xs) (hsz : vs.length ≤ 63)
  (hN : ∀ (A' : Around) (s' : Shared) (L Dw Ds : Nat) (m : Str → Option Value) (us ss : List Value) (ns : List Nat), A'.handled = none → A'.depth = A.depth + 1 → A'.units = A.units + 3 → L = s.heap.objs.size → ns.length = 6 → (∀ n ∈ ns, n < 3) →
    Kp [] s s' → 0 < s'.toks → s'.heap.Ns L m → m "word" = some (.ref Dw) → s'.heap.PlainList Dw us.toArray → IntsAre us (ns.map Int.ofNat) → s.heap.get? Dw = none → s'.heap.IsCell (L + 1) (some (.ref Ds)) → s'.heap.IsList Ds ss.toArray → SgAre ss (ns.map sgOf) → s.heap.get? Ds = none →
    s'.heap.IsCell (L + 2) none → s'.heap.IsCell (L + 3) none → s'.heap.IsCell (L + 4) none →
    wpAny (model Challenge.rw_xg0051_01.row.prog w) A' (execs ((stmtsAt w.params 221).drop 2) (envC w.params 221 L (lawCells L))) (fun fl s₁ => R (.ok (.ret (match fl with | .ret v => v | _ => Value.none))) s₁) (fun _ _ => False) s') :
  codeAny (model Challenge.rw_xg0051_01.row.prog w) A (.call (.ref 221) ⟨[.ref l], []⟩) R s := by
  have G := C.G
  have hd' := C.hd
  have hh := C.hh
  have hu' := C.hu
  refine' enterC [("script", .ref l)] s.heap G.k G.nolimit (by first | exact fun _ _ e => e | assumption) ?k1 ?k2 ?k3 ?k4 ?k5 ?_ ?c2 ?c3 ?c4
  case k1 => k_is
  case k2 => k_is
  case k3 => walk_at "om"
  case k4 => first | exact BindsTo.of_eq rfl | exact binds_K G.k rfl (by k_is) rfl rfl rfl
  case k5 => (intro n y hy; simp only [List.mem_cons, List.not_mem_nil, or_false] at hy; repeat' (rcases hy with rfl | hy)); all_goals first | (subst hy; exact .inl rfl) | (subst hy; exact .inr ⟨rfl, rfl⟩) | exact .inl rfl | exact .inr ⟨rfl, rfl⟩
  case c2 => exact rfl
  case c3 => exact rfl
  case c4 => exact rfl
  intro L h' A' tk0 hL hkeep F hcells O eh ed eu htk
  have hh' : A'.handled = none := eh.trans hh
  have F0 : Fx s.heap L h' (fun y => if y = Str.ofString "script" then some (.ref l) else none) := F
  have c1 : h'.IsCell (L + 1) none := hcells "signs" (L + 1) rfl
  have c2 : h'.IsCell (L + 2) none := hcells "after" (L + 2) rfl
  have c3 : h'.IsCell (L + 3) none := hcells "k" (L + 3) rfl
  have c4 : h'.IsCell (L + 4) none := hcells "exchanged" (L + 4) rfl
  clear F hcells
  have OL := O L (Nat.le_refl _)
  walk_at "go"
  walk_at "un"
  refine ⟨hkeep, wpAny_call (law_word_spec ⟨G.up hkeep, by walk_at "om", by walk_at "om", hh'⟩ (IsL.keeps hl hkeep) hi hsz ?_)⟩
  intro Dw s1 us ns K1 nDw lw iw h6 h3
  have up1 : Sub h' s1.heap := fun b o e => K1.heap b o (List.not_mem_nil) e
  have F1 := F0.up up1
  try dsimp only
  walk_at "go"
  rename_i h2 F2 S2

  refine wpAny_Assign_Name ?_
  refine comp_eval (X := []) ?_
  walk1
  try dsimp only
  have nDw0 : h'.get? Dw = none := nDw
  have nDL : Dw ≠ L := fun q => by
    obtain ⟨_, _, _, e, _⟩ := F0.ns
    dsimp only at nDw; rw [q, e] at nDw; cases nDw
  have lw2 : h2.PlainList Dw us.toArray := let ⟨nn, e⟩ := lw; ⟨nn, (S2.2 _ nDL).trans e⟩
  have lw2' : h2.IsList Dw us.toArray := let ⟨nn, e⟩ := lw2; ⟨_, e, rfl, _, rfl⟩
  have hul : us.length = 6 := by rw [iw.length, List.length_map, h6]
  walk_at "un"
  refine src_list hh' lw2' (fun vs _ => SgAre vs ((ns.map sgOf).take vs.length)) (by simp [hul]) (XOk.nil _) (G.up F2.keep).lt94 .nil (fun _ _ _ q _ => q) ?_ ?_
  · intro C vs v s₃ m hlt hC hv hU K hns hm
    have hlt' : vs.length < ns.length := by simp [hul] at hlt; walk_at "om"
    obtain ⟨z, tz, rfl, ez⟩ : ∃ (z : Nat) (tz : Tok), v = .int (z : Nat) tz ∧ ns[vs.length]? = some z := by
      obtain ⟨t, e⟩ := ints_at' iw (k := vs.length) (by rw [List.length_map]; walk_at "om")
      have e0 : (ns.map Int.ofNat).getD vs.length 0 = (ns[vs.length] : Nat) := by rw [List.getD_eq_getElem?_getD, List.getElem?_map, List.getElem?_eq_getElem hlt']; rfl
      rw [e0] at e
      walk_at "un"
      refine ⟨ns[vs.length], t, ?_, List.getElem?_eq_getElem hlt'⟩
      have : us[vs.length]? = some v := by simpa using hv
      rw [e] at this; exact (Option.some.inj this).symm
    have F5 : Fx h2 C s₃.heap (fun y => if y = Str.ofString "x" then some (.int (z : Nat) tz) else m y) := Fx.cast ⟨hns, fun b o e => K.heap b o (by simp) e⟩ fun y => by
      split
      · rename_i q; rw [q]; exact hm
      · rfl
    walk_at "go"
    have hz := h3 z (List.mem_of_getElem? ez)
    rw [ofAab]
    walk_at "un"
    refine itemNat (by simp; walk_at "om") (by simp) ?_
    try dsimp only
    walk_at "un"
    refine ⟨Kp.of (fun _ _ e => e) (by walk_at "om"), ?_⟩
    have hs : (ns.map sgOf).take (vs.length + 1) = (ns.map sgOf).take vs.length ++ [sgOf z] := by
      rw [List.take_succ, List.getElem?_map, ez]; rfl
    have e : [65, 97, 98][z]'(by simp; walk_at "om") = sgOf z := by
      unfold sgOf; rw [List.getD_eq_getElem?_getD, List.getElem?_eq_getElem]; rfl
    rw [List.length_append]
    show SgAre _ ((ns.map sgOf).take (vs.length + 1))
    rw [hs, ← e]
    exact hU.snoc _ _
  · intro Ds C s' m' ss hD hC hDC hns hpl hlen hU K h9 S
    dsimp only at hD hC
    have up9 : Sub h2 h9 := fun b o e => (S.2 b (fun q => by rw [q, hC] at e; cases e)).trans (K.heap b o (List.not_mem_nil) e)
    have F9 := F2.up up9
    have k2 : ∀ b : Nat, ∀ o, b ≠ L → h'.get? b = some o → h9.get? b = some o := fun b o hb e => up9 _ _ ((S2.2 _ hb).trans (up1 _ _ e))
    have cell : ∀ b : Nat, b ≠ L → h'.IsCell b none → h9.IsCell b none := fun b hb x => let ⟨o, e, r⟩ := x; ⟨o, k2 _ _ hb e, r⟩
    have g1 : ∀ b : Nat, ∀ v, h9.IsCell b v → b < h9.objs.size := fun b v x => Heap.lt_size x.choose_spec.1
    walk_at "un"
    refine stG F9 (by rfl) (cell _ (by walk_at "om") c1) (O (L + 1) (Nat.le_add_right _ _)) (by show (L : Nat) ≠ L + 1; walk_at "om") ?_
    intro h10 F10 S10 c10
    dsimp only at S10 ⊢
    walk_at "un"
    have hL1 : h2.get? (L + 1) ≠ none := by obtain ⟨o, e, _⟩ := c1; rw [(S2.2 (L + 1) (by show (L + 1 : Nat) ≠ L; walk_at "om")).trans (up1 _ _ e)]; simp
    have nDs : Ds ≠ L + 1 := fun q => hL1 (by rw [← q]; exact hD)
    have nDw : Dw ≠ L + 1 := fun q => by
      obtain ⟨o, e, _⟩ := c1
      dsimp only at nDw; rw [q, e] at nDw; cases nDw
    have nLs : ∀ b : Nat, L ≤ b → s.heap.get? b = none := O
    have Ka : Kp [] s s1 := (Kp.of hkeep htk).trans K1
    have Kb : Kp [] s { s1 with heap := h2, toks := s1.toks + 1 } := Ka.grow [] (fun b o _ hn e => (S2.2 b (fun q => hn (by rw [q]; exact OL))).trans e) (by simp) (by simp) (by simp) (Nat.le_succ _)
    have sC : s.heap.get? C = none := none_of_sub F2.keep hC
    have Kd : Kp [] s { s' with heap := h9, toks := s'.toks } := (Kb.trans K).grow [] (fun b o _ hn e => (S.2 b (fun q => hn (by rw [q]; exact sC))).trans e) (by simp) (by simp) (by simp) (Nat.le_refl _)
    have Ke : Kp [] s { s' with heap := h10, toks := s'.toks } := Kp.grow (a := { s' with heap := h9, toks := s'.toks }) [] Kd (fun b o _ hn e => (S10.2 b (fun q => hn (by rw [q]; exact O _ (Nat.le_add_right _ _)))).trans e) (by simp) (by simp) (by simp) (Nat.le_refl _)
    have c' : ∀ b : Nat, b ≠ L → b ≠ L + 1 → h'.IsCell b none → h10.IsCell b none := fun b b1 b2 x => let ⟨o, e, r⟩ := cell b b1 x; ⟨o, (S10.2 _ b2).trans e, r⟩
    have l9 : h9.IsList Ds ss.toArray := let ⟨nn, e⟩ := hpl; ⟨_, (S.2 _ hDC).trans e, rfl, _, rfl⟩
    have l10 : h10.IsList Ds ss.toArray := let ⟨o, e, r⟩ := l9; ⟨o, (S10.2 _ nDs).trans e, r⟩
    have w10 : h10.PlainList Dw us.toArray := let ⟨nn, e⟩ := lw2; ⟨nn, (S10.2 _ nDw).trans (up9 _ _ e)⟩
    have sss : ss.length = 6 := by rw [hlen]; simp [hul]
    rw [List.take_of_length_le (by rw [List.length_map]; walk_at "om")] at hU
    walk_at "un"
    exact hN A' { s' with heap := h10 } L Dw Ds _ us ss ns hh' ed eu hL h6 h3 Ke (by have := K.toks; dsimp only at this ⊢; walk_at "om") F10.ns rfl w10 iw (none_of_sub hkeep nDw0) c10 l10 hU (none_of_sub F2.keep hD) (c' _ (by walk_at "om") (by walk_at "om") c2) (c' _ (by walk_at "om") (by walk_at "om") c3) (c' _ (by walk_at "om") (by walk_at "om") c4)

end
section
/- Law2 -/
local macro_rules | `(tactic| walk_at "halt") => `(tactic| first | with_reducible refine Mine.hlExAsgLc ?_ | walk_at "h4")
theorem RowAt.wideN {w : World} {X : List Nat} {h : Heap} {a d I : Nat} {cs : List Nat} (R : RowAt w X h a d cs) (hI : ∀ o, h.get? I = some o → ∀ v n, o.data ≠ .seq v n) (nd : d ≠ I) : RowAt w (I :: X) h a d cs := by
  obtain ⟨items, n, e, ⟨tk, t0, ed⟩, P1, P2⟩ := R
  have nX : ∀ b : Nat, ∀ o, b ≠ I → (hideAll h X).get? b = some o → (hideAll h (I :: X)).get? b = some o := fun b o hb q => hideAll_get _ (of_hideAll _ q) fun z => by
    rcases List.mem_cons.mp z with z | z
    · exact hb z
    · exact (hid_get q).2 z
  walk_at "un"
  refine ⟨items, n, e, ⟨tk, t0, nX _ _ nd ed⟩, P1, fun i c q => ?_⟩
  obtain ⟨p, t1, t2, x, o, eo, oc, nn, od⟩ := P2 i c q
  walk_at "un"
  refine ⟨p, t1, t2, x, o, nX _ _ (fun z => ?_) eo, oc, nn, od⟩
  rw [z] at eo
  exact hI o (of_hideAll _ eo) _ _ od
theorem RowsAt.wideN {w : World} {X : List Nat} {h : Heap} {I : Nat} {ad : List (Nat × Nat)} {rs : List (List Nat)} (R : RowsAt w X h ad rs) (hI : ∀ o, h.get? I = some o → ∀ v n, o.data ≠ .seq v n) (nd : ∀ p ∈ ad, p.2 ≠ I) : RowsAt w (I :: X) h ad rs :=
  ⟨R.1, fun j a d r e1 e2 => (R.2 j a d r e1 e2).wideN hI (nd (a, d) (List.mem_of_getElem? e1))⟩
theorem ns_noseq {h : Heap} {L : Nat} {m : Str → Option Value} (N : h.Ns L m) : ∀ o, h.get? L = some o → ∀ v n, o.data ≠ .seq v n := fun o e v n q => by
  obtain ⟨o', _, _, e', d', _⟩ := N
  rw [e'] at e; cases e; rw [d'] at q; cases q
theorem cell_noseq {h : Heap} {c : Nat} {v0 : Option Value} (N : h.IsCell c v0) : ∀ o, h.get? c = some o → ∀ v n, o.data ≠ .seq v n := fun o e v n q => by
  obtain ⟨o', e', d'⟩ := N
  rw [e'] at e; cases e; rw [d'] at q; cases q
theorem law_B {w : World} {A : Around} {s : Shared} {L Dw Ds : Nat} {m : Str → Option Value} {us ss : List Value} {ns : List Nat} {Q : Flow → Shared → Prop}
  {trr : Sem Flow} (htr : trr = execs ((stmtsAt w.params 221).drop 2) (envC w.params 221 L (lawCells L)))
  (G : Gr w (s.heap.hide L)) (T : Tb s.heap) (hh : A.handled = none) (hd : A.depth + 15 < recursionLimit) (hu : A.units + 300 < cLine) (h0 : 0 < s.toks) (l94 : 94 < L)
  (N : s.heap.Ns L m) (mw : m "word" = some (.ref Dw)) (lw : s.heap.PlainList Dw us.toArray) (iw : IntsAre us (ns.map Int.ofNat)) (h6 : ns.length = 6) (h3 : ∀ n ∈ ns, n < 3)
  (c1 : s.heap.IsCell (L + 1) (some (.ref Ds))) (ls : s.heap.IsList Ds ss.toArray) (is : SgAre ss (ns.map sgOf))
  (hN : ∀ (s' : Shared) (Dr Dt a0 d0 a1 d1 a2 d2 : Nat) (m' : Str → Option Value) (ts : List Value), Kp [L] s s' → s'.heap.Ns L m' → m' "word" = some (.ref Dw) → m' "rows" = some (.ref Dr) → m' "triangle" = some (.ref Dt) →
    (∀ b ∈ [Dr, a0, d0, a1, d1, a2, d2, Dt], s.heap.get? b = none) → 94 < a0 → 94 < a1 → 94 < a2 → [a0, a1, a2].Nodup → s'.heap.PlainList Dr #[.ref a0, .ref a1, .ref a2] → Dr ∉ [90, a0, a1, a2] →
    RowsAt w [L, 90, a0, a1, a2] s'.heap [(a0, d0), (a1, d1), (a2, d2)] (laidM 1 (ns.map sgOf)) → s'.heap.IsList Dt ts.toArray → IntsAre ts (triL ns) → Dt ∉ [90, a0, a1, a2] →
    wpAny (model Challenge.rw_xg0051_01.row.prog w) A (execs ((stmtsAt w.params 221).drop 4) (envC w.params 221 L (lawCells L))) Q (fun _ _ => False) s') :
  wpAny (model Challenge.rw_xg0051_01.row.prog w) A trr Q (fun _ _ => False) s := by
  subst htr
  have e1 : envC w.params 221 L (lawCells L) = envC w.params 221 L (lawCells L) := rfl
  conv at e1 => rhs; unfold envC
  conv at e1 => rhs; arg 2; whnf
  conv at e1 => rhs; arg 5; whnf
  rw [e1]
  clear e1
  have F0 : Fx (s.heap.hide L) L s.heap (fun y => if y = Str.ofString "word" then some (.ref Dw) else m y) :=
    Fx.cast ⟨N, fun b o e => Heap.of_hide e⟩ fun y => by walk_at "upd"
  have OL := hideOff s.heap L
  have cg : (s.heap.hide L).IsCell (L + 1) (some (.ref Ds)) := IsCell.hide c1 (by show (L + 1 : Nat) ≠ L; walk_at "om")
  walk_at "un"
  refine wpAny_execs_cons ?_
  walk_at "go"
  have nL : ∀ b : Nat, s.heap.get? b = none → b ≠ L := fun b e q => by
    obtain ⟨_, _, _, e', _⟩ := N; rw [q, e'] at e; cases e
  have nDw : Dw ≠ L := fun q => by
    obtain ⟨_, e⟩ := lw; obtain ⟨_, _, _, e', d', _⟩ := N; rw [q, e'] at e; cases e; cases d'
  walk_at "un"
  refine ⟨F0.keep, wpAny_call (law_laid_spec (cs := ns.map sgOf) ⟨G.up F0.keep, by walk_at "om", by walk_at "om", hh⟩ T ls is (by rw [List.length_map]; walk_at "om") h0 (Nat.lt_succ_self _) (.inl rfl) ?_)⟩
  intro Dr a0 d0 a1 d1 a2 d2 s1 K1 nw b0 b1 b2 nd lD nD R1
  have up1 : Sub s.heap s1.heap := fun b o e => K1.heap b o (List.not_mem_nil) e
  have F1 := F0.up up1
  dsimp only at nw ⊢
  walk_at "un"
  walk_at "go"
  rename_i h2 F2 S2
  have lw2 : h2.PlainList Dw us.toArray := let ⟨nn, e⟩ := lw; ⟨nn, (S2.2 _ nDw).trans (up1 _ _ e)⟩
  walk_at "un"
  refine ⟨F2.keep, wpAny_call (law_triangle_spec (ns := ns) ⟨G.up F2.keep, by walk_at "om", by walk_at "om", hh⟩ lw2 iw h6 h3 ?_)⟩
  intro Dt h4 tk4 ts q4 K4 nDt lt it
  dsimp only at q4 K4 nDt ⊢
  walk_at "un"
  have F4 := F2.up K4
  walk_at "go"
  rename_i h5 F5 S5
  have nDr : Dr ≠ L := nL _ (nw Dr (by simp))
  have sub2 : ∀ b : Nat, ∀ o, b ≠ L → s.heap.get? b = some o → h2.get? b = some o := fun b o hb e => (S2.2 _ hb).trans (up1 _ _ e)
  have nDtL : Dt ≠ L := fun q => by obtain ⟨_, _, _, e', _⟩ := F2.ns; rw [q, e'] at nDt; cases nDt
  have nDt0 : s.heap.get? Dt = none := by
    cases e : s.heap.get? Dt with
    | none => rfl
    | some o => rw [sub2 _ _ nDtL e] at nDt; cases nDt
  have na : ∀ b : Nat, b ∈ [Dr, a0, d0, a1, d1, a2, d2] → b ≠ L := fun b q => nL b (nw b q)
  have up5 : ∀ b : Nat, ∀ o, b ≠ L → s1.heap.get? b = some o → h5.get? b = some o := fun b o hb e => (S5.2 _ hb).trans (K4 _ _ ((S2.2 _ hb).trans e))
  have R2 : RowsAt w [L, 90, a0, a1, a2] s1.heap [(a0, d0), (a1, d1), (a2, d2)] (laidM 1 (ns.map sgOf)) := R1.wideN (ns_noseq F1.ns) (fun p hp => by
    simp only [List.mem_cons, List.not_mem_nil, or_false] at hp
    rcases hp with rfl | rfl | rfl <;> exact na _ (by simp))
  have R5 : RowsAt w [L, 90, a0, a1, a2] h5 [(a0, d0), (a1, d1), (a2, d2)] (laidM 1 (ns.map sgOf)) := R2.move [L] (fun b o hb e => up5 b o (by simpa using hb) e) (by simp) (fun p hp => by
    simp only [List.mem_cons, List.not_mem_nil, or_false] at hp
    rcases hp with rfl | rfl | rfl <;> (simp only [List.mem_cons, List.not_mem_nil, or_false]; exact na _ (by simp)))
  have l2 : s1.heap.PlainList Dr #[.ref a0, .ref a1, .ref a2] := lD
  have K5 : Kp [L] s { s1 with heap := h5, toks := tk4 + 1 } :=
    Kp.grow (a := s1) [L] (Kp.trans (Kp.of (h' := s.heap) (tk := s.toks + 1) (fun b o e => e) (Nat.le_succ _)) (K1.weak (by simp))) (fun b o hb _ e => up5 b o (by simpa using hb) e) (fun b q => q)
      (by simp only [List.mem_cons, List.not_mem_nil, or_false]; exact neN (by walk_at "om")) (by simp only [List.mem_cons, List.not_mem_nil, or_false]; exact neN (by walk_at "om")) (by show s1.toks ≤ tk4 + 1; walk_at "om")
  have nDtX : ∀ b : Nat, b ∈ [90, a0, a1, a2] → Dt ≠ b := fun b hb q => by
    have ex : h2.get? b ≠ none := by
      simp only [List.mem_cons, List.not_mem_nil, or_false] at hb
      have row : ∀ (j a d : Nat), [(a0, d0), (a1, d1), (a2, d2)][j]? = some (a, d) → h2.get? a ≠ none := fun j a d e => by
        obtain ⟨r, hr⟩ : ∃ r, (laidM 1 (ns.map sgOf))[j]? = some r := by
          have : j < [(a0, d0), (a1, d1), (a2, d2)].length := (List.getElem?_eq_some_iff.mp e).1
          walk_at "un"
          exact ⟨_, List.getElem?_eq_getElem (by rw [← R2.1]; exact this)⟩
        obtain ⟨items, n, ea, _⟩ := R2.2 j a d r e hr
        have hne : a ≠ L := by
          have := List.mem_of_getElem? e
          simp only [List.mem_cons, List.not_mem_nil, or_false, Prod.mk.injEq] at this
          rcases this with ⟨rfl, _⟩ | ⟨rfl, _⟩ | ⟨rfl, _⟩ <;> exact na _ (by simp)
        rw [(S2.2 _ hne).trans ea]; simp
      rcases hb with hb | hb | hb | hb <;> (replace hb := hb.symm; subst hb)
      · obtain ⟨op, v, e, _⟩ := (K1.tb T).at90
        rw [(S2.2 _ (neN (by walk_at "om"))).trans e]; simp
      · exact row 0 _ _ rfl
      · exact row 1 _ _ rfl
      · exact row 2 _ _ rfl
    rw [q] at nDt; exact ex nDt
  have nDt5 : ∀ b : Nat, ∀ o, h4.get? b = some o → b = Dt → h5.get? b = some o := fun b o e q => (S5.2 b (by rw [q]; exact nDtL)).trans e
  walk_at "un"
  refine hN { s1 with heap := h5, toks := tk4 + 1 } Dr Dt a0 d0 a1 d1 a2 d2 _ ts K5 F5.ns rfl rfl rfl ?_ b0 b1 b2 nd (let ⟨nn, e⟩ := lD; ⟨nn, up5 _ _ nDr e⟩) nD R5 (let ⟨o, e, r⟩ := lt; ⟨o, nDt5 _ _ e rfl, r⟩) it (fun q => nDtX _ q rfl)
  intro b hb
  simp only [List.mem_cons, List.not_mem_nil, or_false] at hb
  rcases hb with hb | hb | hb | hb | hb | hb | hb | hb <;> (replace hb := hb.symm; subst hb)
  all_goals first | exact nDt0 | exact nw _ (by simp)

end
section
/- Eqs -/
noncomputable def txD (rs : List (List Nat)) : List PyData := rs.map fun r => .str ⟨r.toArray⟩
theorem readsAll_of_txts {h : Heap} {vs : List Value} {rs : List (List Nat)} (H : TxtsAre vs rs) : ReadsAll h vs (txD rs) [] := by
  induction H with
  | nil => exact .nil
  | cons r t _ ih => exact ReadsAll.cons (Reads.str (h := h) _ t) ih
theorem reads_of_txts {h : Heap} {a : Addr} {vs : List Value} {rs : List (List Nat)} (hl : h.IsList a vs.toArray) (hi : TxtsAre vs rs) : Reads h (.ref a) (.list (txD rs)) [a] := by
  obtain ⟨o, ho, hc, n, hd⟩ := hl
  exact Reads.list ho hc hd (by simpa using readsAll_of_txts hi)
theorem noMix_txts : ∀ rs qs : List (List Nat), SeqAt.noMixAll (txD rs) (txD qs) = true
  | [], [] => by simp [SeqAt.noMixAll, txD]
  | [], _ :: _ => by simp [SeqAt.noMixAll, txD]
  | _ :: _, [] => by simp [SeqAt.noMixAll, txD]
  | r :: rs, q :: qs => by
    have := noMix_txts rs qs
    simp only [txD, List.map_cons] at this ⊢
    simp [SeqAt.noMixAll, SeqAt.noMix, this]
theorem same_txts : ∀ rs qs : List (List Nat), PySem.Spec.sameAll (txD rs) (txD qs) = decide (rs = qs)
  | [], [] => by simp [PySem.Spec.sameAll, txD]
  | [], _ :: _ => by simp [PySem.Spec.sameAll, txD]
  | _ :: _, [] => by simp [PySem.Spec.sameAll, txD]
  | r :: rs, q :: qs => by
    have := same_txts rs qs
    simp only [txD, List.map_cons] at this ⊢
    simp only [PySem.Spec.sameAll, PySem.Spec.same, this]
    by_cases h : r = q <;> simp [h]
section
variable {prog : Program} {w : World} {A : Around} {E : Value → Shared → Prop} {s : Shared}
theorem eq_txts {a b : Addr} {vs us : List Value} {rs qs : List (List Nat)} {Q : Value → Shared → Prop} (hl : s.heap.IsList a vs.toArray) (hi : TxtsAre vs rs) (hl' : s.heap.IsList b us.toArray) (hi' : TxtsAre us qs) (hu : A.units + 64 < cLine)
    (sr : SeqAt.shaped (.list (txD rs)) = true) (sq : SeqAt.shaped (.list (txD qs)) = true) (h : Q (.bool (decide (rs = qs))) s) : wpAny (model prog w) A (compareOp .Eq (.ref a) (.ref b)) Q E s :=
  eq_dataH_same (reads_of_txts hl hi) (reads_of_txts hl' hi') sr sq hu (by simp only [SeqAt.noMix]; exact noMix_txts rs qs) (by simp only [PySem.Spec.same]; rw [same_txts]; exact h)
theorem ne_txts {a b : Addr} {vs us : List Value} {rs qs : List (List Nat)} {Q : Value → Shared → Prop} (hl : s.heap.IsList a vs.toArray) (hi : TxtsAre vs rs) (hl' : s.heap.IsList b us.toArray) (hi' : TxtsAre us qs) (hu : A.units + 64 < cLine)
    (sr : SeqAt.shaped (.list (txD rs)) = true) (sq : SeqAt.shaped (.list (txD qs)) = true) (h : Q (.bool (!decide (rs = qs))) s) : wpAny (model prog w) A (compareOp .NotEq (.ref a) (.ref b)) Q E s :=
  ne_dataH_same (reads_of_txts hl hi) (reads_of_txts hl' hi') sr sq hu (by simp only [SeqAt.noMix]; exact noMix_txts rs qs) (by simp only [PySem.Spec.same]; rw [same_txts]; exact h)
end
theorem canLay_txts : ∀ rs : List (List Nat), (∀ r ∈ rs, ∀ c ∈ r, Let c) → PyData.canLayAll0 (txD rs) = true
  | [], _ => by simp [PyData.canLayAll0, txD]
  | r :: rs, h => by
    have := canLay_txts rs fun q hq => h q (List.mem_cons_of_mem _ hq)
    simp only [txD, List.map_cons] at this ⊢
    have hr := h r (List.mem_cons_self ..)
    simp [PyData.canLayAll0, PyData.canLay0, this, PyData.strOk]
    intro c hc
    rcases hr c hc with q | q | q <;> walk_at "om"
theorem depth_txts : ∀ rs : List (List Nat), PyData.depthAll (txD rs) ≤ 1
  | [] => by simp [PyData.depthAll, txD]
  | r :: rs => by
    have := depth_txts rs
    simp only [txD, List.map_cons] at this ⊢
    simp only [PyData.depthAll, PyData.depth]
    walk_at "om"
theorem shaped_txts (rs : List (List Nat)) (h : ∀ r ∈ rs, ∀ c ∈ r, Let c) : SeqAt.shaped (.list (txD rs)) = true := by
  have h1 := depth_txts rs
  have h2 : PyData.depth (.list (txD rs)) ≤ 64 := by simp only [PyData.depth]; walk_at "om"
  show (PyData.canLay0 (.list (txD rs)) && decide (PyData.depth (.list (txD rs)) ≤ 64)) = true
  rw [Bool.and_eq_true]
  exact ⟨by simp only [PyData.canLay0]; exact canLay_txts rs h, decide_eq_true h2⟩

end
section
/- Law3 -/
local macro_rules | `(tactic| walk_at "halt") => `(tactic| first | with_reducible refine Mine.hlType ?_ | walk_at "h4")
theorem law_C {w : World} {A : Around} {s : Shared} {L Dr : Nat} {m : Str → Option Value} {X : List Nat} {ad : List (Nat × Nat)} {rs : List (List Nat)} {Q : Flow → Shared → Prop}
  {trr : Sem Flow} (htr : trr = execs ((stmtsAt w.params 221).drop 4) (envC w.params 221 L (lawCells L)))
  (HX : ∀ b : Nat, b ∈ X → s.heap.get? b ≠ none) (hL : L ∈ X) (h90 : 90 ∈ X) (l94 : 94 < L) (had : ∀ p ∈ ad, p.1 ∈ X ∧ p.1 ≠ L ∧ 94 < p.1) (h3 : ad.length = 3)
  (G : Gr w (hideAll s.heap X)) (T : Tb s.heap) (hh : A.handled = none) (hd : A.depth + 8 < recursionLimit) (hu : A.units + 160 < cLine)
  (N : s.heap.Ns L m) (mr : m "rows" = some (.ref Dr)) (lr : (hideAll s.heap X).IsList Dr (ad.map fun p => Value.ref p.1).toArray) (R : RowsAt w X s.heap ad rs) (hlen : ∀ r ∈ rs, r.length ≤ 100)
  (hN : ∀ (s' : Shared) (Db : Nat) (m' : Str → Option Value) (us : List Value), Kp [L, 90] s s' → s'.heap.Ns L m' → (∀ z : Str, [Str.ofString "begun"].contains z = false → m' z = m z) → m' "begun" = some (.ref Db) → s.heap.get? Db = none →
    s'.heap.PlainList Db us.toArray → TxtsAre us rs → RowsAt w X s'.heap ad rs →
    wpAny (model Challenge.rw_xg0051_01.row.prog w) A (execs ((stmtsAt w.params 221).drop 5) (envC w.params 221 L (lawCells L))) Q (fun _ _ => False) s') :
  wpAny (model Challenge.rw_xg0051_01.row.prog w) A trr Q (fun _ _ => False) s := by
  subst htr
  have e1 : envC w.params 221 L (lawCells L) = envC w.params 221 L (lawCells L) := rfl
  conv at e1 => rhs; unfold envC
  conv at e1 => rhs; arg 2; whnf
  conv at e1 => rhs; arg 5; whnf
  rw [e1]
  clear e1
  have up0 : Sub (hideAll s.heap X) s.heap := fun b o e => of_hideAll _ e
  have F0 : Fx (hideAll s.heap X) L s.heap (fun y => if y = Str.ofString "rows" then some (.ref Dr) else m y) :=
    Fx.cast ⟨N, up0⟩ fun y => by walk_at "upd"
  have OL := hideAll_none X (h := s.heap) hL
  have hrs : rs.length = 3 := by have := R.1; walk_at "om"
  have hDr : s.heap.IsList Dr (ad.map fun p => Value.ref p.1).toArray := IsL.keeps lr up0
  have Gs : Gr w s.heap := G.up up0
  walk_at "un"
  refine wpAny_execs_cons ?_
  refine comp_asg (X := [90]) ?_
  walk1
  walk_at "un"
  refine src_list hh hDr (fun vs _ => TxtsAre vs (rs.take vs.length)) (by simp [h3]) (XOk.tab T) Gs.lt94 .nil (fun _ _ _ q _ => q) ?_ ?_
  · intro C vs v2 s₃ m₃ hlt hC hv hU K hns hm
    have hlt3 : vs.length < 3 := by simpa [h3] using hlt
    obtain ⟨⟨a, d⟩, hadi⟩ : ∃ p, ad[vs.length]? = some p := ⟨_, List.getElem?_eq_getElem (by walk_at "om")⟩
    obtain ⟨haY, haL, ha94⟩ := had _ (List.mem_of_getElem? hadi)
    dsimp only at haY haL ha94
    obtain ⟨r, hr⟩ : ∃ r, rs[vs.length]? = some r := ⟨_, List.getElem?_eq_getElem (by walk_at "om")⟩
    have hv2 : v2 = .ref a := by
      have e : (ad.map fun p => Value.ref p.1)[vs.length]? = some v2 := by simpa using hv
      rw [List.getElem?_map, hadi] at e
      exact (Option.some.inj e).symm
    subst hv2
    have Rr := R.2 _ a d r hadi hr
    have R3 : RowAt w X s₃.heap a d r := Rr.move (hid_sub fun b o hb e => K.heap b o (fun q => hb (by rw [List.mem_singleton.mp q]; exact h90)) e) (fun o e => K.heap a o (fun q => by have q' : a = 90 := List.mem_singleton.mp q; walk_at "om") e)
    obtain ⟨items, n, ea, eD, eP⟩ := R3
    have up3 : Sub (hideAll s.heap X) s₃.heap := fun b o e => K.heap b o (fun q => (hid_get e).2 (by rw [List.mem_singleton.mp q]; exact h90)) (of_hideAll _ e)
    have F5 : Fx (hideAll s.heap X) C s₃.heap (fun y => if y = Str.ofString "row" then some (.ref a) else m₃ y) := Fx.cast ⟨hns, up3⟩ fun y => by
      split
      · rename_i q; rw [q]; exact hm
      · rfl
    have T3 : Tb s₃.heap := K.tb T
    have rl : items.size ≤ 1000 := by
      have h1 := hlen r (List.mem_of_getElem? hr)
      rw [eP.1]; walk_at "om"
    walk_at "go"
    walk_at "un"
    refine str_acc ⟨G.up up3, by walk_at "om", by walk_at "om", hh⟩ T3 ea (eD.up fun b o e => of_hideAll _ e) (eP.up fun b o e => of_hideAll _ e) rl ?_
    intro s4 t4 K4
    walk_at "un"
    refine ⟨K4, ?_⟩
    rw [List.length_append, List.length_singleton, List.take_succ, hr]
    exact hU.snoc r t4
  · intro D C s' m' us hD hC hDC hns hpl hlen' hU K
    have lL90 : L ≠ 90 := neN (by walk_at "om")
    have Ns' : s'.heap.Ns L m := N.at' fun o e => K.heap L o (by simpa using lL90) e
    have upS : Sub (hideAll s.heap X) s'.heap := fun b o e => K.heap b o (fun q => (hid_get e).2 (by rw [List.mem_singleton.mp q]; exact h90)) (of_hideAll _ e)
    have F6 : Fx (hideAll s.heap X) L s'.heap m := ⟨Ns', upS⟩
    have hus : us.length = 3 := by rw [hlen']; simp [h3]
    rw [hus, List.take_of_length_le (by walk_at "om")] at hU
    have Lx : s.heap.get? L ≠ none := by obtain ⟨_, _, _, e, _⟩ := N; rw [e]; simp
    have nCL : C ≠ L := fun q => Lx (by rw [← q]; exact hC)
    have nDL : D ≠ L := fun q => Lx (by rw [← q]; exact hD)
    walk_at "un"
    refine stL F6 OL ?_
    intro h7 F7 S7
    walk_at "un"
    refine ⟨fun o e => (S7.2 _ nCL).trans e, ?_⟩
    intro h8 S8
    dsimp only at S8 ⊢
    walk_at "un"
    have k8 : ∀ b : Nat, ∀ o, b ≠ L → b ≠ C → s'.heap.get? b = some o → h8.get? b = some o := fun b o b1 b2 e => (S8.2 _ b2).trans ((S7.2 _ b1).trans e)
    have nC : ∀ b : Nat, s.heap.get? b ≠ none → b ≠ C := fun b hb q => hb (by rw [q]; exact hC)
    have K8 : Kp [L, 90] s { s' with heap := h8, toks := s'.toks + 1 } :=
      Kp.grow (a := s') [L] (K.weak (by simp)) (fun b o hb hn e => k8 b o (by simpa using hb) (nC b hn) e) (by simp)
        (by simp only [List.mem_cons, List.not_mem_nil, or_false]; exact neN (by walk_at "om")) (by simp only [List.mem_cons, List.not_mem_nil, or_false]; exact neN (by walk_at "om")) (Nat.le_succ _)
    walk_at "un"
    refine hN { s' with heap := h8, toks := s'.toks + 1 } D _ us K8 (F7.ns.at' fun o e => (S8.2 _ (Ne.symm nCL)).trans e) ?_ rfl hD (let ⟨nn, e⟩ := hpl; ⟨nn, k8 _ _ nDL hDC e⟩) hU ?_
    · intro z hz
      rw [if_neg (fun q => by rw [q] at hz; revert hz; decide)]
    · refine R.move [L, 90] (fun b o hb e => k8 b o (fun q => hb (by simp [q])) (nC b (by rw [e]; simp)) (K.heap b o (fun q => hb (by simp [List.mem_singleton.mp q])) e)) (fun b q => ?_) (fun p q => ?_)
      · simp only [List.mem_cons, List.not_mem_nil, or_false] at q
        rcases q with q | q
        · rw [q]; exact hL
        · rw [q]; exact h90
      · have := had p q
        simp only [List.mem_cons, List.not_mem_nil, or_false, not_or]
        walk_at "un"
        exact ⟨this.2.1, neN (by walk_at "om")⟩

end
section
/- Law4 -/
local macro_rules | `(tactic| walk_at "halt") => `(tactic| first | with_reducible refine Mine.hlExAsgN ?_ | walk_at "h4")
theorem law_D {w : World} {A : Around} {s : Shared} {L Db Dt : Nat} {m : Str → Option Value} {X : List Nat} {rs : List (List Nat)} {us ts : List Value} {a b c d e f : Int} {Q : Flow → Shared → Prop}
  {trr : Sem Flow} (htr : trr = execs ((stmtsAt w.params 221).drop 5) (envC w.params 221 L (lawCells L)))
  (HX : ∀ b : Nat, b ∈ X → s.heap.get? b ≠ none) (hL : L ∈ X)
  (G : Gr w (hideAll s.heap X)) (hh : A.handled = none) (hd : A.depth + 8 < recursionLimit) (hu : A.units + 160 < cLine)
  (N : s.heap.Ns L m) (mb : m "begun" = some (.ref Db)) (mt : m "triangle" = some (.ref Dt)) (lb : s.heap.IsList Db us.toArray) (ib : TxtsAre us rs) (lt : s.heap.IsList Dt ts.toArray) (it : IntsAre ts [a, b, c, d, e, f])
  (h1 : a ≤ 50 ∧ b ≤ 50 ∧ c ≤ 50 ∧ d ≤ 50 ∧ e ≤ 50 ∧ f ≤ 50) (h2 : -50 ≤ a ∧ -50 ≤ b ∧ -50 ≤ c ∧ -50 ≤ d ∧ -50 ≤ e ∧ -50 ≤ f) (hlet : ∀ r ∈ rs, ∀ c ∈ r, Let c) (heq : rs = rowsM a b c d e f)
  (hN : ∀ h' (tk : Nat), s.toks ≤ tk → Sub s.heap h' →
    wpAny (model Challenge.rw_xg0051_01.row.prog w) A (execs ((stmtsAt w.params 221).drop 6) (envC w.params 221 L (lawCells L))) Q (fun _ _ => False) { s with heap := h', toks := tk }) :
  wpAny (model Challenge.rw_xg0051_01.row.prog w) A trr Q (fun _ _ => False) s := by
  subst htr
  have e1 : envC w.params 221 L (lawCells L) = envC w.params 221 L (lawCells L) := rfl
  conv at e1 => rhs; unfold envC
  conv at e1 => rhs; arg 2; whnf
  conv at e1 => rhs; arg 5; whnf
  rw [e1]
  clear e1
  have up0 : Sub (hideAll s.heap X) s.heap := fun b o e => of_hideAll _ e
  have F0 : Fx (hideAll s.heap X) L s.heap (fun y => if y = Str.ofString "begun" then some (.ref Db) else if y = Str.ofString "triangle" then some (.ref Dt) else m y) :=
    Fx.cast ⟨N, up0⟩ fun y => by walk_at "upd"
  have OL := hideAll_none X (h := s.heap) hL
  walk_at "un"
  refine wpAny_execs_cons ?_
  walk_at "go"
  walk_at "un"
  refine ⟨up0, wpAny_call (law_rows_spec ⟨G.up up0, by walk_at "om", by walk_at "om", hh⟩ lt it h1 h2 ?_)⟩
  intro D h3 tk3 vs q3 K3 nD ld iv
  dsimp only at q3 K3 ⊢
  walk_at "un"
  refine ne_txts (IsL.keeps lb K3) ib ld iv (by walk_at "om") (shaped_txts _ hlet) (shaped_txts _ (heq ▸ hlet)) ?_
  rw [decide_eq_true heq]
  walk_at "go"
  walk_at "un"
  exact hN h3 tk3 q3 K3

end
section
/- Law5 -/
local macro_rules | `(tactic| walk_at "halt") => `(tactic| first | with_reducible refine Mine.hlExFor ?_ | with_reducible refine Mine.hlDict ?_ | walk_at "h4")
theorem law_E {w : World} {A : Around} {s : Shared} {L Db : Nat} {m : Str → Option Value} {X : List Nat} {Q : Flow → Shared → Prop}
  {trr : Sem Flow} (htr : trr = execs ((stmtsAt w.params 221).drop 6) (envC w.params 221 L (lawCells L)))
  (HX : ∀ b : Nat, b ∈ X → s.heap.get? b ≠ none) (hL : L ∈ X) (l94 : 94 < L)
  (G : Gr w (hideAll s.heap X)) (hh : A.handled = none)
  (N : s.heap.Ns L m) (mb : m "begun" = some (.ref Db))
  (hN : ∀ h' (tk : Nat) (m' : Str → Option Value) (Bk Wy : Nat) (ws : List Value), s.toks < tk → (∀ b : Nat, ∀ o, b ≠ L → s.heap.get? b = some o → h'.get? b = some o) → h'.Ns L m' → (∀ z : Str, [Str.ofString "texts", Str.ofString "book", Str.ofString "ways"].contains z = false → m' z = m z) →
    m' "texts" = some (.ref Db) → m' "book" = some (.ref Bk) → m' "ways" = some (.ref Wy) → (∀ Y : List Nat, (∀ b : Nat, b ∈ Y → s.heap.get? b ≠ none) → BookAt w (hideAll h' Y) Bk 0 0 0 0 []) → h'.IsList Wy ws.toArray → IntsAre ws [0, 0] → s.heap.get? Bk = none → s.heap.get? Wy = none →
    wpAny (model Challenge.rw_xg0051_01.row.prog w) A (execs ((stmtsAt w.params 221).drop 9) (envC w.params 221 L (lawCells L))) Q (fun _ _ => False) { s with heap := h', toks := tk }) :
  wpAny (model Challenge.rw_xg0051_01.row.prog w) A trr Q (fun _ _ => False) s := by
  subst htr
  have e1 : envC w.params 221 L (lawCells L) = envC w.params 221 L (lawCells L) := rfl
  conv at e1 => rhs; unfold envC
  conv at e1 => rhs; arg 2; whnf
  conv at e1 => rhs; arg 5; whnf
  rw [e1]
  clear e1
  have up0 : Sub (hideAll s.heap X) s.heap := fun b o e => of_hideAll _ e
  have F0 : Fx (hideAll s.heap X) L s.heap (fun y => if y = Str.ofString "begun" then some (.ref Db) else m y) :=
    Fx.cast ⟨N, up0⟩ fun y => by walk_at "upd"
  have OL := hideAll_none X (h := s.heap) hL
  walk_at "un"
  refine wpAny_execs_cons ?_
  walk_at "go"
  rename_i h1 F1 S1
  refine dictF ?_
  intro D h2 eD K2 D2 nD hz
  clear hz
  dsimp only at K2 nD eD ⊢
  walk_at "un"
  have F2 := F1.up K2
  walk_at "go"
  rename_i h3 F3 K3 T3 h4 F4 S4 aW h5 F5 K5 l5 nw5 h6 F6 S6
  dsimp only at K3 T3 ⊢
  walk_at "un"
  have nBk : h2.get? h2.objs.size = none := new_none h2
  generalize h2.objs.size = Bk at T3 F4 F5 F6 nBk ⊢
  have Lx : ∀ {h : Heap} {m : Str → Option Value}, h.Ns L m → h.get? L ≠ none := fun N => by obtain ⟨_, _, _, e, _⟩ := N; rw [e]; simp
  have nBL : Bk ≠ L := fun q => Lx F2.ns (by rw [← q]; exact nBk)
  have nDL : D ≠ L := fun q => Lx F1.ns (by rw [← q]; exact nD)
  have nWL : aW ≠ L := fun q => Lx F4.ns (by rw [← q]; exact nw5)
  have k36 : ∀ b : Nat, ∀ o, b ≠ L → h3.get? b = some o → h6.get? b = some o := fun b o hb e => (S6.2 _ hb).trans (K5 _ _ ((S4.2 _ hb).trans e))
  have k06 : ∀ b : Nat, ∀ o, b ≠ L → s.heap.get? b = some o → h6.get? b = some o := fun b o hb e => k36 b o hb (K3 _ _ (K2 _ _ ((S1.2 _ hb).trans e)))
  have nDS : (D == sysModules) = false := by
    have l2 : L < h1.objs.size := F1.ns.lt
    have l3 : (sysModules : Nat) ≤ 94 := by decide
    refine beq_eq_false_iff_ne.mpr (neN (?_ : (D : Nat) ≠ sysModules))
    intro q
    have l4 : L < sysModules := by rw [← q, eD]; exact l2
    exact absurd (Nat.lt_of_lt_of_le (Nat.lt_trans l94 l4) l3) (Nat.lt_irrefl _)
  have oB : s.heap.get? Bk = none := by
    cases e : s.heap.get? Bk with
    | none => rfl
    | some o => rw [K2 _ _ ((S1.2 _ nBL).trans e)] at nBk; cases nBk
  have oD : s.heap.get? D = none := by
    cases e : s.heap.get? D with
    | none => rfl
    | some o => have := (S1.2 _ nDL).trans e; rw [this] at nD; cases nD
  walk_at "un"
  refine hN h6 _ _ Bk aW _ (by walk_at "om") k06 F6.ns ?_ rfl rfl rfl (fun Y hY => ⟨_, _, _, _, D, Heap.IsTuple.at T3 fun o e => hideAll_get _ (k36 _ _ nBL e) fun q => hY _ q oB, D2.keep fun o e => hideAll_get _ (k36 _ _ nDL (K3 _ _ e)) fun q => hY _ q oD, nDS⟩) (let ⟨o, e, r⟩ := l5; ⟨o, (S6.2 _ nWL).trans e, r⟩) (.cons _ _ (.cons _ _ .nil)) ?_ ?_
  · intro z hz
    rw [if_neg (fun q => by rw [q] at hz; revert hz; decide), if_neg (fun q => by rw [q] at hz; revert hz; decide), if_neg (fun q => by rw [q] at hz; revert hz; decide)]
    split
    · rename_i q; rw [q]; exact mb.symm
    · rfl
  · exact oB
  · cases e : s.heap.get? aW with
    | none => rfl
    | some o => rw [(S4.2 _ nWL).trans (K3 _ _ (K2 _ _ ((S1.2 _ nWL).trans e)))] at nw5; cases nw5

end
section
/- Law6 -/
local macro_rules | `(tactic| walk_at "halt") => `(tactic| first | with_reducible refine Mine.hlSubT ?_ | walk_at "h4")
noncomputable def lawBody (P : Params) : List Stmt := nthBody (stmtsAt P 221) 9
theorem RowsAt.dict_off {w : World} {X : List Nat} {h : Heap} {ad : List (Nat × Nat)} {rs : List (List Nat)} (R : RowsAt w X h ad rs) : ∀ p ∈ ad, p.2 ∉ X := by
  intro p hp
  obtain ⟨j, hj⟩ := List.mem_iff_getElem?.mp hp
  obtain ⟨r, hr⟩ : ∃ r, rs[j]? = some r := ⟨_, List.getElem?_eq_getElem (by rw [← R.1]; exact (List.getElem?_eq_some_iff.mp hj).1)⟩
  obtain ⟨items, n, e, ⟨tk, t0, ed⟩, _⟩ := R.2 j p.1 p.2 r hj hr
  exact (hid_get ed).2
noncomputable def NoSeq (h : Heap) (b : Nat) : Prop := ∀ o, h.get? b = some o → ∀ v n, o.data ≠ .seq v n
theorem RowsAt.widen {w : World} {X Y : List Nat} {h : Heap} {ad : List (Nat × Nat)} {rs : List (List Nat)} (R : RowsAt w Y h ad rs) (hd : ∀ p ∈ ad, p.2 ∉ X) (hs : ∀ b ∈ X, b ∈ Y ∨ NoSeq h b) : RowsAt w X h ad rs := by
  walk_at "un"
  refine ⟨R.1, fun j a d r e1 e2 => ?_⟩
  obtain ⟨items, n, e, ⟨tk, t0, ed⟩, P1, P2⟩ := R.2 j a d r e1 e2
  walk_at "un"
  refine ⟨items, n, e, ⟨tk, t0, hideAll_get _ (hid_get ed).1 (hd (a, d) (List.mem_of_getElem? e1))⟩, P1, fun i c q => ?_⟩
  obtain ⟨p, t1, t2, x, o, eo, oc, nn, od⟩ := P2 i c q
  walk_at "un"
  refine ⟨p, t1, t2, x, o, hideAll_get _ (hid_get eo).1 (fun z => ?_), oc, nn, od⟩
  rcases hs _ z with z | z
  · exact (hid_get eo).2 z
  · exact z o (hid_get eo).1 _ _ od
theorem sub_hid {X Y : List Nat} {h : Heap} (hY : ∀ b, b ∈ Y → b ∈ X) : Sub (hideAll h X) (hideAll h Y) := fun b o e => hideAll_get _ (hid_get e).1 fun q => (hid_get e).2 (hY b q)
theorem law_F1 {w : World} {A : Around} {s : Shared} {L Dr Dx lo hi tp : Nat} {m : Str → Option Value} {X Y : List Nat} {ad : List (Nat × Nat)} {rs : List (List Nat)} {us : List Value} {v0 : Option Value} {Q : Flow → Shared → Prop}
  {trr : Sem Flow} (htr : trr = execs (lawBody w.params) (envC w.params 221 L (lawCells L)))
  (HX : ∀ b : Nat, b ∈ X → s.heap.get? b ≠ none) (hYX : ∀ b, b ∈ Y → b ∈ X) (hL : L ∈ X) (h2 : L + 2 ∈ X) (h90 : 90 ∈ Y) (nL : L ∉ Y) (n2 : L + 2 ∉ Y) (hXs : ∀ b ∈ X, b ∈ Y ∨ NoSeq s.heap b)
  (l94 : 94 < L) (had : ∀ p ∈ ad, p.1 ∈ Y ∧ 94 < p.1) (hnd : (ad.map (·.1)).Nodup) (had3 : ad.length = 3)
  (G : Gr w (hideAll s.heap X)) (T : Tb s.heap) (hh : A.handled = none) (hd : A.depth + 13 < recursionLimit) (hu : A.units + 250 < cLine) (h0 : 0 < s.toks)
  (N : s.heap.Ns L m) (mr : m "rows" = some (.ref Dr)) (mx : m "texts" = some (.ref Dx)) (mp : m "pair" = some (.str ⟨[lo, hi].toArray⟩ tp))
  (lr : (hideAll s.heap X).IsList Dr (ad.map fun p => Value.ref p.1).toArray) (lx : (hideAll s.heap X).IsList Dx us.toArray) (ix : TxtsAre us rs) (R : RowsAt w X s.heap ad rs) (c2 : s.heap.IsCell (L + 2) v0)
  (hlo : lo = 65 ∨ lo = 97) (hhi : Let hi) (hlet : ∀ r ∈ rs, ∀ c ∈ r, Let c) (hl : ∀ r ∈ rs, r.length ≤ 10) (hok : ∀ r ∈ rs, placeM lo r + (r.count lo + r.count hi) ≤ r.length)
  (hN : ∀ (s' : Shared) (Da : Nat) (us' : List Value), Kp ((L + 2) :: Y) s s' → s'.heap.Ns L m → s'.heap.IsCell (L + 2) (some (.ref Da)) → s.heap.get? Da = none → s'.heap.PlainList Da us'.toArray → TxtsAre us' (movedM rs lo hi) → RowsAt w X s'.heap ad (movedM rs lo hi) →
    wpAny (model Challenge.rw_xg0051_01.row.prog w) A (execs ((lawBody w.params).drop 1) (envC w.params 221 L (lawCells L))) Q (fun _ _ => False) s') :
  wpAny (model Challenge.rw_xg0051_01.row.prog w) A trr Q (fun _ _ => False) s := by
  subst htr
  have e1 : envC w.params 221 L (lawCells L) = envC w.params 221 L (lawCells L) := rfl
  conv at e1 => rhs; unfold envC
  conv at e1 => rhs; arg 2; whnf
  conv at e1 => rhs; arg 5; whnf
  rw [e1]
  clear e1
  have up0 : Sub (hideAll s.heap X) s.heap := fun b o e => of_hideAll _ e
  have F0 : Fx (hideAll s.heap X) L s.heap (fun y => if y = Str.ofString "rows" then some (.ref Dr) else if y = Str.ofString "texts" then some (.ref Dx) else if y = Str.ofString "pair" then some (.str ⟨[lo, hi].toArray⟩ tp) else m y) :=
    Fx.cast ⟨N, up0⟩ fun y => by walk_at "upd"
  have OL := hideAll_none X (h := s.heap) hL
  walk_at "un"
  refine wpAny_execs_cons ?_
  walk_at "go"
  walk_at "un"
  refine itemNat (i := 0) (by simp) (by simp) ?_
  try dsimp only
  walk_at "go"
  walk_at "un"
  refine itemNat (i := 1) (by simp) (by simp) ?_
  try dsimp only
  walk_at "go"
  walk_at "un"
  refine ⟨up0, wpAny_call (law_moved_spec (X := Y) (lo := lo) (hi := hi) (rs := rs) (vt := us) (ad := ad) ⟨G.up up0, by walk_at "om", by walk_at "om", hh⟩ T (fun b q => HX b (hYX b q)) h90 (G.up (sub_hid hYX)) had hnd had3 (IsL.keeps lr (sub_hid hYX)) (IsL.keeps lx (sub_hid hYX)) ix (R.weak hYX)
    ⟨by walk_at "om", by dsimp only; walk_at "om"⟩ ⟨by walk_at "om", by dsimp only; walk_at "om"⟩ hlo hhi hlet hl hok ?_)⟩
  intro Da s1 us' K1 nDa lDa iDa R1
  dsimp only at nDa ⊢
  walk_at "un"
  have K0 : Kp Y s s1 := Kp.trans (Kp.of (h' := s.heap) (fun b o e => e) (by walk_at "om")) K1
  clear K1
  have N1 : s1.heap.Ns L m := N.at' fun o e => K0.heap L o nL e
  have F1 : Fx (hideAll s.heap X) L s1.heap m := ⟨N1, fun b o e => K0.heap b o (fun q => (hid_get e).2 (hYX b q)) (of_hideAll _ e)⟩
  have R1' : RowsAt w X s1.heap ad (movedM rs lo hi) := R1.widen R.dict_off fun b q => by
    by_cases hb : b ∈ Y
    · exact .inl hb
    · right
      intro o e v n z
      rcases hXs b q with y | y
      · exact hb y
      · cases e0 : s.heap.get? b with
        | none => exact HX b q e0
        | some o' =>
          rw [K0.heap b o' hb e0] at e; cases e
          exact y _ e0 v n z
  have c21 : s1.heap.IsCell (L + 2) v0 := let ⟨o, e, r⟩ := c2; ⟨o, K0.heap _ o n2 e, r⟩
  have n90 : L + 2 ≠ 90 := by walk_at "om"
  have n94 : L + 2 ≠ 94 := by walk_at "om"
  have cx : s.heap.get? (L + 2) ≠ none := HX _ h2
  have nDa2 : Da ≠ L + 2 := fun q => cx (by rw [← q]; exact nDa)
  walk_at "un"
  refine stG F1 (by rfl) c21 (hideAll_none X h2) (by show (L : Nat) ≠ L + 2; walk_at "om") ?_
  intro h3 F3 S3 c3
  walk_at "un"
  refine hN { s1 with heap := h3 } Da us' ?_ F3.ns c3 nDa (let ⟨nn, e⟩ := lDa; ⟨nn, (S3.2 _ nDa2).trans e⟩) iDa ?_
  · exact Kp.grow (a := s1) [L + 2] (K0.weak fun b q => List.mem_cons_of_mem _ q) (fun b o hb _ e => (S3.2 b (by simpa using hb)).trans e) (by simp) (by simpa using Ne.symm n90) (by simpa using Ne.symm n94) (Nat.le_refl _)
  · exact R1'.move [L + 2] (fun b o hb e => (S3.2 b (by simpa using hb)).trans e) (by simpa using h2) fun p hp q => n2 (by rw [← List.mem_singleton.mp q]; exact (had p hp).1)

end
section
/- Law7 -/
local macro_rules | `(tactic| walk_at "halt") => `(tactic| first | with_reducible refine Mine.hlExFor ?_ | with_reducible refine Mine.hlSubT ?_ | walk_at "h4")
noncomputable def absM (z : Int) : Int := if z < 0 then -z else z
theorem absF {prog : Program} {w : World} {A : Around} {E : Value → Shared → Prop} {s : Shared} {z : Int} {t : Tok} {Q : Value → Shared → Prop} (h : ∀ (t' : Tok) (tk : Nat), s.toks ≤ tk → Q (.int (absM z) t') { s with toks := tk }) :
    wpAny (model prog w) A (call (.builtin "abs") [.int z t]) Q E s :=
  wpAny_with_toks (Nat.le_refl s.toks) (call_abs_int fun t' tk htk => h t' tk htk)
local macro_rules | `(tactic| walk_at "call builtin:abs") => `(tactic| (refine Mine.absF ?_; intro t' tk' htk'; (try dsimp only at htk'); (try dsimp only)))
noncomputable def lawSc : { sc : Scope // ∀ P : Params, scopeAt P 221 = sc } := by
  walk_at "un"
  refine ⟨?sc, fun P => ?_⟩
  rotate_left
  · conv => lhs; whnf
noncomputable def lawEnv (P : Params) (L : Nat) : Env := envX (qualAt P 221) lawSc.1 L 221 (codeAtV P 221) (lawCells L)
theorem lawEnv_eq (P : Params) (L : Nat) : envC P 221 L (lawCells L) = lawEnv P L := by
  unfold envC lawEnv
  rw [lawSc.2 P]
theorem ints2 {vs : List Value} {a b : Int} (h : IntsAre vs [a, b]) : ∃ t1 t2 : Tok, vs = [.int a t1, .int b t2] := by
  cases h with | cons _ t1 h => cases h with | cons _ t2 h => cases h; exact ⟨t1, t2, rfl⟩
theorem law_F2 {w : World} {A : Around} {s : Shared} {L Dt Da Wy lo hi tp : Nat} {m : Str → Option Value} {rs : List (List Nat)} {us ts ws : List Value} {a b c d e f a' b' c' d' e' f' w0 w1 : Int} {Q : Flow → Shared → Prop}
  {trr : Sem Flow} (htr : trr = execs ((lawBody w.params).drop 1) (envC w.params 221 L (lawCells L)))
  (G : Gr w (s.heap.hide L)) (hh : A.handled = none) (hd : A.depth + 8 < recursionLimit) (hu : A.units + 160 < cLine)
  (N : s.heap.Ns L m) (mt : m "triangle" = some (.ref Dt)) (mp : m "pair" = some (.str ⟨[lo, hi].toArray⟩ tp)) (mw : m "ways" = some (.ref Wy))
  (lt : (s.heap.hide L).IsList Dt ts.toArray) (it : IntsAre ts [a, b, c, d, e, f]) (c2 : (s.heap.hide L).IsCell (L + 2) (some (.ref Da))) (la : (s.heap.hide L).IsList Da us.toArray) (ia : TxtsAre us rs) (lw : (s.heap.hide L).IsList Wy ws.toArray) (iw : IntsAre ws [w0, w1])
  (ht : turnM (lo == 65) a b c d e f = [a', b', c', d', e', f']) (h1 : a' ≤ 50 ∧ b' ≤ 50 ∧ c' ≤ 50 ∧ d' ≤ 50 ∧ e' ≤ 50 ∧ f' ≤ 50) (h2 : -50 ≤ a' ∧ -50 ≤ b' ∧ -50 ≤ c' ∧ -50 ≤ d' ∧ -50 ≤ e' ∧ -50 ≤ f') (hlet : ∀ r ∈ rs, ∀ c ∈ r, Let c) (heq : rs = rowsM a' b' c' d' e' f')
  (hN : ∀ h' (tk : Nat) (m' : Str → Option Value) (Du Wz : Nat) (ts' ws' : List Value), s.toks ≤ tk → (∀ b : Nat, ∀ o, b ≠ L → s.heap.get? b = some o → h'.get? b = some o) → h'.Ns L m' → (∀ z : Str, [Str.ofString "turned", Str.ofString "gone", Str.ofString "ways"].contains z = false → m' z = m z) →
    m' "turned" = some (.ref Du) → m' "ways" = some (.ref Wz) → s.heap.get? Du = none → s.heap.get? Wz = none → h'.IsList Du ts'.toArray → IntsAre ts' [a', b', c', d', e', f'] → h'.IsList Wz ws'.toArray →
    IntsAre ws' [w0 + (absM (f' - f) + 2 * absM (d' - d)) + 2 * absM (e' - e), w1 + (absM (f' - f) + 2 * absM (d' - d)) + 2 * (2 * absM (e' - e))] →
    wpAny (model Challenge.rw_xg0051_01.row.prog w) A (execs ((lawBody w.params).drop 5) (envC w.params 221 L (lawCells L))) Q (fun _ _ => False) { s with heap := h', toks := tk }) :
  wpAny (model Challenge.rw_xg0051_01.row.prog w) A trr Q (fun _ _ => False) s := by
  subst htr
  rw [lawEnv_eq] at hN ⊢
  have F0 : Fx (s.heap.hide L) L s.heap (fun y => if y = Str.ofString "triangle" then some (.ref Dt) else if y = Str.ofString "pair" then some (.str ⟨[lo, hi].toArray⟩ tp) else if y = Str.ofString "ways" then some (.ref Wy) else m y) :=
    Fx.cast ⟨N, fun b o e => Heap.of_hide e⟩ fun y => by walk_at "upd"
  have OL := hideOff s.heap L
  obtain ⟨t1, t2, t3, t4, t5, t6, rfl⟩ := ints6 it
  obtain ⟨z1, z2, rfl⟩ := ints2 iw
  walk_at "un"
  refine wpAny_execs_cons ?_
  walk_at "go"
  walk_at "un"
  refine itemNat (i := 0) (by simp) (by simp) ?_
  try dsimp only
  walk_at "go"
  walk_at "un"
  refine ⟨F0.keep, wpAny_call (law_turned_spec (x := lo) ⟨G.up F0.keep, by walk_at "om", by walk_at "om", hh⟩ (IsL.keeps lt F0.keep) it ?_)⟩
  intro Du h3 tk3 us3 q3 K3 nDu lu iu
  dsimp only at q3 K3 nDu ⊢
  walk_at "un"
  rw [ht] at iu
  have F3 := F0.up K3
  walk_at "go"
  rename_i h4 F4 S4
  have nDuL : Du ≠ L := fun q => by
    obtain ⟨_, _, _, e', _⟩ := F0.ns; rw [q, e'] at nDu; cases nDu
  have lu4 : h4.IsList Du us3.toArray := let ⟨o, e, r⟩ := lu; ⟨o, (S4.2 _ nDuL).trans e, r⟩
  walk_at "un"
  refine ⟨F4.keep, wpAny_call (law_rows_spec ⟨G.up F4.keep, by walk_at "om", by walk_at "om", hh⟩ lu4 iu h1 h2 ?_)⟩
  intro Dr h5 tk5 vs q5 K5 nDr ld iv
  dsimp only at q5 K5 nDr ⊢
  walk_at "un"
  have F5 := F4.up K5
  walk_at "un"
  refine ne_txts (IsL.keeps la F5.keep) ia ld iv (by walk_at "om") (shaped_txts _ hlet) (shaped_txts _ (heq ▸ hlet)) ?_
  rw [decide_eq_true heq]
  have lu5 : h5.IsList Du us3.toArray := IsL.keeps lu4 K5
  obtain ⟨u1, u2, u3, u4, u5, u6, rfl⟩ := ints6 iu
  have lt5 := IsL.keeps lt F5.keep
  clear lu4 lu lt
  walk_at "go"
  rename_i aG h6 F6 K6 l6 nw6 h7 F7 S7
  obtain ⟨tA, tB, l7⟩ : ∃ tA tB, h6.IsList aG #[.int (absM (f' - f) + 2 * absM (d' - d)) tA, .int (2 * absM (e' - e)) tB] := ⟨_, _, l6⟩
  clear l6
  have nGL : aG ≠ L := fun q => by
    obtain ⟨_, _, _, e', _⟩ := F5.ns; rw [q, e'] at nw6; cases nw6
  have l8 : h7.IsList aG #[.int (absM (f' - f) + 2 * absM (d' - d)) tA, .int (2 * absM (e' - e)) tB] := let ⟨o, e, r⟩ := l7; ⟨o, (S7.2 _ nGL).trans e, r⟩
  have lw7 := IsL.keeps lw F7.keep
  clear lw lt5
  walk_at "un"
  refine item0 (v := .int w0 z1) lw7 rfl ?_
  walk_at "go"
  walk_at "un"
  refine item0 (v := .int (absM (f' - f) + 2 * absM (d' - d)) tA) l8 rfl ?_
  walk_at "go"
  walk_at "un"
  refine item0 (v := .int (absM (f' - f) + 2 * absM (d' - d)) tA) l8 rfl ?_
  walk_at "go"
  rename_i aW h8 F8 K8 l9 nw9 h9 F9 S9
  have nWL : aW ≠ L := fun q => by
    obtain ⟨_, _, _, e', _⟩ := F7.ns; rw [q, e'] at nw9; cases nw9
  have k57 : ∀ b : Nat, ∀ o, b ≠ L → h5.get? b = some o → h7.get? b = some o := fun b o hb e => (S7.2 _ hb).trans (K6 _ _ e)
  have k79 : ∀ b : Nat, ∀ o, b ≠ L → h7.get? b = some o → h9.get? b = some o := fun b o hb e => (S9.2 _ hb).trans (K8 _ _ e)
  have k05 : ∀ b : Nat, ∀ o, b ≠ L → s.heap.get? b = some o → h5.get? b = some o := fun b o hb e => K5 _ _ ((S4.2 _ hb).trans (K3 _ _ e))
  walk_at "un"
  refine hN h9 _ _ Du aW _ _ (by walk_at "om") (fun b o hb e => k79 b o hb (k57 b o hb (k05 b o hb e))) F9.ns ?_ rfl rfl nDu ?_ (let ⟨o, e, r⟩ := lu5; ⟨o, k79 _ _ nDuL (k57 _ _ nDuL e), r⟩) iu (let ⟨o, e, r⟩ := l9; ⟨o, (S9.2 _ nWL).trans e, r⟩) (.cons _ _ (.cons _ _ .nil))
  · intro z hz
    walk_at "upd"
  · cases e : s.heap.get? aW with
    | none => rfl
    | some o => rw [k57 _ _ nWL (k05 _ _ nWL e)] at nw9; cases nw9

end
section
/- DComp -/
/-- a dict comprehension over a text of ascii signs: the sign is the key, an int the value -/
noncomputable def countM (f : Nat → Int) (cs : List Nat) : List (Str × Int) := cs.foldl (fun ms c => putI ms ⟨#[c]⟩ (f c)) []
theorem countM_snoc (f : Nat → Int) (cs : List Nat) (c : Nat) : countM f (cs ++ [c]) = putI (countM f cs) ⟨#[c]⟩ (f c) := by
  unfold countM; rw [List.foldl_append]; rfl
theorem countM_len (f : Nat → Int) (cs : List Nat) : (countM f cs).length ≤ cs.length := by
  suffices ∀ (cs : List Nat) (ms : List (Str × Int)), (cs.foldl (fun ms c => putI ms ⟨#[c]⟩ (f c)) ms).length ≤ ms.length + cs.length by
    have := this cs []; simpa [countM] using this
  intro cs
  induction cs with
  | nil => intro ms; simp
  | cons c r ih =>
    intro ms
    have := ih (putI ms ⟨#[c]⟩ (f c))
    have h2 := putI_len ms ⟨#[c]⟩ (f c)
    simp only [List.foldl_cons, List.length_cons]; walk_at "om"
section
variable {w : World} {A : Around} {E : Value → Shared → Prop} {env : Env}
theorem dcomp_block {vx iter : Expr} {x : Str} {kp px : Pos} {scope : Scope} {cl : List (Str × Addr)} {pos : Pos} {s₂ : Shared} {I : Addr} {y : Str} {ty : Tok} {f : Nat → Int} {RR : Value → Addr → Result → Shared → Prop}
    (hh : A.handled = none) (hit : s₂.heap.IsStrIter I "str_ascii_iterator" y ty 0) (hsz : y.cps.size ≤ 100)
    (hcell : ∀ y ∈ scope.names, y.2 ≠ .cell) (hkind : scope.kind = .function) (hx : scope.names.lookup x = some .local) (hdbg : (x == ("__debug__" : Str)) = false) (n90 : (90 : Nat) ≠ I) (n94 : (94 : Nat) ≠ I)
    (helt : ∀ C c u s₃ m, s₂.heap.get? C = none → c ∈ y.cps.toList → s₂.toks ≤ u → u < s₃.toks → Kp [I] s₂ s₃ → s₃.heap.Ns C m → m x = some (.str ⟨#[c]⟩ u) →
      wpAny (model Challenge.rw_xg0051_01.row.prog w) A (eval vx (compEnvC scope cl C env)) (fun v s₄ => Kp [] s₃ s₄ ∧ ∃ t, v = .int (f c) t) (fun _ _ => False) s₃)
    (hRR : ∀ D C s' m', s₂.heap.objs.size ≤ D → s₂.heap.get? D = none → s₂.heap.get? C = none → D ≠ C → s'.heap.Ns C m' → DictI w s'.heap D (countM f y.cps.toList) → Kp [I] s₂ s' → RR (.ref D) C (.ok .next) s') :
    wpAny (model Challenge.rw_xg0051_01.row.prog w) A newDict (fun acc s₃ => wpAny (model Challenge.rw_xg0051_01.row.prog w) A (newFunctionEnv scope env.globals cl [] env.qual none .none (some env)) (fun cenv s₄ =>
      codeAny (model Challenge.rw_xg0051_01.row.prog w) A (.compStart (.DictComp (.Name x kp) vx [⟨.Name x px, iter, [], 0⟩] scope pos) 0 (.ref I) acc { cenv with scope := relabel scope env }) (RR acc cenv.locals) s₄) E s₃) E s₂ := by
  refine wpAny_newObj_type (wpAny_newFunctionEnv hcell (by intro y hy; simp at hy) (fun h₁ hns₁ hsb₁ => ?_) hkind)
  dsimp only at hns₁ hsb₁ ⊢
  walk_at "un"
  have hnew : (s₂.heap.push { cls := .type "dict", dict := none, data := .dict #[] }).DictOf (strKind Challenge.rw_xg0051_01.row.prog w) s₂.heap.objs.size [] := Heap.DictOf.new s₂.heap
  generalize hH2 : s₂.heap.push { cls := .type "dict", dict := none, data := .dict #[] } = H2 at hns₁ hsb₁ hnew ⊢
  have hC : H2.objs.size = s₂.heap.objs.size + 1 := by rw [← hH2, Heap.size_push]
  have lI : I < s₂.heap.objs.size := by obtain ⟨_, e, _⟩ := hit; exact Heap.lt_size e
  generalize hD : s₂.heap.objs.size = D at *
  generalize hCC : H2.objs.size = C at *
  have hDC : D ≠ C := by rw [hC]; exact Nat.ne_of_lt (Nat.lt_succ_self _)
  have below : ∀ b, b < D → b ≠ C ∧ b ≠ D := fun b hb => ⟨by rw [hC]; exact Nat.ne_of_lt (Nat.lt_succ_of_lt hb), Nat.ne_of_lt hb⟩
  have old : ∀ b o, s₂.heap.get? b = some o → h₁.get? b = some o := fun b o e => hsb₁.extBut b o (below b (hD ▸ Heap.lt_size e)).1 (Heap.get?_push_of_some _ (hH2 ▸ Heap.get?_push_of_some _ e))
  have hacc : DictI w h₁ D [] := ⟨[], hnew.at fun o e => hsb₁.extBut _ _ hDC (Heap.get?_push_of_some _ e), .nil⟩
  have fresh : ∀ a, D ≤ a → s₂.heap.get? a = none := fun a ha => by
    cases e : s₂.heap.get? a with
    | none => rfl
    | some o' => exact absurd (hD ▸ Heap.lt_size e) (Nat.not_lt.mpr ha)
  have fD := fresh D (Nat.le_refl _)
  have fC := fresh C (by rw [hC]; exact Nat.le_succ _)
  have hIC : I ≠ C := (below I lI).1
  have hID : I ≠ D := (below I lI).2
  have dD : ∀ {b : Addr}, s₂.heap.get? b ≠ none → b ≠ D := fun hb q => hb (q ▸ fD)
  have dC : ∀ {b : Addr}, s₂.heap.get? b ≠ none → b ≠ C := fun hb q => hb (q ▸ fC)
  have W := walksN_ascii (prog := Challenge.rw_xg0051_01.row.prog) (w := w) hh I y ty s₂.toks
  have loop : ∀ s₃ : Shared, s₃ = { s₂ with heap := h₁, toks := s₂.toks + ([] : List (Str × Value)).length } →
      codeAny (model Challenge.rw_xg0051_01.row.prog w) A (.compLoop (.DictComp (.Name x kp) vx [⟨.Name x px, iter, [], 0⟩] scope pos) 0 (.ref I) (.ref D) (compEnvC scope cl C env))
        (RR (.ref D) C) s₃ := by
    rintro s₃ rfl
    refine codeAny_compLoop_testsD
      (fun k s' => ∃ m' i, s'.heap.IsStrIter I "str_ascii_iterator" y ty i ∧ DictI w s'.heap D (countM f (y.cps.toList.take i)) ∧ s'.heap.Ns C m' ∧ i ≤ y.cps.size ∧ k = y.cps.size + 1 - i ∧ Kp [I] s₂ s') ?_ (y.cps.size + 1)
      ⟨_, 0, W.frame _ _ _ hit fun b _ o e => old b o e, hacc, hns₁, Nat.zero_le _, rfl, (Kp.refl _ _).grow [] (fun b o _ _ e => old b o e) (by simp) (by simp) (by simp) (Nat.le_refl _)⟩
    · rintro k s' ⟨m', i, hst', hacc', hn', hle, rfl, K⟩
      by_cases hlt : i < y.cps.size
      · refine W.item i _ _ _ hlt K.toks hst' fun v h₁ tk₁ hPv htk₁ hst₁ hk₁ => ?_
        obtain ⟨c, u, ec, rfl, hu1, hu2⟩ := hPv
        refine wpAny_assign_Name (wpAny_storeName_local (lookup_relabel_local hx) (hn'.at' fun o e => hk₁ _ o (by simp [Ne.symm hIC]) e) (fun h₂ hn₂ hs₂ => ?_) (by simp [compEnvC, relabel, hkind]))
        replace hs₂ : Heap.SameBut C h₁ h₂ := hs₂
        replace hn₂ : h₂.Ns C _ := hn₂
        show wpAny _ _ (pure true) _ _ _
        refine wpAny_pure ?_
        simp only [if_true]
        have up₂ : ∀ b o, b ≠ C → b ∉ [I] → s'.heap.get? b = some o → h₂.get? b = some o := fun b o hbC hbf e => hs₂.extBut b o hbC (hk₁ b o hbf e)
        have hst₂ : h₂.IsStrIter I "str_ascii_iterator" y ty (i + 1) := W.frame _ _ _ hst₁ fun b hb o e => hs₂.extBut b o (fun h => hIC (by rw [← h]; exact (List.mem_singleton.mp hb).symm)) e
        have K₂ : Kp [I] s₂ { s' with heap := h₂, toks := tk₁ + 1 } := K.grow [I] (fun b o hb hn e => up₂ b o (dC hn) hb e) (fun b hb => hb) (by simpa using n90) (by simpa using n94) (Nat.le_succ_of_le htk₁)
        refine wpAny_Name (wpAny_loadName_local (by simp [compEnvC, relabel, hkind]) (lookup_relabel_local hx) hn₂ (by simp; rfl) ?_) hdbg
        refine wpAny_mono (helt C c u _ _ fC (Array.mem_toList_iff.mpr (Array.mem_of_getElem? ec)) hu1 (Nat.lt_succ_of_lt hu2) K₂ hn₂ (by simp)) (fun v s₄ h₄ => ?_) fun _ _ y => y.elim
        obtain ⟨K₄, t, rfl⟩ := h₄
        have K₅ : Kp [I] s₂ s₄ := K₂.trans (K₄.weak (by simp))
        have acc₄ : DictI w s₄.heap D (countM f (y.cps.toList.take i)) := hacc'.keep fun o e => K₄.heap _ o (by simp) (up₂ _ o hDC (by simpa using Ne.symm hID) e)
        have hn₄ : s₄.heap.Ns C _ := hn₂.at' fun o e => K₄.heap _ o (by simp) e
        have hst₄ : s₄.heap.IsStrIter I "str_ascii_iterator" y ty (i + 1) := W.frame _ _ _ hst₂ fun b _ o e => K₄.heap b o (by simp) e
        obtain ⟨kvs, hkv, KV⟩ := acc₄
        have hlen : kvs.length ≤ 100 := by
          rw [KV.length]
          have := countM_len f (y.cps.toList.take i)
          rw [List.length_take] at this
          have e := Array.length_toList (xs := y.cps)
          walk_at "om"
        refine wpAny_dictSet_pairs (knd := strKind Challenge.rw_xg0051_01.row.prog w) (k := ⟨#[c]⟩) (hsz := by rw [sizeLine_eq]; walk_at "om") (strKind_is _ _ ⟨#[c]⟩ u) hkv fun h₅ hl₅ hs₅ => ?_
        refine ⟨y.cps.size + 1 - (i + 1), by walk_at "om", _, i + 1, ?_, ⟨_, hl₅, ?_⟩, hn₄.sameBut hs₅ (Ne.symm hDC), hlt, rfl, ?_⟩
        · exact W.frame _ _ h₅ hst₄ fun b hb o e => hs₅.extBut b o (fun h => hID (by rw [← h]; exact (List.mem_singleton.mp hb).symm)) e
        · have e2 : y.cps.toList.take (i + 1) = y.cps.toList.take i ++ [c] := by
            rw [List.take_add_one, Array.getElem?_toList, ec]; rfl
          rw [e2, countM_snoc]
          exact KV.stored _ _ _
        · exact K₅.grow [] (fun b o _ hn e => hs₅.extBut b o (dD hn) e) (by simp) (by simp) (by simp) (Nat.le_succ _)
      · have hin : i = y.cps.size := by walk_at "om"
        refine W.done _ _ _ (hin ▸ hst') fun h₁ tk₁ htk₁ hk₁ => ?_
        refine hRR D C _ m' (Nat.le_refl _) fD fC hDC (hn'.at' fun o e => hk₁ _ o (by simpa using Ne.symm hIC) e) ?_ (K.grow [I] (fun b o hb _ e => hk₁ b o hb e) (fun b hb => hb) (by simpa using n90) (by simpa using n94) htk₁)
        have e2 : y.cps.toList.take i = y.cps.toList := List.take_of_length_le (by rw [Array.length_toList]; walk_at "om")
        rw [e2] at hacc'
        exact hacc'.keep fun o e => hk₁ _ o (by simpa using Ne.symm hID) e
  exact codeAny_compStart_dict (loop _ rfl) (W.self 0 _ _ _ (W.frame _ _ _ hit fun b _ o e => old b o e) (loop _ rfl))
end
section
variable {w : World} {A : Around} {E : Value → Shared → Prop} {env : Env} {s : Shared}
theorem dcomp_asg {vx iter : Expr} {x z : Str} {kp px pz : Pos} {scope : Scope} {cl : List (Str × Addr)} {pos spos : Pos} {Q : Flow → Shared → Prop} (hh : A.handled = none)
    (h : wpAny (model Challenge.rw_xg0051_01.row.prog w) A (eval iter env) (fun xv s₁ => ∃ (y : Str) (t : Tok) (f : Nat → Int), xv = .str y t ∧ y.cps.all (· < 128) = true ∧ y.cps.size ≤ 100 ∧ (94 : Nat) < s₁.heap.objs.size ∧
      (∀ (C : Addr) (c u : Nat) s₃ m, s₁.heap.get? C = none → c ∈ y.cps.toList → s₁.toks ≤ u → u < s₃.toks → Kp [] s₁ s₃ → s₃.heap.Ns C m → m x = some (.str ⟨#[c]⟩ u) →
        wpAny (model Challenge.rw_xg0051_01.row.prog w) A (eval vx (compEnvC scope cl C env)) (fun v s₄ => Kp [] s₃ s₄ ∧ ∃ t, v = .int (f c) t) (fun _ _ => False) s₃) ∧
      (∀ (D C : Addr) s' m', s₁.heap.objs.size ≤ D → s₁.heap.get? D = none → s₁.heap.get? C = none → D ≠ C → s'.heap.Ns C m' → DictI w s'.heap D (countM f y.cps.toList) → Kp [] s₁ s' →
        wpAny (model Challenge.rw_xg0051_01.row.prog w) A (storeName env z (.ref D)) (fun _ s'' => (∀ o, s'.heap.get? C = some o → s''.heap.get? C = some o) ∧ ∀ h', Heap.SameBut C s''.heap h' → Q .next { s'' with heap := h' }) E s')) E s)
    (hsw : swapsWith (.DictComp (.Name x kp) vx [⟨.Name x px, iter, [], 0⟩] scope pos) (some (.Name z pz)) spos.line env = pure true := by rfl)
    (hclos : closureFor scope env = pure cl := by rfl) (hcell : ∀ y ∈ scope.names, y.2 ≠ .cell := by decide) (hkind : scope.kind = .function := by rfl)
    (hnames : ∀ y ∈ scope.names, y.2 = .local → scope.names.lookup y.1 = some .local := by decide) (hx : scope.names.lookup x = some .local := by rfl) (hdbg : (x == ("__debug__" : Str)) = false := by decide)
    (hs : ∀ x, foldedSetIterable iter env x = pure x := by intro _; rfl) :
    wpAny (model Challenge.rw_xg0051_01.row.prog w) A (exec (.Assign [.Name z pz] (.DictComp (.Name x kp) vx [⟨.Name x px, iter, [], 0⟩] scope pos) spos) env) Q E s := by
  rw [exec_Assign_Name_used _ _ _ _ hsw]
  refine wpAny_bind (wpAny_standAt (wpAny_bind ?_))
  show wpAny _ A (do let _ ← comprehension (.DictComp (.Name x kp) vx [⟨.Name x px, iter, [], 0⟩] scope pos) scope env _ newDict false (eval iter env) (some (assign (.Name z pz) env))) _ _ s
  refine wpAny_bind (wpAny_mono (wpAny_comprehension_free (use := some (assign (.Name z pz) env)) (Q := fun _ s' => Q .next s') rfl hs hclos hkind hnames
    (wpAny_mono h (fun xv s₁ h₁ => ?_) fun _ _ e => e)) (fun _ s' hq => wpAny_pure (wpAny_pure hq)) fun _ _ e => e)
  obtain ⟨y, t, f, rfl, hy, hsz, h94, helt, hQ⟩ := h₁
  refine wpAny_pyIter_ascii hy ?_
  have up : Sub s₁.heap (s₁.heap.push { cls := .type "str_ascii_iterator", data := .fields #[.str y t, .int 0 0] }) := fun b o e => Heap.get?_push_of_some _ e
  refine dcomp_block (RR := fun acc C => compPost (model Challenge.rw_xg0051_01.row.prog w) A E (some (assign (.Name z pz) env)) (fun _ s' => Q .next s') acc C) (f := f) (y := y) (ty := t) hh ⟨_, Heap.get?_push_size _ rfl, rfl, rfl⟩ hsz hcell hkind hx hdbg
    (Nat.ne_of_lt (Nat.lt_trans (by decide) h94)) (Nat.ne_of_lt h94) ?_ ?_
  · intro C c u s₃ m hC hc h1 h2 K hn hm
    exact helt C c u s₃ m (none_of_sub up hC) hc h1 h2 (Kp.push [s₁.heap.objs.size] (by simp) K) hn hm
  · intro D C s' m' hle hD hC hDC hn hd K
    rw [Heap.size_push] at hle
    refine wpAny_assign_Name (wpAny_mono (hQ D C s' m' (Nat.le_of_succ_le hle) (none_of_sub up hD) (none_of_sub up hC) hDC hn hd (Kp.push [s₁.heap.objs.size] (by simp) K)) (fun _ s'' z => ?_) fun _ _ e => e)
    exact ⟨m', hn.at' z.1, fun h'' hs'' => z.2 h'' hs''⟩
end

end
section
/- Law8 -/
local macro_rules | `(tactic| walk_at "call builtin:len") => `(tactic| (refine Mine.lenF (by walk_at "om") ?_; (try dsimp only)))
noncomputable def lawKBody (P : Params) : List Stmt := nthBody (lawBody P) 5
local macro_rules | `(tactic| walk_at "halt") => `(tactic| first | with_reducible refine Mine.hlExAsgD ?_ | walk_at "h4")
theorem law_K {w : World} {A : Around} {s : Shared} {L Dx Da Bk i : Nat} {ti : Tok} {m : Str → Option Value} {rs rs' : List (List Nat)} {r r' : List Nat} {us us' : List Value} {c n t x : Int} {ms : List (Str × Int)} {Q : Flow → Shared → Prop}
  {trr : Sem Flow} (htr : trr = execs (lawKBody w.params) (envC w.params 221 L (lawCells L)))
  (G : Gr w (s.heap.hide L)) (hh : A.handled = none) (hd : A.depth + 8 < recursionLimit) (hu : A.units + 160 < cLine) (h0 : 0 < s.toks) (l94 : 94 < L)
  (N : s.heap.Ns L m) (mx : m "texts" = some (.ref Dx)) (mb : m "book" = some (.ref Bk))
  (lx : (s.heap.hide L).IsList Dx us.toArray) (ix : TxtsAre us rs) (c2 : (s.heap.hide L).IsCell (L + 2) (some (.ref Da))) (la : (s.heap.hide L).IsList Da us'.toArray) (ia : TxtsAre us' rs')
  (ck : (s.heap.hide L).IsCell (L + 3) (some (.int (i : Nat) ti))) (hi : i < 3) (er : rs[i]? = some r) (er' : rs'[i]? = some r')
  (B : BookAt w (s.heap.hide L) Bk c n t x ms) (hms : ms.length ≤ 60) (l1 : r.length ≤ 10) (l2 : r.length = r'.length) (h1 : ∀ c ∈ r, Let c) (h2 : ∀ c ∈ r', Let c)
  (hQ : ∀ (s' : Shared) (m' : Str → Option Value) (Bk' : Nat), Kp [L] s s' → s'.heap.Ns L m' → (∀ z : Str, [Str.ofString "far", Str.ofString "counts", Str.ofString "book"].contains z = false → m' z = m z) → m' "book" = some (.ref Bk') → s.heap.get? Bk' = none →
    (∀ X : List Nat, (∀ b : Nat, b ∈ X → s.heap.get? b ≠ none) → BookAt w (hideAll s'.heap X) Bk' (1 + c) ((r'.length : Nat) + n) (levM r r' + t) (((i : Int) + 1) * levM r r' + x) ((countM (fun c => (r'.count c : Nat)) [65, 97, 98]).foldl addI ms)) → Q .next s') :
  wpAny (model Challenge.rw_xg0051_01.row.prog w) A trr Q (fun _ _ => False) s := by
  subst htr
  rw [lawEnv_eq]
  have F0 : Fx (s.heap.hide L) L s.heap (fun y => if y = Str.ofString "texts" then some (.ref Dx) else if y = Str.ofString "book" then some (.ref Bk) else m y) :=
    Fx.cast ⟨N, fun b o e => Heap.of_hide e⟩ fun y => by walk_at "upd"
  have OL := hideOff s.heap L
  obtain ⟨tx, ex⟩ := ix.get er
  obtain ⟨ty, ey⟩ := ia.get er'
  have lx0 := IsL.keeps lx F0.keep
  have la0 := IsL.keeps la F0.keep
  walk_at "un"
  refine wpAny_execs_cons ?_
  walk_at "go"
  walk_at "un"
  with_reducible refine itemL (v := .str ⟨r.toArray⟩ tx) lx0 ex (by walk_at "om") ?_
  walk_at "go"
  walk_at "un"
  with_reducible refine itemL (v := .str ⟨r'.toArray⟩ ty) la0 ey (by walk_at "om") ?_
  walk_at "go"
  walk_at "un"
  refine ⟨F0.keep, wpAny_call (lev_spec ⟨G.up F0.keep, by walk_at "om", by walk_at "om", hh⟩ (by dsimp only; walk_at "om") l1 l2 h1 h2 ?_)⟩
  intro t1 hh1 tk1 q1 K1
  dsimp only at q1 K1 ⊢
  walk_at "un"
  have F1 := F0.up K1
  walk_at "go"
  rename_i h3 F3 S3
  refine wpAny_execs_cons (dcomp_asg hh ?_)
  walk1
  have la3 := IsL.keeps la F3.keep
  walk_at "un"
  refine ⟨⟨[65, 97, 98].toArray⟩, _, fun c => (r'.count c : Nat), by rw [ofAab], by rw [List.all_toArray]; rfl, by decide, (G.up F3.keep).lt94, ?_, ?_⟩
  · intro C c u s₃ m₃ hC hc hu1 hu2 K hn hm
    dsimp only at hu1
    have F5 : Fx (s.heap.hide L) C s₃.heap (fun y => if y = Str.ofString "sign" then some (.str ⟨#[c]⟩ u) else m₃ y) := Fx.cast ⟨hn, fun b o e => K.heap b o (by simp) (F3.keep b o e)⟩ fun y => by
      split
      · rename_i q; rw [q]; exact hm
      · rfl
    walk_at "go"
    walk_at "un"
    with_reducible refine itemL (v := .str ⟨r'.toArray⟩ ty) (IsL.keeps la F5.keep) ey (by walk_at "om") ?_
    walk_at "go"
    walk_at "un"
    refine ⟨F5.keep, wpAny_call (countOf_str (x := r') ⟨G.up F5.keep, by walk_at "om", by walk_at "om", hh⟩ ?_ (by walk_at "om") hu2 ?_)⟩
    · rw [List.all_toArray, List.all_eq_true]
      intro z hz
      rcases h2 z hz with q | q | q <;> (rw [q]; rfl)
    · intro t h tk q K
      walk_at "un"
      exact ⟨Kp.of K q, t, rfl⟩
  · intro D C s' m' hle hD hC hDC hn hdI K
    dsimp only at hle hD hC K
    have F4 := F3.up (h' := s'.heap) fun b o e => K.heap b o (by simp) e
    have nCL : C ≠ L := fun q => by
      obtain ⟨_, _, _, e, _⟩ := F3.ns; rw [q, e] at hC; cases hC
    have nDL : D ≠ L := fun q => by
      obtain ⟨_, _, _, e, _⟩ := F3.ns; rw [q, e] at hD; cases hD
    walk_at "un"
    refine stL F4 OL ?_
    intro h5 F5 S5
    walk_at "un"
    refine ⟨fun o e => (S5.2 _ nCL).trans e, ?_⟩
    intro h6 S6
    dsimp only at S5 S6 ⊢
    walk_at "un"
    have k56 : ∀ b : Nat, ∀ o, b ≠ C → h5.get? b = some o → h6.get? b = some o := fun b o hb e => (S6.2 _ hb).trans e
    have F6 := Fx.mk (g := s.heap.hide L) (F5.ns.at' fun o e => k56 _ _ (Ne.symm nCL) e) (fun b o e => k56 b o (fun q => by have := F3.keep b o e; rw [q] at this; rw [this] at hC; cases hC) (F5.keep b o e))
    clear F4 F5
    have D6 : DictI w h6 D (countM (fun c => (r'.count c : Nat)) [65, 97, 98]) := hdI.keep fun o e => k56 _ _ hDC ((S5.2 _ nDL).trans e)
    have nDS : (D == sysModules) = false := by
      have l2 : L < h3.objs.size := F3.ns.lt
      have l3 : (sysModules : Nat) ≤ 94 := by decide
      refine beq_eq_false_iff_ne.mpr (neN (?_ : (D : Nat) ≠ sysModules))
      intro q
      have l4 : h3.objs.size ≤ sysModules := by rw [← q]; exact hle
      exact absurd (Nat.lt_of_lt_of_le (Nat.lt_trans l94 l2) (Nat.le_trans l4 l3)) (Nat.lt_irrefl _)
    walk_at "go"
    walk_at "un"
    with_reducible refine itemL (v := .str ⟨r'.toArray⟩ ty) (IsL.keeps la F6.keep) ey (by walk_at "om") ?_
    walk_at "go"
    rename_i h7 F7 K7 T7
    dsimp only at K7 T7
    have B7 : BookAt w h7 Bk c n t x ms := B.keep F7.keep
    have S7 : BookAt w h7 h6.objs.size 1 (r'.length : Nat) (levM r r') (((i : Int) + 1) * levM r r') (countM (fun c => (r'.count c : Nat)) [65, 97, 98]) := ⟨_, _, _, _, D, T7, D6.keep fun o e => K7 _ _ e, nDS⟩
    have hcl := countM_len (fun c => (r'.count c : Nat)) [65, 97, 98]
    walk_at "un"
    refine ⟨F7.keep, wpAny_call (add_func_stats_spec ⟨G.up F7.keep, by walk_at "om", by walk_at "om", hh⟩ B7 S7 (by simp only [List.length_cons, List.length_nil] at hcl; walk_at "om") ?_)⟩
    intro Bn h8 tk8 q8 K8 nB hB
    dsimp only at q8 K8 nB hB ⊢
    walk_at "un"
    have F8 := F7.up K8
    walk_at "un"
    refine stL F8 OL ?_
    intro h9 F9 S9
    dsimp only at S9 ⊢
    walk_at "un"
    refine wpAny_execs_nil ?_
    have n90 : (90 : Nat) ≠ L := by walk_at "om"
    have n94 : (94 : Nat) ≠ L := by walk_at "om"
    have Ka : Kp [L] s { s with heap := h3, toks := tk1 + 1 + 1 } := Kp.grow (a := s) [L] (Kp.refl [L] s) (fun b o hb _ e => (S3.2 b (by simpa using hb)).trans (K1 _ _ e)) (by simp) (by simpa using n90) (by simpa using n94) (by walk_at "om")
    have Kb : Kp [L] s s' := Ka.trans (K.weak (by simp))
    have nC : ∀ b : Nat, b ≠ L → s.heap.get? b ≠ none → b ≠ C := fun b hb e q => by
      cases e2 : s.heap.get? b with
      | none => exact e e2
      | some o => have := Ka.heap b o (by simpa using hb) e2; dsimp only at this; rw [q, hC] at this; cases this
    have k57 : ∀ b : Nat, ∀ o, b ≠ L → b ≠ C → s'.heap.get? b = some o → h7.get? b = some o := fun b o b1 b2 e => K7 _ _ (k56 _ _ b2 ((S5.2 _ b1).trans e))
    have k07 : ∀ b : Nat, ∀ o, b ≠ L → s.heap.get? b = some o → h7.get? b = some o := fun b o hb e => k57 b o hb (nC b hb (by rw [e]; simp)) (Kb.heap b o (by simpa using hb) e)
    have oB : s.heap.get? Bn = none := by
      have nBL : Bn ≠ L := fun q => by
        obtain ⟨_, _, _, e, _⟩ := F7.ns; rw [q, e] at nB; cases nB
      cases e : s.heap.get? Bn with
      | none => rfl
      | some o => rw [k07 _ _ nBL e] at nB; cases nB
    walk_at "un"
    refine hQ { s' with heap := h9, toks := tk8 + 1 } _ Bn ?_ F9.ns ?_ rfl oB ?_
    · exact Kp.grow (a := s') [L] Kb (fun b o hb hn e => (S9.2 b (by simpa using hb)).trans (K8 _ _ (k57 b o (by simpa using hb) (nC b (by simpa using hb) hn) e))) (by simp) (by simpa using n90) (by simpa using n94) (by walk_at "om")
    · intro z hz
      walk_at "upd"
    · intro X hX
      refine (hB (L :: X) fun b q => ?_).keep fun b o e => hideAll_get _ ((S9.2 b (fun q => (hid_get e).2 (by rw [q]; exact List.mem_cons_self ..))).trans (hid_get e).1) fun q => (hid_get e).2 (List.mem_cons_of_mem _ q)
      rcases List.mem_cons.mp q with q | q
      · obtain ⟨_, _, _, e, _⟩ := F7.ns; rw [q, e]; simp
      · by_cases hb : b = L
        · obtain ⟨_, _, _, e, _⟩ := F7.ns; rw [hb, e]; simp
        · cases e : s.heap.get? b with
          | none => exact absurd e (hX b q)
          | some o => rw [k07 b o hb e]; simp

end
section
/- Law9 -/
local macro_rules | `(tactic| walk_at "halt") => `(tactic| first | with_reducible refine Mine.hlType ?_ | walk_at "h4")
structure BK where
  (c n t x : Int)
  (ms : List (Str × Int))
noncomputable abbrev BookB (w : World) (h : Heap) (p : Addr) (b : BK) : Prop := BookAt w h p b.c b.n b.t b.x b.ms
noncomputable def bkStep (rs rs' : List (List Nat)) (b : BK) (k : Nat) : BK :=
  ⟨1 + b.c, ((rs'.getD k []).length : Nat) + b.n, levM (rs.getD k []) (rs'.getD k []) + b.t, ((k : Int) + 1) * levM (rs.getD k []) (rs'.getD k []) + b.x, (countM (fun c => ((rs'.getD k []).count c : Nat)) [65, 97, 98]).foldl addI b.ms⟩
noncomputable def bkN (rs rs' : List (List Nat)) (b : BK) : Nat → BK
  | 0 => b
  | i + 1 => bkStep rs rs' (bkN rs rs' b i) i
theorem bkN_len (rs rs' : List (List Nat)) (b : BK) : ∀ i, (bkN rs rs' b i).ms.length ≤ b.ms.length + 3 * i
  | 0 => Nat.le_refl _
  | i + 1 => by
    have h1 := bkN_len rs rs' b i
    have h2 := addI_len (countM (fun c => ((rs'.getD i []).count c : Nat)) [65, 97, 98]) (bkN rs rs' b i).ms
    have h3 := countM_len (fun c => ((rs'.getD i []).count c : Nat)) [65, 97, 98]
    simp only [List.length_cons, List.length_nil] at h3
    show ((countM _ _).foldl addI _).length ≤ _
    walk_at "om"
noncomputable def kNms : List Str := ["far", "counts", "book"]
theorem law_F3 {w : World} {A : Around} {s : Shared} {L Dx Da Bk : Nat} {m : Str → Option Value} {X : List Nat} {rs rs' : List (List Nat)} {us us' : List Value} {b0 : BK} {v0 : Option Value} {Q : Flow → Shared → Prop}
  {trr : Sem Flow} (htr : trr = execs ((lawBody w.params).drop 5) (envC w.params 221 L (lawCells L)))
  (HX : ∀ b : Nat, b ∈ X → s.heap.get? b ≠ none) (hL : L ∈ X) (h3 : L + 3 ∈ X)
  (G : Gr w (hideAll s.heap X)) (hh : A.handled = none) (hd : A.depth + 8 < recursionLimit) (hu : A.units + 160 < cLine) (h0 : 0 < s.toks) (l94 : 94 < L)
  (N : s.heap.Ns L m) (mx : m "texts" = some (.ref Dx)) (mb : m "book" = some (.ref Bk))
  (lx : (hideAll s.heap X).IsList Dx us.toArray) (ix : TxtsAre us rs) (c2 : s.heap.IsCell (L + 2) (some (.ref Da))) (la : (hideAll s.heap X).IsList Da us'.toArray) (ia : TxtsAre us' rs') (c3 : s.heap.IsCell (L + 3) v0)
  (B : BookB w (hideAll s.heap X) Bk b0) (hms : b0.ms.length ≤ 50) (hr : rs.length = 3) (hr' : rs'.length = 3)
  (hl : ∀ i, i < 3 → (rs.getD i []).length ≤ 10 ∧ (rs.getD i []).length = (rs'.getD i []).length) (h1 : ∀ r ∈ rs, ∀ c ∈ r, Let c) (h2 : ∀ r ∈ rs', ∀ c ∈ r, Let c)
  (hN : ∀ (s' : Shared) (m' : Str → Option Value) (Bk' : Nat) (v' : Option Value), Kp [L, L + 3] s s' → s'.heap.Ns L m' → (∀ z : Str, kNms.contains z = false → m' z = m z) → m' "book" = some (.ref Bk') → s'.heap.IsCell (L + 3) v' →
    BookB w (hideAll s'.heap X) Bk' (bkN rs rs' b0 3) →
    wpAny (model Challenge.rw_xg0051_01.row.prog w) A (execs ((lawBody w.params).drop 6) (envC w.params 221 L (lawCells L))) Q (fun _ _ => False) s') :
  wpAny (model Challenge.rw_xg0051_01.row.prog w) A trr Q (fun _ _ => False) s := by
  subst htr
  rw [lawEnv_eq] at hN ⊢
  have up0 : Sub (hideAll s.heap X) s.heap := fun b o e => of_hideAll _ e
  have F0 : Fx (hideAll s.heap X) L s.heap m := ⟨N, up0⟩
  walk_at "un"
  refine wpAny_execs_cons ?_
  walk_at "hideN"
  refine wpAny_For ?_
  walk_at "go"
  refine call_range_1 ?_
  try dsimp only
  generalize eh1 : s.heap.push _ = g1
  have k1 : Sub s.heap g1 := fun b o q => by rw [← eh1]; exact Heap.get?_push_of_some _ q
  obtain ⟨ra, rb, rc, hr1⟩ : ∃ ra rb rc : Tok, IsRange g1 s.heap.objs.size 0 3 1 ra rb rc := ⟨_, _, _, by rw [← eh1]; exact IsRange.new _ _ _ _ _ _ _⟩
  clear eh1
  obtain ⟨r1, r2⟩ := range0n 3 (by walk_at "om")
  walk_at "un"
  refine wpAny_pyIter_range hr1 r1 ?_
  rw [show Builtin.Range.rangeSize 0 3 1 = 3 from r2]
  try dsimp only
  have i1 : ∀ b : Nat, ∀ o, s.heap.get? b = some o → b < g1.objs.size := fun b o e => Heap.lt_size (k1 _ _ e)
  have i2 : ∀ b : Nat, b ∈ X → b < g1.objs.size := fun b q => by
    cases e : s.heap.get? b with
    | none => exact absurd e (HX b q)
    | some o => exact i1 b o e
  have iL := i2 _ hL
  have i3 := i2 _ h3
  have nI : g1.get? g1.objs.size = none := new_none _
  have push1 : ∀ ob, Sub g1 (g1.push ob) := fun ob b o e => Heap.get?_push_of_some _ e
  have stI : IsRangeIter (g1.push { cls := .type "range_iterator", data := .fields #[rawInt 0, rawInt 3, rawInt 1] }) g1.objs.size 0 3 1 := Heap.get?_push_size _ rfl
  generalize g1.objs.size = I at *
  have upp := fun b o e => push1 { cls := .type "range_iterator", data := .fields #[rawInt 0, rawInt 3, rawInt 1] } b o (k1 b o e)
  have n90 : (90 : Nat) ∉ [L, L + 3] := by
    simp only [List.mem_cons, List.not_mem_nil, or_false, not_or]; exact ⟨by walk_at "om", by walk_at "om"⟩
  have n94 : (94 : Nat) ∉ [L, L + 3] := by
    simp only [List.mem_cons, List.not_mem_nil, or_false, not_or]; exact ⟨by walk_at "om", by walk_at "om"⟩
  have nL2 : L + 2 ∉ [L, L + 3] := by
    simp only [List.mem_cons, List.not_mem_nil, or_false, not_or]; exact ⟨by walk_at "om", by walk_at "om"⟩
  have hsub : ∀ b : Nat, b ∈ [L, L + 3] → b ∈ X := fun b q => by
    simp only [List.mem_cons, List.not_mem_nil, or_false] at q
    rcases q with q | q <;> (replace q := q.symm; subst q)
    · exact hL
    · exact h3
  have eg : ∀ (l : List (List Nat)), l.length = 3 → ∀ i, i < 3 → l[i]? = some (l.getD i []) := fun l hl i hi => by
    rw [List.getD_eq_getElem?_getD, List.getElem?_eq_getElem (by walk_at "om")]; rfl
  refine for_rule (Walks.range hh I 0 1 3)
    (fun i s' => Ex3 fun m' Bk' v' => And7 (Kp [L, L + 3] s s') (s'.heap.Ns L m') ((∀ z : Str, kNms.contains z = false → m' z = m z)) (m' "book" = some (.ref Bk')) (BookB w (hideAll s'.heap (I :: X)) Bk' (bkN rs rs' b0 i)) (s'.heap.IsCell (L + 3) v') ((∀ b : Nat, b ∈ X → s'.heap.get? b ≠ none))) ?_ ?_ ?_ ?_ ?_
  · show IsRangeIter _ _ _ _ _
    simpa using stI
  · refine ⟨m, Bk, v0, Kp.grow (a := s) [] (Kp.refl _ _) (fun b o _ _ e => upp _ _ e) (by simp) (by simp) (by simp) (by walk_at "om"), (F0.up upp).ns, fun _ _ => rfl, mb, ?_, c3.keeps upp, all_sub HX upp⟩
    exact B.keep fun b o e => hideAll_get _ (upp _ _ (of_hideAll _ e)) fun q => by
      rcases List.mem_cons.mp q with q | q
      · exact Nat.lt_irrefl I (by have := i1 b o (of_hideAll _ e); rwa [q] at this)
      · exact (hid_get e).2 q
  · rintro i s' h₁ tk₁ ⟨m', Bk', v', K1, N1, hm1, mb1, B1, c1, X1⟩ hk' ht
    have hk2 : ∀ b : Nat, ∀ o, b ≠ I → s'.heap.get? b = some o → h₁.get? b = some o := fun b o hb e => hk' b o (by simpa using hb) e
    have nI90 : (90 : Nat) ≠ I := by walk_at "om"
    have nI94 : (94 : Nat) ≠ I := by walk_at "om"
    have nIs : s.heap.get? I = none := by
      cases e : s.heap.get? I with
      | none => rfl
      | some o => exact absurd (i1 I o e) (Nat.lt_irrefl _)
    walk_at "un"
    refine ⟨m', Bk', v', Kp.grow (a := s') [] K1 (fun b o _ hn e => hk2 b o (fun q => hn (by rw [q]; exact nIs)) e) (by simp) (by simp) (by simp) ht, N1.at' (fun o e => hk2 _ _ (neN (by walk_at "om")) e), hm1, mb1, ?_, (let ⟨o, e, r⟩ := c1; ⟨o, hk2 _ _ (neN (by walk_at "om")) e, r⟩), ?_⟩
    · exact B1.keep (hid_sub fun b o hb e => hk2 b o (fun q => hb (by rw [q]; exact List.mem_cons_self ..)) e)
    · intro b q
      cases e : s'.heap.get? b with
      | none => exact absurd e (X1 b q)
      | some o => rw [hk2 b o (neN (by have := i2 b q; walk_at "om")) e]; simp
  · rintro i x s₁ hi3 ⟨tx, rfl⟩ hJJ hst
    try walk_at "hideN"
    obtain ⟨m', Bk', v', K1, N1, hm1, mb1, B1, c31, X1⟩ := hJJ
    have XI : ∀ b : Nat, b ∈ I :: X → s₁.heap.get? b ≠ none := fun b q => by
      rcases List.mem_cons.mp q with q | q
      · have hst' : s₁.heap.get? I = some _ := hst
        rw [q, hst']; simp
      · exact X1 b q
    have FJ : Fx (hideAll s₁.heap (I :: X)) L s₁.heap m' := ⟨N1, fun b o e => of_hideAll _ e⟩
    have OJ : (hideAll s₁.heap (I :: X)).get? (L + 3) = none := hideAll_none _ (List.mem_cons_of_mem _ h3)
    walk_at "un"
    refine wpAny_assign_Name (stG FJ (by rfl) c31 OJ (by show (L : Nat) ≠ L + 3; walk_at "om") ?_)
    intro h4 F4 S4 c4
    have ek : (0 : Int) + (i : Int) * 1 = ((i : Nat) : Int) := by walk_at "om"
    rw [ek] at c4
    have hi3' : i < 3 := hi3
    have kS : ∀ b : Nat, ∀ o, b ≠ L + 3 → s₁.heap.get? b = some o → h4.get? b = some o := fun b o hb e => (S4.2 b hb).trans e
    have K4 : Kp [L, L + 3] s { s₁ with heap := h4 } := Kp.grow (a := s₁) [L + 3] K1 (fun b o hb _ e => kS b o (by simpa using hb) e) (by simp) (by simpa using (neN (by walk_at "om") : (90 : Nat) ≠ L + 3)) (by simpa using (neN (by walk_at "om") : (94 : Nat) ≠ L + 3)) (Nat.le_refl _)
    have upH : Sub (hideAll s.heap X) (h4.hide L) := fun b o e => hide_in (K4.heap b o (fun q => (hid_get e).2 (hsub b q)) (of_hideAll _ e)) (hid_ne hL e)
    have c24 : h4.IsCell (L + 2) (some (.ref Da)) := let ⟨o, e, r⟩ := c2; ⟨o, K4.heap _ o nL2 e, r⟩
    have hb4 := bkN_len rs rs' b0 i
    obtain ⟨hla, hlb⟩ := hl i hi3'
    have X4 : ∀ b : Nat, b ∈ I :: X → h4.get? b ≠ none := fun b q => by
      by_cases hb : b = L + 3
      · obtain ⟨o, e, _⟩ := c4; rw [hb, e]; simp
      · cases e : s₁.heap.get? b with
        | none => exact absurd e (XI b q)
        | some o => rw [kS b o hb e]; simp
    have t0 := K1.toks
    have kk := law_K (by exact rfl) (A := A) (Q := fun f s₃ => match f with
        | .next | .cont => (Ex3 fun m' Bk' v' => And7 (Kp [L, L + 3] s s₃) (s₃.heap.Ns L m') ((∀ z : Str, kNms.contains z = false → m' z = m z)) (m' "book" = some (.ref Bk')) (BookB w (hideAll s₃.heap (I :: X)) Bk' (bkN rs rs' b0 (i + 1))) (s₃.heap.IsCell (L + 3) v') ((∀ b : Nat, b ∈ X → s₃.heap.get? b ≠ none))) ∧ ∀ b ∈ [I], ∀ o, s₁.heap.get? b = some o → s₃.heap.get? b = some o
        | _ => False) (s := { s₁ with heap := h4 }) (m := m') (i := i) (rs := rs) (rs' := rs') (us := us) (us' := us') (r := rs.getD i []) (r' := rs'.getD i []) (G.up upH) hh hd hu (Nat.lt_of_lt_of_le h0 t0) l94 F4.ns ((hm1 _ (by decide)).trans mx) mb1
        (IsL.keeps lx upH) ix (IsCell.hide c24 (by show (L + 2 : Nat) ≠ L; walk_at "om")) (IsL.keeps la upH) ia (IsCell.hide c4 (by show (L + 3 : Nat) ≠ L; walk_at "om")) hi3' (eg rs hr i hi3') (eg rs' hr' i hi3')
        (B1.keep fun b o e => hide_in (kS b o (hid_ne (List.mem_cons_of_mem _ h3) e) (of_hideAll _ e)) (hid_ne (List.mem_cons_of_mem _ hL) e)) (by walk_at "om") hla hlb (h1 _ (List.mem_of_getElem? (eg rs hr i hi3'))) (h2 _ (List.mem_of_getElem? (eg rs' hr' i hi3'))) ?_
    · rw [lawEnv_eq] at kk
      walk_at "un"
      refine wpAny_mono kk (fun f s₃ z => ?_) fun _ _ x => x.elim
      cases f with
      | next => exact z
      | cont => exact z
      | brk => exact z.elim
      | ret v => exact z.elim
    · intro s' m2 Bk2 K2 N2 hm2 mb2 nB2 hB2
      walk_at "un"
      refine ⟨⟨m2, Bk2, _, K4.trans (K2.weak (by simp)), N2, fun z hz => (hm2 z hz).trans (hm1 z hz), mb2, hB2 (I :: X) X4, (let ⟨o, e, r⟩ := c4; ⟨o, K2.heap _ o (by simpa using (neN (by walk_at "om") : (L + 3 : Nat) ≠ L)) e, r⟩), fun b q => ?_⟩, fun b hb o e => ?_⟩
      · by_cases hb : b = L
        · obtain ⟨_, _, _, e, _⟩ := N2; rw [hb, e]; simp
        · cases e : h4.get? b with
          | none => exact absurd e (X4 b (List.mem_cons_of_mem _ q))
          | some o => rw [K2.heap b o (by simpa using hb) e]; simp
      · rw [List.mem_singleton.mp hb] at e ⊢
        exact K2.heap _ o (by simpa using (neN (by walk_at "om") : I ≠ L)) (kS _ o (neN (by walk_at "om")) e)
  · rintro s' hJJ
    try walk_at "hideN"
    obtain ⟨m', Bk', v', K1, N1, hm1, mb1, B1, c31, X1⟩ := hJJ
    walk_at "un"
    refine wpAny_execs_nil ?_
    walk_at "un"
    exact hN s' m' Bk' v' K1 N1 hm1 mb1 c31 (B1.keep (sub_hid fun b q => List.mem_cons_of_mem _ q))

end
section
/- Law10 -/
theorem law_F4 {w : World} {A : Around} {s : Shared} {L Du Da : Nat} {m : Str → Option Value} {Q : Flow → Shared → Prop}
  {trr : Sem Flow} (htr : trr = execs ((lawBody w.params).drop 6) (envC w.params 221 L (lawCells L)))
  (N : s.heap.Ns L m) (mu : m "turned" = some (.ref Du)) (c2 : (s.heap.hide L).IsCell (L + 2) (some (.ref Da)))
  (hQ : ∀ h' (tk : Nat) (m' : Str → Option Value), s.toks ≤ tk → (∀ b : Nat, ∀ o, b ≠ L → s.heap.get? b = some o → h'.get? b = some o) → h'.Ns L m' → (∀ z : Str, [Str.ofString "triangle", Str.ofString "texts"].contains z = false → m' z = m z) →
    m' "triangle" = some (.ref Du) → m' "texts" = some (.ref Da) → Q .next { s with heap := h', toks := tk }) :
  wpAny (model Challenge.rw_xg0051_01.row.prog w) A trr Q (fun _ _ => False) s := by
  subst htr
  rw [lawEnv_eq]
  have F0 : Fx (s.heap.hide L) L s.heap (fun y => if y = Str.ofString "turned" then some (.ref Du) else m y) :=
    Fx.cast ⟨N, fun b o e => Heap.of_hide e⟩ fun y => by walk_at "upd"
  have OL := hideOff s.heap L
  walk_at "un"
  refine wpAny_execs_cons ?_
  walk_at "go"
  rename_i h1 F1 S1 h2 F2 S2
  walk_at "un"
  refine hQ h2 _ _ (by walk_at "om") (fun b o hb e => (S2.2 _ hb).trans ((S1.2 _ hb).trans e)) F2.ns ?_ rfl rfl
  intro z hz
  walk_at "upd"
/-- the first seven tables of the law -/
structure LS where
  rs : List (List Nat)
  ts : List Int
  bk : BK
  (w0 w1 : Int)
noncomputable def turnL (up : Bool) : List Int → List Int
  | [a, b, c, d, e, f] => turnM up a b c d e f
  | _ => []
noncomputable def rowsL : List Int → List (List Nat)
  | [a, b, c, d, e, f] => rowsM a b c d e f
  | _ => []
noncomputable def gone0 (ts ts' : List Int) : Int := absM (ts'.getD 5 0 - ts.getD 5 0) + 2 * absM (ts'.getD 3 0 - ts.getD 3 0)
noncomputable def gone1 (ts ts' : List Int) : Int := 2 * absM (ts'.getD 4 0 - ts.getD 4 0)
noncomputable def turnS (lo hi : Nat) (st : LS) : LS :=
  let rs' := movedM st.rs lo hi
  let ts' := turnL (lo == 65) st.ts
  ⟨rs', ts', bkN st.rs rs' st.bk 3, st.w0 + gone0 st.ts ts' + gone1 st.ts ts', st.w1 + gone0 st.ts ts' + 2 * gone1 st.ts ts'⟩
/-- what is asked of the rows ahead of a move -/
structure OkR (rs : List (List Nat)) (lo hi : Nat) : Prop where
  len : rs.length = 3
  lets : ∀ r ∈ rs, ∀ c ∈ r, Let c
  ten : ∀ r ∈ rs, r.length ≤ 10
  ok : ∀ r ∈ rs, placeM lo r + (r.count lo + r.count hi) ≤ r.length
structure Six (ts : List Int) : Prop where
  len : ts.length = 6
  hi : ∀ z ∈ ts, z ≤ 50
  lo : ∀ z ∈ ts, -50 ≤ z
structure OkT (st : LS) (lo hi : Nat) : Prop where
  r : OkR st.rs lo hi
  s : st.ts.length = 6
  s' : Six (turnL (lo == 65) st.ts)
  lets : ∀ r ∈ movedM st.rs lo hi, ∀ c ∈ r, Let c
  eq : movedM st.rs lo hi = rowsL (turnL (lo == 65) st.ts)
  same : ∀ i, i < 3 → (st.rs.getD i []).length = ((movedM st.rs lo hi).getD i []).length
  ms : st.bk.ms.length ≤ 50
noncomputable def tNms : List Str := ["turned", "gone", "ways", "far", "counts", "book", "triangle", "texts"]
/-- the state of the first loop -/
structure LawSt (w : World) (X : List Nat) (L : Nat) (ad : List (Nat × Nat)) (h : Heap) (m : Str → Option Value) (st : LS) : Prop where
  N : h.Ns L m
  tx : ∃ (Dx : Nat) (us : List Value), m "texts" = some (.ref Dx) ∧ (hideAll h X).IsList Dx us.toArray ∧ TxtsAre us st.rs
  tr : ∃ (Dt : Nat) (ts : List Value), m "triangle" = some (.ref Dt) ∧ (hideAll h X).IsList Dt ts.toArray ∧ IntsAre ts st.ts
  bk : ∃ Bk : Nat, m "book" = some (.ref Bk) ∧ BookB w (hideAll h X) Bk st.bk
  wy : ∃ (Wy : Nat) (ws : List Value), m "ways" = some (.ref Wy) ∧ (hideAll h X).IsList Wy ws.toArray ∧ IntsAre ws [st.w0, st.w1]
  R : RowsAt w X h ad st.rs
  c2 : ∃ v, h.IsCell (L + 2) v
  c3 : ∃ v, h.IsCell (L + 3) v
theorem uncons {α : Type} {l : List α} {n : Nat} (h : l.length = n + 1) : ∃ a r, l = a :: r ∧ r.length = n := by
  cases l with
  | nil => cases h
  | cons a r => exact ⟨a, r, rfl, Nat.succ.inj h⟩
theorem list6 {α : Type} {ts : List α} (h : ts.length = 6) : ∃ a b c d e f, ts = [a, b, c, d, e, f] := by
  obtain ⟨a, r1, e1, h1⟩ := uncons h
  obtain ⟨b, r2, e2, h2⟩ := uncons h1
  obtain ⟨c, r3, e3, h3⟩ := uncons h2
  obtain ⟨d, r4, e4, h4⟩ := uncons h3
  obtain ⟨e, r5, e5, h5⟩ := uncons h4
  obtain ⟨f, r6, e6, h6⟩ := uncons h5
  exact ⟨a, b, c, d, e, f, by rw [e1, e2, e3, e4, e5, e6, List.eq_nil_of_length_eq_zero h6]⟩
theorem isl_hide {h : Heap} {X : List Nat} {L a : Nat} {items : Array Value} (x : (hideAll h X).IsList a items) (hL : L ∈ X) : (h.hide L).IsList a items :=
  let ⟨o, e, r⟩ := x; ⟨o, hide_in (of_hideAll _ e) (hid_ne hL e), r⟩
theorem isl_to {h h' : Heap} {X : List Nat} {a : Nat} {items : Array Value} (x : h.IsList a items) (n : a ∉ X) (k : ∀ o, h.get? a = some o → h'.get? a = some o) : (hideAll h' X).IsList a items :=
  let ⟨o, e, r⟩ := x; ⟨o, hideAll_get _ (k o e) n, r⟩
theorem live_rows {w : World} {X Y : List Nat} {h : Heap} {ad : List (Nat × Nat)} {rs : List (List Nat)} (hYs : ∀ b ∈ Y, b = 90 ∨ ∃ p ∈ ad, p.1 = b) (T : Tb h) (R : RowsAt w X h ad rs) : ∀ b : Nat, b ∈ Y → h.get? b ≠ none := fun b q => by
  rcases hYs b q with rfl | ⟨p, hp, rfl⟩
  · obtain ⟨op, v, e, _⟩ := T.at90
    have e' : h.get? (90 : Nat) = some op := e
    rw [e']; simp
  · obtain ⟨j, hj⟩ := List.mem_iff_getElem?.mp hp
    obtain ⟨r, hr⟩ : ∃ r, rs[j]? = some r := ⟨_, List.getElem?_eq_getElem (by rw [← R.1]; exact (List.getElem?_eq_some_iff.mp hj).1)⟩
    obtain ⟨items, n, e, _⟩ := R.2 j p.1 p.2 r hj hr
    rw [e]; simp
theorem law_T {w : World} {A : Around} {s : Shared} {L Dr lo hi tp : Nat} {m : Str → Option Value} {X Y : List Nat} {ad : List (Nat × Nat)} {st : LS} {Q : Flow → Shared → Prop}
  {trr : Sem Flow} (htr : trr = execs (lawBody w.params) (envC w.params 221 L (lawCells L)))
  (hYX : ∀ b, b ∈ Y → b ∈ X) (hL : L ∈ X) (h2 : L + 2 ∈ X) (h3 : L + 3 ∈ X) (h90 : 90 ∈ Y) (nL : L ∉ Y) (n2 : L + 2 ∉ Y) (n3 : L + 3 ∉ Y) (hXs : ∀ b ∈ X, b ∈ Y ∨ NoSeq s.heap b) (hYs : ∀ b ∈ Y, b = 90 ∨ ∃ p ∈ ad, p.1 = b)
  (l94 : 94 < L) (had : ∀ p ∈ ad, p.1 ∈ Y ∧ 94 < p.1) (hnd : (ad.map (·.1)).Nodup) (had3 : ad.length = 3)
  (G : Gr w (hideAll s.heap X)) (T : Tb s.heap) (hh : A.handled = none) (hd : A.depth + 13 < recursionLimit) (hu : A.units + 250 < cLine) (h0 : 0 < s.toks)
  (mr : m "rows" = some (.ref Dr)) (mp : m "pair" = some (.str ⟨[lo, hi].toArray⟩ tp)) (lr : (hideAll s.heap X).IsList Dr (ad.map fun p => Value.ref p.1).toArray) (S : LawSt w X L ad s.heap m st) (HX : ∀ b : Nat, b ∈ X → s.heap.get? b ≠ none)
  (hlo : lo = 65 ∨ lo = 97) (hhi : Let hi) (ok : OkT st lo hi)
  (hQ : ∀ (s' : Shared) (m' : Str → Option Value), Kp (L :: (L + 2) :: (L + 3) :: Y) s s' → (∀ z : Str, tNms.contains z = false → m' z = m z) → LawSt w X L ad s'.heap m' (turnS lo hi st) → (∀ b : Nat, b ∈ X → s'.heap.get? b ≠ none) → Q .next s') :
  wpAny (model Challenge.rw_xg0051_01.row.prog w) A trr Q (fun _ _ => False) s := by
  subst htr
  obtain ⟨N, ⟨Dx, us, mx, lx, ix⟩, ⟨Dt, ts, mt, lt, it⟩, ⟨Bk, mb, B⟩, ⟨Wy, ws, mw, lw, iw⟩, R, ⟨v2, c2⟩, ⟨v3, c3⟩⟩ := S
  have n90L : L ≠ 90 := by walk_at "om"
  have nLX : ∀ {D : Nat}, s.heap.get? D = none → D ∉ X := fun e q => HX _ q e
  walk_at "un"
  refine (law_F1 (by exact rfl) HX hYX hL h2 h90 nL n2 hXs l94 had hnd had3 G T hh hd hu h0 N mr mx mp lr lx ix R c2 hlo hhi ok.r.lets ok.r.ten ok.r.ok ?_ : wpAny _ _ _ _ _ _)
  intro s1 Da us1 K1 N1 c21 nDa lDa iDa R1
  have kX1 : ∀ b : Nat, ∀ o, b ∉ X → s.heap.get? b = some o → s1.heap.get? b = some o := fun b o hb e => K1.heap b o (fun q => hb (by
    rcases List.mem_cons.mp q with q | q
    · rw [q]; exact h2
    · exact hYX b q)) e
  have sub1 : Sub (hideAll s.heap X) (hideAll s1.heap X) := hid_sub kX1
  have G1 : Gr w (hideAll s1.heap X) := G.up sub1
  have GL1 : Gr w (s1.heap.hide L) := G1.up fun b o e => hide_in (of_hideAll _ e) (hid_ne hL e)
  have la1 : (hideAll s1.heap X).IsList Da us1.toArray := let ⟨nn, e⟩ := lDa; ⟨_, hideAll_get _ e (nLX nDa), rfl, _, rfl⟩
  obtain ⟨a, b, c, d, e, f, ets⟩ := list6 ok.s
  obtain ⟨a', b', c', d', e', f', ets'⟩ := list6 ok.s'.len
  rw [ets] at it
  have htm : turnM (lo == 65) a b c d e f = [a', b', c', d', e', f'] := by rw [← ets', ets]; rfl
  have s6 := ok.s'
  rw [ets'] at s6
  have heq : movedM st.rs lo hi = rowsM a' b' c' d' e' f' := by rw [ok.eq, ets']; rfl
  walk_at "un"
  refine (law_F2 (by exact rfl) GL1 hh (by walk_at "om") (by walk_at "om") N1 mt mp mw (isl_hide (IsL.keeps lt sub1) hL) it (IsCell.hide c21 (by show (L + 2 : Nat) ≠ L; walk_at "om")) (isl_hide la1 hL) iDa (isl_hide (IsL.keeps lw sub1) hL) iw htm
    ⟨s6.hi _ (by simp), s6.hi _ (by simp), s6.hi _ (by simp), s6.hi _ (by simp), s6.hi _ (by simp), s6.hi _ (by simp)⟩ ⟨s6.lo _ (by simp), s6.lo _ (by simp), s6.lo _ (by simp), s6.lo _ (by simp), s6.lo _ (by simp), s6.lo _ (by simp)⟩ ok.lets heq ?_ : wpAny _ _ _ _ _ _)
  intro g2 tk2 m2 Du Wz ts2 ws2 q2 k2 N2 hm2 mu2 mw2 nDu nWz lu2 iu2 lw2 iw2
  have live1 : ∀ b : Nat, b ∈ X → s1.heap.get? b ≠ none := fun b q => by
    by_cases hb : b = L + 2
    · obtain ⟨o, e, _⟩ := c21; rw [hb, e]; simp
    · by_cases hy : b ∈ Y
      · exact live_rows hYs (K1.tb T) R1 b hy
      · cases e : s.heap.get? b with
        | none => exact absurd e (HX b q)
        | some o => rw [K1.heap b o (fun z => (List.mem_cons.mp z).elim hb hy) e]; simp
  have live2 : ∀ b : Nat, b ∈ X → g2.get? b ≠ none := fun b q => by
    by_cases hb : b = L
    · obtain ⟨_, _, _, e, _⟩ := N2; rw [hb, e]; simp
    · cases e : s1.heap.get? b with
      | none => exact absurd e (live1 b q)
      | some o => rw [k2 b o hb e]; simp
  have sub12 : Sub (hideAll s1.heap X) (hideAll g2 X) := hid_sub fun b o hb e => k2 b o (fun q => hb (by rw [q]; exact hL)) e
  have sub2 : Sub (hideAll s.heap X) (hideAll g2 X) := fun b o e => sub12 _ _ (sub1 _ _ e)
  have c31 : s1.heap.IsCell (L + 3) v3 := let ⟨o, e, r⟩ := c3; ⟨o, K1.heap _ o (fun z => (List.mem_cons.mp z).elim (fun q => absurd q (by show (L + 3 : Nat) ≠ L + 2; walk_at "om")) n3) e, r⟩
  have c32 : g2.IsCell (L + 3) v3 := let ⟨o, e, r⟩ := c31; ⟨o, k2 _ o (by show (L + 3 : Nat) ≠ L; walk_at "om") e, r⟩
  have c22 : g2.IsCell (L + 2) (some (.ref Da)) := let ⟨o, e, r⟩ := c21; ⟨o, k2 _ o (by show (L + 2 : Nat) ≠ L; walk_at "om") e, r⟩
  have t1 := K1.toks
  walk_at "un"
  refine (law_F3 (by exact rfl) (s := { s1 with heap := g2, toks := tk2 }) (X := X) (rs := st.rs) (rs' := movedM st.rs lo hi) live2 hL h3 (G.up sub2) hh (by walk_at "om") (by walk_at "om") (Nat.lt_of_lt_of_le h0 (Nat.le_trans t1 q2)) l94 N2 ((hm2 _ (by decide)).trans mx) ((hm2 _ (by decide)).trans mb)
    (IsL.keeps lx sub2) ix c22 (IsL.keeps la1 sub12) iDa c32 (B.keep sub2) ok.ms ok.r.len rfl (fun i hi => ⟨?_, ok.same i hi⟩) ok.r.lets ok.lets ?_ : wpAny _ _ _ _ _ _)
  · have : st.rs.getD i [] ∈ st.rs := by
      rw [List.getD_eq_getElem?_getD, List.getElem?_eq_getElem (by rw [ok.r.len]; exact hi)]
      exact List.getElem_mem _
    exact ok.r.ten _ this
  intro s3 m3 Bk3 v33 K3 N3 hm3 mb3 c33 B3
  have nL2 : L + 2 ∉ [L, L + 3] := by
    simp only [List.mem_cons, List.not_mem_nil, or_false, not_or]; exact ⟨by walk_at "om", by walk_at "om"⟩
  have c23 : s3.heap.IsCell (L + 2) (some (.ref Da)) := let ⟨o, e, r⟩ := c22; ⟨o, K3.heap _ o nL2 e, r⟩
  walk_at "un"
  refine (law_F4 (by exact rfl) N3 ((hm3 _ (by decide)).trans mu2) (IsCell.hide c23 (by show (L + 2 : Nat) ≠ L; walk_at "om")) ?_ : wpAny _ _ _ _ _ _)
  intro g4 tk4 m4 q4 k4 N4 hm4 mt4 mx4
  have hsub : ∀ b : Nat, b ∈ [L, L + 3] → b ∈ X := fun b q => by
    simp only [List.mem_cons, List.not_mem_nil, or_false] at q
    rcases q with q | q <;> (replace q := q.symm; subst q)
    · exact hL
    · exact h3
  have k24 : ∀ b : Nat, ∀ o, b ∉ [L, L + 3] → g2.get? b = some o → g4.get? b = some o := fun b o hb e => k4 b o (fun q => hb (by rw [q]; exact List.mem_cons_self ..)) (K3.heap b o hb e)
  have k14 : ∀ b : Nat, ∀ o, b ∉ [L, L + 3] → s1.heap.get? b = some o → g4.get? b = some o := fun b o hb e => k24 b o hb (k2 b o (fun q => hb (by rw [q]; exact List.mem_cons_self ..)) e)
  have nX1 : ∀ {D : Nat}, s1.heap.get? D = none → D ∉ X := fun e q => live1 _ q e
  have nDaX := nLX nDa
  have iw' : IntsAre ws2 [(turnS lo hi st).w0, (turnS lo hi st).w1] := by
    show IntsAre ws2 [st.w0 + gone0 st.ts (turnL (lo == 65) st.ts) + gone1 st.ts (turnL (lo == 65) st.ts), st.w1 + gone0 st.ts (turnL (lo == 65) st.ts) + 2 * gone1 st.ts (turnL (lo == 65) st.ts)]
    rw [ets', ets]; exact iw2
  have iu' : IntsAre ts2 (turnS lo hi st).ts := by
    show IntsAre ts2 (turnL (lo == 65) st.ts)
    rw [ets']; exact iu2
  have n90 : (90 : Nat) ∉ [L] := by simp; walk_at "om"
  have n94 : (94 : Nat) ∉ [L] := by simp; walk_at "om"
  have Kf : Kp (L :: (L + 2) :: (L + 3) :: Y) s { s3 with heap := g4, toks := tk4 } := by
    have Ka : Kp (L :: (L + 2) :: (L + 3) :: Y) s { s1 with heap := g2, toks := tk2 } := Kp.grow (a := s1) [L] (K1.weak fun b q => by
      rcases List.mem_cons.mp q with q | q
      · rw [q]; simp
      · simp [q]) (fun b o hb _ e => k2 b o (by simpa using hb) e) (by simp) n90 n94 q2
    exact Kp.grow (a := s3) [L] (Ka.trans (K3.weak fun b q => by
      simp only [List.mem_cons, List.not_mem_nil, or_false] at q
      rcases q with rfl | rfl <;> simp)) (fun b o hb _ e => k4 b o (by simpa using hb) e) (by simp) n90 n94 q4
  walk_at "un"
  refine hQ _ m4 Kf ?_ ⟨N4, ⟨Da, us1, mx4, isl_to ⟨_, of_hideAll _ la1.choose_spec.1, la1.choose_spec.2⟩ nDaX (fun o e => k14 _ o (fun q => nDaX (hsub _ q)) e), iDa⟩, ⟨Du, ts2, mt4, isl_to lu2 (nX1 nDu) (fun o e => k24 _ o (fun q => nX1 nDu (hsub _ q)) e), iu'⟩,
    ⟨Bk3, (hm4 _ (by decide)).trans mb3, B3.keep (hid_sub fun b o hb e => k4 b o (fun q => hb (by rw [q]; exact hL)) e)⟩, ⟨Wz, ws2, (hm4 _ (by decide)).trans ((hm3 _ (by decide)).trans mw2), isl_to lw2 (nX1 nWz) (fun o e => k24 _ o (fun q => nX1 nWz (hsub _ q)) e), iw'⟩,
    R1.move [L, L + 3] k14 hsub (fun p hp q => ?_), ⟨_, c23.choose, k4 _ _ (by show (L + 2 : Nat) ≠ L; walk_at "om") c23.choose_spec.1, c23.choose_spec.2⟩, ⟨_, c33.choose, k4 _ _ (by show (L + 3 : Nat) ≠ L; walk_at "om") c33.choose_spec.1, c33.choose_spec.2⟩⟩ ?_
  · intro z hz
    unfold tNms at hz
    simp only [List.contains_cons, List.contains_nil, Bool.or_false, Bool.or_eq_false_iff] at hz
    obtain ⟨z1, z2, z3, z4, z5, z6, z7, z8⟩ := hz
    rw [hm4 z (by simp only [List.contains_cons, List.contains_nil, z7, z8]; rfl), hm3 z (by unfold kNms; simp only [List.contains_cons, List.contains_nil, z4, z5, z6]; rfl), hm2 z (by simp only [List.contains_cons, List.contains_nil, z1, z2, z3]; rfl)]
  · have hp1 := (had p hp).1
    simp only [List.mem_cons, List.not_mem_nil, or_false] at q
    rcases q with q | q
    · exact nL (q ▸ hp1)
    · exact n3 (q ▸ hp1)
  · intro b q
    by_cases hb : b ∈ [L, L + 3]
    · simp only [List.mem_cons, List.not_mem_nil, or_false] at hb
      rcases hb with hb | hb <;> (replace hb := hb.symm; subst hb)
      · obtain ⟨_, _, _, e, _⟩ := N4; rw [e]; simp
      · obtain ⟨o, e, _⟩ := c33
        rw [k4 _ o (by show (L + 3 : Nat) ≠ L; walk_at "om") e]; simp
    · cases e : s1.heap.get? b with
      | none => exact absurd e (live1 b q)
      | some o => rw [k14 b o hb e]; simp

end
section
/- Law11 -/
local macro_rules | `(tactic| walk_at "halt") => `(tactic| first | with_reducible refine Mine.hlType ?_ | walk_at "h4")
theorem LawSt.to {w : World} {X X' : List Nat} {L : Nat} {ad : List (Nat × Nat)} {h h' : Heap} {m : Str → Option Value} {st : LS} (S : LawSt w X L ad h m st) (k : Sub (hideAll h X) (hideAll h' X')) (N : h'.Ns L m) (R : RowsAt w X' h' ad st.rs)
    (k2 : ∀ o, h.get? (L + 2) = some o → h'.get? (L + 2) = some o) (k3 : ∀ o, h.get? (L + 3) = some o → h'.get? (L + 3) = some o) : LawSt w X' L ad h' m st := by
  obtain ⟨_, ⟨Dx, us, mx, lx, ix⟩, ⟨Dt, ts, mt, lt, it⟩, ⟨Bk, mb, B⟩, ⟨Wy, ws, mw, lw, iw⟩, _, ⟨v2, c2⟩, ⟨v3, c3⟩⟩ := S
  walk_at "un"
  exact ⟨N, ⟨Dx, us, mx, IsL.keeps lx k, ix⟩, ⟨Dt, ts, mt, IsL.keeps lt k, it⟩, ⟨Bk, mb, B.keep k⟩, ⟨Wy, ws, mw, IsL.keeps lw k, iw⟩, R, ⟨v2, let ⟨o, e, r⟩ := c2; ⟨o, k2 o e, r⟩⟩, ⟨v3, let ⟨o, e, r⟩ := c3; ⟨o, k3 o e, r⟩⟩⟩
theorem LawSt.names {w : World} {X : List Nat} {L : Nat} {ad : List (Nat × Nat)} {h h' : Heap} {m m' : Str → Option Value} {st : LS} (S : LawSt w X L ad h m st) (hL : L ∈ X) (n2 : L + 2 ≠ L) (n3 : L + 3 ≠ L) (hp : ∀ p ∈ ad, p.1 ≠ L) (k : ∀ b : Nat, ∀ o, b ≠ L → h.get? b = some o → h'.get? b = some o) (N : h'.Ns L m')
    (e1 : m' "texts" = m "texts") (e2 : m' "triangle" = m "triangle") (e3 : m' "book" = m "book") (e4 : m' "ways" = m "ways") : LawSt w X L ad h' m' st := by
  obtain ⟨_, ⟨Dx, us, mx, lx, ix⟩, ⟨Dt, ts, mt, lt, it⟩, ⟨Bk, mb, B⟩, ⟨Wy, ws, mw, lw, iw⟩, R, ⟨v2, c2⟩, ⟨v3, c3⟩⟩ := S
  have kX : Sub (hideAll h X) (hideAll h' X) := hid_sub fun b o hb e => k b o (fun q => hb (by rw [q]; exact hL)) e
  walk_at "un"
  exact ⟨N, ⟨Dx, us, e1.trans mx, IsL.keeps lx kX, ix⟩, ⟨Dt, ts, e2.trans mt, IsL.keeps lt kX, it⟩, ⟨Bk, e3.trans mb, B.keep kX⟩, ⟨Wy, ws, e4.trans mw, IsL.keeps lw kX, iw⟩,
    R.move [L] (fun b o hb e => k b o (by simpa using hb) e) (by simpa using hL) (fun p q => by simpa using hp p q), ⟨v2, let ⟨o, e, r⟩ := c2; ⟨o, k _ o n2 e, r⟩⟩, ⟨v3, let ⟨o, e, r⟩ := c3; ⟨o, k _ o n3 e, r⟩⟩⟩
noncomputable def pair3 : List (Nat × Nat) := [(65, 97), (97, 98), (65, 97)]
noncomputable def stN (ps : List (Nat × Nat)) (st : LS) : Nat → LS
  | 0 => st
  | i + 1 => turnS (ps.getD i (0, 0)).1 (ps.getD i (0, 0)).2 (stN ps st i)
noncomputable def gNms : List Str := ["pair", "turned", "gone", "ways", "far", "counts", "book", "triangle", "texts"]
theorem ofAa : (Str.ofString "Aa") = ⟨[65, 97].toArray⟩ := rfl
theorem ofab : (Str.ofString "ab") = ⟨[97, 98].toArray⟩ := rfl
theorem pair3_at {i : Nat} (hi : i < 3) {v : Value} {t0 t1 t2 : Tok} (e : (#[.str (Str.ofString "Aa") t0, .str (Str.ofString "ab") t1, .str (Str.ofString "Aa") t2] : Array Value)[i]? = some v) :
    ∃ lo hi' : Nat, pair3.getD i (0, 0) = (lo, hi') ∧ (lo = 65 ∨ lo = 97) ∧ Let hi' ∧ ∃ tv : Tok, v = .str ⟨[lo, hi'].toArray⟩ tv := by
  rw [ofAa, ofab] at e
  have : i = 0 ∨ i = 1 ∨ i = 2 := by walk_at "om"
  rcases this with rfl | rfl | rfl
  · exact ⟨65, 97, rfl, .inl rfl, .inr (.inl rfl), t0, (Option.some.inj e).symm⟩
  · exact ⟨97, 98, rfl, .inr rfl, .inr (.inr rfl), t1, (Option.some.inj e).symm⟩
  · exact ⟨65, 97, rfl, .inl rfl, .inr (.inl rfl), t2, (Option.some.inj e).symm⟩
theorem law_G {w : World} {A : Around} {s : Shared} {L Dr : Nat} {m : Str → Option Value} {X Y : List Nat} {ad : List (Nat × Nat)} {st : LS} {Q : Flow → Shared → Prop}
  {trr : Sem Flow} (htr : trr = execs ((stmtsAt w.params 221).drop 9) (envC w.params 221 L (lawCells L)))
  (hXe : X = L :: (L + 2) :: (L + 3) :: Y) (h90 : 90 ∈ Y) (nL : L ∉ Y) (n2 : L + 2 ∉ Y) (n3 : L + 3 ∉ Y) (hYs : ∀ b ∈ Y, b = 90 ∨ ∃ p ∈ ad, p.1 = b)
  (l94 : 94 < L) (had : ∀ p ∈ ad, p.1 ∈ Y ∧ 94 < p.1) (hnd : (ad.map (·.1)).Nodup) (had3 : ad.length = 3)
  (G : Gr w (hideAll s.heap X)) (T : Tb s.heap) (hh : A.handled = none) (hd : A.depth + 13 < recursionLimit) (hu : A.units + 250 < cLine) (h0 : 0 < s.toks)
  (mr : m "rows" = some (.ref Dr)) (lr : (hideAll s.heap X).IsList Dr (ad.map fun p => Value.ref p.1).toArray) (S : LawSt w X L ad s.heap m st) (HX : ∀ b : Nat, b ∈ X → s.heap.get? b ≠ none)
  (ok : ∀ i, i < 3 → OkT (stN pair3 st i) (pair3.getD i (0, 0)).1 (pair3.getD i (0, 0)).2)
  (hN : ∀ (s' : Shared) (m' : Str → Option Value), Kp X s s' → (∀ z : Str, gNms.contains z = false → m' z = m z) → LawSt w X L ad s'.heap m' (stN pair3 st 3) → (∀ b : Nat, b ∈ X → s'.heap.get? b ≠ none) →
    wpAny (model Challenge.rw_xg0051_01.row.prog w) A (execs ((stmtsAt w.params 221).drop 10) (envC w.params 221 L (lawCells L))) Q (fun _ _ => False) s') :
  wpAny (model Challenge.rw_xg0051_01.row.prog w) A trr Q (fun _ _ => False) s := by
  subst htr
  have hYX : ∀ b, b ∈ Y → b ∈ X := fun b q => by rw [hXe]; simp [q]
  have hL : L ∈ X := by rw [hXe]; simp
  have h2 : L + 2 ∈ X := by rw [hXe]; simp
  have h3 : L + 3 ∈ X := by rw [hXe]; simp
  rw [lawEnv_eq] at hN ⊢
  have up0 : Sub (hideAll s.heap X) s.heap := fun b o e => of_hideAll _ e
  have F0 : Fx (hideAll s.heap X) L s.heap m := ⟨S.N, up0⟩
  walk_at "un"
  refine wpAny_execs_cons ?_
  walk_at "hideN"
  refine wpAny_For ?_
  walk_at "go"
  rename_i g1 F1 K1 T1
  dsimp only at K1 T1 ⊢
  walk_at "un"
  have nt := new_none s.heap
  generalize s.heap.objs.size = t at T1 nt ⊢
  have T1' : g1.IsTuple t #[.str (Str.ofString "Aa") s.toks, .str (Str.ofString "ab") (s.toks + 1), .str (Str.ofString "Aa") (s.toks + 1 + 1)] := T1
  walk_at "un"
  refine wpAny_pyIter_tuple T1' ?_
  try dsimp only
  have i1 : ∀ b : Nat, ∀ o, s.heap.get? b = some o → b < g1.objs.size := fun b o e => Heap.lt_size (K1 _ _ e)
  have i2 : ∀ b : Nat, b ∈ X → b < g1.objs.size := fun b q => by
    cases e : s.heap.get? b with
    | none => exact absurd e (HX b q)
    | some o => exact i1 b o e
  have iL := i2 _ hL
  have i5 := i2 _ h2
  have i6 := i2 _ h3
  have nI : g1.get? g1.objs.size = none := new_none _
  have tI : t < g1.objs.size := by obtain ⟨_, e, _⟩ := T1'; exact Heap.lt_size e
  have upp : Sub g1 (g1.push { cls := .type "tuple_iterator", data := .fields #[.ref t, .int 0 0] }) := fun b o e => Heap.get?_push_of_some _ e
  have stI : (g1.push { cls := .type "tuple_iterator", data := .fields #[.ref t, .int 0 0] }).IsTupleIter g1.objs.size t 0 := ⟨_, Heap.get?_push_size _ rfl, rfl, rfl⟩
  generalize g1.push { cls := .type "tuple_iterator", data := .fields #[.ref t, .int 0 0] } = g2 at upp stI ⊢
  generalize g1.objs.size = I at *
  have k02 : Sub s.heap g2 := fun b o e => upp _ _ (K1 _ _ e)
  have nIs : s.heap.get? I = none := by
    cases e : s.heap.get? I with
    | none => rfl
    | some o => exact absurd (i1 I o e) (Nat.lt_irrefl _)
  have nIX : I ∉ X := fun q => HX _ q nIs
  have ntX : t ∉ X := fun q => HX _ q nt
  have n90 : (90 : Nat) ∉ [L] := by simp; walk_at "om"
  have n94 : (94 : Nat) ∉ [L] := by simp; walk_at "om"
  refine for_rule (Walks.tuple hh I t (neN (by walk_at "om")) #[.str (Str.ofString "Aa") s.toks, .str (Str.ofString "ab") (s.toks + 1), .str (Str.ofString "Aa") (s.toks + 1 + 1)])
    (fun i s' => ∃ m', And4 (Kp X s s') ((∀ z : Str, gNms.contains z = false → m' z = m z)) (LawSt w (I :: X) L ad s'.heap m' (stN pair3 st i)) ((∀ b : Nat, b ∈ X → s'.heap.get? b ≠ none))) ?_ ?_ ?_ ?_ ?_
  · exact ⟨stI, Heap.IsTuple.at T1' fun o e => upp _ _ e⟩
  · refine ⟨m, Kp.grow (a := s) [] (Kp.refl _ _) (fun b o _ _ e => k02 _ _ e) (by simp) (by simp) (by simp) (by walk_at "om"), fun _ _ => rfl, ?_, all_sub HX k02⟩
    refine S.to (fun b o e => hideAll_get _ (k02 _ _ (of_hideAll _ e)) fun q => ?_) (S.N.at' fun o e => k02 _ _ e) ?_ (fun o e => k02 _ _ e) (fun o e => k02 _ _ e)
    · rcases List.mem_cons.mp q with q | q
      · have e' := of_hideAll _ e
        rw [q, nIs] at e'; cases e'
      · exact (hid_get e).2 q
    · exact S.R.wide k02 nIs
  · rintro i s' h₁ tk₁ ⟨m', K3, hm3, S3, X3⟩ hk' ht
    have hk2 : ∀ b : Nat, ∀ o, b ≠ I → s'.heap.get? b = some o → h₁.get? b = some o := fun b o hb e => hk' b o (by simpa using hb) e
    walk_at "un"
    refine ⟨m', Kp.grow (a := s') [] K3 (fun b o _ hn e => hk2 b o (fun q => hn (by rw [q]; exact nIs)) e) (by simp) (by simp) (by simp) ht, hm3, ?_, fun b q => ?_⟩
    · refine S3.to (hid_sub fun b o hb e => hk2 b o (fun q => hb (by rw [q]; exact List.mem_cons_self ..)) e) (S3.N.at' fun o e => hk2 _ _ (neN (by walk_at "om")) e) (S3.R.move [I] (fun b o hb e => hk2 b o (by simpa using hb) e) (by simp) fun p q => ?_) (fun o e => hk2 _ _ (neN (by walk_at "om")) e) (fun o e => hk2 _ _ (neN (by walk_at "om")) e)
      have := i2 _ (hYX _ (had p q).1)
      simp; walk_at "om"
    · cases e : s'.heap.get? b with
      | none => exact absurd e (X3 b q)
      | some o => rw [hk2 b o (neN (by have := i2 b q; walk_at "om")) e]; simp
  · rintro i v s₁ hi3 hv ⟨m', K3, hm3, S3, X3⟩ ⟨hit, htup⟩
    have hi3' : i < 3 := hi3
    obtain ⟨lo, hi, ep, hlo, hhi, tv, rfl⟩ := pair3_at hi3' hv
    have oki := ok i hi3'
    rw [ep] at oki
    dsimp only at oki
    have XI : ∀ b : Nat, b ∈ I :: X → s₁.heap.get? b ≠ none := fun b q => by
      rcases List.mem_cons.mp q with q | q
      · obtain ⟨o, e, _⟩ := hit; rw [q, e]; simp
      · exact X3 b q
    have FJ : Fx (hideAll s₁.heap (I :: X)) L s₁.heap m' := ⟨S3.N, fun b o e => of_hideAll _ e⟩
    have OJ : (hideAll s₁.heap (I :: X)).get? L = none := hideAll_none _ (List.mem_cons_of_mem _ hL)
    walk_at "un"
    refine wpAny_assign_Name (stL FJ OJ ?_)
    intro h4 F4 SB
    have kS : ∀ b : Nat, ∀ o, b ≠ L → s₁.heap.get? b = some o → h4.get? b = some o := fun b o hb e => (SB.2 b hb).trans e
    have npL : ∀ p ∈ ad, p.1 ≠ L := fun p q e => nL (by rw [← e]; exact (had p q).1)
    have S4 := S3.names (m' := fun y => if y = Str.ofString "pair" then some (.str ⟨[lo, hi].toArray⟩ tv) else m' y) (List.mem_cons_of_mem _ hL) (by show (L + 2 : Nat) ≠ L; walk_at "om") (by show (L + 3 : Nat) ≠ L; walk_at "om") npL kS F4.ns rfl rfl rfl rfl
    have X4 : ∀ b : Nat, b ∈ I :: X → h4.get? b ≠ none := fun b q => by
      by_cases hb : b = L
      · obtain ⟨_, _, _, e, _⟩ := S4.N; rw [hb, e]; simp
      · cases e : s₁.heap.get? b with
        | none => exact absurd e (XI b q)
        | some o => rw [kS b o hb e]; simp
    have K4 : Kp X s { s₁ with heap := h4, toks := s₁.toks + 1 } := Kp.grow (a := s₁) [L] K3 (fun b o hb _ e => kS b o (by simpa using hb) e) (by simpa using hL) n90 n94 (Nat.le_succ _)
    have upX : Sub (hideAll s.heap X) (hideAll h4 (I :: X)) := fun b o e => hideAll_get _ (K4.heap b o (hid_get e).2 (of_hideAll _ e)) fun q => by
      rcases List.mem_cons.mp q with q | q
      · have e' := of_hideAll _ e
        rw [q, nIs] at e'; cases e'
      · exact (hid_get e).2 q
    have t0 := K4.toks
    have tt := law_T (by exact rfl) (A := A) (Q := fun f s₃ => match f with
        | .next | .cont => (∃ m', And4 (Kp X s s₃) ((∀ z : Str, gNms.contains z = false → m' z = m z)) (LawSt w (I :: X) L ad s₃.heap m' (stN pair3 st (i + 1))) ((∀ b : Nat, b ∈ X → s₃.heap.get? b ≠ none))) ∧ ∀ b ∈ [I, t], ∀ o, s₁.heap.get? b = some o → s₃.heap.get? b = some o
        | _ => False) (s := { s₁ with heap := h4, toks := s₁.toks + 1 }) (L := L) (Dr := Dr) (lo := lo) (hi := hi) (tp := tv) (X := I :: X) (Y := Y) (ad := ad) (st := stN pair3 st i)
      (fun b q => List.mem_cons_of_mem _ (hYX b q)) (List.mem_cons_of_mem _ hL) (List.mem_cons_of_mem _ h2) (List.mem_cons_of_mem _ h3) h90 nL n2 n3 ?_ hYs l94 had hnd had3 (G.up upX) (K4.tb T) hh hd hu (Nat.lt_of_lt_of_le h0 t0)
      (by show m' "rows" = _; exact (hm3 _ (by decide)).trans mr) rfl (IsL.keeps lr upX) S4 X4 hlo hhi oki ?_
    · rw [lawEnv_eq] at tt
      walk_at "un"
      refine wpAny_mono tt (fun f s₃ z => ?_) fun _ _ x => x.elim
      cases f with
      | next => exact z
      | cont => exact z
      | brk => exact z.elim
      | ret v => exact z.elim
    · intro b q
      rcases List.mem_cons.mp q with q | q
      · right
        intro o e v n z
        obtain ⟨o', e', _, d'⟩ := hit
        rw [q, kS _ o' (neN (by walk_at "om")) e'] at e; cases e
        rw [d'] at z; cases z
      · rw [hXe] at q
        rcases List.mem_cons.mp q with q | q
        · right; rw [q]; exact ns_noseq S4.N
        rcases List.mem_cons.mp q with q | q
        · right; rw [q]; exact cell_noseq S4.c2.choose_spec
        rcases List.mem_cons.mp q with q | q
        · right; rw [q]; exact cell_noseq S4.c3.choose_spec
        · exact .inl q
    · intro s' m2 K5 hm5 S5 X5
      rw [← hXe] at K5
      walk_at "un"
      refine ⟨⟨m2, K4.trans K5, fun z hz => ?_, ?_, fun b q => X5 b (List.mem_cons_of_mem _ q)⟩, fun b hb o e => ?_⟩
      · unfold gNms at hz
        rw [List.contains_cons, Bool.or_eq_false_iff] at hz
        rw [hm5 z hz.2, if_neg (by simpa using hz.1)]
        exact hm3 z (by unfold gNms; rw [List.contains_cons, Bool.or_eq_false_iff]; exact hz)
      · show LawSt w (I :: X) L ad s'.heap m2 (turnS (pair3.getD i (0, 0)).1 (pair3.getD i (0, 0)).2 (stN pair3 st i))
        rw [ep]
        exact S5
      · simp only [List.mem_cons, List.not_mem_nil, or_false] at hb
        rcases hb with hb | hb
        · rw [hb] at e ⊢
          exact K5.heap _ o nIX (kS _ o (neN (by walk_at "om")) e)
        · rw [hb] at e ⊢
          exact K5.heap _ o ntX (kS _ o (fun q => ntX (by rw [q]; exact hL)) e)
  · rintro s' ⟨m', K3, hm3, S3, X3⟩
    walk_at "un"
    refine wpAny_execs_nil ?_
    walk_at "un"
    exact hN s' m' K3 hm3 (S3.to (sub_hid fun b q => List.mem_cons_of_mem _ q) S3.N (S3.R.weak fun b q => List.mem_cons_of_mem _ q) (fun o e => e) (fun o e => e)) X3

end
section
/- Law12 -/
local macro_rules | `(tactic| walk_at "halt") => `(tactic| first | with_reducible refine Mine.hlExAsgC ?_ | with_reducible refine Mine.hlDict ?_ | walk_at "h4")
theorem unpackF3 {prog : Program} {w : World} {A : Around} {E : Value → Shared → Prop} {s : Shared} {t : Addr} {items : Array Value} {n : Nat} {Q : List Value → Shared → Prop} (hh : A.handled = none) (ht : s.heap.IsTuple t items) (hn : n = items.size)
    (h : ∀ h', Sub s.heap h' → Q items.toList { s with heap := h' }) : wpAny (model prog w) A (unpackItems (.ref t) n none) Q E s := by
  subst hn
  exact wpAny_unpackItems_tuple hh ht fun h' hx => h h' fun b o e => hx b o (Nat.ne_of_lt (Heap.lt_size e)) e
theorem law_H {w : World} {A : Around} {s : Shared} {L Dw Bk Wy : Nat} {m : Str → Option Value} {us ws : List Value} {ns : List Nat} {b : BK} {w0 w1 : Int} {Q : Flow → Shared → Prop}
  {trr : Sem Flow} (htr : trr = execs ((stmtsAt w.params 221).drop 10) (envC w.params 221 L (lawCells L)))
  (G : Gr w (s.heap.hide L)) (hh : A.handled = none) (hd : A.depth + 8 < recursionLimit) (hu : A.units + 160 < cLine) (l94 : 94 < L)
  (N : s.heap.Ns L m) (mw : m "word" = some (.ref Dw)) (lw : (s.heap.hide L).PlainList Dw us.toArray) (iw : IntsAre us (ns.map Int.ofNat))
  (mb : m "book" = some (.ref Bk)) (B : BookB w (s.heap.hide L) Bk b) (my : m "ways" = some (.ref Wy)) (ly : (s.heap.hide L).IsList Wy ws.toArray) (iy : IntsAre ws [w0, w1])
  (hb : b = ⟨9, 18, w0, w1, [(Str.ofString "A", 2 * ((ns.map Int.ofNat).count 1 : Nat) + ((ns.map Int.ofNat).count 2 : Nat)), (Str.ofString "a", 6), (Str.ofString "b", ((ns.map Int.ofNat).count 2 : Nat) + 2 * ((ns.map Int.ofNat).count 0 : Nat))]⟩)
  (hN : ∀ h' (tk : Nat) (m' : Str → Option Value), s.toks ≤ tk → (∀ b : Nat, ∀ o, b ≠ L → s.heap.get? b = some o → h'.get? b = some o) → h'.Ns L m' → (∀ z : Str, [Str.ofString "zeros", Str.ofString "ones", Str.ofString "twos"].contains z = false → m' z = m z) →
    wpAny (model Challenge.rw_xg0051_01.row.prog w) A (execs ((stmtsAt w.params 221).drop 12) (envC w.params 221 L (lawCells L))) Q (fun _ _ => False) { s with heap := h', toks := tk }) :
  wpAny (model Challenge.rw_xg0051_01.row.prog w) A trr Q (fun _ _ => False) s := by
  subst htr
  rw [lawEnv_eq] at hN ⊢
  have F0 : Fx (s.heap.hide L) L s.heap (fun y => if y = Str.ofString "word" then some (.ref Dw) else if y = Str.ofString "book" then some (.ref Bk) else if y = Str.ofString "ways" then some (.ref Wy) else m y) :=
    Fx.cast ⟨N, fun b o e => Heap.of_hide e⟩ fun y => by walk_at "upd"
  have OL := hideOff s.heap L
  have lw' : (s.heap.hide L).IsList Dw us.toArray := let ⟨nn, e⟩ := lw; ⟨_, e, rfl, _, rfl⟩
  have lw0 := IsL.keeps lw' F0.keep
  obtain ⟨z1, z2, rfl⟩ := ints2 iy
  have ly0 := IsL.keeps ly F0.keep
  walk_at "un"
  refine wpAny_execs_cons ?_
  walk_at "go"
  refine getMethod_list_of PySem.F.slot_list_count PySem.F.type_list_count lw0 (Mine.noDict lw F0) ?_
  walk_at "go"
  refine getMethod_list_of PySem.F.slot_list_count PySem.F.type_list_count lw0 (Mine.noDict lw F0) ?_
  walk_at "go"
  refine getMethod_list_of PySem.F.slot_list_count PySem.F.type_list_count lw0 (Mine.noDict lw F0) ?_
  walk_at "go"
  rename_i h1 F1 K1 T1
  dsimp only at K1 T1 ⊢
  walk_at "un"
  have T1' : h1.IsTuple _ _ := T1
  refine unpackF3 hh T1' (by rfl) ?_
  intro h2 K2
  have F2 := F1.up K2
  show wpAny _ _ (assignInOrder [bindName (lawEnv w.params L) (Str.ofString "twos"), bindName (lawEnv w.params L) (Str.ofString "ones"), bindName (lawEnv w.params L) (Str.ofString "zeros")] [_, _, _]) _ _ _
  try dsimp only
  refine wpAny_assignInOrder_more (wpAny_bindName (stL F2 OL ?_))
  intro h3 F3 S3
  refine wpAny_assignInOrder_more (wpAny_bindName (stL F3 OL ?_))
  intro h4 F4 S4
  refine wpAny_assignInOrder_more (wpAny_bindName (stL F4 OL ?_))
  intro h5 F5 S5
  refine wpAny_assignInOrder_none ?_
  dsimp only at S3 S4 S5 ⊢
  walk_at "un"
  clear F2 F3 F4 F1 T1 T1'
  walk_at "go"
  have ly5 := IsL.keeps ly F5.keep
  walk_at "un"
  refine item0 (v := .int w0 z1) ly5 rfl ?_
  walk_at "go"
  try dsimp only
  have lsz : L < h5.objs.size := F5.ns.lt
  with_reducible refine wpAny_Dict_walk (knd := PySem.strKind Challenge.rw_xg0051_01.row.prog w) (by k_dflt rfl) (by k_dflt rfl) (by k_dflt simp) (by k_dflt decide) ?_
  try dsimp only
  have hnew : (h5.push { cls := .type "dict", dict := none, data := .dict #[] }).DictOf (PySem.strKind Challenge.rw_xg0051_01.row.prog w) h5.objs.size [] := Heap.DictOf.new h5
  have kp5 : Sub h5 (h5.push { cls := .type "dict", dict := none, data := .dict #[] }) := fun b o e => Heap.get?_push_of_some _ e
  have nD5 := new_none h5
  generalize h5.push { cls := .type "dict", dict := none, data := .dict #[] } = h6 at hnew kp5 ⊢
  obtain ⟨D, eD⟩ : ∃ D : Nat, h5.objs.size = D := ⟨_, rfl⟩
  rw [eD] at hnew nD5 lsz ⊢
  have F6 := F5.up kp5
  refine pairTrees_cons_walk ?_
  walk_at "go"
  try dsimp only
  walk_at "un"
  refine ⟨[(Str.ofString "A", _), (Str.ofString "a", _), (Str.ofString "b", _)], ⟨strKind_is _ _ _ _, rfl, strKind_is _ _ _ _, rfl, strKind_is _ _ _ _, rfl, trivial⟩, hnew, ?_⟩
  intro h7 D7 S7
  have D8 : DictI w h7 D [(Str.ofString "A", 2 * ((ns.map Int.ofNat).count 1 : Nat) + ((ns.map Int.ofNat).count 2 : Nat)), (Str.ofString "a", 6), (Str.ofString "b", ((ns.map Int.ofNat).count 2 : Nat) + 2 * ((ns.map Int.ofNat).count 0 : Nat))] := ⟨_, D7, .cons (.cons (.cons .nil))⟩
  have F7 := F6.same S7 (none_of_sub F5.keep nD5) (neN (by walk_at "om"))
  have nDS : (D == sysModules) = false := by
    have l3 : (sysModules : Nat) ≤ 94 := by decide
    refine beq_eq_false_iff_ne.mpr (neN (?_ : (D : Nat) ≠ sysModules))
    intro q
    have l4 : L < sysModules := by rw [← q, ← eD]; exact F5.ns.lt
    exact absurd (Nat.lt_of_lt_of_le (Nat.lt_trans l94 l4) l3) (Nat.lt_irrefl _)
  clear D7 hnew F6
  walk_at "go"
  rename_i h8 F8 K8 T8
  dsimp only at K8 T8 ⊢
  walk_at "un"
  have B8 := B.keep F8.keep
  subst hb
  walk_at "un"
  refine ne_book (c := 9) (n := 18) (t := w0) (x := w1) B8 ⟨_, _, _, _, D, T8, D8.keep fun o e => K8 _ _ e, nDS⟩ (by walk_at "om") ?_
  walk_at "go"
  have k08 : ∀ b : Nat, ∀ o, b ≠ L → s.heap.get? b = some o → h8.get? b = some o := fun b o hb e => by
    have e5 : h5.get? b = some o := (S5.2 _ hb).trans ((S4.2 _ hb).trans ((S3.2 _ hb).trans (K2 _ _ (K1 _ _ e))))
    exact K8 _ _ ((S7.2 _ (fun q => by rw [q, nD5] at e5; cases e5)).trans (kp5 _ _ e5))
  walk_at "un"
  refine hN h8 _ _ (by simp only [List.length_cons, List.length_nil]; walk_at "om") k08 F8.ns ?_
  intro z hz
  walk_at "upd"

end
section
/- Law13 -/
local macro_rules | `(tactic| walk_at "halt") => `(tactic| first | with_reducible refine Mine.hlLc ?_ | with_reducible refine Mine.hlType ?_ | with_reducible refine Mine.hlDict ?_ | with_reducible refine Mine.hlExIf ?_ | walk_at "h4")
noncomputable def exKv (ta tb tc : Tok) : List (Str × Value) := [(Str.ofString "A", .str (Str.ofString "b") ta), (Str.ofString "a", .str (Str.ofString "a") tb), (Str.ofString "b", .str (Str.ofString "A") tc)]
theorem law_I {w : World} {A : Around} {s : Shared} {L Ds : Nat} {m : Str → Option Value} {ss : List Value} {cs : List Nat} {v4 : Option Value} {Q : Flow → Shared → Prop}
  {trr : Sem Flow} (htr : trr = execs ((stmtsAt w.params 221).drop 12) (envC w.params 221 L (lawCells L)))
  (G : Gr w (hideAll s.heap [L, L + 4])) (T : Tb s.heap) (hh : A.handled = none) (hd : A.depth + 15 < recursionLimit) (hu : A.units + 300 < cLine) (h0 : 0 < s.toks) (l94 : 94 < L)
  (N : s.heap.Ns L m) (c1 : (hideAll s.heap [L, L + 4]).IsCell (L + 1) (some (.ref Ds))) (ls : (hideAll s.heap [L, L + 4]).IsList Ds ss.toArray) (is : SgAre ss cs) (h6 : cs.length = 6) (c4 : s.heap.IsCell (L + 4) v4)
  (hN : ∀ (s' : Shared) (Dr a0 d0 a1 d1 a2 d2 De : Nat) (ta tb tc : Tok) (m' : Str → Option Value), Kp [L, L + 4] s s' → s'.heap.Ns L m' → (∀ z : Str, [Str.ofString "other"].contains z = false → m' z = m z) → m' "other" = some (.ref Dr) →
    (∀ b ∈ [Dr, a0, d0, a1, d1, a2, d2, De], s.heap.get? b = none) → 94 < a0 → 94 < a1 → 94 < a2 → [a0, a1, a2].Nodup → s'.heap.PlainList Dr #[.ref a0, .ref a1, .ref a2] → Dr ∉ [90, a0, a1, a2] →
    RowsAt w [90, a0, a1, a2] s'.heap [(a0, d0), (a1, d1), (a2, d2)] (laidM (-1) cs.reverse) → s'.heap.IsCell (L + 4) (some (.ref De)) → s'.heap.DictOf (PySem.strKind Challenge.rw_xg0051_01.row.prog w) De (exKv ta tb tc) →
    wpAny (model Challenge.rw_xg0051_01.row.prog w) A (execs ((stmtsAt w.params 221).drop 14) (envC w.params 221 L (lawCells L))) Q (fun _ _ => False) s') :
  wpAny (model Challenge.rw_xg0051_01.row.prog w) A trr Q (fun _ _ => False) s := by
  subst htr
  rw [lawEnv_eq] at hN ⊢
  have up0 : Sub (hideAll s.heap [L, L + 4]) s.heap := fun b o e => of_hideAll _ e
  have F0 : Fx (hideAll s.heap [L, L + 4]) L s.heap m := ⟨N, up0⟩
  have OL := hideAll_none [L, L + 4] (h := s.heap) (b := L) (by simp)
  have O4 := hideAll_none [L, L + 4] (h := s.heap) (b := L + 4) (by simp)
  have h94 := ltN (G.up up0).lt94
  walk_at "un"
  refine wpAny_execs_cons ?_
  walk_at "go"
  refine comp_eval (X := []) ?_
  walk_at "go"
  refine call_range_1 ?_
  try dsimp only
  obtain ⟨r1, r2⟩ := range0n 6 (by walk_at "om")
  generalize eh1 : s.heap.push _ = h1
  have k1 : Sub s.heap h1 := fun b o q => by rw [← eh1]; exact Heap.get?_push_of_some _ q
  obtain ⟨ra, rb, rc, hr1⟩ : ∃ ra rb rc : Tok, IsRange h1 s.heap.objs.size 0 ((6 : Nat) : Int) 1 ra rb rc := ⟨_, _, _, by rw [← eh1]; exact IsRange.new _ _ _ _ _ _ _⟩
  have sz1 : h1.objs.size = s.heap.objs.size + 1 := by rw [← eh1]; exact Heap.size_push ..
  clear eh1
  have F1 := F0.up k1
  have ssl : ss.length = 6 := by rw [is.length, h6]
  walk_at "un"
  refine src_range (s := { s with heap := h1, toks := s.toks + 1 + 1 + 1 }) hh hr1 r1 r2 (fun vs _ => SgAre vs (cs.reverse.take vs.length)) (by walk_at "om") (XOk.nil _) (by show (94 : Nat) < h1.objs.size; walk_at "om") .nil (fun _ _ _ q _ => q) ?_ ?_
  · rintro C vs v s₃ m₃ hlt hC ⟨tv, rfl⟩ hU K hns hm
    have F5 : Fx (hideAll s.heap [L, L + 4]) C s₃.heap (fun y => if y = Str.ofString "k" then some (.int (vs.length : Nat) tv) else m₃ y) := Fx.cast ⟨hns, fun b o e => K.heap b o (by simp) (F1.keep b o e)⟩ fun y => by
      split
      · rename_i q; rw [q]; exact hm
      · rfl
    walk_at "go"
    obtain ⟨v, ev⟩ : ∃ v, ss[5 - vs.length]? = some v := ⟨_, List.getElem?_eq_getElem (by walk_at "om")⟩
    obtain ⟨c, t, ec, rfl⟩ := is.get ev
    with_reducible refine itemI (v := .str ⟨#[c]⟩ t) (IsL.keeps ls F5.keep) (by walk_at "om") (by walk_at "om") ?_ ?_
    · rw [show ((5 : Int) - (vs.length : Nat)).toNat = 5 - vs.length by walk_at "om"]
      simpa using ev
    walk_at "un"
    refine ⟨Kp.of (fun _ _ e => e) (by (try dsimp only); walk_at "om"), ?_⟩
    have e1 : cs.reverse[vs.length]? = some c := by
      rw [List.getElem?_reverse (by walk_at "om"), h6]; exact ec
    rw [List.length_append, List.length_singleton, List.take_succ, e1]
    exact hU.snoc c t
  · intro D C s' m' vs hD hC hDC hns hpl hlen hU K h2 S2
    dsimp only at hD hC K ⊢
    walk_at "un"
    rw [hlen, List.take_of_length_le (by rw [List.length_reverse]; walk_at "om")] at hU
    have up2 : Sub h1 h2 := fun b o e => (S2.2 b (fun q => by rw [q, hC] at e; cases e)).trans (K.heap b o (by simp) e)
    have F2 := F1.up up2
    have l2 : h2.IsList D vs.toArray := let ⟨nn, e⟩ := hpl; ⟨_, (S2.2 _ hDC).trans e, rfl, _, rfl⟩
    walk_at "go"
    have nC : ∀ b : Nat, s.heap.get? b ≠ none → b ≠ C := fun b hb q => by
      cases e : s.heap.get? b with
      | none => exact hb e
      | some o => have := k1 _ _ e; rw [q, hC] at this; cases this
    have Ka : Kp [] s s' := (Kp.of k1 (by show s.toks ≤ s.toks + 1 + 1 + 1; walk_at "om")).trans K
    have Kb : Kp [] s { s' with heap := h2, toks := s'.toks + 1 + 1 } := Ka.grow [] (fun b o _ hn e => (S2.2 b (nC b hn)).trans e) (by simp) (by simp) (by simp) (by walk_at "om")
    walk_at "un"
    refine ⟨F2.keep, wpAny_call (law_laid_spec (cs := cs.reverse) ⟨G.up F2.keep, by walk_at "om", by walk_at "om", hh⟩ (Kb.tb T) l2 hU (by rw [List.length_reverse]; walk_at "om") (Nat.succ_pos _) (Nat.lt_succ_self _) (.inr rfl) ?_)⟩
    intro Dr a0 d0 a1 d1 a2 d2 s1 K1 nw b0 b1 b2 nd lD nD R1
    have F3 := F2.up (h' := s1.heap) fun b o e => K1.heap b o (by simp) e
    have Kc : Kp [] s s1 := Kb.trans K1
    dsimp only at nw
    walk_at "go"
    try dsimp only
    rename_i h4 F4 S4
    have lsz : L < h4.objs.size := F4.ns.lt
    with_reducible refine wpAny_Dict_walk (knd := PySem.strKind Challenge.rw_xg0051_01.row.prog w) (by k_dflt rfl) (by k_dflt rfl) (by k_dflt simp) (by k_dflt decide) ?_
    try dsimp only
    have hnew : (h4.push { cls := .type "dict", dict := none, data := .dict #[] }).DictOf (PySem.strKind Challenge.rw_xg0051_01.row.prog w) h4.objs.size [] := Heap.DictOf.new h4
    have kp4 : Sub h4 (h4.push { cls := .type "dict", dict := none, data := .dict #[] }) := fun b o e => Heap.get?_push_of_some _ e
    have nE := new_none h4
    generalize h4.push { cls := .type "dict", dict := none, data := .dict #[] } = h5 at hnew kp4 ⊢
    obtain ⟨De, eD⟩ : ∃ D : Nat, h4.objs.size = D := ⟨_, rfl⟩
    rw [eD] at hnew nE lsz ⊢
    have F5 := F4.up kp4
    refine pairTrees_cons_walk ?_
    walk_at "go"
    try dsimp only
    walk_at "un"
    refine ⟨exKv _ _ _, ⟨strKind_is _ _ _ _, rfl, strKind_is _ _ _ _, rfl, strKind_is _ _ _ _, rfl, trivial⟩, hnew, ?_⟩
    intro h6 D6 S6
    have F6 := F5.same S6 (none_of_sub F4.keep nE) (neN (by walk_at "om"))
    have n4L : L + 4 ≠ L := by show (L + 4 : Nat) ≠ L; walk_at "om"
    have c41 : s1.heap.IsCell (L + 4) v4 := let ⟨o, e, r⟩ := c4; ⟨o, Kc.heap _ o (by simp) e, r⟩
    have c44 : h4.IsCell (L + 4) v4 := let ⟨o, e, r⟩ := c41; ⟨o, (S4.2 _ n4L).trans e, r⟩
    have n4E : L + 4 ≠ De := fun q => by obtain ⟨o, e, _⟩ := c44; rw [q, nE] at e; cases e
    have c46 : h6.IsCell (L + 4) v4 := let ⟨o, e, r⟩ := c44; ⟨o, (S6.2 _ n4E).trans (kp4 _ _ e), r⟩
    walk_at "un"
    refine stG F6 (by rfl) c46 O4 (Ne.symm n4L) ?_
    intro h7 F7 S7 c7
    have k17 : ∀ b : Nat, ∀ o, b ≠ L → b ≠ L + 4 → s1.heap.get? b = some o → h7.get? b = some o := fun b o b1 b2 e => by
      have e4 : h4.get? b = some o := (S4.2 _ b1).trans e
      exact (S7.2 _ b2).trans ((S6.2 _ (fun q => by rw [q, nE] at e4; cases e4)).trans (kp4 _ _ e4))
    have k02 : Sub s.heap h2 := fun b o e => up2 _ _ (k1 _ _ e)
    have Lx : s.heap.get? L ≠ none := by obtain ⟨_, _, _, e, _⟩ := N; rw [e]; simp
    have L4x : s.heap.get? (L + 4) ≠ none := by obtain ⟨_, e, _⟩ := c4; rw [e]; simp
    have nws : ∀ b ∈ [Dr, a0, d0, a1, d1, a2, d2], s.heap.get? b = none := fun b q => none_of_sub k02 (nw b q)
    have nwL : ∀ b ∈ [Dr, a0, d0, a1, d1, a2, d2], b ≠ L ∧ b ≠ L + 4 := fun b q => ⟨fun z => Lx (by rw [← z]; exact nws b q), fun z => L4x (by rw [← z]; exact nws b q)⟩
    have nws' : ∀ b ∈ [Dr, a0, d0, a1, d1, a2, d2, De], s.heap.get? b = none := fun b q => by
      by_cases hb : b = De
      · rw [hb]
        cases e : s.heap.get? De with
        | none => rfl
        | some o => rw [(S4.2 _ (neN (by walk_at "om"))).trans (Kc.heap _ o (by simp) e)] at nE; cases nE
      · refine nws b ?_
        simp only [List.mem_cons, List.not_mem_nil, or_false] at q ⊢
        rcases q with q | q | q | q | q | q | q | q
        all_goals first | exact absurd q hb | simp [q]
    have hDr := nwL Dr (by simp)
    have n90 : (90 : Nat) ∉ [L, L + 4] := by
      simp only [List.mem_cons, List.not_mem_nil, or_false, not_or]; exact ⟨by walk_at "om", by walk_at "om"⟩
    have n94 : (94 : Nat) ∉ [L, L + 4] := by
      simp only [List.mem_cons, List.not_mem_nil, or_false, not_or]; exact ⟨by walk_at "om", by walk_at "om"⟩
    have Kf : Kp [L, L + 4] s { s1 with heap := h7, toks := s1.toks + 1 + 1 + 1 + 1 + 1 + 1 + 1 + 3 } := Kp.grow (a := s1) [L, L + 4] (Kc.weak (by simp)) (fun b o hb _ e => by
      simp only [List.mem_cons, List.not_mem_nil, or_false, not_or] at hb
      exact k17 b o hb.1 hb.2 e) (fun b q => q) n90 n94 (by walk_at "om")
    walk_at "un"
    refine hN { s1 with heap := h7, toks := s1.toks + 1 + 1 + 1 + 1 + 1 + 1 + 1 + 3 } Dr a0 d0 a1 d1 a2 d2 De _ _ _ _ Kf F7.ns ?_ rfl nws' b0 b1 b2 nd (let ⟨nn, e⟩ := lD; ⟨nn, k17 _ _ hDr.1 hDr.2 e⟩) nD ?_ c7 (D6.at fun o e => (S7.2 _ (Ne.symm n4E)).trans e)
    · intro z hz
      simp only [List.contains_cons, List.contains_nil, Bool.or_false, beq_eq_false_iff_ne] at hz
      rw [if_neg hz]
    · have hdp : ∀ p ∈ [(a0, d0), (a1, d1), (a2, d2)], p.2 ∈ [Dr, a0, d0, a1, d1, a2, d2] ∧ p.1 ∈ [Dr, a0, d0, a1, d1, a2, d2] := fun p q => by
        simp only [List.mem_cons, List.not_mem_nil, or_false] at q
        rcases q with rfl | rfl | rfl <;> simp
      have R2 : RowsAt w [L, L + 4, 90, a0, a1, a2] s1.heap [(a0, d0), (a1, d1), (a2, d2)] (laidM (-1) cs.reverse) := R1.widen (fun p q z => by
        have h := nwL _ (hdp p q).1
        rcases List.mem_cons.mp z with z | z
        · exact h.1 z
        rcases List.mem_cons.mp z with z | z
        · exact h.2 z
        · exact R1.dict_off p q z) (fun b z => by
        rcases List.mem_cons.mp z with z | z
        · right; rw [z]; exact ns_noseq F3.ns
        rcases List.mem_cons.mp z with z | z
        · right; rw [z]; exact cell_noseq c41
        · exact .inl z)
      refine RowsAt.weak (R2.move [L, L + 4] (fun b o hb e => by
        simp only [List.mem_cons, List.not_mem_nil, or_false, not_or] at hb
        exact k17 b o hb.1 hb.2 e) (by simp) (fun p q z => ?_)) (by simp)
      have h := nwL _ (hdp p q).2
      simp only [List.mem_cons, List.not_mem_nil, or_false] at z
      exact z.elim h.1 h.2

end
section
/- Law14 -/
local macro_rules | `(tactic| walk_at "halt") => `(tactic| first | with_reducible refine Mine.hlExFor ?_ | with_reducible refine Mine.hlLc ?_ | with_reducible refine Mine.hlType ?_ | with_reducible refine Mine.hlJoin ?_ | with_reducible refine Mine.hlSubS ?_ | walk_at "h4")
theorem sg_strs {vs : List Value} {cs : List Nat} (h : SgAre vs cs) : StrsAre vs (cs.map fun c => (⟨#[c]⟩ : Str)) := by
  induction h with
  | nil => exact .nil
  | cons c t _ ih => exact .cons _ t ih
theorem joinF {prog : Program} {w : World} {A : Around} {E : Value → Shared → Prop} {s : Shared} {Q : Value → Shared → Prop} {D : Addr} {vs : List Value} {cs : List Nat} {t : Tok} (hl : s.heap.IsList D vs.toArray) (hi : SgAre vs cs) (hn : cs.length ≤ 1000)
    (h : ∀ (t' : Tok) (k : Nat), s.toks ≤ k → Q (.str ⟨cs.toArray⟩ t') { s with toks := k }) : wpAny (model prog w) A (call (.builtin "str.join") [.str (Str.ofString "") t, .ref D]) Q E s := by
  refine wpAny_with_toks (Nat.le_refl s.toks) (join_listC (ys := cs.map fun c => (⟨#[c]⟩ : Str)) hl (sg_strs hi) (by decide) ?_ ?_)
  · rw [join_len, List.length_map]; walk_at "om"
  · intro t' k
    rw [join_signs]
    exact fun q => h t' k q
noncomputable def exM (c : Nat) : Nat := if c = 65 then 98 else if c = 98 then 65 else 97
theorem let_ex (c : Nat) : Let (exM c) := by
  unfold exM
  split
  · exact .inr (.inr rfl)
  · split
    · exact .inl rfl
    · exact .inr (.inl rfl)
theorem ex_at (ta tb tc : Tok) {c : Nat} (hc : Let c) : ∃ t : Tok, valueAt (exKv ta tb tc) ⟨#[c]⟩ = some (.str ⟨#[exM c]⟩ t) := by
  unfold valueAt exKv
  rw [ofA, ofa, ofb]
  rcases hc with rfl | rfl | rfl
  · exact ⟨ta, rfl⟩
  · exact ⟨tb, rfl⟩
  · exact ⟨tc, rfl⟩
theorem exItem {w : World} {A : Around} {E : Value → Shared → Prop} {s : Shared} {Q : Value → Shared → Prop} {value slice : Expr} {De : Addr} {ta tb tc u : Tok} {c : Nat} (dE : s.heap.DictOf (PySem.strKind Challenge.rw_xg0051_01.row.prog w) De (exKv ta tb tc)) (hc : Let c)
    (h : ∀ t', Q (.str ⟨#[exM c]⟩ t') { s with toks := s.toks + 1 })
    (hs : subscripted slice false (.ref De) (.str ⟨#[c]⟩ u) = operate [.ref De, .str ⟨#[c]⟩ u] (getItem (.ref De) (.str ⟨#[c]⟩ u)) := by with_unfolding_all rfl) :
    wpAny (model Challenge.rw_xg0051_01.row.prog w) A (subscriptTail value slice (.ref De) (.str ⟨#[c]⟩ u)) Q E s := by
  obtain ⟨t, e⟩ := ex_at ta tb tc hc
  have a := wpAny_getItem_of (A := A) (E := E) (Q := Q) (key := .str ⟨#[c]⟩ u) (knd := PySem.strKind Challenge.rw_xg0051_01.row.prog w) (k := ⟨#[c]⟩) (strKind_is _ _ _ _) dE.mapOf e (h t)
  have b := slot_dict_getitem.lookup
  exact tail_any dE.typeIs b a hs
theorem law_J {w : World} {A : Around} {s : Shared} {L Dx Dr De : Nat} {ta tb tc : Tok} {m : Str → Option Value} {X : List Nat} {ad : List (Nat × Nat)} {rs qs : List (List Nat)} {us : List Value} {Q : Flow → Shared → Prop}
  {trr : Sem Flow} (htr : trr = execs ((stmtsAt w.params 221).drop 14) (envC w.params 221 L (lawCells L)))
  (HX : ∀ b : Nat, b ∈ X → s.heap.get? b ≠ none) (hL : L ∈ X) (h90 : 90 ∈ X) (l94 : 94 < L) (had : ∀ p ∈ ad, 94 < p.1) (h3 : ad.length = 3)
  (G : Gr w (hideAll s.heap X)) (T : Tb s.heap) (hh : A.handled = none) (hd : A.depth + 8 < recursionLimit) (hu : A.units + 160 < cLine)
  (N : s.heap.Ns L m) (mx : m "texts" = some (.ref Dx)) (lx : (hideAll s.heap X).IsList Dx us.toArray) (ix : TxtsAre us qs) (mo : m "other" = some (.ref Dr)) (lr : (hideAll s.heap X).IsList Dr (ad.map fun p => Value.ref p.1).toArray) (R : RowsAt w X s.heap ad rs)
  (c4 : (hideAll s.heap X).IsCell (L + 4) (some (.ref De))) (dE : (hideAll s.heap X).DictOf (PySem.strKind Challenge.rw_xg0051_01.row.prog w) De (exKv ta tb tc))
  (hl : ∀ r ∈ rs, r.length ≤ 10) (hlet : ∀ r ∈ rs, ∀ c ∈ r, Let c) (heq : qs = rs.map (fun r : List Nat => r.map exM))
  (hN : ∀ (s' : Shared), Kp [90] s s' → wpAny (model Challenge.rw_xg0051_01.row.prog w) A (execs ((stmtsAt w.params 221).drop 15) (envC w.params 221 L (lawCells L))) Q (fun _ _ => False) s') :
  wpAny (model Challenge.rw_xg0051_01.row.prog w) A trr Q (fun _ _ => False) s := by
  subst htr
  rw [lawEnv_eq] at hN ⊢
  have up0 : Sub (hideAll s.heap X) s.heap := fun b o e => of_hideAll _ e
  have F0 : Fx (hideAll s.heap X) L s.heap (fun y => if y = Str.ofString "texts" then some (.ref Dx) else if y = Str.ofString "other" then some (.ref Dr) else m y) :=
    Fx.cast ⟨N, up0⟩ fun y => by walk_at "upd"
  have OL := hideAll_none X (h := s.heap) hL
  have hrs : rs.length = 3 := by have := R.1; walk_at "om"
  have lr0 := IsL.keeps lr up0
  have Gs : Gr w s.heap := G.up up0
  walk_at "un"
  refine wpAny_execs_cons ?_
  walk_at "go"
  refine comp_eval (X := [90]) ?_
  walk_at "go"
  walk_at "un"
  refine src_list hh lr0 (fun vs _ => TxtsAre vs ((rs.map (fun r : List Nat => r.map exM)).take vs.length)) (by simp [h3]) (XOk.tab T) Gs.lt94 .nil (fun _ _ _ q _ => q) ?_ ?_
  · intro C vs v2 s₃ m₃ hlt hC hv hU K hns hm
    have hlt3 : vs.length < 3 := by simpa [h3] using hlt
    obtain ⟨⟨a, d⟩, hadi⟩ : ∃ p, ad[vs.length]? = some p := ⟨_, List.getElem?_eq_getElem (by walk_at "om")⟩
    have ha94 := had _ (List.mem_of_getElem? hadi)
    dsimp only at ha94
    obtain ⟨r, hr⟩ : ∃ r, rs[vs.length]? = some r := ⟨_, List.getElem?_eq_getElem (by walk_at "om")⟩
    have hv2 : v2 = .ref a := by
      have e : (ad.map fun p => Value.ref p.1)[vs.length]? = some v2 := by simpa using hv
      rw [List.getElem?_map, hadi] at e
      exact (Option.some.inj e).symm
    subst hv2
    have Rr := R.2 _ a d r hadi hr
    have R3 : RowAt w X s₃.heap a d r := Rr.move (hid_sub fun b o hb e => K.heap b o (fun q => hb (by rw [List.mem_singleton.mp q]; exact h90)) e) (fun o e => K.heap a o (fun q => by have q' : a = 90 := List.mem_singleton.mp q; walk_at "om") e)
    obtain ⟨items, n, ea, eD, eP⟩ := R3
    have up3 : Sub (hideAll s.heap X) s₃.heap := fun b o e => K.heap b o (fun q => (hid_get e).2 (by rw [List.mem_singleton.mp q]; exact h90)) (of_hideAll _ e)
    have F5 : Fx (hideAll s.heap X) C s₃.heap (fun y => if y = Str.ofString "row" then some (.ref a) else m₃ y) := Fx.cast ⟨hns, up3⟩ fun y => by
      split
      · rename_i q; rw [q]; exact hm
      · rfl
    have T3 : Tb s₃.heap := K.tb T
    have rl := hl r (List.mem_of_getElem? hr)
    walk_at "go"
    refine comp_eval (X := []) ?_
    walk_at "go"
    walk_at "un"
    refine str_acc ⟨G.up up3, by walk_at "om", by walk_at "om", hh⟩ T3 ea (eD.up fun b o e => of_hideAll _ e) (eP.up fun b o e => of_hideAll _ e) (by rw [eP.1]; walk_at "om") ?_
    intro s4 t4 K4
    have up4 : Sub (hideAll s.heap X) s4.heap := fun b o e => K4.heap b o (fun q => (hid_get e).2 (by rw [List.mem_singleton.mp q]; exact h90)) (up3 _ _ e)
    have hy : (⟨r.toArray⟩ : Str).cps.all (· < 128) = true := by
      show r.toArray.all (· < 128) = true
      rw [List.all_toArray, List.all_eq_true]
      exact fun c q => decide_eq_true (by rcases hlet r (List.mem_of_getElem? hr) c q with h | h | h <;> walk_at "om")
    walk_at "un"
    refine src_ascii hh hy (fun vs _ => SgAre vs ((r.map exM).take vs.length)) (by simp; walk_at "om") (XOk.nil _) (G.up up4).lt94 .nil (fun _ _ _ q _ => q) ?_ ?_
    · rintro C2 vs2 v s₅ m₅ hlt2 hC2 ⟨c, u, ec, rfl, u1, u2⟩ hU2 K5 hns5 hm5
      have F6 : Fx (hideAll s.heap X) C2 s₅.heap (fun y => if y = Str.ofString "sign" then some (.str ⟨#[c]⟩ u) else m₅ y) := Fx.cast ⟨hns5, fun b o e => K5.heap b o (by simp) (up4 _ _ e)⟩ fun y => by
        split
        · rename_i q; rw [q]; exact hm5
        · rfl
      have ec' : r[vs2.length]? = some c := by simpa using ec
      walk_at "go"
      walk_at "un"
      refine exItem (dE.at fun o e => F6.keep _ _ e) (hlet r (List.mem_of_getElem? hr) c (List.mem_of_getElem? ec')) ?_
      intro t'
      walk_at "un"
      refine ⟨Kp.of (fun _ _ e => e) (by (try dsimp only); walk_at "om"), ?_⟩
      have e1 : (r.map exM)[vs2.length]? = some (exM c) := by rw [List.getElem?_map, ec']; rfl
      rw [List.length_append, List.length_singleton, List.take_succ, e1]
      exact hU2.snoc _ _
    · intro D2 C2 s6 m6 vs6 hD2 hC2 hDC2 hns6 hpl6 hlen6 hU6 K6 h7 S7
      have hl6 : vs6.length = r.length := by simpa using hlen6
      rw [List.take_of_length_le (by rw [List.length_map]; walk_at "om")] at hU6
      have l7 : h7.IsList D2 vs6.toArray := let ⟨nn, e⟩ := hpl6; ⟨_, (S7.2 _ hDC2).trans e, rfl, _, rfl⟩
      walk_at "go"
      walk_at "un"
      refine joinF l7 hU6 (by rw [List.length_map]; walk_at "om") ?_
      intro t' k hk
      dsimp only at hk ⊢
      walk_at "un"
      have K4' : Kp [90] s₃ s4 := (Kp.of (h' := s₃.heap) (fun _ _ e => e) (Nat.le_succ _)).trans K4
      have n4C : ∀ b : Nat, b ∉ [90] → s₃.heap.get? b ≠ none → b ≠ C2 := fun b hb hn q => by
        cases e : s₃.heap.get? b with
        | none => exact hn e
        | some o => have := K4'.heap b o hb e; rw [q, hC2] at this; cases this
      have n90 : (90 : Nat) ≠ C2 := fun q => by
        obtain ⟨op, v, e, _⟩ := (K4'.tb T3).at90
        have e' : s4.heap.get? (90 : Nat) = some op := e
        rw [q, hC2] at e'; cases e'
      walk_at "un"
      refine ⟨Kp.grow (a := s6) [] (K4'.trans (K6.weak (by simp))) (fun b o _ hn e => (S7.2 b (fun q => ?_)).trans e) (by simp) (by simp) (by simp) hk, ?_⟩
      · by_cases hb : b ∈ [90]
        · exact n90 ((List.mem_singleton.mp hb).symm.trans q)
        · exact n4C b hb hn q
      · have e1 : (rs.map (fun r : List Nat => r.map exM))[vs.length]? = some (r.map exM) := by rw [List.getElem?_map, hr]; rfl
        rw [List.length_append, List.length_singleton, List.take_succ, e1]
        exact hU.snoc _ _
  · intro D C s' m' vs hD hC hDC hns hpl hlen hU K h2 S2
    have hl3 : vs.length = 3 := by rw [hlen]; simp [h3]
    rw [List.take_of_length_le (by rw [List.length_map]; walk_at "om")] at hU
    have nC : ∀ b : Nat, s.heap.get? b ≠ none → b ≠ C := fun b hb q => hb (by rw [q]; exact hC)
    have l2 : h2.IsList D vs.toArray := let ⟨nn, e⟩ := hpl; ⟨_, (S2.2 _ hDC).trans e, rfl, _, rfl⟩
    have Kf : Kp [90] s { s' with heap := h2 } := K.grow [] (fun b o _ hn e => (S2.2 b (nC b hn)).trans e) (by simp) (by simp) (by simp) (Nat.le_refl _)
    have up2 : Sub (hideAll s.heap X) h2 := fun b o e => Kf.heap b o (fun q => (hid_get e).2 (by rw [List.mem_singleton.mp q]; exact h90)) (of_hideAll _ e)
    have hlq : ∀ r ∈ rs.map (fun r : List Nat => r.map exM), ∀ c ∈ r, Let c := fun r hr c hc => by
      obtain ⟨r0, _, rfl⟩ := List.mem_map.mp hr
      obtain ⟨c0, _, rfl⟩ := List.mem_map.mp hc
      exact let_ex c0
    walk_at "un"
    refine ne_txts (IsL.keeps lx up2) ix l2 hU (by walk_at "om") (shaped_txts _ (heq ▸ hlq)) (shaped_txts _ hlq) ?_
    rw [decide_eq_true heq]
    walk_at "go"
    have z := by with_reducible exact hN _ Kf
    exact z

end
section
/- Law15 -/
local macro_rules | `(tactic| walk_at "gd") => `(tactic| ((repeat' (first | ((with_reducible show wpAny _ _ _ _ _ _); walk_at "halt"; first | (with_reducible show Mine.Stopped _) | ((first | ((first | with_reducible refine Mine.hideX ?_ | with_reducible refine Mine.hideE (by with_unfolding_all exact rfl) ?_); (fail_if_success (with_reducible refine Mine.notHid (by assumption) ?_)); walk_at "introQ") | walk1); all_goals try dsimp only)) | ((dsimp only; (with_reducible show wpAny _ _ _ _ _ _); walk1); all_goals try dsimp only) | ((with_reducible refine (by assumption : Mine.Hid _ _) _ _ ?_); try dsimp only; all_goals try dsimp only) | fail)); all_goals (try (with_reducible refine Mine.unstop ?_))))
local macro_rules | `(tactic| walk_at "halt") => `(tactic| first | with_reducible refine Mine.hlSubT ?_ | walk_at "h4")
noncomputable def lawMBody (P : Params) : List Stmt := nthBody (stmtsAt P 221) 15
theorem law_M {w : World} {A : Around} {s : Shared} {L Dr Dx lo hi tp : Nat} {m : Str → Option Value} {X Y : List Nat} {ad : List (Nat × Nat)} {rs : List (List Nat)} {us : List Value} {Q : Flow → Shared → Prop}
  {trr : Sem Flow} (htr : trr = execs (lawMBody w.params) (envC w.params 221 L (lawCells L)))
  (HX : ∀ b : Nat, b ∈ X → s.heap.get? b ≠ none) (hYX : ∀ b, b ∈ Y → b ∈ X) (hL : L ∈ X) (h90 : 90 ∈ Y) (nL : L ∉ Y) (hXs : ∀ b ∈ X, b ∈ Y ∨ NoSeq s.heap b)
  (l94 : 94 < L) (had : ∀ p ∈ ad, p.1 ∈ Y ∧ 94 < p.1) (hnd : (ad.map (·.1)).Nodup) (had3 : ad.length = 3)
  (G : Gr w (hideAll s.heap X)) (T : Tb s.heap) (hh : A.handled = none) (hd : A.depth + 13 < recursionLimit) (hu : A.units + 250 < cLine) (h0 : 0 < s.toks)
  (N : s.heap.Ns L m) (mr : m "rows" = some (.ref Dr)) (mx : m "texts" = some (.ref Dx)) (mp : m "pair" = some (.str ⟨[lo, hi].toArray⟩ tp))
  (lr : (hideAll s.heap X).IsList Dr (ad.map fun p => Value.ref p.1).toArray) (lx : (hideAll s.heap X).IsList Dx us.toArray) (ix : TxtsAre us rs) (R : RowsAt w X s.heap ad rs)
  (hlo : lo = 65 ∨ lo = 97) (hhi : Let hi) (ok : OkR rs lo hi)
  (hQ : ∀ (s' : Shared) (m' : Str → Option Value) (Da : Nat) (us' : List Value), Kp (L :: Y) s s' → s'.heap.Ns L m' → (∀ z : Str, [Str.ofString "texts"].contains z = false → m' z = m z) → m' "texts" = some (.ref Da) → s.heap.get? Da = none → s'.heap.PlainList Da us'.toArray → TxtsAre us' (movedM rs lo hi) →
    RowsAt w X s'.heap ad (movedM rs lo hi) → Q .next s') :
  wpAny (model Challenge.rw_xg0051_01.row.prog w) A trr Q (fun _ _ => False) s := by
  subst htr
  rw [lawEnv_eq]
  have up0 : Sub (hideAll s.heap X) s.heap := fun b o e => of_hideAll _ e
  have F0 : Fx (hideAll s.heap X) L s.heap (fun y => if y = Str.ofString "rows" then some (.ref Dr) else if y = Str.ofString "texts" then some (.ref Dx) else if y = Str.ofString "pair" then some (.str ⟨[lo, hi].toArray⟩ tp) else m y) :=
    Fx.cast ⟨N, up0⟩ fun y => by walk_at "upd"
  have OL := hideAll_none X (h := s.heap) hL
  walk_at "un"
  refine wpAny_execs_cons ?_
  walk_at "go"
  walk_at "un"
  refine itemNat (i := 0) (by simp) (by simp) ?_
  try dsimp only
  walk_at "go"
  walk_at "un"
  refine itemNat (i := 1) (by simp) (by simp) ?_
  try dsimp only
  walk_at "go"
  walk_at "un"
  refine ⟨up0, wpAny_call (law_moved_spec (X := Y) (lo := lo) (hi := hi) (rs := rs) (vt := us) (ad := ad) ⟨G.up up0, by walk_at "om", by walk_at "om", hh⟩ T (fun b q => HX b (hYX b q)) h90 (G.up (sub_hid hYX)) had hnd had3 (IsL.keeps lr (sub_hid hYX)) (IsL.keeps lx (sub_hid hYX)) ix (R.weak hYX)
    ⟨by walk_at "om", by dsimp only; walk_at "om"⟩ ⟨by walk_at "om", by dsimp only; walk_at "om"⟩ hlo hhi ok.lets ok.ten ok.ok ?_)⟩
  intro Da s1 us' K1 nDa lDa iDa R1
  dsimp only at nDa ⊢
  walk_at "un"
  have K0 : Kp Y s s1 := Kp.trans (Kp.of (h' := s.heap) (fun b o e => e) (by walk_at "om")) K1
  clear K1
  have F1 : Fx (hideAll s.heap X) L s1.heap m := ⟨N.at' fun o e => K0.heap L o nL e, fun b o e => K0.heap b o (fun q => (hid_get e).2 (hYX b q)) (of_hideAll _ e)⟩
  have R1' : RowsAt w X s1.heap ad (movedM rs lo hi) := R1.widen R.dict_off fun b q => by
    by_cases hb : b ∈ Y
    · exact .inl hb
    · right
      intro o e v n z
      rcases hXs b q with y | y
      · exact hb y
      · cases e0 : s.heap.get? b with
        | none => exact HX b q e0
        | some o' =>
          rw [K0.heap b o' hb e0] at e; cases e
          exact y _ e0 v n z
  have nDL : Da ≠ L := fun q => by obtain ⟨_, _, _, e, _⟩ := N; rw [q, e] at nDa; cases nDa
  walk_at "un"
  refine stL F1 OL ?_
  intro h3 F3 S3
  walk_at "un"
  refine wpAny_execs_nil ?_
  have n90 : (90 : Nat) ∉ [L] := by simp; walk_at "om"
  have n94 : (94 : Nat) ∉ [L] := by simp; walk_at "om"
  walk_at "un"
  refine hQ _ _ Da us' (Kp.grow (a := s1) [L] (K0.weak fun b q => List.mem_cons_of_mem _ q) (fun b o hb _ e => (S3.2 b (by simpa using hb)).trans e) (by simp) n90 n94 (Nat.le_succ _)) F3.ns (fun z hz => ?_) rfl nDa (let ⟨nn, e⟩ := lDa; ⟨nn, (S3.2 _ nDL).trans e⟩) iDa
    (R1'.move [L] (fun b o hb e => (S3.2 b (by simpa using hb)).trans e) (by simpa using hL) fun p hp q => nL (by rw [← List.mem_singleton.mp q]; exact (had p hp).1))
  simp only [List.contains_cons, List.contains_nil, Bool.or_false, beq_eq_false_iff_ne] at hz
  rw [if_neg hz]
theorem folded_tup (elts : List Expr) (k : Nat) (pos : Pos) (env : Env) (x : Value) : foldedSetIterable (.Tuple elts k pos) env x = pure x := rfl
noncomputable def pair9 : List (Nat × Nat) := [(97, 98), (65, 97), (97, 98), (65, 97), (97, 98), (65, 97), (97, 98), (65, 97), (97, 98)]
noncomputable def rsN (ps : List (Nat × Nat)) (rs : List (List Nat)) : Nat → List (List Nat)
  | 0 => rs
  | i + 1 => movedM (rsN ps rs i) (ps.getD i (0, 0)).1 (ps.getD i (0, 0)).2
theorem pair9_at {i : Nat} (hi : i < 9) {v : Value} {t0 t1 t2 t3 t4 t5 t6 t7 t8 : Tok} (e : (#[.str (Str.ofString "ab") t0, .str (Str.ofString "Aa") t1, .str (Str.ofString "ab") t2, .str (Str.ofString "Aa") t3, .str (Str.ofString "ab") t4, .str (Str.ofString "Aa") t5, .str (Str.ofString "ab") t6, .str (Str.ofString "Aa") t7, .str (Str.ofString "ab") t8] : Array Value)[i]? = some v) :
    ∃ lo hi' : Nat, pair9.getD i (0, 0) = (lo, hi') ∧ (lo = 65 ∨ lo = 97) ∧ Let hi' ∧ ∃ tv : Tok, v = .str ⟨[lo, hi'].toArray⟩ tv := by
  rw [ofAa, ofab] at e
  have : i = 0 ∨ i = 1 ∨ i = 2 ∨ i = 3 ∨ i = 4 ∨ i = 5 ∨ i = 6 ∨ i = 7 ∨ i = 8 := by walk_at "om"
  rcases this with rfl | rfl | rfl | rfl | rfl | rfl | rfl | rfl | rfl
  · exact ⟨97, 98, rfl, .inr rfl, .inr (.inr rfl), t0, (Option.some.inj e).symm⟩
  · exact ⟨65, 97, rfl, .inl rfl, .inr (.inl rfl), t1, (Option.some.inj e).symm⟩
  · exact ⟨97, 98, rfl, .inr rfl, .inr (.inr rfl), t2, (Option.some.inj e).symm⟩
  · exact ⟨65, 97, rfl, .inl rfl, .inr (.inl rfl), t3, (Option.some.inj e).symm⟩
  · exact ⟨97, 98, rfl, .inr rfl, .inr (.inr rfl), t4, (Option.some.inj e).symm⟩
  · exact ⟨65, 97, rfl, .inl rfl, .inr (.inl rfl), t5, (Option.some.inj e).symm⟩
  · exact ⟨97, 98, rfl, .inr rfl, .inr (.inr rfl), t6, (Option.some.inj e).symm⟩
  · exact ⟨65, 97, rfl, .inl rfl, .inr (.inl rfl), t7, (Option.some.inj e).symm⟩
  · exact ⟨97, 98, rfl, .inr rfl, .inr (.inr rfl), t8, (Option.some.inj e).symm⟩
theorem law_L {w : World} {A : Around} {s : Shared} {L Dr Dx Db : Nat} {m : Str → Option Value} {X Y : List Nat} {ad : List (Nat × Nat)} {rs r0 : List (List Nat)} {us ub : List Value} {Q : Flow → Shared → Prop}
  {trr : Sem Flow} (htr : trr = execs ((stmtsAt w.params 221).drop 15) (envC w.params 221 L (lawCells L)))
  (hXe : X = L :: Y) (h90 : 90 ∈ Y) (nL : L ∉ Y) (hYs : ∀ b ∈ Y, b = 90 ∨ ∃ p ∈ ad, p.1 = b)
  (l94 : 94 < L) (had : ∀ p ∈ ad, p.1 ∈ Y ∧ 94 < p.1) (hnd : (ad.map (·.1)).Nodup) (had3 : ad.length = 3) (HX : ∀ b : Nat, b ∈ X → s.heap.get? b ≠ none)
  (G : Gr w (hideAll s.heap X)) (T : Tb s.heap) (hh : A.handled = none) (hd : A.depth + 13 < recursionLimit) (hu : A.units + 250 < cLine) (h0 : 0 < s.toks)
  (N : s.heap.Ns L m) (mr : m "rows" = some (.ref Dr)) (mx : m "texts" = some (.ref Dx)) (mb : m "begun" = some (.ref Db))
  (lr : (hideAll s.heap X).IsList Dr (ad.map fun p => Value.ref p.1).toArray) (lx : (hideAll s.heap X).IsList Dx us.toArray) (ix : TxtsAre us rs) (lb : (hideAll s.heap X).IsList Db ub.toArray) (ib : TxtsAre ub r0) (R : RowsAt w X s.heap ad rs)
  (ok : ∀ i, i < 9 → OkR (rsN pair9 rs i) (pair9.getD i (0, 0)).1 (pair9.getD i (0, 0)).2) (hl0 : ∀ r ∈ r0, ∀ c ∈ r, Let c) (hfin : rsN pair9 rs 9 = r0)
  (hQ : ∀ s' : Shared, Kp X s s' → Q (.ret (.bool true)) s') :
  wpAny (model Challenge.rw_xg0051_01.row.prog w) A trr Q (fun _ _ => False) s := by
  subst htr
  have hYX : ∀ b, b ∈ Y → b ∈ X := fun b q => by rw [hXe]; simp [q]
  have hL : L ∈ X := by rw [hXe]; simp
  rw [lawEnv_eq]
  have up0 : Sub (hideAll s.heap X) s.heap := fun b o e => of_hideAll _ e
  have F0 : Fx (hideAll s.heap X) L s.heap m := ⟨N, up0⟩
  walk_at "un"
  refine wpAny_execs_cons ?_
  refine wpAny_For ?_ ?_
  rotate_left
  · exact fun x => folded_tup _ _ _ _ x
  refine Tuple_ ?_
  walk_at "gd"
  rename_i g1 F1 K1 T1
  dsimp only at K1 T1
  have nt := new_none s.heap
  generalize s.heap.objs.size = t at T1 nt ⊢
  have T1' : g1.IsTuple t #[.str (Str.ofString "ab") (s.toks), .str (Str.ofString "Aa") (s.toks + 1), .str (Str.ofString "ab") (s.toks + 1 + 1), .str (Str.ofString "Aa") (s.toks + 1 + 1 + 1), .str (Str.ofString "ab") (s.toks + 1 + 1 + 1 + 1), .str (Str.ofString "Aa") (s.toks + 1 + 1 + 1 + 1 + 1), .str (Str.ofString "ab") (s.toks + 1 + 1 + 1 + 1 + 1 + 1), .str (Str.ofString "Aa") (s.toks + 1 + 1 + 1 + 1 + 1 + 1 + 1), .str (Str.ofString "ab") (s.toks + 1 + 1 + 1 + 1 + 1 + 1 + 1 + 1)] := T1
  walk_at "un"
  refine wpAny_pyIter_tuple T1' ?_
  try dsimp only
  have i1 : ∀ b : Nat, ∀ o, s.heap.get? b = some o → b < g1.objs.size := fun b o e => Heap.lt_size (K1 _ _ e)
  have i2 : ∀ b : Nat, b ∈ X → b < g1.objs.size := fun b q => by
    cases e : s.heap.get? b with
    | none => exact absurd e (HX b q)
    | some o => exact i1 b o e
  have iL := i2 _ hL
  have nI : g1.get? g1.objs.size = none := new_none _
  have tI : t < g1.objs.size := by obtain ⟨_, e, _⟩ := T1'; exact Heap.lt_size e
  have upp : Sub g1 (g1.push { cls := .type "tuple_iterator", data := .fields #[.ref t, .int 0 0] }) := fun b o e => Heap.get?_push_of_some _ e
  have stI : (g1.push { cls := .type "tuple_iterator", data := .fields #[.ref t, .int 0 0] }).IsTupleIter g1.objs.size t 0 := ⟨_, Heap.get?_push_size _ rfl, rfl, rfl⟩
  generalize g1.push { cls := .type "tuple_iterator", data := .fields #[.ref t, .int 0 0] } = g2 at upp stI ⊢
  generalize g1.objs.size = I at *
  have k02 : Sub s.heap g2 := fun b o e => upp _ _ (K1 _ _ e)
  have nIs : s.heap.get? I = none := by
    cases e : s.heap.get? I with
    | none => rfl
    | some o => exact absurd (i1 I o e) (Nat.lt_irrefl _)
  have nIX : I ∉ X := fun q => HX _ q nIs
  have ntX : t ∉ X := fun q => HX _ q nt
  have n90 : (90 : Nat) ∉ [L] := by simp; walk_at "om"
  have n94 : (94 : Nat) ∉ [L] := by simp; walk_at "om"
  refine for_rule (Walks.tuple hh I t (neN (by walk_at "om")) #[.str (Str.ofString "ab") (s.toks), .str (Str.ofString "Aa") (s.toks + 1), .str (Str.ofString "ab") (s.toks + 1 + 1), .str (Str.ofString "Aa") (s.toks + 1 + 1 + 1), .str (Str.ofString "ab") (s.toks + 1 + 1 + 1 + 1), .str (Str.ofString "Aa") (s.toks + 1 + 1 + 1 + 1 + 1), .str (Str.ofString "ab") (s.toks + 1 + 1 + 1 + 1 + 1 + 1), .str (Str.ofString "Aa") (s.toks + 1 + 1 + 1 + 1 + 1 + 1 + 1), .str (Str.ofString "ab") (s.toks + 1 + 1 + 1 + 1 + 1 + 1 + 1 + 1)])
    (fun i s' => Ex3 fun m' Da ua => And8 (Kp X s s') (s'.heap.Ns L m') ((∀ z : Str, [Str.ofString "pair", Str.ofString "texts"].contains z = false → m' z = m z)) (m' "texts" = some (.ref Da)) ((hideAll s'.heap (I :: X)).IsList Da (List.toArray ua)) (TxtsAre ua (rsN pair9 rs i)) (RowsAt w (I :: X) s'.heap ad (rsN pair9 rs i)) ((∀ b : Nat, b ∈ X → s'.heap.get? b ≠ none))) ?_ ?_ ?_ ?_ ?_
  · exact ⟨stI, Heap.IsTuple.at T1' fun o e => upp _ _ e⟩
  · refine ⟨m, Dx, us, Kp.grow (a := s) [] (Kp.refl _ _) (fun b o _ _ e => k02 _ _ e) (by simp) (by simp) (by simp) (by walk_at "om"), N.at' fun o e => k02 _ _ e, fun _ _ => rfl, mx, IsL.keeps lx (fun b o e => hideAll_get _ (k02 _ _ (of_hideAll _ e)) fun q => ?_), ix, R.wide k02 nIs, all_sub HX k02⟩
    rcases List.mem_cons.mp q with q | q
    · have e' := of_hideAll _ e
      rw [q, nIs] at e'; cases e'
    · exact (hid_get e).2 q
  · rintro i s' h₁ tk₁ ⟨m', Da, ua, K3, N3, hm3, mx3, lx3, ix3, R3, X3⟩ hk' ht
    have hk2 : ∀ b : Nat, ∀ o, b ≠ I → s'.heap.get? b = some o → h₁.get? b = some o := fun b o hb e => hk' b o (by simpa using hb) e
    walk_at "un"
    refine ⟨m', Da, ua, Kp.grow (a := s') [] K3 (fun b o _ hn e => hk2 b o (fun q => hn (by rw [q]; exact nIs)) e) (by simp) (by simp) (by simp) ht, N3.at' (fun o e => hk2 _ _ (neN (by walk_at "om")) e), hm3, mx3, IsL.keeps lx3 (hid_sub fun b o hb e => hk2 b o (fun q => hb (by rw [q]; exact List.mem_cons_self ..)) e), ix3,
      R3.move [I] (fun b o hb e => hk2 b o (by simpa using hb) e) (by simp) (fun p q => ?_), fun b q => ?_⟩
    · have := i2 _ (hYX _ (had p q).1)
      simp; walk_at "om"
    · cases e : s'.heap.get? b with
      | none => exact absurd e (X3 b q)
      | some o => rw [hk2 b o (neN (by have := i2 b q; walk_at "om")) e]; simp
  · rintro i v s₁ hi3 hv hJJ ⟨hit, htup⟩
    try walk_at "hideN"
    obtain ⟨m', Da, ua, K3, N3, hm3, mx3, lx3, ix3, R3, X3⟩ := hJJ
    have hi3' : i < 9 := hi3
    obtain ⟨lo, hi, ep, hlo, hhi, tv, rfl⟩ := pair9_at hi3' hv
    have oki := ok i hi3'
    rw [ep] at oki
    dsimp only at oki
    have XI : ∀ b : Nat, b ∈ I :: X → s₁.heap.get? b ≠ none := fun b q => by
      rcases List.mem_cons.mp q with q | q
      · obtain ⟨o, e, _⟩ := hit; rw [q, e]; simp
      · exact X3 b q
    have FJ : Fx (hideAll s₁.heap (I :: X)) L s₁.heap m' := ⟨N3, fun b o e => of_hideAll _ e⟩
    have OJ : (hideAll s₁.heap (I :: X)).get? L = none := hideAll_none _ (List.mem_cons_of_mem _ hL)
    walk_at "un"
    refine wpAny_assign_Name (stL FJ OJ ?_)
    intro h4 F4 SB
    have kS : ∀ b : Nat, ∀ o, b ≠ L → s₁.heap.get? b = some o → h4.get? b = some o := fun b o hb e => (SB.2 b hb).trans e
    have npL : ∀ p ∈ ad, p.1 ≠ L := fun p q e => nL (by rw [← e]; exact (had p q).1)
    have X4 : ∀ b : Nat, b ∈ I :: X → h4.get? b ≠ none := fun b q => by
      by_cases hb : b = L
      · obtain ⟨_, _, _, e, _⟩ := F4.ns; rw [hb, e]; simp
      · cases e : s₁.heap.get? b with
        | none => exact absurd e (XI b q)
        | some o => rw [kS b o hb e]; simp
    have K4 : Kp X s { s₁ with heap := h4, toks := s₁.toks + 1 } := Kp.grow (a := s₁) [L] K3 (fun b o hb _ e => kS b o (by simpa using hb) e) (by simpa using hL) n90 n94 (Nat.le_succ _)
    have upX : Sub (hideAll s.heap X) (hideAll h4 (I :: X)) := fun b o e => hideAll_get _ (K4.heap b o (hid_get e).2 (of_hideAll _ e)) fun q => by
      rcases List.mem_cons.mp q with q | q
      · have e' := of_hideAll _ e
        rw [q, nIs] at e'; cases e'
      · exact (hid_get e).2 q
    have up34 : Sub (hideAll s₁.heap (I :: X)) (hideAll h4 (I :: X)) := hid_sub fun b o hb e => kS b o (fun q => hb (by rw [q]; exact List.mem_cons_of_mem _ hL)) e
    have R4 : RowsAt w (I :: X) h4 ad (rsN pair9 rs i) := R3.move [L] (fun b o hb e => kS b o (by simpa using hb) e) (by simp [hL]) fun p q => by simpa using npL p q
    have t0 := K4.toks
    have tt := law_M (by exact rfl) (A := A) (Q := fun f s₃ => match f with
        | .next | .cont => (Ex3 fun m' Da ua => And8 (Kp X s s₃) (s₃.heap.Ns L m') ((∀ z : Str, [Str.ofString "pair", Str.ofString "texts"].contains z = false → m' z = m z)) (m' "texts" = some (.ref Da)) ((hideAll s₃.heap (I :: X)).IsList Da (List.toArray ua)) (TxtsAre ua (rsN pair9 rs (i + 1))) (RowsAt w (I :: X) s₃.heap ad (rsN pair9 rs (i + 1))) ((∀ b : Nat, b ∈ X → s₃.heap.get? b ≠ none))) ∧ ∀ b ∈ [I, t], ∀ o, s₁.heap.get? b = some o → s₃.heap.get? b = some o
        | _ => False) (s := { s₁ with heap := h4, toks := s₁.toks + 1 }) (L := L) (Dr := Dr) (Dx := Da) (lo := lo) (hi := hi) (tp := tv) (m := fun y => if y = Str.ofString "pair" then some (.str ⟨[lo, hi].toArray⟩ tv) else m' y) (X := I :: X) (Y := Y) (ad := ad) (rs := rsN pair9 rs i) (us := ua)
      X4 (fun b q => List.mem_cons_of_mem _ (hYX b q)) (List.mem_cons_of_mem _ hL) h90 nL ?_ l94 had hnd had3 (G.up upX) (K4.tb T) hh hd hu (Nat.lt_of_lt_of_le h0 t0) F4.ns
      (by show m' "rows" = _; exact (hm3 _ (by decide)).trans mr) mx3 rfl (IsL.keeps lr upX) (IsL.keeps lx3 up34) ix3 R4 hlo hhi oki ?_
    · rw [lawEnv_eq] at tt
      walk_at "un"
      refine wpAny_mono tt (fun f s₃ z => ?_) fun _ _ x => x.elim
      cases f with
      | next => exact z
      | cont => exact z
      | brk => exact z.elim
      | ret v => exact z.elim
    · intro b q
      rcases List.mem_cons.mp q with q | q
      · right
        intro o e v n z
        obtain ⟨o', e', _, d'⟩ := hit
        rw [q, kS _ o' (neN (by walk_at "om")) e'] at e; cases e
        rw [d'] at z; cases z
      · rw [hXe] at q
        rcases List.mem_cons.mp q with q | q
        · right; rw [q]; exact ns_noseq F4.ns
        · exact .inl q
    · intro s' m2 Db2 ub2 K5 N5 hm5 mx5 nD5 l5 i5 R5
      rw [← hXe] at K5
      have nDI : Db2 ∉ I :: X := fun q => X4 _ q nD5
      walk_at "un"
      refine ⟨⟨m2, Db2, ub2, K4.trans K5, N5, fun z hz => ?_, mx5, (let ⟨nn, e⟩ := l5; ⟨_, hideAll_get _ e nDI, rfl, _, rfl⟩), ?_, ?_, fun b q => ?_⟩, fun b hb o e => ?_⟩
      · rw [List.contains_cons, Bool.or_eq_false_iff] at hz
        rw [hm5 z hz.2, if_neg (by simpa using hz.1)]
        exact hm3 z (by rw [List.contains_cons, Bool.or_eq_false_iff]; exact hz)
      · show TxtsAre ub2 (movedM (rsN pair9 rs i) (pair9.getD i (0, 0)).1 (pair9.getD i (0, 0)).2)
        rw [ep]; exact i5
      · show RowsAt w (I :: X) s'.heap ad (movedM (rsN pair9 rs i) (pair9.getD i (0, 0)).1 (pair9.getD i (0, 0)).2)
        rw [ep]; exact R5
      · by_cases hy : b ∈ Y
        · exact live_rows hYs ((K4.trans K5).tb T) R5 b hy
        · have hb : b = L := by
            rw [hXe] at q
            rcases List.mem_cons.mp q with q | q
            · exact q
            · exact absurd q hy
          obtain ⟨_, _, _, e, _⟩ := N5; rw [hb, e]; simp
      · simp only [List.mem_cons, List.not_mem_nil, or_false] at hb
        rcases hb with hb | hb
        · rw [hb] at e ⊢
          exact K5.heap _ o nIX (kS _ o (neN (by walk_at "om")) e)
        · rw [hb] at e ⊢
          exact K5.heap _ o ntX (kS _ o (fun q => ntX (by rw [q]; exact hL)) e)
  · rintro s' hJJ
    try walk_at "hideN"
    obtain ⟨m', Da, ua, K3, N3, hm3, mx3, lx3, ix3, R3, X3⟩ := hJJ
    walk_at "un"
    refine wpAny_execs_nil ?_
    have F3 : Fx (hideAll s'.heap (I :: X)) L s'.heap (fun y => if y = Str.ofString "texts" then some (.ref Da) else if y = Str.ofString "begun" then some (.ref Db) else m' y) :=
      Fx.cast ⟨N3, fun b o e => of_hideAll _ e⟩ fun y => by
        split
        · rename_i q; rw [q]; exact mx3
        · split
          · rename_i q; rw [q]; exact (hm3 _ (by decide)).trans mb
          · rfl
    have lb3 : s'.heap.IsList Db ub.toArray := let ⟨o, e, r⟩ := lb; ⟨o, K3.heap _ o (hid_get e).2 (of_hideAll _ e), r⟩
    walk_at "go"
    walk_at "un"
    refine eq_txts (IsL.keeps lx3 fun b o e => of_hideAll _ e) ix3 lb3 ib (by walk_at "om") (shaped_txts _ (hfin ▸ hl0)) (shaped_txts _ hl0) ?_
    have hfin' : rsN pair9 rs (#[.str (Str.ofString "ab") (s.toks), .str (Str.ofString "Aa") (s.toks + 1), .str (Str.ofString "ab") (s.toks + 1 + 1), .str (Str.ofString "Aa") (s.toks + 1 + 1 + 1), .str (Str.ofString "ab") (s.toks + 1 + 1 + 1 + 1), .str (Str.ofString "Aa") (s.toks + 1 + 1 + 1 + 1 + 1), .str (Str.ofString "ab") (s.toks + 1 + 1 + 1 + 1 + 1 + 1), .str (Str.ofString "Aa") (s.toks + 1 + 1 + 1 + 1 + 1 + 1 + 1), .str (Str.ofString "ab") (s.toks + 1 + 1 + 1 + 1 + 1 + 1 + 1 + 1)] : Array Value).size = r0 := hfin
    rw [decide_eq_true hfin']
    walk_at "un"
    exact hQ _ K3

end
section
/- Law16 -/
theorem mp1 {α : Type} {a b c : α} : a ∈ [a, b, c] := .head _
theorem mp2 {α : Type} {a b c : α} : b ∈ [a, b, c] := .tail _ (.head _)
theorem mp3 {α : Type} {a b c : α} : c ∈ [a, b, c] := .tail _ (.tail _ (.head _))
noncomputable def st0 (ns : List Nat) : LS := ⟨laidM 1 (ns.map sgOf), triL ns, ⟨0, 0, 0, 0, []⟩, 0, 0⟩
structure Plain (ns : List Nat) : Prop where
  six : Six (triL ns)
  eq0 : laidM 1 (ns.map sgOf) = rowsL (triL ns)
  lets0 : ∀ r ∈ laidM 1 (ns.map sgOf), ∀ c ∈ r, Let c
  ten0 : ∀ r ∈ laidM 1 (ns.map sgOf), r.length ≤ 10
  ok3 : ∀ i, i < 3 → OkT (stN pair3 (st0 ns) i) (pair3.getD i (0, 0)).1 (pair3.getD i (0, 0)).2
  bk : (stN pair3 (st0 ns) 3).bk = ⟨9, 18, (stN pair3 (st0 ns) 3).w0, (stN pair3 (st0 ns) 3).w1, [(Str.ofString "A", 2 * ((ns.map Int.ofNat).count 1 : Nat) + ((ns.map Int.ofNat).count 2 : Nat)), (Str.ofString "a", 6), (Str.ofString "b", ((ns.map Int.ofNat).count 2 : Nat) + 2 * ((ns.map Int.ofNat).count 0 : Nat))]⟩
  oth : (stN pair3 (st0 ns) 3).rs = (laidM (-1) (ns.map sgOf).reverse).map fun r : List Nat => r.map exM
  letsO : ∀ r ∈ laidM (-1) (ns.map sgOf).reverse, ∀ c ∈ r, Let c
  tenO : ∀ r ∈ laidM (-1) (ns.map sgOf).reverse, r.length ≤ 10
  ok9 : ∀ i, i < 9 → OkR (rsN pair9 (stN pair3 (st0 ns) 3).rs i) (pair9.getD i (0, 0)).1 (pair9.getD i (0, 0)).2
  fin : rsN pair9 (stN pair3 (st0 ns) 3).rs 9 = laidM 1 (ns.map sgOf)
theorem isl_chain {h0 h : Heap} {Z X : List Nat} {D : Nat} {items : Array Value} (x : h0.IsList D items) (nZ : D ∉ Z) (k : ∀ b : Nat, ∀ o, b ∉ Z → h0.get? b = some o → h.get? b = some o) (hX : ∀ b ∈ X, b ∈ Z ∨ h0.get? b = none) : (hideAll h X).IsList D items := by
  obtain ⟨o, e, r⟩ := x
  walk_at "un"
  refine ⟨o, hideAll_get _ (k _ _ nZ e) fun q => ?_, r⟩
  rcases hX _ q with z | z
  · exact nZ z
  · rw [z] at e; cases e
theorem seq_ne {h : Heap} {D b : Nat} {items : Array Value} (x : h.IsList D items) (n : NoSeq h b) : D ≠ b := fun q => by
  obtain ⟨o, e, _, m, d⟩ := x
  rw [q] at e
  exact n o e _ _ d
theorem cell_at {h h' : Heap} {c : Nat} {v : Option Value} (x : h.IsCell c v) (k : ∀ o, h.get? c = some o → h'.get? c = some o) : h'.IsCell c v := let ⟨o, e, r⟩ := x; ⟨o, k o e, r⟩
theorem law_all {w : World} {A : Around} {s : Shared} {R : Result → Shared → Prop} {l : Nat} {vs : List Value} {xs : List Int}
  (P : ∀ ns : List Nat, ns.length = 6 → (∀ n ∈ ns, n < 3) → Plain ns)
  (C : Cx w A s 16) (T : Tb s.heap) (hl : s.heap.IsList l vs.toArray) (hi : IntsAre vs xs) (hsz : vs.length ≤ 63) (hR : ∀ s' : Shared, Kp [90] s s' → R (.ok (.ret (.bool true))) s') :
  codeAny (model Challenge.rw_xg0051_01.row.prog w) A (.call (.ref 221) ⟨[.ref l], []⟩) R s := by
  have hd := C.hd
  have hu := C.hu
  have h94 := ltN C.G.lt94
  walk_at "un"
  refine law_A C T hl hi hsz ?_
  intro A' s0 L Dw Ds m0 us ss ns hh ed eu hL h6 h3 K0 t0 N0 mw0 lw0 iw0 nDw c10 ls0 is0 nDs c20 c30 c40
  have pl := P ns h6 h3
  have l94 : 94 < L := by rw [hL]; exact h94
  have fresh : ∀ b : Nat, L ≤ b → s.heap.get? b = none := fun b hb => Heap.get?_none_of_le (by rw [← hL]; exact hb)
  have k0 : ∀ b : Nat, ∀ o, s.heap.get? b = some o → s0.heap.get? b = some o := fun b o e => K0.heap b o (by simp) e
  have ltL : ∀ b : Nat, ∀ o, s.heap.get? b = some o → b < L := fun b o e => by rw [hL]; exact Heap.lt_size e
  walk_at "un"
  refine (law_B (by exact rfl) (C.G.up fun b o e => hide_in (k0 b o e) (neN (by have := ltL b o e; walk_at "om"))) (K0.tb T) hh (by walk_at "om") (by walk_at "om") t0 l94 N0 mw0 lw0 iw0 h6 h3 c10 ls0 is0 ?_ : wpAny _ _ _ _ _ _)
  intro s1 Dr Dt a0 d0 a1 d1 a2 d2 m1 ts K1 N1 mw1 mr1 mt1 nw1 b0 b1 b2 nd lD1 nD R1 lt1 it1 nDt
  obtain ⟨a, b, c, d, e, f, et⟩ := list6 pl.six.len
  rw [et] at it1
  have s6 := pl.six
  rw [et] at s6
  have live0 : ∀ {b : Nat}, s0.heap.get? b ≠ none → ∀ z ∈ [Dr, a0, d0, a1, d1, a2, d2, Dt], z ≠ b := fun e z hz q => e (by rw [← q]; exact nw1 z hz)
  have lvL : s0.heap.get? L ≠ none := by obtain ⟨_, _, _, e, _⟩ := N0; exact nnOf e
  have lv1 : s0.heap.get? (L + 1) ≠ none := by obtain ⟨_, e, _⟩ := c10; exact nnOf e
  have lv2 : s0.heap.get? (L + 2) ≠ none := by obtain ⟨_, e, _⟩ := c20; exact nnOf e
  have lv3 : s0.heap.get? (L + 3) ≠ none := by obtain ⟨_, e, _⟩ := c30; exact nnOf e
  have lv4 : s0.heap.get? (L + 4) ≠ none := by obtain ⟨_, e, _⟩ := c40; exact nnOf e
  have T0 := K0.tb T
  have ns90 : NoSeq s0.heap 90 := by
    obtain ⟨op, v, e, dv⟩ := T0.at90
    intro o e' v' n z
    have e2 : s0.heap.get? (90 : Nat) = some op := e
    rw [e2] at e'; cases e'
    rw [dv] at z; cases z
  have lwI : s0.heap.IsList Dw us.toArray := let ⟨nn, e⟩ := lw0; ⟨_, e, rfl, _, rfl⟩
  have mem8 : a0 ∈ [Dr, a0, d0, a1, d1, a2, d2, Dt] ∧ a1 ∈ [Dr, a0, d0, a1, d1, a2, d2, Dt] ∧ a2 ∈ [Dr, a0, d0, a1, d1, a2, d2, Dt] ∧ Dr ∈ [Dr, a0, d0, a1, d1, a2, d2, Dt] ∧ Dt ∈ [Dr, a0, d0, a1, d1, a2, d2, Dt] := by simp
  obtain ⟨Z, eZ⟩ : ∃ Z : List Nat, Z = [L, L + 2, L + 3, L + 4, 90, a0, a1, a2] := ⟨_, rfl⟩
  have inZ : ∀ b : Nat, b ∈ Z ↔ b = L ∨ b = L + 2 ∨ b = L + 3 ∨ b = L + 4 ∨ b = 90 ∨ b = a0 ∨ b = a1 ∨ b = a2 := fun b => by rw [eZ]; simp
  have nZseq : ∀ {D : Nat} {items : Array Value}, s0.heap.IsList D items → D ∉ Z := fun {D items} x q => by
    have lx : s0.heap.get? D ≠ none := by obtain ⟨o, e, _⟩ := x; exact nnOf e
    rcases (inZ D).mp q with q | q | q | q | q | q | q | q
    · exact seq_ne x (ns_noseq N0) q
    · exact seq_ne x (cell_noseq c20) q
    · exact seq_ne x (cell_noseq c30) q
    · exact seq_ne x (cell_noseq c40) q
    · exact seq_ne x ns90 q
    · exact live0 lx a0 mem8.1 q.symm
    · exact live0 lx a1 mem8.2.1 q.symm
    · exact live0 lx a2 mem8.2.2.1 q.symm
  have nwZ := nZseq lwI
  have nsZ := nZseq ls0
  have nrZ : Dr ∉ Z := fun q => by
    rcases (inZ Dr).mp q with q | q | q | q | q
    · exact live0 lvL Dr mem8.2.2.2.1 q
    · exact live0 lv2 Dr mem8.2.2.2.1 q
    · exact live0 lv3 Dr mem8.2.2.2.1 q
    · exact live0 lv4 Dr mem8.2.2.2.1 q
    · exact nD (by simpa using q)
  have ntZ : Dt ∉ Z := fun q => by
    rcases (inZ Dt).mp q with q | q | q | q | q
    · exact live0 lvL Dt mem8.2.2.2.2 q
    · exact live0 lv2 Dt mem8.2.2.2.2 q
    · exact live0 lv3 Dt mem8.2.2.2.2 q
    · exact live0 lv4 Dt mem8.2.2.2.2 q
    · exact nDt (by simpa using q)
  have n1Z : L + 1 ∉ Z := fun q => by
    rcases (inZ (L + 1)).mp q with q | q | q | q | q | q | q | q
    · walk_at "om"
    · walk_at "om"
    · walk_at "om"
    · walk_at "om"
    · walk_at "om"
    · exact live0 lv1 a0 mem8.1 q.symm
    · exact live0 lv1 a1 mem8.2.1 q.symm
    · exact live0 lv1 a2 mem8.2.2.1 q.symm
  -- from s0 to s1
  have LZ : L ∈ Z := (inZ L).mpr (.inl rfl)
  have k01 : ∀ b : Nat, ∀ o, b ≠ L → s0.heap.get? b = some o → s1.heap.get? b = some o := fun b o hb e => K1.heap b o (by simpa using hb) e
  have z01 : ∀ b : Nat, ∀ o, b ∉ Z → s0.heap.get? b = some o → s1.heap.get? b = some o := fun b o hb e => k01 b o (fun q => hb (by rw [q]; exact LZ)) e
  have T1 := K1.tb T0
  have lw1 : s1.heap.PlainList Dw us.toArray := let ⟨nn, e⟩ := lw0; ⟨nn, z01 _ _ nwZ e⟩
  have ls1 : s1.heap.IsList Ds ss.toArray := let ⟨o, e, r⟩ := ls0; ⟨o, z01 _ _ nsZ e, r⟩
  have lr1 : s1.heap.IsList Dr ([(a0, d0), (a1, d1), (a2, d2)].map fun p : Nat × Nat => Value.ref p.1).toArray := let ⟨nn, e⟩ := lD1; ⟨_, e, rfl, _, rfl⟩
  have c11 := cell_at c10 fun o e => k01 _ o (neN (by walk_at "om")) e
  have c21 := cell_at c20 fun o e => k01 _ o (neN (by walk_at "om")) e
  have c31 := cell_at c30 fun o e => k01 _ o (neN (by walk_at "om")) e
  have c41 := cell_at c40 fun o e => k01 _ o (neN (by walk_at "om")) e
  have liveZ : ∀ b : Nat, b ∈ Z → s1.heap.get? b ≠ none := fun b q => by
    have rowL := live_rows (Y := [90, a0, a1, a2]) (fun b q => by
      simp only [List.mem_cons, List.not_mem_nil, or_false] at q
      rcases q with q | q | q | q
      · exact .inl q
      · exact .inr ⟨(a0, d0), mp1, q.symm⟩
      · exact .inr ⟨(a1, d1), mp2, q.symm⟩
      · exact .inr ⟨(a2, d2), mp3, q.symm⟩) T1 R1
    rcases (inZ b).mp q with q | q | q | q | q
    · obtain ⟨_, _, _, e, _⟩ := N1; rw [q]; exact nnOf e
    · obtain ⟨_, e, _⟩ := c21; rw [q]; exact nnOf e
    · obtain ⟨_, e, _⟩ := c31; rw [q]; exact nnOf e
    · obtain ⟨_, e, _⟩ := c41; rw [q]; exact nnOf e
    · exact rowL b (by simpa using q)
  have baseZ : ∀ b : Nat, ∀ o, (s.heap.hide 90).get? b = some o → s1.heap.get? b = some o ∧ b ∉ Z := fun b o e => by
    have e1 := Heap.of_hide e
    have lt := ltL b o e1
    have e2 := k0 b o e1
    walk_at "un"
    refine ⟨k01 b o (neN (by walk_at "om")) e2, fun q => ?_⟩
    rcases (inZ b).mp q with q | q | q | q | q | q | q | q
    · walk_at "om"
    · walk_at "om"
    · walk_at "om"
    · walk_at "om"
    · rw [q] at e
      have hn := hideOff s.heap 90
      rw [hn] at e; cases e
    · exact live0 (nnOf e2) a0 mem8.1 q.symm
    · exact live0 (nnOf e2) a1 mem8.2.1 q.symm
    · exact live0 (nnOf e2) a2 mem8.2.2.1 q.symm
  have GG : ∀ (h : Heap) (X : List Nat), (∀ b : Nat, ∀ o, b ∉ Z → s1.heap.get? b = some o → h.get? b = some o) → (∀ b ∈ X, b ∈ Z ∨ s1.heap.get? b = none) → Gr w (hideAll h X) := fun h X k hX => (C.G.hide90 T).up fun b o e => by
    obtain ⟨e1, nb⟩ := baseZ b o e
    refine hideAll_get _ (k b o nb e1) fun q => ?_
    rcases hX b q with z | z
    · exact nb z
    · rw [z] at e1; cases e1
  have GL : ∀ (h : Heap), (∀ b : Nat, ∀ o, b ∉ Z → s1.heap.get? b = some o → h.get? b = some o) → Gr w (h.hide L) := fun h k => (GG h [L] k (by simp [LZ])).up fun b o e => hide_in (of_hideAll _ e) (hid_ne (by simp) e)
  have subX : ∀ b ∈ [L, 90, a0, a1, a2], b ∈ Z := fun b q => by
    simp only [List.mem_cons, List.not_mem_nil, or_false] at q
    rw [inZ]
    rcases q with q | q | q | q | q <;> simp [q]
  have had : ∀ p ∈ [(a0, d0), (a1, d1), (a2, d2)], p.1 ∈ [90, a0, a1, a2] ∧ 94 < p.1 := fun p q => by
    simp only [List.mem_cons, List.not_mem_nil, or_false] at q
    rcases q with rfl | rfl | rfl
    · exact ⟨by simp, b0⟩
    · exact ⟨by simp, b1⟩
    · exact ⟨by simp, b2⟩
  have neL : ∀ p ∈ [(a0, d0), (a1, d1), (a2, d2)], p.1 ≠ L := fun p q => by
    simp only [List.mem_cons, List.not_mem_nil, or_false] at q
    rcases q with rfl | rfl | rfl
    · exact live0 lvL a0 mem8.1
    · exact live0 lvL a1 mem8.2.1
    · exact live0 lvL a2 mem8.2.2.1
  walk_at "un"
  refine (law_C (by exact rfl) (X := [L, 90, a0, a1, a2]) (ad := [(a0, d0), (a1, d1), (a2, d2)]) (rs := laidM 1 (ns.map sgOf)) (fun b q => liveZ b (subX b q)) (by simp) (by simp) l94 (fun p q => ⟨List.mem_cons_of_mem _ (had p q).1, neL p q, (had p q).2⟩) rfl (GG _ _ (fun _ _ _ e => e) fun b q => .inl (subX b q)) T1 hh (by walk_at "om") (by walk_at "om")
    N1 mr1 (isl_chain lr1 nrZ (fun _ _ _ e => e) fun b q => .inl (subX b q)) R1 (fun r q => by have := pl.ten0 r q; walk_at "om") ?_ : wpAny _ _ _ _ _ _)
  intro s2 Db m2 us2 K2 N2 hm2 mb2 nDb lDb iDb R2
  have n9L : ∀ b : Nat, b ∉ Z → b ∉ [L, 90] := fun b hb q => hb (subX b (by simp only [List.mem_cons, List.not_mem_nil, or_false] at q ⊢; rcases q with q | q <;> simp [q]))
  have z12 : ∀ b : Nat, ∀ o, b ∉ Z → s1.heap.get? b = some o → s2.heap.get? b = some o := fun b o hb e => K2.heap b o (n9L b hb) e
  have nbZ : Db ∉ Z := fun q => liveZ _ q nDb
  have lb2 : s2.heap.IsList Db us2.toArray := let ⟨nn, e⟩ := lDb; ⟨_, e, rfl, _, rfl⟩
  have T2 := K2.tb T1
  have hle : ∀ b : Nat, b ∈ [L, 90, a0, a1, a2] → s2.heap.get? b ≠ none := fun b q => by
    rcases List.mem_cons.mp q with q | q
    · obtain ⟨_, _, _, e, _⟩ := N2; rw [q]; exact nnOf e
    · exact live_rows (Y := [90, a0, a1, a2]) (fun b q => by
        simp only [List.mem_cons, List.not_mem_nil, or_false] at q
        rcases q with q | q | q | q
        · exact .inl q
        · exact .inr ⟨(a0, d0), mp1, q.symm⟩
        · exact .inr ⟨(a1, d1), mp2, q.symm⟩
        · exact .inr ⟨(a2, d2), mp3, q.symm⟩) T2 R2 b q
  have eq0 : laidM 1 (ns.map sgOf) = rowsM a b c d e f := by rw [pl.eq0, et]; rfl
  walk_at "un"
  refine (law_D (by exact rfl) (X := [L, 90, a0, a1, a2]) (Db := Db) (Dt := Dt) (us := us2) (ts := ts) (rs := laidM 1 (ns.map sgOf)) hle (by simp) (GG _ _ z12 fun b q => .inl (subX b q)) hh (by walk_at "om") (by walk_at "om") N2 mb2 ((hm2 _ (by decide)).trans mt1) lb2 iDb
    (IsL.keeps (isl_chain (X := []) lt1 ntZ z12 (by simp)) fun b o e => of_hideAll _ e) it1
    ⟨s6.hi _ (by simp), s6.hi _ (by simp), s6.hi _ (by simp), s6.hi _ (by simp), s6.hi _ (by simp), s6.hi _ (by simp)⟩ ⟨s6.lo _ (by simp), s6.lo _ (by simp), s6.lo _ (by simp), s6.lo _ (by simp), s6.lo _ (by simp), s6.lo _ (by simp)⟩ pl.lets0 eq0 ?_ : wpAny _ _ _ _ _ _)
  intro g3 tk3 q3 K3
  -- E
  have z13 : ∀ b : Nat, ∀ o, b ∉ Z → s1.heap.get? b = some o → g3.get? b = some o := fun b o hb e => K3 _ _ (z12 b o hb e)
  walk_at "un"
  refine (law_E (by exact rfl) (s := { s2 with heap := g3, toks := tk3 }) (X := [L, 90, a0, a1, a2]) (all_sub hle K3) (by simp) l94 (GG _ _ z13 fun b q => .inl (subX b q)) hh (N2.at' fun o e => K3 _ _ e) mb2 ?_ : wpAny _ _ _ _ _ _)
  intro g4 tk4 m4 Bk Wy ws q4 k4 N4 hm4 mx4 mk4 my4 B4 lw4 iw4 nBk nWy
  have neZL : ∀ b : Nat, b ∉ Z → b ≠ L := fun b hb q => hb (by rw [q]; exact LZ)
  have k24 : ∀ b : Nat, ∀ o, b ≠ L → s2.heap.get? b = some o → g4.get? b = some o := fun b o hb e => k4 b o hb (K3 _ _ e)
  have z14 : ∀ b : Nat, ∀ o, b ∉ Z → s1.heap.get? b = some o → g4.get? b = some o := fun b o hb e => k24 b o (neZL b hb) (z12 b o hb e)
  have n90L : (90 : Nat) ∉ [L] := by simp; walk_at "om"
  have n94L : (94 : Nat) ∉ [L] := by simp; walk_at "om"
  have q14 : s2.toks ≤ tk4 := Nat.le_trans q3 (Nat.le_of_lt q4)
  have K24 : Kp [L, 90] s1 { s2 with heap := g4, toks := tk4 } := Kp.grow (a := s2) [L] K2 (fun b o hb _ e => k24 b o (by simpa using hb) e) (by simp) n90L n94L q14
  have T4 := K24.tb T1
  have h04 : 0 < tk4 := Nat.lt_of_lt_of_le t0 (Nat.le_trans K1.toks (Nat.le_trans K2.toks q14))
  have n9 : ∀ j : Nat, 1 ≤ j → j ≤ 4 → s0.heap.get? (L + j) ≠ none → L + j ∉ [L, 90] ∧ L + j ∉ [90, a0, a1, a2] := fun j j1 j2 lv => by
    walk_at "un"
    refine ⟨by simp only [List.mem_cons, List.not_mem_nil, or_false, not_or]; exact ⟨by walk_at "om", by walk_at "om"⟩, fun q => ?_⟩
    simp only [List.mem_cons, List.not_mem_nil, or_false] at q
    rcases q with q | q | q | q
    · walk_at "om"
    · exact live0 lv a0 mem8.1 q.symm
    · exact live0 lv a1 mem8.2.1 q.symm
    · exact live0 lv a2 mem8.2.2.1 q.symm
  have c24 := cell_at c21 fun o e => k24 _ o (neN (by walk_at "om")) (K2.heap _ o (n9 2 (by walk_at "om") (by walk_at "om") lv2).1 e)
  have c34 := cell_at c31 fun o e => k24 _ o (neN (by walk_at "om")) (K2.heap _ o (n9 3 (by walk_at "om") (by walk_at "om") lv3).1 e)
  have c44 := cell_at c41 fun o e => k24 _ o (neN (by walk_at "om")) (K2.heap _ o (n9 4 (by walk_at "om") (by walk_at "om") lv4).1 e)
  have c23 := cell_at c21 fun o e => K3 _ o (K2.heap _ o (n9 2 (by walk_at "om") (by walk_at "om") lv2).1 e)
  have c33 := cell_at c31 fun o e => K3 _ o (K2.heap _ o (n9 3 (by walk_at "om") (by walk_at "om") lv3).1 e)
  have subX' : ∀ b ∈ [L, L + 2, L + 3, 90, a0, a1, a2], b ∈ Z := fun b q => by
    simp only [List.mem_cons, List.not_mem_nil, or_false] at q
    rw [inZ]
    rcases q with q | q | q | q | q | q | q <;> simp [q]
  have splitX' : ∀ b ∈ [L, L + 2, L + 3, 90, a0, a1, a2], b ∈ [L, 90, a0, a1, a2] ∨ b = L + 2 ∨ b = L + 3 := fun b q => by
    simp only [List.mem_cons, List.not_mem_nil, or_false] at q ⊢
    rcases q with q | q | q | q | q | q | q <;> simp [q]
  have hle4 : ∀ b : Nat, b ∈ [L, 90, a0, a1, a2] → g4.get? b ≠ none := fun b q => by
    by_cases hb : b = L
    · obtain ⟨_, _, _, e, _⟩ := N4; rw [hb]; exact nnOf e
    · cases e : s2.heap.get? b with
      | none => exact absurd e (hle b q)
      | some o => rw [k24 b o hb e]; simp
  have live4 : ∀ b : Nat, b ∈ [L, L + 2, L + 3, 90, a0, a1, a2] → g4.get? b ≠ none := fun b q => by
    rcases splitX' b q with q | q | q
    · exact hle4 b q
    · obtain ⟨_, e, _⟩ := c24; rw [q]; exact nnOf e
    · obtain ⟨_, e, _⟩ := c34; rw [q]; exact nnOf e
  have live3 : ∀ b : Nat, b ∈ [L, L + 2, L + 3, 90, a0, a1, a2] → g3.get? b ≠ none := fun b q => by
    rcases splitX' b q with q | q | q
    · exact all_sub hle K3 b q
    · obtain ⟨_, e, _⟩ := c23; rw [q]; exact nnOf e
    · obtain ⟨_, e, _⟩ := c33; rw [q]; exact nnOf e
  have nWX : Wy ∉ [L, L + 2, L + 3, 90, a0, a1, a2] := fun q => live3 _ q nWy
  have memd : ∀ p ∈ [(a0, d0), (a1, d1), (a2, d2)], p.2 ∈ [Dr, a0, d0, a1, d1, a2, d2, Dt] := fun p q => by
    simp only [List.mem_cons, List.not_mem_nil, or_false] at q
    rcases q with rfl | rfl | rfl <;> simp
  have R4 : RowsAt w [L, 90, a0, a1, a2] g4 [(a0, d0), (a1, d1), (a2, d2)] (laidM 1 (ns.map sgOf)) := R2.move [L] (fun b o hb e => k24 b o (by simpa using hb) e) (by simp) fun p q => by simpa using neL p q
  have R4' : RowsAt w [L, L + 2, L + 3, 90, a0, a1, a2] g4 [(a0, d0), (a1, d1), (a2, d2)] (laidM 1 (ns.map sgOf)) := R4.widen (fun p q z => by
      rcases splitX' _ z with z | z | z
      · exact R4.dict_off p q z
      · exact live0 lv2 _ (memd p q) z
      · exact live0 lv3 _ (memd p q) z) fun b q => by
    rcases splitX' b q with q | q | q
    · exact .inl q
    · right; rw [q]; exact cell_noseq c24
    · right; rw [q]; exact cell_noseq c34
  have it1' : IntsAre ts (triL ns) := by rw [et]; exact it1
  have hYs : ∀ b ∈ [90, a0, a1, a2], b = 90 ∨ ∃ p ∈ [(a0, d0), (a1, d1), (a2, d2)], p.1 = b := fun b q => by
    simp only [List.mem_cons, List.not_mem_nil, or_false] at q
    rcases q with q | q | q | q
    · exact .inl q
    · exact .inr ⟨(a0, d0), mp1, q.symm⟩
    · exact .inr ⟨(a1, d1), mp2, q.symm⟩
    · exact .inr ⟨(a2, d2), mp3, q.symm⟩
  have nLY : L ∉ [90, a0, a1, a2] := fun q => by
    simp only [List.mem_cons, List.not_mem_nil, or_false] at q
    rcases q with q | q | q | q
    · walk_at "om"
    · exact live0 lvL a0 mem8.1 q.symm
    · exact live0 lvL a1 mem8.2.1 q.symm
    · exact live0 lvL a2 mem8.2.2.1 q.symm
  have mr4 : m4 "rows" = some (.ref Dr) := (hm4 _ (by decide)).trans ((hm2 _ (by decide)).trans mr1)
  walk_at "un"
  refine (law_G (by exact rfl) (s := { s2 with heap := g4, toks := tk4 }) (Dr := Dr) (X := [L, L + 2, L + 3, 90, a0, a1, a2]) (Y := [90, a0, a1, a2]) (ad := [(a0, d0), (a1, d1), (a2, d2)]) (st := st0 ns) rfl (by simp) nLY (n9 2 (by walk_at "om") (by walk_at "om") lv2).2 (n9 3 (by walk_at "om") (by walk_at "om") lv3).2 hYs l94 had nd rfl
    (GG _ _ z14 fun b q => .inl (subX' b q)) T4 hh (by walk_at "om") (by walk_at "om") h04 mr4 (isl_chain lr1 nrZ z14 fun b q => .inl (subX' b q))
    ⟨N4, ⟨Db, us2, mx4, isl_chain lb2 nbZ (fun b o hb e => k24 b o (neZL b hb) e) (fun b q => .inl (subX' b q)), iDb⟩, ⟨Dt, ts, (hm4 _ (by decide)).trans ((hm2 _ (by decide)).trans mt1), isl_chain lt1 ntZ z14 (fun b q => .inl (subX' b q)), it1'⟩, ⟨Bk, mk4, B4 _ live3⟩, ⟨Wy, ws, my4, isl_to lw4 nWX (fun o e => e), iw4⟩, R4', ⟨_, c24⟩, ⟨_, c34⟩⟩ live4 pl.ok3 ?_ : wpAny _ _ _ _ _ _)
  intro s5 m5 K5 hm5 S5 live5
  have z15 : ∀ b : Nat, ∀ o, b ∉ Z → s1.heap.get? b = some o → s5.heap.get? b = some o := fun b o hb e => K5.heap b o (fun q => hb (subX' b q)) (z14 b o hb e)
  obtain ⟨N5, ⟨Dx, ux, mx5, lx5, ix5⟩, _, ⟨Bk5, mk5, B5⟩, ⟨Wy5, wy5, my5, ly5, iy5⟩, R5, ⟨v2, c25⟩, ⟨v3, c35⟩⟩ := S5
  have T5 := K5.tb T4
  -- H
  walk_at "un"
  refine (law_H (by exact rfl) (s := s5) (L := L) (Dw := Dw) (Bk := Bk5) (Wy := Wy5) (us := us) (ns := ns) (b := (stN pair3 (st0 ns) 3).bk) (GL _ z15) hh (by walk_at "om") (by walk_at "om") l94 N5 ((hm5 _ (by decide)).trans ((hm4 _ (by decide)).trans ((hm2 _ (by decide)).trans mw1))) (let ⟨nn, e⟩ := lw1; ⟨nn, hide_in (z15 _ _ nwZ e) (neZL _ nwZ)⟩) iw0 mk5
    (B5.keep fun b o e => hide_in (of_hideAll _ e) (hid_ne (by simp) e)) my5 (isl_hide ly5 (by simp)) iy5 pl.bk ?_ : wpAny _ _ _ _ _ _)
  intro g6 tk6 m6 q6 k6 N6 hm6
  have z16 : ∀ b : Nat, ∀ o, b ∉ Z → s1.heap.get? b = some o → g6.get? b = some o := fun b o hb e => k6 b o (neZL b hb) (z15 b o hb e)
  have K56 : Kp [L] s5 { s5 with heap := g6, toks := tk6 } := Kp.grow (a := s5) [L] (Kp.refl [L] s5) (fun b o hb _ e => k6 b o (by simpa using hb) e) (by simp) n90L n94L q6
  have T6 := K56.tb T5
  have h06 : 0 < tk6 := Nat.lt_of_lt_of_le h04 (Nat.le_trans K5.toks q6)
  have n4X' : L + 4 ∉ [L, L + 2, L + 3, 90, a0, a1, a2] := fun q => by
    rcases splitX' _ q with q | q | q
    · rcases List.mem_cons.mp q with q | q
      · walk_at "om"
      · exact (n9 4 (by walk_at "om") (by walk_at "om") lv4).2 q
    · walk_at "om"
    · walk_at "om"
  have c45 := cell_at c44 fun o e => K5.heap _ o n4X' e
  have c46 := cell_at c45 fun o e => k6 _ o (neN (by walk_at "om")) e
  have sub4 : ∀ b ∈ [L, L + 4], b ∈ Z := fun b q => by
    simp only [List.mem_cons, List.not_mem_nil, or_false] at q
    rw [inZ]
    rcases q with q | q <;> simp [q]
  have n1L4 : L + 1 ∉ [L, L + 4] := fun q => n1Z (sub4 _ q)
  walk_at "un"
  refine (law_I (by exact rfl) (s := { s5 with heap := g6, toks := tk6 }) (Ds := Ds) (ss := ss) (cs := ns.map sgOf) (GG _ _ z16 fun b q => .inl (sub4 b q)) T6 hh (by walk_at "om") (by walk_at "om") h06 l94 N6 (let ⟨o, e, r⟩ := c11; ⟨o, hideAll_get _ (z16 _ _ n1Z e) n1L4, r⟩) (isl_chain ls1 nsZ z16 fun b q => .inl (sub4 b q)) is0 (by rw [List.length_map]; exact h6) c46 ?_ : wpAny _ _ _ _ _ _)
  intro s7 Dr2 e0 f0 e1 f1 e2 f2 De ta tb tc m7 K7 N7 hm7 mo7 nw7 p0 p1 p2 nd7 lD7 nD7 R7 c47 dE7
  dsimp only at nw7
  have z17 : ∀ b : Nat, ∀ o, b ∉ Z → s1.heap.get? b = some o → s7.heap.get? b = some o := fun b o hb e => K7.heap b o (fun q => hb (sub4 b q)) (z16 b o hb e)
  have T7 := K7.tb T6
  have ad7 : ∀ p ∈ [(e0, f0), (e1, f1), (e2, f2)], 94 < p.1 := fun p q => by
    simp only [List.mem_cons, List.not_mem_nil, or_false] at q
    rcases q with rfl | rfl | rfl
    · exact p0
    · exact p1
    · exact p2
  have mem7 : ∀ p ∈ [(e0, f0), (e1, f1), (e2, f2)], p.1 ∈ [Dr2, e0, f0, e1, f1, e2, f2, De] ∧ p.2 ∈ [Dr2, e0, f0, e1, f1, e2, f2, De] := fun p q => by
    simp only [List.mem_cons, List.not_mem_nil, or_false] at q
    rcases q with rfl | rfl | rfl <;> simp
  have new7 : ∀ {b : Nat}, g6.get? b ≠ none → ∀ z ∈ [Dr2, e0, f0, e1, f1, e2, f2, De], z ≠ b := fun e z hz q => e (by rw [← q]; exact nw7 z hz)
  have lv6L : g6.get? L ≠ none := by obtain ⟨_, _, _, e, _⟩ := N6; exact nnOf e
  have lv690 : g6.get? (90 : Nat) ≠ none := by
    obtain ⟨op, v, e, _⟩ := T6.at90
    have e' : g6.get? (90 : Nat) = some op := e
    rw [e']; simp
  have lv64 : g6.get? (L + 4) ≠ none := by obtain ⟨_, e, _⟩ := c46; exact nnOf e
  have split7 : ∀ b ∈ [L, 90, e0, e1, e2], b = L ∨ b = 90 ∨ b ∈ [Dr2, e0, f0, e1, f1, e2, f2, De] := fun b q => by
    simp only [List.mem_cons, List.not_mem_nil, or_false] at q ⊢
    rcases q with q | q | q | q | q <;> simp [q]
  have off7 : ∀ {b : Nat}, g6.get? b ≠ none → b ≠ L → b ≠ 90 → b ∉ [L, 90, e0, e1, e2] := fun lv b1 b2 q => by
    rcases split7 _ q with q | q | q
    · exact b1 q
    · exact b2 q
    · exact new7 lv _ q rfl
  have hs7 : ∀ b ∈ [90, e0, e1, e2], b = 90 ∨ ∃ p ∈ [(e0, f0), (e1, f1), (e2, f2)], p.1 = b := fun b q => by
    simp only [List.mem_cons, List.not_mem_nil, or_false] at q
    rcases q with q | q | q | q
    · exact .inl q
    · exact .inr ⟨(e0, f0), mp1, q.symm⟩
    · exact .inr ⟨(e1, f1), mp2, q.symm⟩
    · exact .inr ⟨(e2, f2), mp3, q.symm⟩
  have live7 : ∀ b : Nat, b ∈ [L, 90, e0, e1, e2] → s7.heap.get? b ≠ none := fun b q => by
    rcases List.mem_cons.mp q with q | q
    · obtain ⟨_, _, _, e, _⟩ := N7; rw [q]; exact nnOf e
    · exact live_rows hs7 T7 R7 b q
  have base7 : ∀ b ∈ [L, 90, e0, e1, e2], b ∈ Z ∨ s1.heap.get? b = none := fun b q => by
    by_cases hb : b ∈ Z
    · exact .inl hb
    · right
      cases e : s1.heap.get? b with
      | none => rfl
      | some o =>
        have e6 := z16 b o hb e
        have h9 : b ≠ 90 := fun z => hb (by rw [z, inZ]; simp)
        exact absurd q (off7 (nnOf e6) (neZL b hb) h9)
  have hDx6 : ∃ o, g6.get? Dx = some o ∧ (s5.heap.get? Dx = some o) := by
    obtain ⟨o, e, _⟩ := lx5
    walk_at "un"
    exact ⟨o, k6 _ o (hid_ne (by simp) e) (of_hideAll _ e), of_hideAll _ e⟩
  have nDxX : Dx ∉ [L, L + 2, L + 3, 90, a0, a1, a2] := by obtain ⟨o, e, _⟩ := lx5; exact (hid_get e).2
  have lx5s : s5.heap.IsList Dx ux.toArray := IsL.keeps lx5 fun b o e => of_hideAll _ e
  have nDx4 : Dx ≠ L + 4 := seq_ne lx5s (cell_noseq c45)
  have nDxL : Dx ≠ L := fun q => nDxX (by rw [q]; simp)
  have nDx9 : Dx ≠ 90 := fun q => nDxX (by rw [q]; simp)
  have lx7s : s7.heap.IsList Dx ux.toArray := by
    obtain ⟨o, e, r⟩ := lx5s
    walk_at "un"
    exact ⟨o, K7.heap _ o (by simp only [List.mem_cons, List.not_mem_nil, or_false, not_or]; exact ⟨nDxL, nDx4⟩) (k6 _ o nDxL e), r⟩
  have nDx7 : Dx ∉ [L, 90, e0, e1, e2] := off7 (by obtain ⟨o, e, _⟩ := hDx6; rw [e]; simp) nDxL nDx9
  have lDr2 : s7.heap.IsList Dr2 ([(e0, f0), (e1, f1), (e2, f2)].map fun p : Nat × Nat => Value.ref p.1).toArray := let ⟨nn, e⟩ := lD7; ⟨_, e, rfl, _, rfl⟩
  have nDr7 : Dr2 ∉ [L, 90, e0, e1, e2] := fun q => by
    rcases List.mem_cons.mp q with q | q
    · exact new7 lv6L Dr2 (by simp) q
    · exact nD7 q
  have R7' : RowsAt w [L, 90, e0, e1, e2] s7.heap [(e0, f0), (e1, f1), (e2, f2)] (laidM (-1) (ns.map sgOf).reverse) := R7.widen (fun p q z => by
      rcases List.mem_cons.mp z with z | z
      · exact new7 lv6L _ (mem7 p q).2 z
      · exact R7.dict_off p q z) fun b q => by
    rcases List.mem_cons.mp q with q | q
    · right; rw [q]; exact ns_noseq N7
    · exact .inl q
  have n47 : L + 4 ∉ [L, 90, e0, e1, e2] := off7 lv64 (by walk_at "om") (by walk_at "om")
  have nDe7 : De ∉ [L, 90, e0, e1, e2] := fun q => by
    obtain ⟨o, es, ep, eo, _, eD, _⟩ := dE7
    have row : ∀ (j a d : Nat), [(e0, f0), (e1, f1), (e2, f2)][j]? = some (a, d) → De ≠ a := fun j a d e z => by
      obtain ⟨r, hr⟩ : ∃ r, (laidM (-1) (ns.map sgOf).reverse)[j]? = some r := ⟨_, List.getElem?_eq_getElem (by rw [← R7.1]; exact (List.getElem?_eq_some_iff.mp e).1)⟩
      obtain ⟨items, n, ea, _⟩ := R7.2 j a d r e hr
      rw [z, ea] at eo; cases eo; cases eD
    simp only [List.mem_cons, List.not_mem_nil, or_false] at q
    rcases q with q | q | q | q | q
    · exact new7 lv6L De (by simp) q
    · exact new7 lv690 De (by simp) q
    · exact row 0 _ _ rfl q
    · exact row 1 _ _ rfl q
    · exact row 2 _ _ rfl q
  have mx7 : m7 "texts" = some (.ref Dx) := (hm7 _ (by decide)).trans ((hm6 _ (by decide)).trans mx5)
  walk_at "un"
  refine (law_J (by exact rfl) (s := s7) (X := [L, 90, e0, e1, e2]) (ad := [(e0, f0), (e1, f1), (e2, f2)]) (Dx := Dx) (Dr := Dr2) (De := De) (us := ux) (rs := laidM (-1) (ns.map sgOf).reverse) (qs := (stN pair3 (st0 ns) 3).rs) live7 (by simp) (by simp) l94 ad7 rfl (GG _ _ z17 base7) T7 hh (by walk_at "om") (by walk_at "om")
    N7 mx7 (isl_to lx7s nDx7 fun o e => e) ix5 mo7 (isl_to lDr2 nDr7 fun o e => e) R7' (let ⟨o, e, r⟩ := c47; ⟨o, hideAll_get _ e n47, r⟩) (dE7.at fun o e => hideAll_get _ e nDe7) pl.tenO pl.letsO pl.oth ?_ : wpAny _ _ _ _ _ _)
  intro s8 K8
  have n9Z : ∀ b : Nat, b ∉ Z → b ∉ [90] := fun b hb q => hb (by rw [List.mem_singleton.mp q, inZ]; simp)
  have z18 : ∀ b : Nat, ∀ o, b ∉ Z → s1.heap.get? b = some o → s8.heap.get? b = some o := fun b o hb e => K8.heap b o (n9Z b hb) (z17 b o hb e)
  have N8 : s8.heap.Ns L m7 := N7.at' fun o e => K8.heap L o (fun q => absurd (List.mem_singleton.mp q) (neN (by walk_at "om"))) e
  have z28 : ∀ b : Nat, ∀ o, b ∉ Z → s2.heap.get? b = some o → s8.heap.get? b = some o := fun b o hb e => K8.heap b o (n9Z b hb) (K7.heap b o (fun q => hb (sub4 b q)) (k6 b o (neZL b hb) (K5.heap b o (fun q => hb (subX' b q)) (k24 b o (neZL b hb) e))))
  have subY : ∀ b ∈ [L, 90, a0, a1, a2], b ∈ [L, L + 2, L + 3, 90, a0, a1, a2] := fun b q => by
    simp only [List.mem_cons, List.not_mem_nil, or_false] at q ⊢
    rcases q with q | q | q | q | q <;> simp [q]
  have lx8 : (hideAll s8.heap [L, 90, a0, a1, a2]).IsList Dx ux.toArray := isl_to lx7s (fun q => nDxX (subY _ q)) fun o e => K8.heap _ o (by simpa using nDx9) e
  have R8 : RowsAt w [L, 90, a0, a1, a2] s8.heap [(a0, d0), (a1, d1), (a2, d2)] (stN pair3 (st0 ns) 3).rs := by
    have Ra : RowsAt w [L + 4, L, L + 2, L + 3, 90, a0, a1, a2] s5.heap [(a0, d0), (a1, d1), (a2, d2)] (stN pair3 (st0 ns) 3).rs := R5.widen (fun p q z => by
        rcases List.mem_cons.mp z with z | z
        · exact live0 lv4 _ (memd p q) z
        · exact R5.dict_off p q z) fun b q => by
      rcases List.mem_cons.mp q with q | q
      · right; rw [q]; exact cell_noseq c45
      · exact .inl q
    have npX : ∀ p ∈ [(a0, d0), (a1, d1), (a2, d2)], p.1 ≠ L ∧ p.1 ≠ L + 4 ∧ p.1 ≠ 90 := fun p q => ⟨neL p q, fun z => (n9 4 (by walk_at "om") (by walk_at "om") lv4).2 (by rw [← z]; exact (had p q).1), neN (by have := (had p q).2; walk_at "om")⟩
    have Rb := Ra.move (h' := g6) [L] (fun b o hb e => k6 b o (by simpa using hb) e) (by simp) fun p q => by simpa using (npX p q).1
    have Rc := Rb.move (h' := s7.heap) [L, L + 4] (fun b o hb e => K7.heap b o hb e) (by simp) fun p q => by
      simp only [List.mem_cons, List.not_mem_nil, or_false, not_or]; exact ⟨(npX p q).1, (npX p q).2.1⟩
    have Rd := Rc.move (h' := s8.heap) [90] (fun b o hb e => K8.heap b o hb e) (by simp) fun p q => by simpa using (npX p q).2.2
    exact Rd.weak fun b q => List.mem_cons_of_mem _ (subY b q)
  have live8 : ∀ b : Nat, b ∈ [L, 90, a0, a1, a2] → s8.heap.get? b ≠ none := fun b q => by
    rcases List.mem_cons.mp q with q | q
    · obtain ⟨_, _, _, e, _⟩ := N8; rw [q]; exact nnOf e
    · exact live_rows hYs (K8.tb T7) R8 b q
  have h08 : 0 < s8.toks := Nat.lt_of_lt_of_le h06 (Nat.le_trans K7.toks K8.toks)
  have mb8 : m7 "begun" = some (.ref Db) := (hm7 _ (by decide)).trans ((hm6 _ (by decide)).trans ((hm5 _ (by decide)).trans ((hm4 _ (by decide)).trans mb2)))
  have mr8 : m7 "rows" = some (.ref Dr) := (hm7 _ (by decide)).trans ((hm6 _ (by decide)).trans ((hm5 _ (by decide)).trans mr4))
  walk_at "un"
  refine (law_L (by exact rfl) (s := s8) (X := [L, 90, a0, a1, a2]) (Y := [90, a0, a1, a2]) (ad := [(a0, d0), (a1, d1), (a2, d2)]) (Dr := Dr) (Dx := Dx) (Db := Db) (rs := (stN pair3 (st0 ns) 3).rs) (r0 := laidM 1 (ns.map sgOf)) (us := ux) (ub := us2) rfl (by simp) nLY hYs l94 had nd rfl live8 (GG _ _ z18 fun b q => .inl (subX b q)) (K8.tb T7) hh (by walk_at "om") (by walk_at "om") h08 N8
    mr8 mx7 mb8 (isl_chain lr1 nrZ z18 fun b q => .inl (subX b q)) lx8 ix5 (isl_chain lb2 nbZ z28 fun b q => .inl (subX b q)) iDb R8 pl.ok9 pl.lets0 pl.fin ?_ : wpAny _ _ _ _ _ _)
  intro s9 K9
  walk_at "un"
  refine hR s9 ⟨fun b o hb e => ?_, fun g => K9.gens (K8.gens (K7.gens (K5.gens (K2.gens (K1.gens (K0.gens g)))))), fun t => K9.tb (K8.tb T7), K9.drawn.trans (K8.drawn.trans (K7.drawn.trans (K5.drawn.trans (K2.drawn.trans (K1.drawn.trans K0.drawn))))), K9.os.trans (K8.os.trans (K7.os.trans (K5.os.trans (K2.os.trans (K1.os.trans K0.os))))),
    Nat.le_trans K0.toks (Nat.le_trans K1.toks (Nat.le_trans K2.toks (Nat.le_trans q14 (Nat.le_trans K5.toks (Nat.le_trans q6 (Nat.le_trans K7.toks (Nat.le_trans K8.toks K9.toks)))))))⟩
  have b9 : b ≠ 90 := by simpa using hb
  obtain ⟨e1, nb⟩ := baseZ b o (hide_in e b9)
  exact K9.heap b o (fun q => nb (subX b q)) (z18 b o nb e1)

end
section
/- Plain -/
noncomputable def letB (c : Nat) : Bool := c == 65 || c == 97 || c == 98
noncomputable def okB (rs : List (List Nat)) (lo hi : Nat) : Bool := rs.length == 3 && rs.all fun r => r.all letB && (decide (r.length ≤ 10) && decide (placeM lo r + (r.count lo + r.count hi) ≤ r.length))
noncomputable def sixB (ts : List Int) : Bool := ts.length == 6 && ts.all fun z => decide (z ≤ 50) && decide (-50 ≤ z)
noncomputable def turnB (lo hi : Nat) (st : LS) (rs' : List (List Nat)) : Bool :=
  okB st.rs lo hi && (st.ts.length == 6 && (sixB (turnL (lo == 65) st.ts) && (decide (movedM st.rs lo hi = rs') && (rs'.all (·.all letB) && (decide (rs' = rowsL (turnL (lo == 65) st.ts)) && (((List.range 3).all fun i => (st.rs.getD i []).length == (rs'.getD i []).length) && decide (st.bk.ms.length ≤ 50)))))))
theorem let_of {c : Nat} (h : letB c = true) : Let c := by
  simp only [letB, Bool.or_eq_true, beq_iff_eq] at h
  rcases h with (h | h) | h
  · exact .inl h
  · exact .inr (.inl h)
  · exact .inr (.inr h)
theorem okR_of {rs : List (List Nat)} {lo hi : Nat} (h : okB rs lo hi = true) : OkR rs lo hi := by
  simp only [okB, Bool.and_eq_true, beq_iff_eq, List.all_eq_true, decide_eq_true_eq] at h
  exact ⟨h.1, fun r hr c hc => let_of ((h.2 r hr).1 c hc), fun r hr => (h.2 r hr).2.1, fun r hr => (h.2 r hr).2.2⟩
theorem six_of {ts : List Int} (h : sixB ts = true) : Six ts := by
  simp only [sixB, Bool.and_eq_true, beq_iff_eq, List.all_eq_true, decide_eq_true_eq] at h
  exact ⟨h.1, fun z hz => (h.2 z hz).1, fun z hz => (h.2 z hz).2⟩
theorem okT_of {st : LS} {lo hi : Nat} {rs' : List (List Nat)} (h : turnB lo hi st rs' = true) : OkT st lo hi := by
  simp only [turnB, Bool.and_eq_true, beq_iff_eq, List.all_eq_true, decide_eq_true_eq] at h
  obtain ⟨h1, h2, h3, h4, h5, h6, h7, h8⟩ := h
  rw [← h4] at h5 h6 h7
  exact ⟨okR_of h1, h2, six_of h3, fun r hr c hc => let_of (h5 r hr c hc), h6, fun i hi => h7 i (by simpa using hi), h8⟩
/-- the three moves, told by the triangles -/
noncomputable def tri1 (ts : List Int) : List Int := turnL true ts
noncomputable def tri2 (ts : List Int) : List Int := turnL false (tri1 ts)
noncomputable def tri3 (ts : List Int) : List Int := turnL true (tri2 ts)
noncomputable def step (st : LS) (ts' : List Int) (rs' : List (List Nat)) : LS :=
  ⟨rs', ts', bkN st.rs rs' st.bk 3, st.w0 + gone0 st.ts ts' + gone1 st.ts ts', st.w1 + gone0 st.ts ts' + 2 * gone1 st.ts ts'⟩
noncomputable def lsA (ts : List Int) : LS := ⟨rowsL ts, ts, ⟨0, 0, 0, 0, []⟩, 0, 0⟩
noncomputable def lsB (ts : List Int) : LS := step (lsA ts) (tri1 ts) (rowsL (tri1 ts))
noncomputable def lsC (ts : List Int) : LS := step (lsB ts) (tri2 ts) (rowsL (tri2 ts))
noncomputable def lsD (ts : List Int) : LS := step (lsC ts) (tri3 ts) (rowsL (tri3 ts))
theorem step_eq {st : LS} {lo hi : Nat} {ts' : List Int} {rs' : List (List Nat)} (e1 : turnL (lo == 65) st.ts = ts') (e2 : movedM st.rs lo hi = rs') : turnS lo hi st = step st ts' rs' := by
  subst e1; subst e2; rfl
theorem turnB_eq {st : LS} {lo hi : Nat} {rs' : List (List Nat)} (h : turnB lo hi st rs' = true) : movedM st.rs lo hi = rs' := by
  simp only [turnB, Bool.and_eq_true, decide_eq_true_eq] at h
  exact h.2.2.2.1
noncomputable def movesB : List (Nat × Nat) → List (List Nat) → List (List Nat) → Bool
  | [], rs, r0 => decide (rs = r0)
  | p :: ps, rs, r0 => okB rs p.1 p.2 && movesB ps (movedM rs p.1 p.2) r0
noncomputable def bkC (S : LS) (d e f : Int) : Bool :=
  decide (S.bk.c = 9) && (decide (S.bk.n = 18) && (decide (S.bk.t = S.w0) && (decide (S.bk.x = S.w1) && decide (S.bk.ms = [(⟨#[65]⟩, 2 * (d - f + e) + (6 - (d + e))), (⟨#[97]⟩, 6), (⟨#[98]⟩, (6 - (d + e)) + 2 * f)]))))
noncomputable def bkB (ts : List Int) : Bool :=
  match ts with
  | [_, _, _, d, e, f] => bkC (lsD ts) d e f
  | _ => false
noncomputable def tabB (ts : List Int) : Bool :=
  sixB ts && (turnB 65 97 (lsA ts) (rowsL (tri1 ts)) && (turnB 97 98 (lsB ts) (rowsL (tri2 ts)) && (turnB 65 97 (lsC ts) (rowsL (tri3 ts)) && (bkB ts && movesB pair9 (rowsL (tri3 ts)) (rowsL ts)))))
noncomputable def tab0 : List (List Int) := [[6, 0, 0, 6, 0, 6], [6, 0, 0, 6, 0, 5], [6, 0, 0, 5, 0, 5], [5, 1, 0, 5, 1, 5], [6, 0, 0, 6, 0, 4], [6, 0, 0, 5, 0, 4], [5, 1, 0, 5, 0, 5], [5, 1, 0, 5, 0, 4], [6, 0, 0, 4, 0, 4], [5, 1, 0, 5, 1, 4], [5, 1, 0, 4, 1, 4], [6, 0, 0, 6, 0, 3], [6, 0, 0, 5, 0, 3], [5, 1, 0, 5, 0, 3], [6, 0, 0, 4, 0, 3], [5, 1, 0, 4, 0, 4], [4, 1, 1, 4, 1, 4]]
noncomputable def tab1 : List (List Int) := [[5, 1, 0, 4, 0, 3], [6, 0, 0, 3, 0, 3], [4, 2, 0, 4, 2, 4], [5, 1, 0, 5, 1, 3], [5, 1, 0, 4, 1, 3], [4, 2, 0, 4, 1, 4], [4, 2, 0, 4, 1, 3], [5, 1, 0, 3, 1, 3], [6, 0, 0, 6, 0, 2], [6, 0, 0, 5, 0, 2], [5, 1, 0, 5, 0, 2], [6, 0, 0, 4, 0, 2], [4, 1, 1, 4, 1, 3], [5, 1, 0, 4, 0, 2], [6, 0, 0, 3, 0, 2], [4, 2, 0, 4, 0, 4], [4, 2, 0, 4, 0, 3]]
noncomputable def tab2 : List (List Int) := [[5, 1, 0, 3, 0, 3], [4, 1, 1, 3, 1, 3], [4, 2, 0, 4, 0, 2], [5, 1, 0, 3, 0, 2], [6, 0, 0, 2, 0, 2], [4, 2, 0, 4, 2, 3], [4, 2, 0, 3, 2, 3], [5, 1, 0, 5, 1, 2], [5, 1, 0, 4, 1, 2], [4, 2, 0, 4, 1, 2], [5, 1, 0, 3, 1, 2], [4, 2, 0, 3, 1, 3], [3, 2, 1, 3, 2, 3], [4, 2, 0, 3, 1, 2], [5, 1, 0, 2, 1, 2], [6, 0, 0, 6, 0, 1], [6, 0, 0, 5, 0, 1]]
noncomputable def tab3 : List (List Int) := [[5, 1, 0, 5, 0, 1], [6, 0, 0, 4, 0, 1], [4, 1, 1, 4, 1, 2], [5, 1, 0, 4, 0, 1], [6, 0, 0, 3, 0, 1], [4, 1, 1, 3, 1, 2], [4, 2, 0, 4, 0, 1], [5, 1, 0, 3, 0, 1], [6, 0, 0, 2, 0, 1], [4, 2, 0, 3, 0, 3], [3, 2, 1, 3, 1, 3], [4, 2, 0, 3, 0, 2], [5, 1, 0, 2, 0, 2], [3, 2, 1, 3, 1, 2], [4, 1, 1, 2, 1, 2], [4, 2, 0, 3, 0, 1], [5, 1, 0, 2, 0, 1]]
noncomputable def tab4 : List (List Int) := [[6, 0, 0, 1, 0, 1], [3, 3, 0, 3, 3, 3], [4, 2, 0, 4, 2, 2], [4, 2, 0, 3, 2, 2], [3, 3, 0, 3, 2, 3], [3, 3, 0, 3, 2, 2], [4, 2, 0, 2, 2, 2], [5, 1, 0, 5, 1, 1], [5, 1, 0, 4, 1, 1], [4, 2, 0, 4, 1, 1], [5, 1, 0, 3, 1, 1], [3, 2, 1, 3, 2, 2], [4, 2, 0, 3, 1, 1], [5, 1, 0, 2, 1, 1], [3, 3, 0, 3, 1, 3], [3, 3, 0, 3, 1, 2], [4, 2, 0, 2, 1, 2]]
noncomputable def tab5 : List (List Int) := [[3, 2, 1, 2, 2, 2], [3, 3, 0, 3, 1, 1], [4, 2, 0, 2, 1, 1], [5, 1, 0, 1, 1, 1], [6, 0, 0, 6, 0, 0], [6, 0, 0, 5, 0, 0], [5, 1, 0, 5, 0, 0], [6, 0, 0, 4, 0, 0], [4, 1, 1, 4, 1, 1], [5, 1, 0, 4, 0, 0], [6, 0, 0, 3, 0, 0], [4, 1, 1, 3, 1, 1], [4, 2, 0, 4, 0, 0], [5, 1, 0, 3, 0, 0], [6, 0, 0, 2, 0, 0], [3, 2, 1, 3, 1, 1], [4, 1, 1, 2, 1, 1]]
noncomputable def tab6 : List (List Int) := [[4, 2, 0, 3, 0, 0], [5, 1, 0, 2, 0, 0], [6, 0, 0, 1, 0, 0], [3, 3, 0, 3, 0, 3], [3, 3, 0, 3, 0, 2], [4, 2, 0, 2, 0, 2], [3, 2, 1, 2, 1, 2], [3, 3, 0, 3, 0, 1], [4, 2, 0, 2, 0, 1], [5, 1, 0, 1, 0, 1], [2, 2, 2, 2, 2, 2], [3, 2, 1, 2, 1, 1], [4, 1, 1, 1, 1, 1], [3, 3, 0, 3, 0, 0], [4, 2, 0, 2, 0, 0], [5, 1, 0, 1, 0, 0], [6, 0, 0, 0, 0, 0]]
noncomputable def tabs : List (List Int) := tab0 ++ tab1 ++ tab2 ++ tab3 ++ tab4 ++ tab5 ++ tab6
theorem tab0_ok : tab0.all tabB = true := by decide +kernel
theorem tab1_ok : tab1.all tabB = true := by decide +kernel
theorem tab2_ok : tab2.all tabB = true := by decide +kernel
theorem tab3_ok : tab3.all tabB = true := by decide +kernel
theorem tab4_ok : tab4.all tabB = true := by decide +kernel
theorem tab5_ok : tab5.all tabB = true := by decide +kernel
theorem tab6_ok : tab6.all tabB = true := by decide +kernel
theorem tabs_ok {ts : List Int} (h : ts ∈ tabs) : tabB ts = true := by
  unfold tabs at h
  simp only [List.mem_append] at h
  rcases h with (((((h | h) | h) | h) | h) | h) | h
  · exact List.all_eq_true.mp tab0_ok _ h
  · exact List.all_eq_true.mp tab1_ok _ h
  · exact List.all_eq_true.mp tab2_ok _ h
  · exact List.all_eq_true.mp tab3_ok _ h
  · exact List.all_eq_true.mp tab4_ok _ h
  · exact List.all_eq_true.mp tab5_ok _ h
  · exact List.all_eq_true.mp tab6_ok _ h
noncomputable def wordB (ns : List Nat) : Bool :=
  match triL ns with
  | [a, b, c, d, e, f] =>
    tabs.contains [a, b, c, d, e, f] && (decide (laidM 1 (ns.map sgOf) = rowsM a b c d e f) && (decide (f = ((ns.map Int.ofNat).count 0 : Nat)) && (decide (d - f + e = ((ns.map Int.ofNat).count 1 : Nat)) && (decide (6 - (d + e) = ((ns.map Int.ofNat).count 2 : Nat)) &&
      (decide ((laidM (-1) (ns.map sgOf).reverse).map (fun r : List Nat => r.map exM) = rowsL (tri3 [a, b, c, d, e, f])) && (laidM (-1) (ns.map sgOf).reverse).all fun r => r.all letB && decide (r.length ≤ 10))))))
  | _ => false
theorem word00 : ([0, 1, 2].all fun c => [0, 1, 2].all fun d => [0, 1, 2].all fun e => [0, 1, 2].all fun f => wordB [0, 0, c, d, e, f]) = true := by decide +kernel
theorem word01 : ([0, 1, 2].all fun c => [0, 1, 2].all fun d => [0, 1, 2].all fun e => [0, 1, 2].all fun f => wordB [0, 1, c, d, e, f]) = true := by decide +kernel
theorem word02 : ([0, 1, 2].all fun c => [0, 1, 2].all fun d => [0, 1, 2].all fun e => [0, 1, 2].all fun f => wordB [0, 2, c, d, e, f]) = true := by decide +kernel
theorem word10 : ([0, 1, 2].all fun c => [0, 1, 2].all fun d => [0, 1, 2].all fun e => [0, 1, 2].all fun f => wordB [1, 0, c, d, e, f]) = true := by decide +kernel
theorem word11 : ([0, 1, 2].all fun c => [0, 1, 2].all fun d => [0, 1, 2].all fun e => [0, 1, 2].all fun f => wordB [1, 1, c, d, e, f]) = true := by decide +kernel
theorem word12 : ([0, 1, 2].all fun c => [0, 1, 2].all fun d => [0, 1, 2].all fun e => [0, 1, 2].all fun f => wordB [1, 2, c, d, e, f]) = true := by decide +kernel
theorem word20 : ([0, 1, 2].all fun c => [0, 1, 2].all fun d => [0, 1, 2].all fun e => [0, 1, 2].all fun f => wordB [2, 0, c, d, e, f]) = true := by decide +kernel
theorem word21 : ([0, 1, 2].all fun c => [0, 1, 2].all fun d => [0, 1, 2].all fun e => [0, 1, 2].all fun f => wordB [2, 1, c, d, e, f]) = true := by decide +kernel
theorem word22 : ([0, 1, 2].all fun c => [0, 1, 2].all fun d => [0, 1, 2].all fun e => [0, 1, 2].all fun f => wordB [2, 2, c, d, e, f]) = true := by decide +kernel
theorem word_all {ns : List Nat} (h6 : ns.length = 6) (h3 : ∀ n ∈ ns, n < 3) : wordB ns = true := by
  obtain ⟨a, b, c, d, e, f, rfl⟩ := list6 h6
  focus
    have m : ∀ x : Nat, x < 3 → x ∈ [0, 1, 2] := fun x hx => by
      have : x = 0 ∨ x = 1 ∨ x = 2 := by walk_at "om"
      rcases this with rfl | rfl | rfl <;> simp
    have ha := h3 a (by simp)
    have hb := h3 b (by simp)
    have hc := m c (h3 c (by simp))
    have hd := m d (h3 d (by simp))
    have he := m e (h3 e (by simp))
    have hf := m f (h3 f (by simp))
    have key : ∀ {x y : Nat}, ([0, 1, 2].all fun c => [0, 1, 2].all fun d => [0, 1, 2].all fun e => [0, 1, 2].all fun f => wordB [x, y, c, d, e, f]) = true → wordB [x, y, c, d, e, f] = true := fun h =>
      List.all_eq_true.mp (List.all_eq_true.mp (List.all_eq_true.mp (List.all_eq_true.mp h _ hc) _ hd) _ he) _ hf
    have ha' : a = 0 ∨ a = 1 ∨ a = 2 := by walk_at "om"
    have hb' : b = 0 ∨ b = 1 ∨ b = 2 := by walk_at "om"
    rcases ha' with rfl | rfl | rfl <;> rcases hb' with rfl | rfl | rfl
    · exact key word00
    · exact key word01
    · exact key word02
    · exact key word10
    · exact key word11
    · exact key word12
    · exact key word20
    · exact key word21
    · exact key word22
theorem rsN_cons (p : Nat × Nat) (ps : List (Nat × Nat)) (rs : List (List Nat)) : ∀ i, rsN (p :: ps) rs (i + 1) = rsN ps (movedM rs p.1 p.2) i
  | 0 => rfl
  | i + 1 => by
    show movedM (rsN (p :: ps) rs (i + 1)) _ _ = movedM (rsN ps (movedM rs p.1 p.2) i) _ _
    rw [rsN_cons p ps rs i]; rfl
theorem moves_of : ∀ (ps : List (Nat × Nat)) (rs r0 : List (List Nat)), movesB ps rs r0 = true → (∀ i, i < ps.length → OkR (rsN ps rs i) (ps.getD i (0, 0)).1 (ps.getD i (0, 0)).2) ∧ rsN ps rs ps.length = r0
  | [], rs, r0, h => ⟨fun i hi => absurd hi (Nat.not_lt_zero _), by show rs = r0; simpa [movesB] using h⟩
  | p :: ps, rs, r0, h => by
    simp only [movesB, Bool.and_eq_true] at h
    obtain ⟨h1, h2⟩ := moves_of ps _ r0 h.2
    refine ⟨fun i hi => ?_, ?_⟩
    · match i, hi with
      | 0, _ => exact okR_of h.1
      | i + 1, hi =>
        rw [rsN_cons]
        exact h1 i (by simpa using hi)
    · show rsN (p :: ps) rs (ps.length + 1) = r0
      rw [rsN_cons]; exact h2

end
section
/- Plain2 -/
set_option maxHeartbeats 200000 in
theorem plain_all (ns : List Nat) (h6 : ns.length = 6) (h3 : ∀ n ∈ ns, n < 3) : Plain ns := by
  have W := word_all h6 h3
  unfold wordB at W
  split at W
  · rename_i a b c d e f et
    simp only [Bool.and_eq_true, decide_eq_true_eq, List.all_eq_true] at W
    obtain ⟨w1, w2, w3, w4, w5, w6, w7⟩ := W
    have T := tabs_ok (List.contains_iff_mem.mp w1)
    simp only [tabB, Bool.and_eq_true] at T
    obtain ⟨t0, t1, t2, t3, t4, t5⟩ := T
    have e0 : st0 ns = lsA [a, b, c, d, e, f] := by unfold st0 lsA; rw [et, w2]; rfl
    have o1 := okT_of t1
    have o2 := okT_of t2
    have o3 := okT_of t3
    have e1 : stN pair3 (st0 ns) 1 = lsB [a, b, c, d, e, f] := by
      show turnS 65 97 (st0 ns) = _
      rw [e0]; exact step_eq rfl (turnB_eq t1)
    have e2 : stN pair3 (st0 ns) 2 = lsC [a, b, c, d, e, f] := by
      show turnS 97 98 (stN pair3 (st0 ns) 1) = _
      rw [e1]; exact step_eq rfl (turnB_eq t2)
    have e3 : stN pair3 (st0 ns) 3 = lsD [a, b, c, d, e, f] := by
      show turnS 65 97 (stN pair3 (st0 ns) 2) = _
      rw [e2]; exact step_eq rfl (turnB_eq t3)
    obtain ⟨m1, m2⟩ := moves_of pair9 _ _ t5
    have r0 : laidM 1 (ns.map sgOf) = (lsA [a, b, c, d, e, f]).rs := by rw [w2]; rfl
    have r3 : (stN pair3 (st0 ns) 3).rs = rowsL (tri3 [a, b, c, d, e, f]) := by rw [e3]; rfl
    refine ⟨by rw [et]; exact six_of t0, by rw [et, w2]; rfl, by rw [r0]; exact o1.r.lets, by rw [r0]; exact o1.r.ten, fun i hi => ?_, ?_, by rw [r3, w6], fun r hr c hc => let_of ((w7 r hr).1 c hc), fun r hr => (w7 r hr).2, by rw [r3]; exact m1, by rw [r3, w2]; exact m2⟩
    · match i, hi with
      | 0, _ => rw [show stN pair3 (st0 ns) 0 = lsA [a, b, c, d, e, f] from e0]; exact o1
      | 1, _ => rw [e1]; exact o2
      | 2, _ => rw [e2]; exact o3
    · rw [e3]
      replace t4 : bkC (lsD [a, b, c, d, e, f]) d e f = true := t4
      unfold bkC at t4
      simp only [Bool.and_eq_true, decide_eq_true_eq] at t4
      obtain ⟨b1, b2, b3, b4, b5⟩ := t4
      generalize lsD [a, b, c, d, e, f] = S at b1 b2 b3 b4 b5 ⊢
      rw [w4, w5, w3] at b5
      rw [ofA, ofa, ofb]
      have ext : ∀ x y : BK, x.c = y.c → x.n = y.n → x.t = y.t → x.x = y.x → x.ms = y.ms → x = y := fun x y h1 h2 h3 h4 h5 => by
        cases x; cases y; simp only at h1 h2 h3 h4 h5; subst h1; subst h2; subst h3; subst h4; subst h5; rfl
      exact ext S.bk _ b1 b2 b3 b4 b5
  · cases W

end
section
/- Fin -/
theorem heapC_eq (P : Params) : heapC P = heapK P := by kernel_rfl
theorem in_of {w : World} {h : Heap} (X : (heapX w.params).In h) : (heapK w.params).In h := fun a o e => X a o (by
  have h90 : (heapK w.params).lookup 90 = none := by kernel_rfl
  unfold heapX
  rw [List.lookup_cons, heapC_eq]
  by_cases q : a = 90
  · rw [q, h90] at e; cases e
  · rw [beq_false_of_ne q]; exact e)
theorem at90_of {w : World} {h : Heap} (X : (heapX w.params).In h) : h.get? 90 = some { cls := .none, data := .fields #[] } := X 90 _ rfl
theorem tb_of {w : World} {h : Heap} (X : (heapX w.params).In h) : Tb h := by
  obtain ⟨o, vs, file, tf, flags, tg, inF, text, tt, e1, e2, e3, e4, e5, e6, e7, e8, e9, ne⟩ := codeHd_of_K (c := 94) (P := 90) (in_of X) (by kernel_rfl)
  exact ⟨#[], ⟨o, vs, file, tf, flags, tg, inF, text, tt, _, e1, e3, e5, e6, e7, e8, e9, at90_of X, rfl, trivial, ne⟩, ⟨⟨o, vs, e1, e2, e3, e4⟩, at90_of X⟩⟩
theorem old_of {s s' : Shared} (K : Kp [90] s s') (T : Tb s.heap) (X90 : s.heap.get? 90 = some { cls := .none, data := .fields #[] }) : OldK s.heap s'.heap := by
  obtain ⟨ps', _, t'⟩ := K.tb T
  obtain ⟨_, _, t0⟩ := T
  refine ⟨fun b o e => ?_, fun b o e => ?_⟩
  · by_cases hb : b = 90
    · subst hb
      rw [X90] at e; cases e
      refine .inr (.inl ⟨t0.isCodeTable, rfl, #[], ps', rfl, ?_⟩)
      rw [t'.2, Array.empty_append]
    · exact .inl (K.heap b o (by simpa using hb) e)
  · by_cases hb : b = 90
    · subst hb; exact ⟨_, t'.2⟩
    · exact ⟨o, K.heap b o (by simpa using hb) e⟩
theorem post_true (args ds : List WData) : Challenge.rw_xg0051_01.row.claim.post args (WData.bool true) ds = true := by
  show (WShape.has [] (.bool true) .bool && WTm.holds [] (.eq .res (.lit (.bool true))) { args := args, res := some (.bool true), after := ds }) = true
  rw [Bool.and_eq_true]
  constructor
  · simp [WShape.has, WShape.arms]
  · simp [WTm.holds, WTm.value, W.same]

end
end Mine
set_option maxRecDepth 100000 in
set_option maxHeartbeats 8000000 in
theorem PySem.Challenge.cw_xg0051_01_holds : PySem.Challenge.rw_xg0051_01.Holds := by
  w_on
  refine holds_law Mine.saidOk fun said => ?_
  refine holds_open (q := Mine.viewV) (loose := ["_Accumulator"]) (Xt := fun s => xlAt Mine.viewV [] s && recOk (RowW.records Challenge.rw_xg0051_01.row.toRowW) s) (XP := XL Mine.viewV []) (Yf := Mine.headHook.obs) (Ya := Mine.headHook.val) (YP := Mine.headHook.says) (N := 2766) Mine.headLeft Mine.headHook.of Mine.headHook.keeps (fun s e => xl_of s (Bool.and_eq_true_iff.mp e).1) XL.keeps (by rfl) (by rfl) (by rfl) (fun s e => recFacts_of (Bool.and_eq_true_iff.mp e).2) (by rfl) (by assumption) (by decide +kernel) ⟨rfl, rfl, rfl, rfl, rfl, by decide +kernel⟩ ?hw ?hc
  case hw => w_witness2
  w_strict (
    (intro w s₀ s₁ mg mb G Y fa o pm cd doc dV kV ho hd hcd hD hmg hg args vals as hpre hlay hrd hwl hlo)
    (have KX := kIn_of Y)
    (have X := (Ground.X G).1)
    (have V := (Ground.X G).2)
    (refine Ground.open G ?_)
    (intro T B D TE TW)
    (try (refine guard_noD D (by decide +kernel) ?_; clear D))
    (obtain ⟨_, _, M⟩ := bmod_of_top T)
    (wrow_args hpre hlay hrd hwl hlo)
    (rename_i xs hs hlay0 hlb hr hl2 as2 as3 l vs as4 hL ra w1 r0 hI hr2 hc1 hc2)
    (have hlaw := mg_of (n := Str.ofString "law") (v := .ref 221) (Mine.in_of KX) T.g (by kernel_rfl))
    (have hmg' : mg (Str.ofString "law") = some (.ref fa) := hmg)
    (rw [hlaw] at hmg')
    (cases hmg')
    (have hsz : vs.length ≤ 63 := by rw [hI.length]; walk_at "om")
    (refine wpAny_call (Mine.law_all Mine.plain_all ⟨⟨Mine.in_of KX, ⟨_, _, _, _, topRead_of T⟩, ⟨_, _, _, M⟩⟩, by decide, by decide, rfl⟩ (Mine.tb_of KX) hL hI hsz ?_))
    (intro s' K)
    (exact ⟨.inl ⟨.bool true, .bool true, [], rfl, fun _ => rfl, .bool true, Mine.post_true _ _, fun _ => ⟨List.nodup_nil, fun _ h => nomatch h⟩⟩, Mine.old_of K (Mine.tb_of KX) (Mine.at90_of KX), K.os, K.gens (.of_eq hg)⟩))

