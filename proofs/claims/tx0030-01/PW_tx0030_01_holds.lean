import PyProof.Rows.All
import Wide.All
import OpenK.AllK
import Wide.FinOn
import Lean
import PySem.Challenge.RW_tx0030_01
open PySem PySem.W PyProof.Rows
set_option Elab.async false
set_option maxRecDepth 100000
set_option maxHeartbeats 8000000
set_option linter.unusedVariables false
set_option linter.unusedSectionVars false
namespace Mine
-- part Hk
open PySem PySem.W PyProof.Rows
set_option maxHeartbeats 8000000
/-- a statement of the given text by its place; its parts -/
def fAt (i : Nat) : PySem.Stmt := (PySem.Challenge.pw_tx0030_01.main.body[i]?).getD (.Pass ⟨0, 0, 0, 0⟩)
noncomputable def fArgs : PySem.Stmt → PySem.Arguments | .FunctionDef _ a _ _ _ _ _ _ _ _ => a | _ => ⟨[], [], none, [], [], none, []⟩
noncomputable def fBody : PySem.Stmt → List PySem.Stmt | .FunctionDef _ _ b _ _ _ _ _ _ _ => b | _ => []
noncomputable def fScope : PySem.Stmt → PySem.Scope | .FunctionDef _ _ _ _ _ _ s _ _ _ => s | _ => ⟨.function, [], false, false, []⟩
noncomputable def kHp (P : PySem.Params) : PySem.W.Frag :=
  [(3, { cls := PySem.Value.type "dict", data := PySem.Data.dict #[{ hash := PySem.PyData.keyHash P (PySem.Str.ofString "__name__"), key := PySem.Value.str (PySem.Str.ofString "__name__") 165, val := PySem.Value.str (PySem.Str.ofString "law_tx0030_01") 364 }, { hash := PySem.PyData.keyHash P (PySem.Str.ofString "__doc__"), key := PySem.Value.str (PySem.Str.ofString "__doc__") 166, val := PySem.Value.none }, { hash := PySem.PyData.keyHash P (PySem.Str.ofString "__package__"), key := PySem.Value.str (PySem.Str.ofString "__package__") 167, val := PySem.Value.none }, { hash := PySem.PyData.keyHash P (PySem.Str.ofString "__loader__"), key := PySem.Value.str (PySem.Str.ofString "__loader__") 168, val := PySem.Value.builtin "__main__.__loader__#opaque" }, { hash := PySem.PyData.keyHash P (PySem.Str.ofString "__spec__"), key := PySem.Value.str (PySem.Str.ofString "__spec__") 169, val := PySem.Value.none }, { hash := PySem.PyData.keyHash P (PySem.Str.ofString "__annotations__"), key := PySem.Value.str (PySem.Str.ofString "__annotations__") 170, val := PySem.Value.ref 6 }, { hash := PySem.PyData.keyHash P (PySem.Str.ofString "__builtins__"), key := PySem.Value.str (PySem.Str.ofString "__builtins__") 171, val := PySem.Value.ref 4 }, { hash := PySem.PyData.keyHash P (PySem.Str.ofString "__file__"), key := PySem.Value.str (PySem.Str.ofString "__file__") 173, val := PySem.Value.str (PySem.Str.ofString "/claim/cut.py") 172 }, { hash := PySem.PyData.keyHash P (PySem.Str.ofString "__cached__"), key := PySem.Value.str (PySem.Str.ofString "__cached__") 174, val := PySem.Value.none }, { hash := PySem.PyData.keyHash P (PySem.Str.ofString "_DIV_LIMIT"), key := PySem.Value.str (PySem.Str.ofString "_DIV_LIMIT") 190, val := PySem.Value.int 4000 189 }, { hash := PySem.PyData.keyHash P (PySem.Str.ofString "_div2n1n"), key := PySem.Value.str (PySem.Str.ofString "_div2n1n") 207, val := PySem.Value.ref 21 }, { hash := PySem.PyData.keyHash P (PySem.Str.ofString "_div3n2n"), key := PySem.Value.str (PySem.Str.ofString "_div3n2n") 221, val := PySem.Value.ref 28 }, { hash := PySem.PyData.keyHash P (PySem.Str.ofString "_int2digits"), key := PySem.Value.str (PySem.Str.ofString "_int2digits") 232, val := PySem.Value.ref 35 }, { hash := PySem.PyData.keyHash P (PySem.Str.ofString "_digits2int"), key := PySem.Value.str (PySem.Str.ofString "_digits2int") 243, val := PySem.Value.ref 42 }, { hash := PySem.PyData.keyHash P (PySem.Str.ofString "_divmod_pos"), key := PySem.Value.str (PySem.Str.ofString "_divmod_pos") 258, val := PySem.Value.ref 49 }, { hash := PySem.PyData.keyHash P (PySem.Str.ofString "int_divmod"), key := PySem.Value.str (PySem.Str.ofString "int_divmod") 268, val := PySem.Value.ref 56 }, { hash := PySem.PyData.keyHash P (PySem.Str.ofString "bisect_right"), key := PySem.Value.str (PySem.Str.ofString "bisect_right") 284, val := PySem.Value.ref 65 }, { hash := PySem.PyData.keyHash P (PySem.Str.ofString "insort_left"), key := PySem.Value.str (PySem.Str.ofString "insort_left") 297, val := PySem.Value.ref 74 }, { hash := PySem.PyData.keyHash P (PySem.Str.ofString "bisect_left"), key := PySem.Value.str (PySem.Str.ofString "bisect_left") 311, val := PySem.Value.ref 83 }, { hash := PySem.PyData.keyHash P (PySem.Str.ofString "ELLIPSIS_MARKER"), key := PySem.Value.str (PySem.Str.ofString "ELLIPSIS_MARKER") 315, val := PySem.Value.str (PySem.Str.ofString "...") 314 }, { hash := PySem.PyData.keyHash P (PySem.Str.ofString "_ellipsis_match"), key := PySem.Value.str (PySem.Str.ofString "_ellipsis_match") 327, val := PySem.Value.ref 90 }, { hash := PySem.PyData.keyHash P (PySem.Str.ofString "_MAX_STRING_SIZE"), key := PySem.Value.str (PySem.Str.ofString "_MAX_STRING_SIZE") 331, val := PySem.Value.int 40 330 }, { hash := PySem.PyData.keyHash P (PySem.Str.ofString "_MOVE_COST"), key := PySem.Value.str (PySem.Str.ofString "_MOVE_COST") 333, val := PySem.Value.int 2 332 }, { hash := PySem.PyData.keyHash P (PySem.Str.ofString "_CASE_COST"), key := PySem.Value.str (PySem.Str.ofString "_CASE_COST") 335, val := PySem.Value.int 1 334 }, { hash := PySem.PyData.keyHash P (PySem.Str.ofString "_substitution_cost"), key := PySem.Value.str (PySem.Str.ofString "_substitution_cost") 343, val := PySem.Value.ref 97 }, { hash := PySem.PyData.keyHash P (PySem.Str.ofString "_levenshtein_distance"), key := PySem.Value.str (PySem.Str.ofString "_levenshtein_distance") 363, val := PySem.Value.ref 104 }, { hash := PySem.PyData.keyHash P (PySem.Str.ofString "_law_words"), key := PySem.Value.str (PySem.Str.ofString "_law_words") 371, val := PySem.Value.ref 109 }, { hash := PySem.PyData.keyHash P (PySem.Str.ofString "_law_code"), key := PySem.Value.str (PySem.Str.ofString "_law_code") 377, val := PySem.Value.ref 114 }, { hash := PySem.PyData.keyHash P (PySem.Str.ofString "_law_weighed"), key := PySem.Value.str (PySem.Str.ofString "_law_weighed") 383, val := PySem.Value.ref 119 }, { hash := PySem.PyData.keyHash P (PySem.Str.ofString "law"), key := PySem.Value.str (PySem.Str.ofString "law") 389, val := PySem.Value.ref 124 }] 30 }),
    (20, { cls := PySem.Value.type "code", data := PySem.Data.fields #[PySem.Value.str (PySem.Str.ofString "_div2n1n") 191, PySem.Value.str (PySem.Str.ofString "_div2n1n") 192, PySem.Value.str (PySem.Str.ofString "/claim/cut.py") 193, PySem.Value.int 3 0, PySem.Value.int 3 0, PySem.Value.int 0 0, PySem.Value.int 0 0, PySem.Value.int 3 0, PySem.Value.ref 15, PySem.Value.bool true, PySem.Value.int 181 0, PySem.Value.ref 16, PySem.Value.none, PySem.Value.ref 17, PySem.Value.ref 18, PySem.Value.ref 19, PySem.Value.int 205 0, PySem.Value.int 3 0, PySem.Value.str (PySem.Str.ofString "/claim/cut.py") 206] }),
    (21, { cls := PySem.Value.type "function", data := PySem.Data.func { name := PySem.Str.ofString "_div2n1n", qualname := PySem.Str.ofString "_div2n1n", params := fArgs (fAt 2), body := PySem.FuncBody.stmts (fBody (fAt 2)), scope := fScope (fAt 2), globals := 3, closure := [], defaults := PySem.Value.none, kwdefaults := PySem.Value.none, pyModule := PySem.Value.str (PySem.Str.ofString "cpy313._pylong") 187, code := PySem.Value.ref 20 } }),
    (27, { cls := PySem.Value.type "code", data := PySem.Data.fields #[PySem.Value.str (PySem.Str.ofString "_div3n2n") 208, PySem.Value.str (PySem.Str.ofString "_div3n2n") 209, PySem.Value.str (PySem.Str.ofString "/claim/cut.py") 210, PySem.Value.int 19 0, PySem.Value.int 6 0, PySem.Value.int 0 0, PySem.Value.int 0 0, PySem.Value.int 3 0, PySem.Value.ref 22, PySem.Value.bool true, PySem.Value.int 181 0, PySem.Value.ref 23, PySem.Value.none, PySem.Value.ref 24, PySem.Value.ref 25, PySem.Value.ref 26, PySem.Value.int 219 0, PySem.Value.int 19 0, PySem.Value.str (PySem.Str.ofString "/claim/cut.py") 220] }),
    (28, { cls := PySem.Value.type "function", data := PySem.Data.func { name := PySem.Str.ofString "_div3n2n", qualname := PySem.Str.ofString "_div3n2n", params := fArgs (fAt 3), body := PySem.FuncBody.stmts (fBody (fAt 3)), scope := fScope (fAt 3), globals := 3, closure := [], defaults := PySem.Value.none, kwdefaults := PySem.Value.none, pyModule := PySem.Value.str (PySem.Str.ofString "cpy313._pylong") 187, code := PySem.Value.ref 27 } }),
    (34, { cls := PySem.Value.type "code", data := PySem.Data.fields #[PySem.Value.str (PySem.Str.ofString "_int2digits") 222, PySem.Value.str (PySem.Str.ofString "_int2digits") 223, PySem.Value.str (PySem.Str.ofString "/claim/cut.py") 224, PySem.Value.int 29 0, PySem.Value.int 2 0, PySem.Value.int 0 0, PySem.Value.int 0 0, PySem.Value.int 3 0, PySem.Value.ref 29, PySem.Value.bool true, PySem.Value.int 181 0, PySem.Value.ref 30, PySem.Value.none, PySem.Value.ref 31, PySem.Value.ref 32, PySem.Value.ref 33, PySem.Value.int 230 0, PySem.Value.int 29 0, PySem.Value.str (PySem.Str.ofString "/claim/cut.py") 231] }),
    (35, { cls := PySem.Value.type "function", data := PySem.Data.func { name := PySem.Str.ofString "_int2digits", qualname := PySem.Str.ofString "_int2digits", params := fArgs (fAt 4), body := PySem.FuncBody.stmts (fBody (fAt 4)), scope := fScope (fAt 4), globals := 3, closure := [], defaults := PySem.Value.none, kwdefaults := PySem.Value.none, pyModule := PySem.Value.str (PySem.Str.ofString "cpy313._pylong") 187, code := PySem.Value.ref 34 } }),
    (41, { cls := PySem.Value.type "code", data := PySem.Data.fields #[PySem.Value.str (PySem.Str.ofString "_digits2int") 233, PySem.Value.str (PySem.Str.ofString "_digits2int") 234, PySem.Value.str (PySem.Str.ofString "/claim/cut.py") 235, PySem.Value.int 45 0, PySem.Value.int 2 0, PySem.Value.int 0 0, PySem.Value.int 0 0, PySem.Value.int 3 0, PySem.Value.ref 36, PySem.Value.bool true, PySem.Value.int 181 0, PySem.Value.ref 37, PySem.Value.none, PySem.Value.ref 38, PySem.Value.ref 39, PySem.Value.ref 40, PySem.Value.int 241 0, PySem.Value.int 45 0, PySem.Value.str (PySem.Str.ofString "/claim/cut.py") 242] }),
    (42, { cls := PySem.Value.type "function", data := PySem.Data.func { name := PySem.Str.ofString "_digits2int", qualname := PySem.Str.ofString "_digits2int", params := fArgs (fAt 5), body := PySem.FuncBody.stmts (fBody (fAt 5)), scope := fScope (fAt 5), globals := 3, closure := [], defaults := PySem.Value.none, kwdefaults := PySem.Value.none, pyModule := PySem.Value.str (PySem.Str.ofString "cpy313._pylong") 187, code := PySem.Value.ref 41 } }),
    (48, { cls := PySem.Value.type "code", data := PySem.Data.fields #[PySem.Value.str (PySem.Str.ofString "_divmod_pos") 244, PySem.Value.str (PySem.Str.ofString "_divmod_pos") 245, PySem.Value.str (PySem.Str.ofString "/claim/cut.py") 246, PySem.Value.int 54 0, PySem.Value.int 2 0, PySem.Value.int 0 0, PySem.Value.int 0 0, PySem.Value.int 3 0, PySem.Value.ref 43, PySem.Value.bool true, PySem.Value.int 181 0, PySem.Value.ref 44, PySem.Value.none, PySem.Value.ref 45, PySem.Value.ref 46, PySem.Value.ref 47, PySem.Value.int 256 0, PySem.Value.int 54 0, PySem.Value.str (PySem.Str.ofString "/claim/cut.py") 257] }),
    (49, { cls := PySem.Value.type "function", data := PySem.Data.func { name := PySem.Str.ofString "_divmod_pos", qualname := PySem.Str.ofString "_divmod_pos", params := fArgs (fAt 6), body := PySem.FuncBody.stmts (fBody (fAt 6)), scope := fScope (fAt 6), globals := 3, closure := [], defaults := PySem.Value.none, kwdefaults := PySem.Value.none, pyModule := PySem.Value.str (PySem.Str.ofString "cpy313._pylong") 187, code := PySem.Value.ref 48 } }),
    (55, { cls := PySem.Value.type "code", data := PySem.Data.fields #[PySem.Value.str (PySem.Str.ofString "int_divmod") 259, PySem.Value.str (PySem.Str.ofString "int_divmod") 260, PySem.Value.str (PySem.Str.ofString "/claim/cut.py") 261, PySem.Value.int 65 0, PySem.Value.int 2 0, PySem.Value.int 0 0, PySem.Value.int 0 0, PySem.Value.int 3 0, PySem.Value.ref 50, PySem.Value.bool true, PySem.Value.int 181 0, PySem.Value.ref 51, PySem.Value.none, PySem.Value.ref 52, PySem.Value.ref 53, PySem.Value.ref 54, PySem.Value.int 266 0, PySem.Value.int 65 0, PySem.Value.str (PySem.Str.ofString "/claim/cut.py") 267] }),
    (56, { cls := PySem.Value.type "function", data := PySem.Data.func { name := PySem.Str.ofString "int_divmod", qualname := PySem.Str.ofString "int_divmod", params := fArgs (fAt 7), body := PySem.FuncBody.stmts (fBody (fAt 7)), scope := fScope (fAt 7), globals := 3, closure := [], defaults := PySem.Value.none, kwdefaults := PySem.Value.none, pyModule := PySem.Value.str (PySem.Str.ofString "cpy313._pylong") 187, code := PySem.Value.ref 55 } }),
    (57, { cls := PySem.Value.type "tuple", data := PySem.Data.seq #[PySem.Value.int 0 271, PySem.Value.none] }),
    (58, { cls := PySem.Value.type "dict", data := PySem.Data.dict #[{ hash := PySem.PyData.keyHash P (PySem.Str.ofString "key"), key := PySem.Value.str (PySem.Str.ofString "key") 272, val := PySem.Value.none }] 1 }),
    (64, { cls := PySem.Value.type "code", data := PySem.Data.fields #[PySem.Value.str (PySem.Str.ofString "bisect_right") 273, PySem.Value.str (PySem.Str.ofString "bisect_right") 274, PySem.Value.str (PySem.Str.ofString "/claim/cut.py") 275, PySem.Value.int 77 0, PySem.Value.int 4 0, PySem.Value.int 0 0, PySem.Value.int 1 0, PySem.Value.int 3 0, PySem.Value.ref 59, PySem.Value.bool true, PySem.Value.int 181 0, PySem.Value.ref 60, PySem.Value.none, PySem.Value.ref 61, PySem.Value.ref 62, PySem.Value.ref 63, PySem.Value.int 282 0, PySem.Value.int 77 0, PySem.Value.str (PySem.Str.ofString "/claim/cut.py") 283] }),
    (65, { cls := PySem.Value.type "function", data := PySem.Data.func { name := PySem.Str.ofString "bisect_right", qualname := PySem.Str.ofString "bisect_right", params := fArgs (fAt 9), body := PySem.FuncBody.stmts (fBody (fAt 9)), scope := fScope (fAt 9), globals := 3, closure := [], defaults := PySem.Value.ref 57, kwdefaults := PySem.Value.ref 58, pyModule := PySem.Value.str (PySem.Str.ofString "cpy313.bisect") 269, code := PySem.Value.ref 64 } }),
    (66, { cls := PySem.Value.type "tuple", data := PySem.Data.seq #[PySem.Value.int 0 285, PySem.Value.none] }),
    (67, { cls := PySem.Value.type "dict", data := PySem.Data.dict #[{ hash := PySem.PyData.keyHash P (PySem.Str.ofString "key"), key := PySem.Value.str (PySem.Str.ofString "key") 286, val := PySem.Value.none }] 1 }),
    (73, { cls := PySem.Value.type "code", data := PySem.Data.fields #[PySem.Value.str (PySem.Str.ofString "insort_left") 287, PySem.Value.str (PySem.Str.ofString "insort_left") 288, PySem.Value.str (PySem.Str.ofString "/claim/cut.py") 289, PySem.Value.int 97 0, PySem.Value.int 4 0, PySem.Value.int 0 0, PySem.Value.int 1 0, PySem.Value.int 3 0, PySem.Value.ref 68, PySem.Value.bool true, PySem.Value.int 181 0, PySem.Value.ref 69, PySem.Value.none, PySem.Value.ref 70, PySem.Value.ref 71, PySem.Value.ref 72, PySem.Value.int 295 0, PySem.Value.int 97 0, PySem.Value.str (PySem.Str.ofString "/claim/cut.py") 296] }),
    (74, { cls := PySem.Value.type "function", data := PySem.Data.func { name := PySem.Str.ofString "insort_left", qualname := PySem.Str.ofString "insort_left", params := fArgs (fAt 10), body := PySem.FuncBody.stmts (fBody (fAt 10)), scope := fScope (fAt 10), globals := 3, closure := [], defaults := PySem.Value.ref 66, kwdefaults := PySem.Value.ref 67, pyModule := PySem.Value.str (PySem.Str.ofString "cpy313.bisect") 269, code := PySem.Value.ref 73 } }),
    (75, { cls := PySem.Value.type "tuple", data := PySem.Data.seq #[PySem.Value.int 0 298, PySem.Value.none] }),
    (76, { cls := PySem.Value.type "dict", data := PySem.Data.dict #[{ hash := PySem.PyData.keyHash P (PySem.Str.ofString "key"), key := PySem.Value.str (PySem.Str.ofString "key") 299, val := PySem.Value.none }] 1 }),
    (82, { cls := PySem.Value.type "code", data := PySem.Data.fields #[PySem.Value.str (PySem.Str.ofString "bisect_left") 300, PySem.Value.str (PySem.Str.ofString "bisect_left") 301, PySem.Value.str (PySem.Str.ofString "/claim/cut.py") 302, PySem.Value.int 103 0, PySem.Value.int 4 0, PySem.Value.int 0 0, PySem.Value.int 1 0, PySem.Value.int 3 0, PySem.Value.ref 77, PySem.Value.bool true, PySem.Value.int 181 0, PySem.Value.ref 78, PySem.Value.none, PySem.Value.ref 79, PySem.Value.ref 80, PySem.Value.ref 81, PySem.Value.int 309 0, PySem.Value.int 103 0, PySem.Value.str (PySem.Str.ofString "/claim/cut.py") 310] }),
    (83, { cls := PySem.Value.type "function", data := PySem.Data.func { name := PySem.Str.ofString "bisect_left", qualname := PySem.Str.ofString "bisect_left", params := fArgs (fAt 11), body := PySem.FuncBody.stmts (fBody (fAt 11)), scope := fScope (fAt 11), globals := 3, closure := [], defaults := PySem.Value.ref 75, kwdefaults := PySem.Value.ref 76, pyModule := PySem.Value.str (PySem.Str.ofString "cpy313.bisect") 269, code := PySem.Value.ref 82 } }),
    (89, { cls := PySem.Value.type "code", data := PySem.Data.fields #[PySem.Value.str (PySem.Str.ofString "_ellipsis_match") 316, PySem.Value.str (PySem.Str.ofString "_ellipsis_match") 317, PySem.Value.str (PySem.Str.ofString "/claim/cut.py") 318, PySem.Value.int 125 0, PySem.Value.int 2 0, PySem.Value.int 0 0, PySem.Value.int 0 0, PySem.Value.int 3 0, PySem.Value.ref 84, PySem.Value.bool true, PySem.Value.int 181 0, PySem.Value.ref 85, PySem.Value.none, PySem.Value.ref 86, PySem.Value.ref 87, PySem.Value.ref 88, PySem.Value.int 325 0, PySem.Value.int 125 0, PySem.Value.str (PySem.Str.ofString "/claim/cut.py") 326] }),
    (90, { cls := PySem.Value.type "function", data := PySem.Data.func { name := PySem.Str.ofString "_ellipsis_match", qualname := PySem.Str.ofString "_ellipsis_match", params := fArgs (fAt 14), body := PySem.FuncBody.stmts (fBody (fAt 14)), scope := fScope (fAt 14), globals := 3, closure := [], defaults := PySem.Value.none, kwdefaults := PySem.Value.none, pyModule := PySem.Value.str (PySem.Str.ofString "cpy313.doctest") 312, code := PySem.Value.ref 89 } }),
    (96, { cls := PySem.Value.type "code", data := PySem.Data.fields #[PySem.Value.str (PySem.Str.ofString "_substitution_cost") 336, PySem.Value.str (PySem.Str.ofString "_substitution_cost") 337, PySem.Value.str (PySem.Str.ofString "/claim/cut.py") 338, PySem.Value.int 157 0, PySem.Value.int 2 0, PySem.Value.int 0 0, PySem.Value.int 0 0, PySem.Value.int 3 0, PySem.Value.ref 91, PySem.Value.bool true, PySem.Value.int 181 0, PySem.Value.ref 92, PySem.Value.none, PySem.Value.ref 93, PySem.Value.ref 94, PySem.Value.ref 95, PySem.Value.int 341 0, PySem.Value.int 157 0, PySem.Value.str (PySem.Str.ofString "/claim/cut.py") 342] }),
    (97, { cls := PySem.Value.type "function", data := PySem.Data.func { name := PySem.Str.ofString "_substitution_cost", qualname := PySem.Str.ofString "_substitution_cost", params := fArgs (fAt 19), body := PySem.FuncBody.stmts (fBody (fAt 19)), scope := fScope (fAt 19), globals := 3, closure := [], defaults := PySem.Value.none, kwdefaults := PySem.Value.none, pyModule := PySem.Value.str (PySem.Str.ofString "cpy313.traceback") 328, code := PySem.Value.ref 96 } }),
    (103, { cls := PySem.Value.type "code", data := PySem.Data.fields #[PySem.Value.str (PySem.Str.ofString "_levenshtein_distance") 344, PySem.Value.str (PySem.Str.ofString "_levenshtein_distance") 345, PySem.Value.str (PySem.Str.ofString "/claim/cut.py") 346, PySem.Value.int 163 0, PySem.Value.int 3 0, PySem.Value.int 0 0, PySem.Value.int 0 0, PySem.Value.int 3 0, PySem.Value.ref 98, PySem.Value.bool true, PySem.Value.int 181 0, PySem.Value.ref 99, PySem.Value.none, PySem.Value.ref 100, PySem.Value.ref 101, PySem.Value.ref 102, PySem.Value.int 361 0, PySem.Value.int 163 0, PySem.Value.str (PySem.Str.ofString "/claim/cut.py") 362] }),
    (104, { cls := PySem.Value.type "function", data := PySem.Data.func { name := PySem.Str.ofString "_levenshtein_distance", qualname := PySem.Str.ofString "_levenshtein_distance", params := fArgs (fAt 20), body := PySem.FuncBody.stmts (fBody (fAt 20)), scope := fScope (fAt 20), globals := 3, closure := [], defaults := PySem.Value.none, kwdefaults := PySem.Value.none, pyModule := PySem.Value.str (PySem.Str.ofString "cpy313.traceback") 328, code := PySem.Value.ref 103 } }),
    (108, { cls := PySem.Value.type "code", data := PySem.Data.fields #[PySem.Value.str (PySem.Str.ofString "_law_words") 366, PySem.Value.str (PySem.Str.ofString "_law_words") 367, PySem.Value.str (PySem.Str.ofString "/claim/cut.py") 368, PySem.Value.int 202 0, PySem.Value.int 0 0, PySem.Value.int 0 0, PySem.Value.int 0 0, PySem.Value.int 3 0, PySem.Value.ref 105, PySem.Value.bool true, PySem.Value.int 181 0, PySem.Value.ref 106, PySem.Value.none, PySem.Value.none, PySem.Value.none, PySem.Value.ref 107, PySem.Value.int 369 0, PySem.Value.int 202 0, PySem.Value.str (PySem.Str.ofString "/claim/cut.py") 370] }),
    (109, { cls := PySem.Value.type "function", data := PySem.Data.func { name := PySem.Str.ofString "_law_words", qualname := PySem.Str.ofString "_law_words", params := fArgs (fAt 22), body := PySem.FuncBody.stmts (fBody (fAt 22)), scope := fScope (fAt 22), globals := 3, closure := [], defaults := PySem.Value.none, kwdefaults := PySem.Value.none, pyModule := PySem.Value.str (PySem.Str.ofString "law_tx0030_01") 364, code := PySem.Value.ref 108 } }),
    (113, { cls := PySem.Value.type "code", data := PySem.Data.fields #[PySem.Value.str (PySem.Str.ofString "_law_code") 372, PySem.Value.str (PySem.Str.ofString "_law_code") 373, PySem.Value.str (PySem.Str.ofString "/claim/cut.py") 374, PySem.Value.int 207 0, PySem.Value.int 1 0, PySem.Value.int 0 0, PySem.Value.int 0 0, PySem.Value.int 3 0, PySem.Value.ref 110, PySem.Value.bool true, PySem.Value.int 181 0, PySem.Value.ref 111, PySem.Value.none, PySem.Value.none, PySem.Value.none, PySem.Value.ref 112, PySem.Value.int 375 0, PySem.Value.int 207 0, PySem.Value.str (PySem.Str.ofString "/claim/cut.py") 376] }),
    (114, { cls := PySem.Value.type "function", data := PySem.Data.func { name := PySem.Str.ofString "_law_code", qualname := PySem.Str.ofString "_law_code", params := fArgs (fAt 23), body := PySem.FuncBody.stmts (fBody (fAt 23)), scope := fScope (fAt 23), globals := 3, closure := [], defaults := PySem.Value.none, kwdefaults := PySem.Value.none, pyModule := PySem.Value.str (PySem.Str.ofString "law_tx0030_01") 364, code := PySem.Value.ref 113 } }),
    (118, { cls := PySem.Value.type "code", data := PySem.Data.fields #[PySem.Value.str (PySem.Str.ofString "_law_weighed") 378, PySem.Value.str (PySem.Str.ofString "_law_weighed") 379, PySem.Value.str (PySem.Str.ofString "/claim/cut.py") 380, PySem.Value.int 213 0, PySem.Value.int 2 0, PySem.Value.int 0 0, PySem.Value.int 0 0, PySem.Value.int 3 0, PySem.Value.ref 115, PySem.Value.bool true, PySem.Value.int 181 0, PySem.Value.ref 116, PySem.Value.none, PySem.Value.none, PySem.Value.none, PySem.Value.ref 117, PySem.Value.int 381 0, PySem.Value.int 213 0, PySem.Value.str (PySem.Str.ofString "/claim/cut.py") 382] }),
    (119, { cls := PySem.Value.type "function", data := PySem.Data.func { name := PySem.Str.ofString "_law_weighed", qualname := PySem.Str.ofString "_law_weighed", params := fArgs (fAt 24), body := PySem.FuncBody.stmts (fBody (fAt 24)), scope := fScope (fAt 24), globals := 3, closure := [], defaults := PySem.Value.none, kwdefaults := PySem.Value.none, pyModule := PySem.Value.str (PySem.Str.ofString "law_tx0030_01") 364, code := PySem.Value.ref 118 } }),
    (123, { cls := PySem.Value.type "code", data := PySem.Data.fields #[PySem.Value.str (PySem.Str.ofString "law") 384, PySem.Value.str (PySem.Str.ofString "law") 385, PySem.Value.str (PySem.Str.ofString "/claim/cut.py") 386, PySem.Value.int 215 0, PySem.Value.int 1 0, PySem.Value.int 0 0, PySem.Value.int 0 0, PySem.Value.int 3 0, PySem.Value.ref 120, PySem.Value.bool true, PySem.Value.int 181 0, PySem.Value.ref 121, PySem.Value.none, PySem.Value.none, PySem.Value.none, PySem.Value.ref 122, PySem.Value.int 387 0, PySem.Value.int 215 0, PySem.Value.str (PySem.Str.ofString "/claim/cut.py") 388] }),
    (124, { cls := PySem.Value.type "function", data := PySem.Data.func { name := PySem.Str.ofString "law", qualname := PySem.Str.ofString "law", params := fArgs (fAt 25), body := PySem.FuncBody.stmts (fBody (fAt 25)), scope := fScope (fAt 25), globals := 3, closure := [], defaults := PySem.Value.none, kwdefaults := PySem.Value.none, pyModule := PySem.Value.str (PySem.Str.ofString "law_tx0030_01") 364, code := PySem.Value.ref 123 } })]
def pp : PySem.Program := { PySem.Challenge.pw_tx0030_01 with main := { PySem.Challenge.pw_tx0030_01.main with body := [fAt 0, fAt 1, fAt 2, fAt 3, fAt 4, fAt 5, fAt 6, fAt 7, fAt 8, fAt 9, fAt 10, fAt 11, fAt 12, fAt 13, fAt 14, fAt 15, fAt 16, fAt 17, fAt 18, fAt 19, fAt 20, fAt 21, fAt 22, fAt 23, fAt 24, fAt 25] } }
def rr : PySem.W.OpenLaw := { prog := pp, name := PySem.Challenge.rw_tx0030_01.name, about := PySem.Challenge.rw_tx0030_01.about, foot := 4, most := some 63, bound := none, writes := false }
theorem rr_eq : PySem.Challenge.rw_tx0030_01 = rr := by kernel_rfl
-- part L1
open PySem PySem.W PyProof.Rows PySem.Calls
set_option maxHeartbeats 1000000
inductive IV where
  | none
  | bool (b : Bool)
  | int (i : Int)
  | str (s : Str)
inductive MV where
  | im (v : IV)
  | list (l : List IV)
  | tup (l : List IV)
  | fn (a : Addr)
noncomputable abbrev MV.int (i : Int) : MV := .im (.int i)
noncomputable abbrev MV.bool (b : Bool) : MV := .im (.bool b)
noncomputable abbrev MV.str (s : Str) : MV := .im (.str s)
noncomputable abbrev MV.none : MV := .im .none
noncomputable def cap : Nat := 1024
noncomputable def toIV : Value → Option IV
  | .none => some .none
  | .bool b => some (.bool b)
  | .int i _ => some (.int i)
  | .str s _ => some (.str s)
  | _ => Option.none
noncomputable def smallIV : IV → Prop
  | .str s => s.length ≤ cap
  | _ => True
noncomputable def IRel (a : IV) (x : Value) : Prop := toIV x = some a ∧ smallIV a
noncomputable def IRels : List IV → List Value → Prop
  | [], [] => True
  | a :: as, x :: xs => IRel a x ∧ IRels as xs
  | _, _ => False
theorem IRel.int {i : Int} {x : Value} : IRel (.int i) x → ∃ t, x = .int i t := by
  rintro ⟨h, _⟩
  cases x <;> simp [toIV] at h
  rename_i t; exact ⟨t, by rw [h]⟩
theorem IRel.bool {b : Bool} {x : Value} : IRel (.bool b) x → x = .bool b := by
  rintro ⟨h, _⟩
  cases x <;> simp [toIV] at h
  rw [h]
theorem IRel.none {x : Value} : IRel .none x → x = .none := by
  rintro ⟨h, _⟩
  cases x <;> simp [toIV] at h
  rfl
theorem IRel.str {s : Str} {x : Value} : IRel (.str s) x → ∃ t, x = .str s t := by
  rintro ⟨h, _⟩
  cases x <;> simp [toIV] at h
  rename_i t; exact ⟨t, by rw [h]⟩
theorem IRel.strLen {s : Str} {x : Value} : IRel (.str s) x → s.length ≤ cap := fun h => h.2
theorem IRel.ofInt (i : Int) (t : Tok) : IRel (.int i) (.int i t) := ⟨rfl, trivial⟩
theorem IRel.ofBool (b : Bool) : IRel (.bool b) (.bool b) := ⟨rfl, trivial⟩
theorem IRel.ofNone : IRel .none .none := ⟨rfl, trivial⟩
theorem IRel.ofStr (s : Str) (t : Tok) (h : s.length ≤ cap) : IRel (.str s) (.str s t) := ⟨rfl, h⟩
theorem IRels.length : ∀ {as : List IV} {xs : List Value}, IRels as xs → as.length = xs.length
  | [], [], _ => rfl
  | _ :: _, _ :: _, h => by simp [IRels.length h.2]
  | [], _ :: _, h => h.elim
  | _ :: _, [], h => h.elim
theorem IRels.append : ∀ {as bs : List IV} {xs ys : List Value}, IRels as xs → IRels bs ys → IRels (as ++ bs) (xs ++ ys)
  | [], _, [], _, _, h => h
  | _ :: _, _, _ :: _, _, h, h' => ⟨h.1, IRels.append h.2 h'⟩
  | [], _, _ :: _, _, h, _ => h.elim
  | _ :: _, _, [], _, h, _ => h.elim
theorem IRels.get : ∀ {as : List IV} {xs : List Value}, IRels as xs → ∀ (i : Nat) (a : IV), as[i]? = some a → ∃ x, xs[i]? = some x ∧ IRel a x
  | a :: as, x :: xs, h, 0, b, e => ⟨x, rfl, by simp at e; exact e ▸ h.1⟩
  | a :: as, x :: xs, h, i + 1, b, e => by
    obtain ⟨y, hy, r⟩ := IRels.get h.2 i b (by simpa using e)
    exact ⟨y, by simpa using hy, r⟩
  | [], [], _, i, b, e => by simp at e
  | [], _ :: _, h, _, _, _ => h.elim
  | _ :: _, [], h, _, _, _ => h.elim
theorem IRels.get' : ∀ {as : List IV} {xs : List Value}, IRels as xs → ∀ (i : Nat) (x : Value), xs[i]? = some x → ∃ a, as[i]? = some a ∧ IRel a x
  | a :: as, x :: xs, h, 0, b, e => ⟨a, rfl, by simp at e; exact e ▸ h.1⟩
  | a :: as, x :: xs, h, i + 1, b, e => by
    obtain ⟨y, hy, r⟩ := IRels.get' h.2 i b (by simpa using e)
    exact ⟨y, by simpa using hy, r⟩
  | [], [], _, i, b, e => by simp at e
  | [], _ :: _, h, _, _, _ => h.elim
  | _ :: _, [], h, _, _, _ => h.elim
theorem IRels.set : ∀ {as : List IV} {xs : List Value}, IRels as xs → ∀ (i : Nat) (a : IV) (x : Value), IRel a x → IRels (as.set i a) (xs.set i x)
  | [], [], _, _, _, _, _ => by simp [IRels]
  | _ :: _, _ :: _, h, 0, _, _, r => ⟨r, h.2⟩
  | _ :: _, _ :: _, h, i + 1, a, x, r => ⟨h.1, IRels.set h.2 i a x r⟩
  | [], _ :: _, h, _, _, _, _ => h.elim
  | _ :: _, [], h, _, _, _, _ => h.elim
theorem IRels.take : ∀ {as : List IV} {xs : List Value}, IRels as xs → ∀ (i : Nat), IRels (as.take i) (xs.take i)
  | [], [], _, _ => by simp [IRels]
  | _ :: _, _ :: _, _, 0 => by simp [IRels]
  | _ :: _, _ :: _, h, i + 1 => ⟨h.1, IRels.take h.2 i⟩
  | [], _ :: _, h, _ => h.elim
  | _ :: _, [], h, _ => h.elim
theorem IRels.drop : ∀ {as : List IV} {xs : List Value}, IRels as xs → ∀ (i : Nat), IRels (as.drop i) (xs.drop i)
  | [], [], _, _ => by simp [IRels]
  | _ :: _, _ :: _, h, 0 => h
  | _ :: _, _ :: _, h, i + 1 => by simpa using IRels.drop h.2 i
  | [], _ :: _, h, _ => h.elim
  | _ :: _, [], h, _ => h.elim
theorem IRels.reverse : ∀ {as : List IV} {xs : List Value}, IRels as xs → IRels as.reverse xs.reverse
  | [], [], _ => by simp [IRels]
  | _ :: _, _ :: _, h => by
    rw [List.reverse_cons, List.reverse_cons]
    exact IRels.append (IRels.reverse h.2) ⟨h.1, trivial⟩
  | [], _ :: _, h => h.elim
  | _ :: _, [], h => h.elim
/-- a value, at a heap; its own object lies off X -/
noncomputable def MRel (X : List Addr) (h : Heap) : MV → Value → Prop
  | .im a, x => IRel a x
  | .list l, x => ∃ a vs, x = .ref a ∧ a ∉ X ∧ h.PlainList a (List.toArray vs) ∧ IRels l vs ∧ l.length ≤ cap
  | .tup l, x => ∃ a vs, x = .ref a ∧ a ∉ X ∧ h.IsTuple a (List.toArray vs) ∧ IRels l vs ∧ l.length ≤ cap
  | .fn a, x => x = .ref a
noncomputable def MRels (X : List Addr) (h : Heap) : List MV → List Value → Prop
  | [], [] => True
  | a :: as, x :: xs => MRel X h a x ∧ MRels X h as xs
  | _, _ => False
theorem MRel.ofInt {X : List Addr} {h : Heap} (i : Int) (t : Tok) : MRel X h (.int i) (.int i t) := IRel.ofInt i t
theorem MRel.ofBool {X : List Addr} {h : Heap} (b : Bool) : MRel X h (.bool b) (.bool b) := IRel.ofBool b
theorem MRel.ofNone {X : List Addr} {h : Heap} : MRel X h .none .none := IRel.ofNone
theorem MRel.ofStr {X : List Addr} {h : Heap} (x : Str) (t : Tok) (hx : x.length ≤ cap) : MRel X h (.str x) (.str x t) := IRel.ofStr x t hx
/-- the two tables of code that a nested def fills -/
noncomputable abbrev tabs : Bool → List Addr
  | false => []
  | true => [30, 37]
noncomputable def GL : List (String × Value) := [("_DIV_LIMIT", .int 4000 189), ("_div2n1n", .ref 21), ("_int2digits", .ref 35), ("_digits2int", .ref 42), ("_divmod_pos", .ref 49), ("int_divmod", .ref 56),
  ("bisect_right", .ref 65), ("insort_left", .ref 74), ("bisect_left", .ref 83), ("ELLIPSIS_MARKER", .str (Str.ofString "...") 314), ("_ellipsis_match", .ref 90), ("_MAX_STRING_SIZE", .int 40 330),
  ("_MOVE_COST", .int 2 332), ("_CASE_COST", .int 1 334), ("_substitution_cost", .ref 97), ("_levenshtein_distance", .ref 104), ("_law_words", .ref 109), ("_law_code", .ref 114), ("_law_weighed", .ref 119)]
/-- a code object, its qualified name -/
noncomputable def CodeOf (h : Heap) (v : Value) (q : Str) : Prop := ∃ c o vs t, v = .ref c ∧ h.get? c = some o ∧ o.cls = .type "code" ∧ o.data = .fields vs ∧ vs[1]? = some (.str q t)
noncomputable def NotCode (h : Heap) (a : Addr) : Prop := ∀ o, h.get? a = some o → o.cls ≠ .type "code" ∨ ∀ vs, o.data ≠ .fields vs
theorem CodeOf.keeps {h h' : Heap} {v : Value} {q : Str} (x : CodeOf h v q) (k : ∀ b o, h.get? b = some o → h'.get? b = some o) : CodeOf h' v q := let ⟨c, o, vs, t, e, e1, r⟩ := x; ⟨c, o, vs, t, e, k _ _ e1, r⟩
theorem CodeOf.but {h h' : Heap} {a : Addr} {v : Value} {q : Str} (x : CodeOf h v q) (nc : NotCode h a) (k : ∀ b o, b ≠ a → h.get? b = some o → h'.get? b = some o) : CodeOf h' v q := by
  obtain ⟨c, o, vs, t, e, e1, e2, e3, r⟩ := x
  refine ⟨c, o, vs, t, e, k _ _ (fun z => ?_) e1, e2, e3, r⟩
  rcases nc o (z ▸ e1) with n | n
  · exact n e2
  · exact n _ e3
structure TabOk (h : Heap) (c P : Addr) (q : Str) (pos : Pos) : Prop where
  hd : CodeHd h c P
  ps : ∃ ps, h.get? P = some (tabObj ps) ∧ TriplesOk ps.toList ∧ ∀ cv, codeAmong pos ps.toList = some cv → CodeOf h cv q
noncomputable abbrev q30 : Str := Str.ofString "_int2digits.<locals>.inner"
noncomputable abbrev q37 : Str := Str.ofString "_digits2int.<locals>.inner"
noncomputable abbrev p30 : Pos := ⟨32, 4, 41, 28⟩
noncomputable abbrev p37 : Pos := ⟨47, 4, 52, 55⟩
structure Base (w : World) (mg mb : Str → Option Value) (h : Heap) : Prop where
  K : (kHp w.params).In h
  g : h.Ns mainGlobals mg
  b : h.Ns builtinsNs mb
  lim : h.NoLimit
  bi : ∀ x : Str, x ≠ Str.ofString "__name__" → mb x = bootBuiltins x
  t30 : TabOk h 34 30 q30 p30
  t37 : TabOk h 41 37 q37 p37
  bm : ∃ bm ob, mg "__builtins__" = some (.ref bm) ∧ bm ≠ builtinsNs ∧ h.get? bm = some ob ∧ ob.cls = .type "module" ∧ ob.dict = some builtinsNs ∧ ob.data = .plain
-- part L2
open PySem PySem.W PyProof.Rows PySem.Calls
set_option maxHeartbeats 1000000
noncomputable abbrev PG : Program := Challenge.pw_tx0030_01
section
variable (w : World) (mg mb : Str → Option Value)
structure Go (t : Bool) (s s' : Shared) : Prop where
  ext : ∀ b o, b ∉ tabs t → s.heap.get? b = some o → s'.heap.get? b = some o
  base : Base w mg mb s'.heap
  gens : s'.gens = s.gens
  drawn : s'.drawn = s.drawn
  os : s'.os = s.os
end
section
variable {w : World} {mg mb : Str → Option Value} {t : Bool}
theorem Go.refl {s : Shared} (b : Base w mg mb s.heap) : Go w mg mb t s s := ⟨fun _ _ _ e => e, b, rfl, rfl, rfl⟩
theorem Go.trans {s s' s'' : Shared} (x : Go w mg mb t s s') (y : Go w mg mb t s' s'') : Go w mg mb t s s'' :=
  ⟨fun b o hb e => y.ext b o hb (x.ext b o hb e), y.base, y.gens.trans x.gens, y.drawn.trans x.drawn, y.os.trans x.os⟩
theorem tabs_le : ∀ {t : Bool} {b : Addr}, b ∈ tabs t → b = 30 ∨ b = 37
  | false, _, h => by cases h
  | true, b, h => by simpa [tabs] using h
theorem Base.tab_obj {h : Heap} (B : Base w mg mb h) {b : Addr} (hb : b = 30 ∨ b = 37) : ∃ ps, h.get? b = some (tabObj ps) := by
  rcases hb with rfl | rfl
  · obtain ⟨ps, e, _⟩ := B.t30.ps; exact ⟨ps, e⟩
  · obtain ⟨ps, e, _⟩ := B.t37.ps; exact ⟨ps, e⟩
theorem Base.not_tab {h : Heap} (B : Base w mg mb h) {b : Addr} {o : Obj} (e : h.get? b = some o) (hc : o.cls ≠ .none) (t : Bool) : b ∉ tabs t := fun hb => by
  obtain ⟨ps, e'⟩ := B.tab_obj (tabs_le hb)
  rw [e] at e'; cases e'; exact hc rfl
theorem Base.not_tab' {h : Heap} (B : Base w mg mb h) {b : Addr} {o : Obj} (e : h.get? b = some o) (hc : ∀ vs, o.data ≠ .fields vs) (t : Bool) : b ∉ tabs t := fun hb => by
  obtain ⟨ps, e'⟩ := B.tab_obj (tabs_le hb)
  rw [e] at e'; cases e'; exact hc _ rfl
theorem Go.get {s s' : Shared} (x : Go w mg mb t s s') (B : Base w mg mb s.heap) {b : Addr} {o : Obj} (e : s.heap.get? b = some o) (hc : o.cls ≠ .none) : s'.heap.get? b = some o :=
  x.ext b o (B.not_tab e hc t) e
theorem Go.get' {s s' : Shared} (x : Go w mg mb t s s') (B : Base w mg mb s.heap) {b : Addr} {o : Obj} (e : s.heap.get? b = some o) (hc : ∀ vs, o.data ≠ .fields vs) : s'.heap.get? b = some o :=
  x.ext b o (B.not_tab' e hc t) e
theorem Go.ns {s s' : Shared} (x : Go w mg mb t s s') (B : Base w mg mb s.heap) {a : Addr} {m : Str → Option Value} (n : s.heap.Ns a m) : s'.heap.Ns a m := by
  obtain ⟨o, es, ep, e, hd, r⟩ := n
  exact ⟨o, es, ep, x.get' B e (by rw [hd]; intro vs h; cases h), hd, r⟩
theorem Go.cell {s s' : Shared} (x : Go w mg mb t s s') (B : Base w mg mb s.heap) {a : Addr} {v : Option Value} (n : s.heap.IsCell a v) : s'.heap.IsCell a v := by
  obtain ⟨o, e, hd⟩ := n
  exact ⟨o, x.get' B e (by rw [hd]; intro vs h; cases h), hd⟩
theorem Go.list {s s' : Shared} (x : Go w mg mb t s s') (B : Base w mg mb s.heap) {a : Addr} {v : Array Value} (n : s.heap.IsList a v) : s'.heap.IsList a v := by
  obtain ⟨o, e, hc, hd⟩ := n
  exact ⟨o, x.get B e (by rw [hc]; intro h; cases h), hc, hd⟩
theorem Go.plain {s s' : Shared} (x : Go w mg mb t s s') (B : Base w mg mb s.heap) {a : Addr} {v : Array Value} (n : s.heap.PlainList a v) : s'.heap.PlainList a v := by
  obtain ⟨k, e⟩ := n
  exact ⟨k, x.get B e (by intro h; cases h)⟩
theorem Go.tuple {s s' : Shared} (x : Go w mg mb t s s') (B : Base w mg mb s.heap) {a : Addr} {v : Array Value} (n : s.heap.IsTuple a v) : s'.heap.IsTuple a v := by
  obtain ⟨o, e, hc, hd⟩ := n
  exact ⟨o, x.get B e (by rw [hc]; intro h; cases h), hc, hd⟩
theorem Go.mrel {s s' : Shared} (x : Go w mg mb t s s') (B : Base w mg mb s.heap) {X : List Addr} {v : MV} {y : Value} (r : MRel X s.heap v y) : MRel X s'.heap v y := by
  cases v with
  | im a => exact r
  | fn a => exact r
  | list l => obtain ⟨a, vs, e, hx, hl, r⟩ := r; exact ⟨a, vs, e, hx, x.plain B hl, r⟩
  | tup l => obtain ⟨a, vs, e, hx, hl, r⟩ := r; exact ⟨a, vs, e, hx, x.tuple B hl, r⟩
theorem Go.mrels {s s' : Shared} (x : Go w mg mb t s s') (B : Base w mg mb s.heap) {X : List Addr} : ∀ {v : List MV} {y : List Value}, MRels X s.heap v y → MRels X s'.heap v y
  | [], [], _ => trivial
  | _ :: _, _ :: _, r => ⟨x.mrel B r.1, x.mrels B r.2⟩
  | [], _ :: _, r => r.elim
  | _ :: _, [], r => r.elim
/-- what keeps every object keeps the base -/
theorem Base.keeps {h h' : Heap} (B : Base w mg mb h) (k : ∀ b o, h.get? b = some o → h'.get? b = some o) : Base w mg mb h' where
  K := fun a o e => k _ _ (B.K a o e)
  g := B.g.keeps k
  b := B.b.keeps k
  lim := B.lim.keeps k
  bi := B.bi
  t30 := ⟨B.t30.hd.keeps k, let ⟨ps, e, r, u⟩ := B.t30.ps; ⟨ps, k _ _ e, r, fun cv hc => (u cv hc).keeps k⟩⟩
  t37 := ⟨B.t37.hd.keeps k, let ⟨ps, e, r, u⟩ := B.t37.ps; ⟨ps, k _ _ e, r, fun cv hc => (u cv hc).keeps k⟩⟩
  bm := let ⟨bm, ob, e1, e2, e3, r⟩ := B.bm; ⟨bm, ob, e1, e2, k _ _ e3, r⟩
theorem Go.keep {s : Shared} (B : Base w mg mb s.heap) {h' : Heap} {tk : Nat} (k : ∀ b o, s.heap.get? b = some o → h'.get? b = some o) : Go w mg mb t s { s with heap := h', toks := tk } :=
  ⟨fun b o _ e => k b o e, B.keeps k, rfl, rfl, rfl⟩
theorem Go.tok {s : Shared} (B : Base w mg mb s.heap) {tk : Nat} : Go w mg mb t s { s with toks := tk } := Go.keep B fun _ _ e => e
theorem Go.push {s : Shared} (B : Base w mg mb s.heap) {tk : Nat} (o : Obj) : Go w mg mb t s { s with heap := s.heap.push o, toks := tk } :=
  Go.keep B fun _ _ e => Heap.get?_push_of_some o e
theorem Go.weak {s s' : Shared} (x : Go w mg mb false s s') : Go w mg mb t s s' :=
  ⟨fun b o _ e => x.ext b o (by simp [tabs]) e, x.base, x.gens, x.drawn, x.os⟩
end
noncomputable abbrev Ent := Str × NameKind × Option MV
inductive Has : List Ent → Str → MV → Prop
  | here {x k v σ} : Has ((x, k, some v) :: σ) x v
  | there {p σ x v} : Has σ x v → Has (p :: σ) x v
inductive SetV : List Ent → Str → Option MV → List Ent → Prop
  | here {x k o v σ} : SetV ((x, k, o) :: σ) x v ((x, k, v) :: σ)
  | there {p σ x v σ'} : SetV σ x v σ' → SetV (p :: σ) x v (p :: σ')
noncomputable def HoldsAt (env : Env) (h : Heap) (x : Str) (y : Value) : Prop :=
  (env.kindOf x = some .local ∧ ∃ m, h.Ns env.locals m ∧ m x = some y) ∨ ((env.kindOf x = some .cell ∨ env.kindOf x = some .free) ∧ ∃ c, env.cells.lookup x = some c ∧ h.IsCell c (some y))
noncomputable def VarIs (env : Env) (X : List Addr) (h : Heap) (x : Str) (v : MV) : Prop := ∃ y, MRel X h v y ∧ HoldsAt env h x y
/-- a predicate of states that the base holds in and that lives on -/
structure SP (w : World) (mg mb : Str → Option Value) (t : Bool) where
  env : Env
  σ : List Ent
  p : Shared → Prop
  fn : env.scope.kind = .function
  glob : env.globals = mainGlobals
  blt : env.builtins = builtinsNs
  base : ∀ {s}, p s → Base w mg mb s.heap
  go : ∀ {s s'}, p s → Go w mg mb t s s' → p s'
  rd : ∀ {s x v}, p s → Has σ x v → VarIs env [] s.heap x v
section
variable {w : World} {mg mb : Str → Option Value} {t : Bool}
variable (A : Around) (P : SP w mg mb t)
structure EvT (e : PySem.Expr) (v : MV) : Prop where
  run : ∀ (s : Shared) (Q : Value → Shared → Prop) (E : Value → Shared → Prop), P.p s →
  (∀ x s', Go w mg mb t s s' → MRel [] s'.heap v x → Q x s') → wpAny (model PG w) A (eval e P.env) Q E s
structure EvC (e : PySem.Expr) (b : Bool) : Prop where
  run : ∀ (s : Shared) (Q : Bool → Shared → Prop) (E : Value → Shared → Prop), P.p s →
  (∀ s', Go w mg mb t s s' → Q b s') → wpAny (model PG w) A (PySem.isTrue e P.env (eval e P.env)) Q E s
structure EvL (es : List PySem.Expr) (vs : List MV) : Prop where
  run : ∀ (pos : Pos) (s : Shared) (Q : List Value → Shared → Prop) (E : Value → Shared → Prop), P.p s →
  (∀ xs s', Go w mg mb t s s' → MRels [] s'.heap vs xs → Q xs s') → wpAny (model PG w) A (spliced (backTo pos (starEach es P.env))) Q E s
end
section
variable {w : World} {mg mb : Str → Option Value} {t : Bool} {A : Around} {P : SP w mg mb t}
theorem EvT.int {i : Int} {k : Nat} {pos : Pos} : EvT A P (.Constant (.int i) k pos) (.int i) := ⟨fun s Q E hs h =>
  wpAny_Constant_int (h _ _ (Go.tok (P.base hs)) (IRel.ofInt i _))⟩
theorem EvT.none {k : Nat} {pos : Pos} : EvT A P (.Constant .none k pos) .none := ⟨fun s Q E hs h =>
  wpAny_Constant_none (h _ _ (Go.refl (P.base hs)) IRel.ofNone)⟩
theorem EvT.bool {b : Bool} {k : Nat} {pos : Pos} : EvT A P (.Constant (.bool b) k pos) (.bool b) := ⟨fun s Q E hs h =>
  wpAny_Constant_bool (h _ _ (Go.refl (P.base hs)) (IRel.ofBool b))⟩
theorem EvT.str {x : Str} {k : Nat} {pos : Pos} (hx : x.length ≤ cap) : EvT A P (.Constant (.str x) k pos) (.str x) := ⟨fun s Q E hs h =>
  wpAny_Constant_str (h _ _ (Go.tok (P.base hs)) (IRel.ofStr x _ hx))⟩
/-- what a binary operation of two values gives -/
structure BinV (A : Around) (op : PySem.Operator) (a b c : MV) : Prop where
  run : ∀ (w : World) (mg mb : Str → Option Value) (s : Shared) (x y : Value) (Q : Value → Shared → Prop) (E : Value → Shared → Prop), Base w mg mb s.heap → MRel [] s.heap a x → MRel [] s.heap b y →
  (∀ z s', Go w mg mb false s s' → MRel [] s'.heap c z → Q z s') → wpAny (model PG w) A (binaryOp op x y) Q E s
theorem EvT.bin {l r : PySem.Expr} {op : PySem.Operator} {pos : Pos} {a b c : MV} (hl : EvT A P l a) (hr : EvT A P r b) (ho : BinV A op a b c) : EvT A P (.BinOp l op r pos) c := ⟨fun s Q E hs h =>
  wpAny_BinOp (hl.run s _ _ hs fun x s₁ g₁ r₁ => hr.run s₁ _ _ (P.go hs g₁) fun y s₂ g₂ r₂ =>
    ho.run w mg mb s₂ x y _ _ g₂.base (g₂.mrel g₁.base r₁) r₂ fun z s₃ g₃ r₃ => h z s₃ (g₁.trans (g₂.trans g₃.weak)) r₃)⟩
structure CmpV (A : Around) (op : CmpOp) (a b : MV) (c : Bool) : Prop where
  run : ∀ (w : World) (mg mb : Str → Option Value) (s : Shared) (x y : Value) (Q : Value → Shared → Prop) (E : Value → Shared → Prop), Base w mg mb s.heap → MRel [] s.heap a x → MRel [] s.heap b y →
  (∀ s', Go w mg mb false s s' → Q (.bool c) s') → wpAny (model PG w) A (compareOp op x y) Q E s
theorem EvC.cmp {l r : PySem.Expr} {op : CmpOp} {pos : Pos} {a b : MV} {c : Bool} (hl : EvT A P l a) (hr : EvT A P r b) (ho : CmpV A op a b c) (hm : behindInMarks op r = false := by with_unfolding_all rfl) : EvC A P (.Compare l [op] [r] pos) c := ⟨fun s Q E hs h =>
  wpAny_isTrue_Compare1 (hl.run s _ _ hs fun x s₁ g₁ r₁ => hr.run s₁ _ _ (P.go hs g₁) fun y s₂ g₂ r₂ =>
    ho.run w mg mb s₂ x y _ _ g₂.base (g₂.mrel g₁.base r₁) r₂ fun s₃ g₃ => wpAny_truthy_bool (h s₃ (g₁.trans (g₂.trans g₃.weak)))) hm⟩
theorem EvT.cmp {l r : PySem.Expr} {op : CmpOp} {pos : Pos} {a b : MV} {c : Bool} (hl : EvT A P l a) (hr : EvT A P r b) (ho : CmpV A op a b c) (hm : behindInMarks op r = false := by with_unfolding_all rfl) : EvT A P (.Compare l [op] [r] pos) (.bool c) := ⟨fun s Q E hs h =>
  wpAny_Compare1 (hl.run s _ _ hs fun x s₁ g₁ r₁ => hr.run s₁ _ _ (P.go hs g₁) fun y s₂ g₂ r₂ =>
    ho.run w mg mb s₂ x y _ _ g₂.base (g₂.mrel g₁.base r₁) r₂ fun s₃ g₃ => h _ s₃ (g₁.trans (g₂.trans g₃.weak)) (IRel.ofBool c)) hm⟩
structure TruV (A : Around) (a : MV) (c : Bool) : Prop where
  run : ∀ (w : World) (mg mb : Str → Option Value) (s : Shared) (x : Value) (Q : Bool → Shared → Prop) (E : Value → Shared → Prop), Base w mg mb s.heap → MRel [] s.heap a x →
  (∀ s', Go w mg mb false s s' → Q c s') → wpAny (model PG w) A (truthy x) Q E s
theorem EvC.plain {e : PySem.Expr} {a : MV} {c : Bool} (hl : EvT A P e a) (ht : TruV A a c) (he : PySem.isTrue e P.env (eval e P.env) = (do let v ← eval e P.env; standAt e.pos; holding [v] (truthy v)) := by rfl) : EvC A P e c := ⟨fun s Q E hs h =>
  wpAny_isTrue_value (hl.run s _ _ hs fun x s₁ g₁ r₁ => ht.run w mg mb s₁ x _ _ g₁.base r₁ fun s₂ g₂ => h s₂ (g₁.trans g₂.weak)) he⟩
theorem EvC.not {e : PySem.Expr} {pos : Pos} {c : Bool} (hl : EvC A P e c) : EvC A P (.UnaryOp .Not e pos) (!c) := ⟨fun s Q E hs h =>
  wpAny_isTrue_Not (hl.run s _ _ hs h)⟩
theorem EvC.and_nil {pos : Pos} : EvC A P (.BoolOp .And [] pos) true := ⟨fun s Q E hs h =>
  wpAny_isTrue_BoolOp (wpAny_allTrue_And_nil (h _ (Go.refl (P.base hs))))⟩
structure EvA (A : Around) (P : SP w mg mb t) (op : BoolOp) (es : List PySem.Expr) (b : Bool) : Prop where
  run : ∀ (s : Shared) (Q : Bool → Shared → Prop) (E : Value → Shared → Prop), P.p s →
  (∀ s', Go w mg mb t s s' → Q b s') → wpAny (model PG w) A (allTrue op es P.env) Q E s
theorem EvC.boolop {op : BoolOp} {es : List PySem.Expr} {pos : Pos} {b : Bool} (h : EvA A P op es b) : EvC A P (.BoolOp op es pos) b := ⟨fun s Q E hs hq => wpAny_isTrue_BoolOp (h.run s Q E hs hq)⟩
theorem EvA.and_nil : EvA A P .And [] true := ⟨fun s Q E hs h => wpAny_allTrue_And_nil (h _ (Go.refl (P.base hs)))⟩
theorem EvA.or_nil : EvA A P .Or [] false := ⟨fun s Q E hs h => wpAny_allTrue_Or_nil (h _ (Go.refl (P.base hs)))⟩
theorem EvA.and_cons {e : PySem.Expr} {es : List PySem.Expr} {a b : Bool} (he : EvC A P e a) (hr : a = true → EvA A P .And es b) : EvA A P .And (e :: es) (a && b) := ⟨fun s Q E hs h =>
  wpAny_allTrue_And_cons (he.run s _ _ hs fun s₁ g₁ => by
    cases a with
    | true => exact (hr rfl).run s₁ _ _ (P.go hs g₁) fun s₂ g₂ => h s₂ (g₁.trans g₂)
    | false => exact h s₁ g₁)⟩
theorem EvA.or_cons {e : PySem.Expr} {es : List PySem.Expr} {a b : Bool} (he : EvC A P e a) (hr : a = false → EvA A P .Or es b) : EvA A P .Or (e :: es) (a || b) := ⟨fun s Q E hs h =>
  wpAny_allTrue_Or_cons (he.run s _ _ hs fun s₁ g₁ => by
    cases a with
    | false => exact (hr rfl).run s₁ _ _ (P.go hs g₁) fun s₂ g₂ => h s₂ (g₁.trans g₂)
    | true => exact h s₁ g₁)⟩
theorem EvT.ifexp {test body orelse : PySem.Expr} {pos : Pos} {c : Bool} {v : MV} (ht : EvC A P test c) (h1 : c = true → EvT A P body v) (h2 : c = false → EvT A P orelse v) : EvT A P (.IfExp test body orelse pos) v := ⟨fun s Q E hs h =>
  wpAny_IfExp (ht.run s _ _ hs fun s₁ g₁ => by
    cases c with
    | true => exact (h1 rfl).run s₁ _ _ (P.go hs g₁) fun x s₂ g₂ r => h x s₂ (g₁.trans g₂) r
    | false => exact (h2 rfl).run s₁ _ _ (P.go hs g₁) fun x s₂ g₂ r => h x s₂ (g₁.trans g₂) r)⟩
theorem EvT.or2 {x y : PySem.Expr} {pos : Pos} {a v : MV} {c : Bool} (hx : EvT A P x a) (ht : TruV A a c) (h1 : c = true → v = a) (h2 : c = false → EvT A P y v) : EvT A P (.BoolOp .Or [x, y] pos) v := ⟨fun s Q E hs h =>
  wpAny_Or2 (hx.run s _ _ hs fun u s₁ g₁ r₁ => ht.run w mg mb s₁ u _ _ g₁.base r₁ fun s₂ g₂ => by
    cases c with
    | true => exact h u s₂ (g₁.trans g₂.weak) (h1 rfl ▸ g₂.mrel g₁.base r₁)
    | false => exact (h2 rfl).run s₂ _ _ (P.go (P.go hs g₁) g₂.weak) fun z s₃ g₃ r₃ => h z s₃ (g₁.trans (g₂.weak.trans g₃)) r₃)⟩
structure UnV (A : Around) (op : UnaryOp) (a c : MV) : Prop where
  run : ∀ (w : World) (mg mb : Str → Option Value) (s : Shared) (x : Value) (Q : Value → Shared → Prop) (E : Value → Shared → Prop), Base w mg mb s.heap → MRel [] s.heap a x →
  (∀ z s', Go w mg mb false s s' → MRel [] s'.heap c z → Q z s') → wpAny (model PG w) A (unaryOp op x) Q E s
theorem EvT.un {x : PySem.Expr} {op : UnaryOp} {pos : Pos} {a c : MV} (hx : EvT A P x a) (ho : UnV A op a c) : EvT A P (.UnaryOp op x pos) c := ⟨fun s Q E hs h =>
  wpAny_UnaryOp (hx.run s _ _ hs fun u s₁ g₁ r₁ => ho.run w mg mb s₁ u _ _ g₁.base r₁ fun z s₂ g₂ r₂ => h z s₂ (g₁.trans g₂.weak) r₂)⟩
theorem EvL.nil : EvL A P [] [] := ⟨fun pos s Q E hs h => spliced_none (h _ _ (Go.refl (P.base hs)) trivial)⟩
theorem EvL.cons {e : PySem.Expr} {es : List PySem.Expr} {a : MV} {as : List MV} (he : EvT A P e a) (hr : EvL A P es as) (hst : starEach (e :: es) P.env = (false, eval e P.env) :: starEach es P.env := by rfl) : EvL A P (e :: es) (a :: as) := ⟨fun pos s Q E hs h =>
  spliced_more (he.run s _ _ hs fun x s₁ g₁ r₁ => hr.run pos s₁ _ _ (P.go hs g₁) fun xs s₂ g₂ r₂ => h _ s₂ (g₁.trans g₂) ⟨g₂.mrel g₁.base r₁, r₂⟩) hst⟩
end
-- part L3
open PySem PySem.W PyProof.Rows PySem.Calls
set_option maxHeartbeats 1000000
noncomputable abbrev Mu := Option (Str × Addr × List IV)
noncomputable abbrev Pr := List (Addr × Obj)
noncomputable def muX : Mu → List Addr
  | none => []
  | some (_, a, _) => [a]
noncomputable def muE : Mu → List Ent
  | none => []
  | some (x, _, vs) => [(x, .local, some (.list vs))]
structure EnvStat (env : Env) : Prop where
  fn : env.scope.kind = .function
  glob : env.globals = mainGlobals
  blt : env.builtins = builtinsNs
  apart : env.cells.Pairwise fun x y => x.2 ≠ y.2
structure SigOk (env : Env) (σ : List Ent) : Prop where
  nd : (σ.map (·.1)).Nodup
  kinds : ∀ p ∈ σ, env.kindOf p.1 = some p.2.1 ∧ (p.2.1 = .local ∨ (p.2.1 = .cell ∧ (env.cells.lookup p.1).isSome = true) ∨ p.2.1 = .free)
structure PrOk (X : List Addr) (h : Heap) (p : Addr × Obj) : Prop where
  get : h.get? p.1 = some p.2
  dict : ∀ es n, p.2.data ≠ .dict es n
  cell : ∀ v, p.2.data ≠ .cell v
  cls : p.2.cls ≠ .none
  off : p.1 ∉ X
noncomputable def MuIs (env : Env) (h₀ h : Heap) : Mu → Prop
  | none => True
  | some (x, a, vs) => HoldsAt env h x (.ref a) ∧ (∃ ys, h.PlainList a (List.toArray ys) ∧ IRels vs ys) ∧ vs.length ≤ cap ∧ h₀.get? a = none
structure FS (w : World) (mg mb : Str → Option Value) (t : Bool) (s₀ : Shared) (pr : Pr) (env : Env) (σ : List Ent) (mu : Mu) (s : Shared) : Prop where
  b0 : Base w mg mb s₀.heap
  go : Go w mg mb t s₀ s
  ns : ∃ m, s.heap.Ns env.locals m
  vars : ∀ x v, Has σ x v → VarIs env (muX mu) s.heap x v
  mus : MuIs env s₀.heap s.heap mu
  fresh : s₀.heap.get? env.locals = none
  cells : ∀ x c, env.cells.lookup x = some c → ∃ v, s.heap.IsCell c v
  own : ∀ x c, env.kindOf x = some .cell → env.cells.lookup x = some c → s₀.heap.get? c = none
  prs : ∀ p ∈ pr, PrOk (muX mu) s.heap p
theorem MRel.weak {X : List Addr} {h : Heap} {v : MV} {y : Value} (r : MRel X h v y) : MRel [] h v y := by
  cases v with
  | im a => exact r
  | fn a => exact r
  | list l => obtain ⟨a, vs, e, hx, r⟩ := r; exact ⟨a, vs, e, by simp, r⟩
  | tup l => obtain ⟨a, vs, e, hx, r⟩ := r; exact ⟨a, vs, e, by simp, r⟩
theorem VarIs.weak {env : Env} {X : List Addr} {h : Heap} {x : Str} {v : MV} (r : VarIs env X h x v) : VarIs env [] h x v := let ⟨y, a, b⟩ := r; ⟨y, a.weak, b⟩
section
variable {w : World} {mg mb : Str → Option Value} {t : Bool}
theorem Go.holds {s s' : Shared} (x : Go w mg mb t s s') (B : Base w mg mb s.heap) {env : Env} {n : Str} {y : Value} (h : HoldsAt env s.heap n y) : HoldsAt env s'.heap n y := by
  rcases h with ⟨k, m, n, e⟩ | ⟨k, c, n, e⟩
  · exact .inl ⟨k, m, x.ns B n, e⟩
  · exact .inr ⟨k, c, n, x.cell B e⟩
theorem Go.varIs {s s' : Shared} (x : Go w mg mb t s s') (B : Base w mg mb s.heap) {env : Env} {X : List Addr} {n : Str} {v : MV} (h : VarIs env X s.heap n v) : VarIs env X s'.heap n v :=
  let ⟨y, a, b⟩ := h; ⟨y, x.mrel B a, x.holds B b⟩
theorem Go.prOk {s s' : Shared} (x : Go w mg mb t s s') (B : Base w mg mb s.heap) {X : List Addr} {p : Addr × Obj} (h : PrOk X s.heap p) : PrOk X s'.heap p :=
  ⟨x.get B h.get h.cls, h.dict, h.cell, h.cls, h.off⟩
theorem FS.goes {s₀ : Shared} {pr : Pr} {env : Env} {σ : List Ent} {mu : Mu} {s s' : Shared} (F : FS w mg mb t s₀ pr env σ mu s) (g : Go w mg mb t s s') : FS w mg mb t s₀ pr env σ mu s' where
  b0 := F.b0
  go := F.go.trans g
  ns := let ⟨m, n⟩ := F.ns; ⟨m, g.ns F.go.base n⟩
  vars := fun x v h => g.varIs F.go.base (F.vars x v h)
  mus := by
    have := F.mus
    match mu, this with
    | none, _ => trivial
    | some (x, a, vs), ⟨h1, ⟨ys, h2, h3⟩, h4⟩ => exact ⟨g.holds F.go.base h1, ⟨ys, g.plain F.go.base h2, h3⟩, h4⟩
  fresh := F.fresh
  cells := fun x c h => let ⟨v, e⟩ := F.cells x c h; ⟨v, g.cell F.go.base e⟩
  own := F.own
  prs := fun p hp => g.prOk F.go.base (F.prs p hp)
theorem has_mem {σ : List Ent} {x : Str} {v : MV} (h : Has σ x v) : ∃ k, (x, k, some v) ∈ σ := by
  induction h with
  | here => exact ⟨_, .head _⟩
  | there h ih => exact ih.elim fun k e => ⟨k, .tail _ e⟩
theorem FS.rd {s₀ : Shared} {pr : Pr} {env : Env} {σ : List Ent} {mu : Mu} {s : Shared} (F : FS w mg mb t s₀ pr env σ mu s) {x : Str} {v : MV} (h : Has (muE mu ++ σ) x v) : VarIs env [] s.heap x v := by
  match mu, F, h with
  | none, F, h => exact (F.vars x v h).weak
  | some (y, a, vs), F, h =>
    cases h with
    | here =>
      obtain ⟨h1, ⟨ys, h2, h3⟩, h4, h5⟩ := F.mus
      exact ⟨_, ⟨a, ys, rfl, by simp, h2, h3, h4⟩, h1⟩
    | there h => exact (F.vars x v h).weak
noncomputable def FSp (w : World) (mg mb : Str → Option Value) (t : Bool) (s₀ : Shared) (pr : Pr) {env : Env} (ok : EnvStat env) (σ : List Ent) (mu : Mu) : SP w mg mb t where
  env := env
  σ := muE mu ++ σ
  p := FS w mg mb t s₀ pr env σ mu
  fn := ok.fn
  glob := ok.glob
  blt := ok.blt
  base := fun F => F.go.base
  go := fun F g => F.goes g
  rd := fun F h => F.rd h
variable {A : Around} {P : SP w mg mb t}
theorem EvT.name {x : Str} {pos : Pos} {v : MV} (hx : Has P.σ x v) (h1 : (x == Str.ofString "__debug__") = false := by decide) (h2 : (x == Str.ofString "__classdict__") = false := by decide) : EvT A P (.Name x pos) v := ⟨fun s Q E hs h => by
  obtain ⟨y, r, hh⟩ := P.rd hs hx
  rcases hh with ⟨k, m, n, e⟩ | ⟨k | k, c, n, e⟩
  · exact wpAny_Name (wpAny_loadName_local P.fn k n e (h y s (Go.refl (P.base hs)) r)) h1
  · exact wpAny_Name (wpAny_loadName_cell P.fn k n e (h y s (Go.refl (P.base hs)) r)) h1
  · exact wpAny_Name (wpAny_loadName_free P.fn k n e (h y s (Go.refl (P.base hs)) r) h2) h1⟩
theorem evGlobal {x : Str} {pos : Pos} {y : Value} (hk : P.env.kindOf x = some .globalImplicit) (hy : ∀ {h : Heap}, Base w mg mb h → mg x = some y) {s : Shared} {Q E : Value → Shared → Prop} (hs : P.p s) (h : Q y s) (h1 : (x == Str.ofString "__debug__") = false := by decide) :
    wpAny (model PG w) A (eval (.Name x pos) P.env) Q E s :=
  Name_function_global P.fn hk (loadGlobal_global (by rw [P.glob]; exact (P.base hs).g) (hy (P.base hs)) h) h1
theorem evBuiltin {x : Str} {pos : Pos} {y : Value} (hk : P.env.kindOf x = some .globalImplicit) (hn : ∀ {h : Heap}, Base w mg mb h → mg x = none) (hb : bootBuiltins x = some y) {s : Shared} {Q E : Value → Shared → Prop} (hs : P.p s) (h : Q y s) (h1 : (x == Str.ofString "__debug__") = false := by decide) (h2 : x ≠ Str.ofString "__name__" := by decide) :
    wpAny (model PG w) A (eval (.Name x pos) P.env) Q E s :=
  Name_function_global P.fn hk (loadGlobal_builtin (by rw [P.glob]; exact (P.base hs).g) (hn (P.base hs)) (by rw [P.blt]; exact (P.base hs).b) (((P.base hs).bi x h2).trans hb) h) h1
end
-- part L4
open PySem PySem.W PyProof.Rows PySem.Calls
set_option maxHeartbeats 1000000
section
variable {w : World} {mg mb : Str → Option Value} {h : Heap} (B : Base w mg mb h)
include B
theorem g_DIV : mg (Str.ofString "_DIV_LIMIT") = some (.int 4000 189) := mg_of B.K B.g (by kernel_rfl)
theorem g_d21 : mg (Str.ofString "_div2n1n") = some (.ref 21) := mg_of B.K B.g (by kernel_rfl)
theorem g_i2d : mg (Str.ofString "_int2digits") = some (.ref 35) := mg_of B.K B.g (by kernel_rfl)
theorem g_d2i : mg (Str.ofString "_digits2int") = some (.ref 42) := mg_of B.K B.g (by kernel_rfl)
theorem g_dmp : mg (Str.ofString "_divmod_pos") = some (.ref 49) := mg_of B.K B.g (by kernel_rfl)
theorem g_idm : mg (Str.ofString "int_divmod") = some (.ref 56) := mg_of B.K B.g (by kernel_rfl)
theorem g_br : mg (Str.ofString "bisect_right") = some (.ref 65) := mg_of B.K B.g (by kernel_rfl)
theorem g_il : mg (Str.ofString "insort_left") = some (.ref 74) := mg_of B.K B.g (by kernel_rfl)
theorem g_bl : mg (Str.ofString "bisect_left") = some (.ref 83) := mg_of B.K B.g (by kernel_rfl)
theorem g_EM : mg (Str.ofString "ELLIPSIS_MARKER") = some (.str (Str.ofString "...") 314) := mg_of B.K B.g (by kernel_rfl)
theorem g_em : mg (Str.ofString "_ellipsis_match") = some (.ref 90) := mg_of B.K B.g (by kernel_rfl)
theorem g_MS : mg (Str.ofString "_MAX_STRING_SIZE") = some (.int 40 330) := mg_of B.K B.g (by kernel_rfl)
theorem g_MC : mg (Str.ofString "_MOVE_COST") = some (.int 2 332) := mg_of B.K B.g (by kernel_rfl)
theorem g_CC : mg (Str.ofString "_CASE_COST") = some (.int 1 334) := mg_of B.K B.g (by kernel_rfl)
theorem g_sub : mg (Str.ofString "_substitution_cost") = some (.ref 97) := mg_of B.K B.g (by kernel_rfl)
theorem g_lev : mg (Str.ofString "_levenshtein_distance") = some (.ref 104) := mg_of B.K B.g (by kernel_rfl)
theorem g_lw : mg (Str.ofString "_law_words") = some (.ref 109) := mg_of B.K B.g (by kernel_rfl)
theorem g_lc : mg (Str.ofString "_law_code") = some (.ref 114) := mg_of B.K B.g (by kernel_rfl)
theorem g_lww : mg (Str.ofString "_law_weighed") = some (.ref 119) := mg_of B.K B.g (by kernel_rfl)
theorem n_len : mg (Str.ofString "len") = none := mg_none_of B.K B.g (by kernel_rfl)
theorem n_range : mg (Str.ofString "range") = none := mg_none_of B.K B.g (by kernel_rfl)
theorem n_divmod : mg (Str.ofString "divmod") = none := mg_none_of B.K B.g (by kernel_rfl)
theorem n_min : mg (Str.ofString "min") = none := mg_none_of B.K B.g (by kernel_rfl)
theorem n_max : mg (Str.ofString "max") = none := mg_none_of B.K B.g (by kernel_rfl)
theorem n_sum : mg (Str.ofString "sum") = none := mg_none_of B.K B.g (by kernel_rfl)
theorem n_zip : mg (Str.ofString "zip") = none := mg_none_of B.K B.g (by kernel_rfl)
theorem n_list : mg (Str.ofString "list") = none := mg_none_of B.K B.g (by kernel_rfl)
theorem n_reversed : mg (Str.ofString "reversed") = none := mg_none_of B.K B.g (by kernel_rfl)
end
theorem b_len : bootBuiltins (Str.ofString "len") = some (.builtin "len") := by kernel_rfl
theorem b_range : bootBuiltins (Str.ofString "range") = some (.type "range") := by kernel_rfl
theorem b_divmod : bootBuiltins (Str.ofString "divmod") = some (.builtin "divmod") := by kernel_rfl
theorem b_min : bootBuiltins (Str.ofString "min") = some (.builtin "min") := by kernel_rfl
theorem b_max : bootBuiltins (Str.ofString "max") = some (.builtin "max") := by kernel_rfl
theorem b_sum : bootBuiltins (Str.ofString "sum") = some (.builtin "sum") := by kernel_rfl
theorem b_zip : bootBuiltins (Str.ofString "zip") = some (.type "zip") := by kernel_rfl
theorem b_list : bootBuiltins (Str.ofString "list") = some (.type "list") := by kernel_rfl
theorem b_reversed : bootBuiltins (Str.ofString "reversed") = some (.type "reversed") := by kernel_rfl
section
variable {w : World} {mg mb : Str → Option Value} {t : Bool} {A : Around} {P : SP w mg mb t}
theorem EvT.gint {x : Str} {pos : Pos} {i : Int} {tk : Tok} (hy : ∀ {h : Heap}, Base w mg mb h → mg x = some (.int i tk)) (hk : P.env.kindOf x = some .globalImplicit := by rfl) (h1 : (x == Str.ofString "__debug__") = false := by decide) : EvT A P (.Name x pos) (.int i) := ⟨fun s Q E hs h =>
  evGlobal hk hy hs (h _ s (Go.refl (P.base hs)) (IRel.ofInt i tk)) h1⟩
theorem EvT.gstr {x : Str} {pos : Pos} {i : Str} {tk : Tok} (hy : ∀ {h : Heap}, Base w mg mb h → mg x = some (.str i tk)) (hl : i.length ≤ cap := by decide) (hk : P.env.kindOf x = some .globalImplicit := by rfl) (h1 : (x == Str.ofString "__debug__") = false := by decide) : EvT A P (.Name x pos) (.str i) := ⟨fun s Q E hs h =>
  evGlobal hk hy hs (h _ s (Go.refl (P.base hs)) (IRel.ofStr i tk hl)) h1⟩
/-- what a call gives -/
structure CalV (t : Bool) (A : Around) (f : Value) (vs : List MV) (c : MV) : Prop where
  run : ∀ (w : World) (mg mb : Str → Option Value) (s : Shared) (xs : List Value) (Q : Value → Shared → Prop) (E : Value → Shared → Prop), Base w mg mb s.heap → MRels [] s.heap vs xs →
  (∀ z s', Go w mg mb t s s' → MRel [] s'.heap c z → Q z s') → wpAny (model PG w) A (call f xs) Q E s
theorem CalV.weak {A : Around} {f : Value} {vs : List MV} {c : MV} (x : CalV false A f vs c) : CalV t A f vs c := ⟨fun w mg mb s xs Q E B r h => x.run w mg mb s xs Q E B r fun z s' g m => h z s' g.weak m⟩
theorem EvT.callB {x : Str} {p pos : Pos} {e : PySem.Expr} {es : List PySem.Expr} {vs : List MV} {c : MV} {id : String} (hn : ∀ {h : Heap}, Base w mg mb h → mg x = Option.none) (hb : bootBuiltins x = some (.builtin id)) (hl : EvL A P (e :: es) vs) (hc : CalV t A (.builtin id) vs c)
    (hk : P.env.kindOf x = some .globalImplicit := by rfl) (h1 : (x == Str.ofString "__debug__") = false := by decide) (h2 : x ≠ Str.ofString "__name__" := by decide)
    (he : starEach (e :: es) P.env = (false, eval e P.env) :: starEach es P.env := by rfl) (hp : (backTo pos (starEach es P.env)).any (·.1) = false := by rfl) : EvT A P (.Call (.Name x p) (e :: es) [] pos) c := ⟨fun s Q E hs h =>
  wpAny_Call_NameR (evBuiltin hk hn hb hs (callWith_builtin1 (hl.run pos s _ _ hs fun xs s₁ g₁ r₁ => hc.run w mg mb s₁ xs _ _ g₁.base r₁ fun z s₂ g₂ r₂ => h z s₂ (g₁.trans g₂) r₂) he hp) h1 h2)⟩
theorem EvT.callT {x : Str} {p pos : Pos} {e : PySem.Expr} {es : List PySem.Expr} {vs : List MV} {c : MV} {id : String} (hn : ∀ {h : Heap}, Base w mg mb h → mg x = Option.none) (hb : bootBuiltins x = some (.type id)) (hl : EvL A P (e :: es) vs) (hc : CalV t A (.type id) vs c)
    (hk : P.env.kindOf x = some .globalImplicit := by rfl) (h1 : (x == Str.ofString "__debug__") = false := by decide) (h2 : x ≠ Str.ofString "__name__" := by decide)
    (he : starEach (e :: es) P.env = (false, eval e P.env) :: starEach es P.env := by rfl) (hp : (backTo pos (starEach es P.env)).any (·.1) = false := by rfl) : EvT A P (.Call (.Name x p) (e :: es) [] pos) c := ⟨fun s Q E hs h =>
  wpAny_Call_NameR (evBuiltin hk hn hb hs (callWith_type1 (hl.run pos s _ _ hs fun xs s₁ g₁ r₁ => hc.run w mg mb s₁ xs _ _ g₁.base r₁ fun z s₂ g₂ r₂ => h z s₂ (g₁.trans g₂) r₂) he hp) h1 h2)⟩
noncomputable def isFn (w : World) (f : Addr) (fd : FuncData) : Prop := ∃ oc od sl, (kHp w.params).lookup f = some ⟨oc, od, .func fd, sl⟩
theorem EvT.callF {x : Str} {p pos : Pos} {e : PySem.Expr} {es : List PySem.Expr} {vs : List MV} {c : MV} {f : Addr} {fd : FuncData} (hy : ∀ {h : Heap}, Base w mg mb h → mg x = some (.ref f)) (hf : isFn w f fd) (hl : EvL A P (e :: es) vs) (hc : CalV t A (.ref f) vs c)
    (hk : P.env.kindOf x = some .globalImplicit := by rfl) (h1 : (x == Str.ofString "__debug__") = false := by decide)
    (he : starEach (e :: es) P.env = (false, eval e P.env) :: starEach es P.env := by rfl) (hp : (backTo pos (starEach es P.env)).any (·.1) = false := by rfl) : EvT A P (.Call (.Name x p) (e :: es) [] pos) c := ⟨fun s Q E hs h => by
  obtain ⟨oc, od, sl, hf⟩ := hf
  exact wpAny_Call_NameR (evGlobal hk hy hs (callWith_def (o := ⟨oc, od, .func fd, sl⟩) rfl (hl.run pos s _ _ hs fun xs s₁ g₁ r₁ => ⟨g₁.base.K _ _ hf, hc.run w mg mb s₁ xs _ _ g₁.base r₁ fun z s₂ g₂ r₂ => h z s₂ (g₁.trans g₂) r₂⟩) he) h1)⟩
theorem EvT.callF0 {x : Str} {p pos : Pos} {c : MV} {f : Addr} {fd : FuncData} (hy : ∀ {h : Heap}, Base w mg mb h → mg x = some (.ref f)) (hf : isFn w f fd) (hc : CalV t A (.ref f) [] c)
    (hk : P.env.kindOf x = some .globalImplicit := by rfl) (h1 : (x == Str.ofString "__debug__") = false := by decide) : EvT A P (.Call (.Name x p) [] [] pos) c := ⟨fun s Q E hs h => by
  obtain ⟨oc, od, sl, hf⟩ := hf
  exact wpAny_Call_NameR (evGlobal hk hy hs (callWith_function (o := ⟨oc, od, .func fd, sl⟩) (fd := fd) (evalArgs_nil3 ⟨⟨(P.base hs).K _ _ hf, rfl⟩, hc.run w mg mb s [] _ _ (P.base hs) trivial fun z s₂ g₂ r₂ => h z s₂ g₂ r₂⟩)) h1)⟩
/-- a method of a str or an int -/
theorem EvT.meth0 {o : PySem.Expr} {name : Str} {apos pos : Pos} {a c : MV} {T id : String} (ho : EvT A P o a) (hT : ∀ h x, MRel [] h a x → ∀ s : Shared, s.heap = h → s.TypeIs x T) (hr : ∀ h x, MRel [] h a x → ∀ b, x ≠ .ref b) (hp : PlainAttrs T) (hsl : Slot T name id) (hc : CalV t A (.builtin id) [a] c)
    (hb : attributeBase o name P.env (eval o P.env) = eval o P.env := by rfl) (hq : ((((backTo pos (starEach [] P.env)).all fun x => !x.1) && (backToKw pos (keywordEach [] P.env)).all fun x => x.1.isSome) && decide ((([] : List PySem.Expr).length + ([] : List Keyword).length + if ([] : List Keyword).isEmpty = true then 0 else 1) < 30)) = true := by rfl)
    (hl : (apos.endLine == pos.line) = true := by rfl) (ht : typeOf (.builtin id) = pure (.type "method_descriptor") := by kernel_rfl) : EvT A P (.Call (.Attribute o name apos) [] [] pos) c := ⟨fun s Q E hs h =>
  wpAny_Call_method hb hq hl hp hsl ht (ho.run s _ _ hs fun x s₁ g₁ r₁ => ⟨hT _ x r₁ s₁ rfl, fun b e => absurd e (hr _ x r₁ b), callWith_method0 (hc.run w mg mb s₁ [x] _ _ g₁.base ⟨r₁, trivial⟩ fun z s₂ g₂ r₂ => h z s₂ (g₁.trans g₂) r₂)⟩)⟩
theorem EvT.meth1 {o e : PySem.Expr} {es : List PySem.Expr} {name : Str} {apos pos : Pos} {a c : MV} {vs : List MV} {T id : String} (ho : EvT A P o a) (hT : ∀ h x, MRel [] h a x → ∀ s : Shared, s.heap = h → s.TypeIs x T) (hr : ∀ h x, MRel [] h a x → ∀ b, x ≠ .ref b) (hp : PlainAttrs T) (hsl : Slot T name id) (hl : EvL A P (e :: es) vs) (hc : CalV t A (.builtin id) (a :: vs) c)
    (hb : attributeBase o name P.env (eval o P.env) = eval o P.env := by rfl) (hq : ((((backTo pos (starEach (e :: es) P.env)).all fun x => !x.1) && (backToKw pos (keywordEach [] P.env)).all fun x => x.1.isSome) && decide (((e :: es).length + ([] : List Keyword).length + if ([] : List Keyword).isEmpty = true then 0 else 1) < 30)) = true := by rfl)
    (hln : (apos.endLine == pos.line) = true := by rfl) (ht : typeOf (.builtin id) = pure (.type "method_descriptor") := by kernel_rfl)
    (he : starEach (e :: es) P.env = (false, eval e P.env) :: starEach es P.env := by rfl) (hpl : (backTo pos (starEach es P.env)).any (·.1) = false := by rfl) : EvT A P (.Call (.Attribute o name apos) (e :: es) [] pos) c := ⟨fun s Q E hs h =>
  wpAny_Call_method hb hq hln hp hsl ht (ho.run s _ _ hs fun x s₁ g₁ r₁ => ⟨hT _ x r₁ s₁ rfl, fun b e => absurd e (hr _ x r₁ b), callWith_method1 (hl.run pos s₁ _ _ (P.go hs g₁) fun xs s₂ g₂ r₂ => hc.run w mg mb s₂ (x :: xs) _ _ g₂.base ⟨g₂.mrel g₁.base r₁, r₂⟩ fun z s₃ g₃ r₃ => h z s₃ (g₁.trans (g₂.trans g₃)) r₃) he hpl⟩)⟩
theorem str_type {a : Str} : ∀ h x, MRel [] h (.str a) x → ∀ s : Shared, s.heap = h → s.TypeIs x "str" := fun h x r s e => by obtain ⟨t, rfl⟩ := IRel.str r; exact typeIs_str s a t
theorem int_type {a : Int} : ∀ h x, MRel [] h (.int a) x → ∀ s : Shared, s.heap = h → s.TypeIs x "int" := fun h x r s e => by obtain ⟨t, rfl⟩ := IRel.int r; exact typeIs_int s a t
theorem im_ref {a : IV} : ∀ h x, MRel [] h (.im a) x → ∀ b, x ≠ .ref b := fun h x r b e => by subst e; obtain ⟨h, _⟩ := r; simp [toIV] at h
end
-- part L5
open PySem PySem.W PyProof.Rows PySem.Calls
set_option maxHeartbeats 1000000
section
variable {A : Around} {a b : Int} {x y : Str}
theorem BinV.add : BinV A .Add (.int a) (.int b) (.int (a + b)) := by
  constructor; intro w mg mb s u v Q E B r1 r2 h
  obtain ⟨t, rfl⟩ := IRel.int r1; obtain ⟨t', rfl⟩ := IRel.int r2
  with_reducible exact PyProof.Rows.add_int (h _ _ (Go.tok B) (MRel.ofInt _ _))
theorem BinV.sub : BinV A .Sub (.int a) (.int b) (.int (a - b)) := by
  constructor; intro w mg mb s u v Q E B r1 r2 h
  obtain ⟨t, rfl⟩ := IRel.int r1; obtain ⟨t', rfl⟩ := IRel.int r2
  with_reducible exact PyProof.Rows.sub_int (h _ _ (Go.tok B) (MRel.ofInt _ _))
theorem BinV.mul (hm : IntMulOk a b) : BinV A .Mult (.int a) (.int b) (.int (a * b)) := by
  constructor; intro w mg mb s u v Q E B r1 r2 h
  obtain ⟨t, rfl⟩ := IRel.int r1; obtain ⟨t', rfl⟩ := IRel.int r2
  with_reducible exact PyProof.Rows.mul_int (h _ _ (Go.tok B) (MRel.ofInt _ _)) hm
theorem BinV.and : BinV A .BitAnd (.int a) (.int b) (.int (Builtin.bitAnd a b)) := by
  constructor; intro w mg mb s u v Q E B r1 r2 h
  obtain ⟨t, rfl⟩ := IRel.int r1; obtain ⟨t', rfl⟩ := IRel.int r2
  with_reducible exact PyProof.Rows.and_int (h _ _ (Go.tok B) (MRel.ofInt _ _))
theorem BinV.or : BinV A .BitOr (.int a) (.int b) (.int (Builtin.bitOr a b)) := by
  constructor; intro w mg mb s u v Q E B r1 r2 h
  obtain ⟨t, rfl⟩ := IRel.int r1; obtain ⟨t', rfl⟩ := IRel.int r2
  with_reducible exact PyProof.Rows.or_int (h _ _ (Go.tok B) (MRel.ofInt _ _))
theorem BinV.xor : BinV A .BitXor (.int a) (.int b) (.int (Builtin.bitXor a b)) := by
  constructor; intro w mg mb s u v Q E B r1 r2 h
  obtain ⟨t, rfl⟩ := IRel.int r1; obtain ⟨t', rfl⟩ := IRel.int r2
  with_reducible exact PyProof.Rows.xor_int (h _ _ (Go.tok B) (MRel.ofInt _ _))
theorem BinV.floordiv (hb : b ≠ 0) (hp : b.natAbs < 1073741824) : BinV A .FloorDiv (.int a) (.int b) (.int (a.fdiv b)) := by
  constructor; intro w mg mb s u v Q E B r1 r2 h
  obtain ⟨t, rfl⟩ := IRel.int r1; obtain ⟨t', rfl⟩ := IRel.int r2
  with_reducible exact PyProof.Rows.floordiv_int hb (h _ _ (Go.tok B) (MRel.ofInt _ _)) (.inl (PyProof.noPylong_small hp))
theorem BinV.mod (hb : b ≠ 0) : BinV A .Mod (.int a) (.int b) (.int (a.fmod b)) := by
  constructor; intro w mg mb s u v Q E B r1 r2 h
  obtain ⟨t, rfl⟩ := IRel.int r1; obtain ⟨t', rfl⟩ := IRel.int r2
  with_reducible exact PyProof.Rows.mod_int' hb (h _ _ (Go.tok B) (MRel.ofInt _ _))
theorem BinV.shl (hh : A.handled = none) (h0 : 0 ≤ b) (hb : ((Builtin.Int.intBits a : Nat) : Int) + b ≤ 2 ^ 27) : BinV A .LShift (.int a) (.int b) (.int (a * 2 ^ b.toNat)) := by
  constructor; intro w mg mb s u v Q E B r1 r2 h
  obtain ⟨t, rfl⟩ := IRel.int r1; obtain ⟨t', rfl⟩ := IRel.int r2
  with_reducible exact PyProof.Rows.lshift_int_or hh (fun h' => absurd h' (by (first | lia | omega))) (fun _ => hb) fun _ => h _ _ (Go.tok B) (MRel.ofInt _ _)
theorem BinV.shr (h0 : 0 ≤ b) : BinV A .RShift (.int a) (.int b) (.int (a.fdiv (2 ^ b.toNat))) := by
  constructor; intro w mg mb s u v Q E B r1 r2 h
  obtain ⟨t, rfl⟩ := IRel.int r1; obtain ⟨t', rfl⟩ := IRel.int r2
  with_reducible exact PyProof.Rows.rshift_int h0 (h _ _ (Go.tok B) (MRel.ofInt _ _))
theorem BinV.pow (h0 : 0 ≤ b) (hb : ((Builtin.Int.intBits a : Nat) : Int) * b ≤ 1000000) : BinV A .Pow (.int a) (.int b) (.int (a ^ b.toNat)) := by
  constructor; intro w mg mb s u v Q E B r1 r2 h
  obtain ⟨t, rfl⟩ := IRel.int r1; obtain ⟨t', rfl⟩ := IRel.int r2
  have fin : ∀ c : Int, c = a ^ b.toNat → (Made.int c).post Q s := fun c e => by subst e; exact h _ _ (Go.tok B) (MRel.ofInt _ _)
  by_cases e0 : b = 0
  · exact AutoIntOps.pow_0 h0 (by simp [e0]) (fin 1 (by simp [e0]))
  · obtain ⟨n, hn⟩ : ∃ n : Nat, b.toNat = n + 1 := ⟨b.toNat - 1, by (first | lia | omega)⟩
    by_cases e1 : a = 0 ∨ a = 1
    · refine AutoIntOps.pow_1 h0 (by simpa using e0) (by simpa using e1) (fin a ?_)
      rcases e1 with rfl | rfl
      · rw [hn, Int.pow_succ]; simp
      · simp [Int.one_pow]
    · by_cases e2 : a = -1
      · refine AutoIntOps.pow_2 h0 (by simpa using e0) (by simpa using e1) (by simpa using e2) (fin _ ?_)
        subst e2
        have : ∀ m : Nat, ((-1 : Int) ^ m) = if m % 2 = 0 then 1 else -1 := fun m => by
          induction m with
          | zero => rfl
          | succ m ih => rw [Int.pow_succ, ih]; split <;> split <;> (first | lia | omega)
        rw [this]
        have : (b % 2 == 0) = true ↔ b.toNat % 2 = 0 := by simp; (first | lia | omega)
        by_cases hc : b.toNat % 2 = 0
        · rw [if_pos (this.mpr hc), if_pos hc]
        · rw [if_neg (fun h => hc (this.mp h)), if_neg hc]
      · refine AutoIntOps.pow_4 h0 (by simpa using e0) (by simpa using e1) (by simpa using e2) ?_ (fin _ rfl)
        intro hc
        have hc' : ((bitsLine : Nat) : Int) < ((Builtin.Int.intBits a : Nat) : Int) * b := by simpa [Builtin.Int.intTooBig] using hc
        have : bitsLine = 134217728 := rfl
        (first | lia | omega)
theorem BinV.cat (hl : (x ++ y).length ≤ cap) : BinV A .Add (.str x) (.str y) (.str (x ++ y)) := by
  constructor; intro w mg mb s u v Q E B r1 r2 h
  have l1 := r1.2; have l2 := r2.2
  obtain ⟨t, rfl⟩ := IRel.str r1; obtain ⟨t', rfl⟩ := IRel.str r2
  refine PyProof.Rows.add_str (fun t' tk => h _ _ (Go.tok B) (MRel.ofStr _ _ hl)) ?_
  simp only [smallIV, cap] at l1 l2
  rw [sizeLine_eq]; (first | lia | omega)
theorem UnV.neg : UnV A .USub (.int a) (.int (-a)) := by
  constructor; intro w mg mb s u Q E B r1 h
  obtain ⟨t, rfl⟩ := IRel.int r1
  with_reducible exact PyProof.Rows.neg_int (h _ _ (Go.tok B) (MRel.ofInt _ _))
theorem UnV.inv : UnV A .Invert (.int a) (.int (Builtin.bitNot a)) := by
  constructor; intro w mg mb s u Q E B r1 h
  obtain ⟨t, rfl⟩ := IRel.int r1
  with_reducible exact PyProof.Rows.invert_int (h _ _ (Go.tok B) (MRel.ofInt _ _))
theorem TruV.bool {c : Bool} : TruV A (.bool c) c := by
  constructor; intro w mg mb s u Q E B r1 h
  cases IRel.bool r1; exact wpAny_truthy_bool (h _ (Go.refl B))
theorem TruV.int : TruV A (.int a) (a != 0) := by
  constructor; intro w mg mb s u Q E B r1 h
  obtain ⟨t, rfl⟩ := IRel.int r1; exact PyProof.Rows.truthy_int (h _ (Go.refl B))
theorem TruV.str : TruV A (.str x) ((x.length : Int) != 0) := by
  constructor; intro w mg mb s u Q E B r1 h
  have l1 := r1.2
  obtain ⟨t, rfl⟩ := IRel.str r1
  simp only [smallIV, cap] at l1
  exact SBL.truthy (by (first | lia | omega)) (h _ (Go.tok B))
theorem TruV.list {l : List IV} : TruV A (.list l) (!l.isEmpty) := by
  constructor; intro w mg mb s u Q E B r1 h
  obtain ⟨p, vs, rfl, -, hl, r, hc⟩ := r1
  have e := r.length
  simp only [cap] at hc
  refine wpAny_truthy_list hl.isList (by simp only [List.size_toArray]; (first | lia | omega)) ?_
  have : (vs.toArray.isEmpty) = l.isEmpty := by cases vs <;> cases l <;> simp_all
  rw [this]
  exact h _ (Go.tok B)
theorem CmpV.eqI : CmpV A .Eq (.int a) (.int b) (a == b) := by
  constructor; intro w mg mb s u v Q E B r1 r2 h
  obtain ⟨t, rfl⟩ := IRel.int r1; obtain ⟨t', rfl⟩ := IRel.int r2; exact PyProof.Rows.eq_int (h _ (Go.refl B))
theorem CmpV.neI : CmpV A .NotEq (.int a) (.int b) (a != b) := by
  constructor; intro w mg mb s u v Q E B r1 r2 h
  obtain ⟨t, rfl⟩ := IRel.int r1; obtain ⟨t', rfl⟩ := IRel.int r2; exact PyProof.Rows.ne_int (h _ (Go.refl B))
theorem CmpV.ltI : CmpV A .Lt (.int a) (.int b) (decide (a < b)) := by
  constructor; intro w mg mb s u v Q E B r1 r2 h
  obtain ⟨t, rfl⟩ := IRel.int r1; obtain ⟨t', rfl⟩ := IRel.int r2; exact PyProof.Rows.lt_int (h _ (Go.refl B))
theorem CmpV.gtI : CmpV A .Gt (.int a) (.int b) (decide (b < a)) := by
  constructor; intro w mg mb s u v Q E B r1 r2 h
  obtain ⟨t, rfl⟩ := IRel.int r1; obtain ⟨t', rfl⟩ := IRel.int r2; exact PyProof.Rows.gt_int (h _ (Go.refl B))
theorem CmpV.leI : CmpV A .LtE (.int a) (.int b) (decide (a ≤ b)) := by
  constructor; intro w mg mb s u v Q E B r1 r2 h
  obtain ⟨t, rfl⟩ := IRel.int r1; obtain ⟨t', rfl⟩ := IRel.int r2; exact PyProof.Rows.le_int (h _ (Go.refl B))
theorem CmpV.geI : CmpV A .GtE (.int a) (.int b) (decide (b ≤ a)) := by
  constructor; intro w mg mb s u v Q E B r1 r2 h
  obtain ⟨t, rfl⟩ := IRel.int r1; obtain ⟨t', rfl⟩ := IRel.int r2; exact PyProof.Rows.ge_int (h _ (Go.refl B))
theorem CmpV.eqS : CmpV A .Eq (.str x) (.str y) (x == y) := by
  constructor; intro w mg mb s u v Q E B r1 r2 h
  obtain ⟨t, rfl⟩ := IRel.str r1; obtain ⟨t', rfl⟩ := IRel.str r2; exact PyProof.Rows.eq_str (h _ (Go.refl B))
theorem CmpV.inS : CmpV A .In (.str y) (.str x) (Txt.contains x y) := by
  constructor; intro w mg mb s u v Q E B r1 r2 h
  obtain ⟨t, rfl⟩ := IRel.str r1; obtain ⟨t', rfl⟩ := IRel.str r2; exact SB.contains (h _ (Go.refl B))
end
-- part L6
open PySem PySem.W PyProof.Rows PySem.Calls
set_option maxHeartbeats 1000000
theorem SetV.mem {σ σ' : List Ent} {x : Str} {v : Option MV} (h : SetV σ x v σ') : ∃ k o, (x, k, o) ∈ σ := by
  induction h with
  | here => exact ⟨_, _, .head _⟩
  | there h ih => obtain ⟨k, o, e⟩ := ih; exact ⟨k, o, .tail _ e⟩
theorem SetV.names {σ σ' : List Ent} {x : Str} {v : Option MV} (h : SetV σ x v σ') : σ'.map (·.1) = σ.map (·.1) := by
  induction h with
  | here => rfl
  | there h ih => rw [List.map_cons, List.map_cons, ih]
theorem SetV.kinds {σ σ' : List Ent} {x : Str} {v : Option MV} (h : SetV σ x v σ') : ∀ p ∈ σ', ∃ o, (p.1, p.2.1, o) ∈ σ := by
  induction h with
  | here =>
    intro p h
    rcases List.mem_cons.mp h with rfl | h
    · exact ⟨_, .head _⟩
    · exact ⟨p.2.2, .tail _ h⟩
  | there h ih =>
    intro p hp
    rcases List.mem_cons.mp hp with rfl | hp
    · exact ⟨p.2.2, .head _⟩
    · obtain ⟨o, e⟩ := ih p hp; exact ⟨o, .tail _ e⟩
theorem has_name {σ : List Ent} {x : Str} {v : MV} (h : Has σ x v) : x ∈ σ.map (·.1) := by
  obtain ⟨k, e⟩ := has_mem h; exact List.mem_map.mpr ⟨_, e, rfl⟩
theorem has_cons {x z : Str} {k : NameKind} {o : Option MV} {σ : List Ent} {u : MV} (h : Has ((x, k, o) :: σ) z u) : (z = x ∧ o = some u) ∨ Has σ z u := by
  cases h with
  | here => exact .inl ⟨rfl, rfl⟩
  | there h => exact .inr h
theorem SetV.has {σ σ' : List Ent} {x : Str} {v : Option MV} (h : SetV σ x v σ') (nd : (σ.map (·.1)).Nodup) {z : Str} {u : MV} (hz : Has σ' z u) : (z = x ∧ v = some u) ∨ (z ≠ x ∧ Has σ z u) := by
  induction h with
  | @here x k o v σ =>
    rcases has_cons hz with q | h
    · exact .inl q
    · exact .inr ⟨fun e => by rw [List.map_cons, List.nodup_cons] at nd; exact nd.1 (e ▸ has_name h), .there h⟩
  | @there p σ x v σ' s ih =>
    rw [List.map_cons, List.nodup_cons] at nd
    obtain ⟨y, k, o⟩ := p
    rcases has_cons hz with ⟨rfl, rfl⟩ | h
    · refine .inr ⟨fun e => ?_, .here⟩
      obtain ⟨k, o, hm⟩ := s.mem
      exact nd.1 (List.mem_map.mpr ⟨_, hm, e.symm⟩)
    · rcases ih nd.2 h with q | ⟨q, r⟩
      · exact .inl q
      · exact .inr ⟨q, .there r⟩
theorem SigOk.set {env : Env} {σ σ' : List Ent} {x : Str} {v : Option MV} (k : SigOk env σ) (h : SetV σ x v σ') : SigOk env σ' :=
  ⟨by rw [h.names]; exact k.nd, fun p hp => by obtain ⟨o, e⟩ := h.kinds p hp; exact k.kinds (p.1, p.2.1, o) e⟩
theorem mrel_same {X : List Addr} {h h' : Heap} {a : Addr} {v : MV} {y : Value} (hs : Heap.SameBut a h h') (hn : ∀ o, h.get? a = some o → ∀ xs n, o.data ≠ .seq xs n) (r : MRel X h v y) : MRel X h' v y := by
  cases v with
  | im a => exact r
  | fn a => exact r
  | list l =>
    obtain ⟨b, vs, e, hx, ⟨n, ho⟩, r⟩ := r
    have : b ≠ a := fun q => hn _ (q ▸ ho) _ _ rfl
    exact ⟨b, vs, e, hx, ⟨n, (hs.2 b this).trans ho⟩, r⟩
  | tup l =>
    obtain ⟨b, vs, e, hx, ⟨o, ho, hc, n, hd⟩, r⟩ := r
    have : b ≠ a := fun q => hn o (q ▸ ho) _ _ hd
    exact ⟨b, vs, e, hx, ⟨o, (hs.2 b this).trans ho, hc, n, hd⟩, r⟩
theorem mrel_sameX {X : List Addr} {h h' : Heap} {a : Addr} {v : MV} {y : Value} (hs : Heap.SameBut a h h') (hn : a ∈ X) (r : MRel X h v y) : MRel X h' v y := by
  cases v with
  | im a => exact r
  | fn a => exact r
  | list l =>
    obtain ⟨b, vs, e, hx, ⟨n, ho⟩, r⟩ := r
    exact ⟨b, vs, e, hx, ⟨n, (hs.2 b (fun z => hx (z ▸ hn))).trans ho⟩, r⟩
  | tup l =>
    obtain ⟨b, vs, e, hx, ⟨o, ho, q⟩, r⟩ := r
    exact ⟨b, vs, e, hx, ⟨o, (hs.2 b (fun z => hx (z ▸ hn))).trans ho, q⟩, r⟩
theorem TabOk.same {h h' : Heap} {a c P : Addr} {q : Str} {pos : Pos} (T : TabOk h c P q pos) (nc : NotCode h a) (hs : Heap.SameBut a h h') (h1 : c ≠ a) (h2 : P ≠ a) : TabOk h' c P q pos := by
  obtain ⟨⟨o, vs, file, tf, flags, tg, inF, text, tt, e, r⟩, ps, e2, r2, u⟩ := T
  exact ⟨⟨o, vs, file, tf, flags, tg, inF, text, tt, (hs.2 _ h1).trans e, r⟩, ps, (hs.2 _ h2).trans e2, r2, fun cv hc => (u cv hc).but nc fun b o hb e => (hs.2 b hb).trans e⟩
theorem TabOk.there {h : Heap} {c P : Addr} {q : Str} {pos : Pos} (T : TabOk h c P q pos) : (∃ o, h.get? c = some o) ∧ ∃ o, h.get? P = some o := by
  obtain ⟨⟨o, vs, file, tf, flags, tg, inF, text, tt, e, r⟩, ps, e2, r2, u⟩ := T
  exact ⟨⟨_, e⟩, ⟨_, e2⟩⟩
theorem NotCode.data {h : Heap} {a : Addr} (x : ∀ o, h.get? a = some o → ∀ vs, o.data ≠ .fields vs) : NotCode h a := fun o e => .inr (x o e)
theorem NotCode.ns {h : Heap} {a : Addr} {m : Str → Option Value} (n : h.Ns a m) : NotCode h a := by
  obtain ⟨o, es, ep, e, d, _⟩ := n
  intro o' e'; rw [e] at e'; cases e'
  exact .inr fun vs q => by rw [d] at q; cases q
theorem NotCode.cell {h : Heap} {a : Addr} {v : Option Value} (n : h.IsCell a v) : NotCode h a := by
  obtain ⟨o, e, d⟩ := n
  intro o' e'; rw [e] at e'; cases e'
  exact .inr fun vs q => by rw [d] at q; cases q
theorem NotCode.plain {h : Heap} {a : Addr} {v : Array Value} (n : h.PlainList a v) : NotCode h a := by
  obtain ⟨n, e⟩ := n
  intro o' e'; rw [e] at e'; cases e'
  exact .inr fun vs q => by cases q
section
variable {w : World} {mg mb : Str → Option Value} {t : Bool}
theorem Base.same {h₀ h h' : Heap} {a : Addr} (B₀ : Base w mg mb h₀) (B : Base w mg mb h) (hs : Heap.SameBut a h h') (ha : h₀.get? a = none) (nc : NotCode h a) : Base w mg mb h' := by
  have ne : ∀ {b o}, h₀.get? b = some o → b ≠ a := fun e q => by rw [q, ha] at e; cases e
  have nsne : ∀ {b m}, h₀.Ns b m → b ≠ a := fun n => let ⟨_, _, _, e, _⟩ := n; ne e
  refine ⟨fun b o e => (hs.2 b (ne (B₀.K b o e))).trans (B.K b o e), B.g.sameBut hs (nsne B₀.g), B.b.sameBut hs (nsne B₀.b), ?_, B.bi, ?_, ?_, ?_⟩
  · obtain ⟨mc, n, _⟩ := B₀.lim
    exact B.lim.sameBut hs (nsne n)
  · obtain ⟨⟨_, e1⟩, ⟨_, e2⟩⟩ := B₀.t30.there; exact B.t30.same nc hs (ne e1) (ne e2)
  · obtain ⟨⟨_, e1⟩, ⟨_, e2⟩⟩ := B₀.t37.there; exact B.t37.same nc hs (ne e1) (ne e2)
  · obtain ⟨bm, ob, e1, e2, e3, r⟩ := B.bm
    obtain ⟨bm', ob', e1', e2', e3', r'⟩ := B₀.bm
    rw [e1] at e1'; cases e1'
    exact ⟨bm, ob, e1, e2, (hs.2 _ (ne e3')).trans e3, r⟩
theorem Go.same {s₀ s : Shared} (B₀ : Base w mg mb s₀.heap) (g : Go w mg mb t s₀ s) {h' : Heap} {a : Addr} {tk : Nat} (hs : Heap.SameBut a s.heap h') (ha : s₀.heap.get? a = none) (nc : NotCode s.heap a) : Go w mg mb t s₀ { s with heap := h', toks := tk } :=
  ⟨fun b o hb e => (hs.2 b (fun q => by rw [q, ha] at e; cases e)).trans (g.ext b o hb e), B₀.same g.base hs ha nc, g.gens, g.drawn, g.os⟩
end
section
variable {w : World} {mg mb : Str → Option Value} {t : Bool} {s₀ : Shared} {pr : Pr} {env : Env} {σ σ' : List Ent} {mu : Mu} {s : Shared}
theorem FS.set_frame (F : FS w mg mb t s₀ pr env σ mu s) (nd : (σ.map (·.1)).Nodup) {x : Str} {v : MV} (hset : SetV σ x (some v) σ') {y : Value} (hr : MRel (muX mu) s.heap v y) (hmu : ∀ x' a vs, mu = some (x', a, vs) → x' ≠ x)
    {h' : Heap} {tk : Nat} {a : Addr} (hs : Heap.SameBut a s.heap h') (ha : s₀.heap.get? a = none) (hd : ∀ o, s.heap.get? a = some o → (∃ es n, o.data = .dict es n) ∨ ∃ v, o.data = .cell v)
    (hx : HoldsAt env h' x y) (ho : ∀ z u, z ≠ x → HoldsAt env s.heap z u → HoldsAt env h' z u) (hns : ∃ m, h'.Ns env.locals m) (hcs : ∀ x c, env.cells.lookup x = some c → ∃ v, h'.IsCell c v) : FS w mg mb t s₀ pr env σ' mu { s with heap := h', toks := tk } := by
  have nseq : ∀ o, s.heap.get? a = some o → ∀ xs n, o.data ≠ .seq xs n := fun o e xs n q => by
    rcases hd o e with ⟨es, m, h⟩ | ⟨v, h⟩ <;> rw [h] at q <;> cases q
  refine ⟨F.b0, F.go.same F.b0 hs ha (NotCode.data fun o e vs q => by rcases hd o e with ⟨_, _, h⟩ | ⟨_, h⟩ <;> rw [h] at q <;> cases q), hns, fun z u hz => ?_, ?_, F.fresh, hcs, F.own, fun p hp => ?_⟩
  · rcases hset.has nd hz with ⟨rfl, e⟩ | ⟨ne, hz⟩
    · cases e; exact ⟨y, mrel_same hs nseq hr, hx⟩
    · obtain ⟨y', r, q⟩ := F.vars z u hz
      exact ⟨y', mrel_same hs nseq r, ho z y' ne q⟩
  · have := F.mus
    match mu, this, hmu with
    | none, _, _ => trivial
    | some (x', b, vs), ⟨h1, ⟨ys, h2, h3⟩, h4, h5⟩, hmu =>
      obtain ⟨n, e⟩ := h2
      exact ⟨ho x' _ (hmu x' b vs rfl) h1, ⟨ys, ⟨n, (hs.2 b fun q => nseq _ (q ▸ e) _ _ rfl).trans e⟩, h3⟩, h4, h5⟩
  · have P := F.prs p hp
    have : p.1 ≠ a := fun q => by
      rcases hd _ (q ▸ P.get) with ⟨es, n, e⟩ | ⟨v, e⟩
      · exact P.dict _ _ e
      · exact P.cell _ e
    exact ⟨(hs.2 _ this).trans P.get, P.dict, P.cell, P.cls, P.off⟩
/-- what a store leaves -/
structure Stored (env : Env) (h h' : Heap) (x : Str) (y : Value) : Prop where
  same : ∃ a, (a = env.locals ∨ ∃ c, env.cells.lookup x = some c ∧ a = c) ∧ Heap.SameBut a h h'
  keep : ∀ b o, (∃ xs n, o.data = .seq xs n) → h.get? b = some o → h'.get? b = some o
  hx : HoldsAt env h' x y
  ho : ∀ z u, z ≠ x → HoldsAt env h z u → HoldsAt env h' z u
theorem Stored.mrel {h h' : Heap} {x : Str} {y : Value} (S : Stored env h h' x y) {X : List Addr} {v : MV} {y' : Value} (r : MRel X h v y') : MRel X h' v y' := by
  cases v with
  | im a => exact r
  | fn a => exact r
  | list l => obtain ⟨b, vs, e, hx, ⟨n, ho⟩, r⟩ := r; exact ⟨b, vs, e, hx, ⟨n, S.keep _ _ ⟨_, _, rfl⟩ ho⟩, r⟩
  | tup l => obtain ⟨b, vs, e, hx, ⟨o, ho, hc, n, hd⟩, r⟩ := r; exact ⟨b, vs, e, hx, ⟨o, S.keep _ _ ⟨_, _, hd⟩ ho, hc, n, hd⟩, r⟩
theorem Stored.plain {h h' : Heap} {x : Str} {y : Value} (S : Stored env h h' x y) {a : Addr} {v : Array Value} (r : h.PlainList a v) : h'.PlainList a v := let ⟨n, e⟩ := r; ⟨n, S.keep _ _ ⟨_, _, rfl⟩ e⟩
theorem FS.store {A : Around} {E : Value → Shared → Prop} {Q : Unit → Shared → Prop} (st : EnvStat env) (sg : SigOk env σ) (F : FS w mg mb t s₀ pr env σ mu s) {x : Str} {v : MV} (hset : SetV σ x (some v) σ') {y : Value} (hr : MRel (muX mu) s.heap v y) (hmu : ∀ x' a vs, mu = some (x', a, vs) → x' ≠ x)
    (hfree : ∀ k o, (x, k, o) ∈ σ → k ≠ .free) (h : ∀ s', FS w mg mb t s₀ pr env σ' mu s' → Stored env s.heap s'.heap x y → Q () s') : wpAny (model PG w) A (storeName env x y) Q E s := by
  obtain ⟨k, o, hm⟩ := hset.mem
  obtain ⟨hk, hk'⟩ := sg.kinds _ hm
  obtain ⟨m, hn⟩ := F.ns
  rcases hk' with rfl | ⟨rfl, hc⟩ | e
  · have nseq : ∀ o, s.heap.get? env.locals = some o → ∀ xs n, o.data ≠ .seq xs n := by
      obtain ⟨o1, es1, ep1, e1, d1, _⟩ := hn
      intro o e xs n q; rw [e1] at e; cases e; rw [d1] at q; cases q
    refine wpAny_storeName_local hk hn (fun h' hn' hs' => ?_) (by rw [st.fn]; rfl)
    have hx : HoldsAt env h' x y := .inl ⟨hk, _, hn', if_pos rfl⟩
    have ho : ∀ z u, z ≠ x → HoldsAt env s.heap z u → HoldsAt env h' z u := by
      intro z u ne hz
      rcases hz with ⟨kz, m', n', e⟩ | ⟨kz, c, lc, ic⟩
      · refine .inl ⟨kz, _, hn', ?_⟩
        rw [if_neg ne]
        obtain ⟨o1, es1, ep1, e1, d1, _, f1⟩ := hn
        obtain ⟨o2, es2, ep2, e2, d2, _, f2⟩ := n'
        rw [e1] at e2; cases e2; rw [d1] at d2; cases d2
        rw [← f1, f2]; exact e
      · exact .inr ⟨kz, c, lc, ic.sameBut hs' (fun q => by
          subst q
          obtain ⟨o1, es1, ep1, e1, d1, _⟩ := hn
          obtain ⟨o2, e2, d2⟩ := ic
          rw [e1] at e2; cases e2; rw [d1] at d2; cases d2)⟩
    refine h _ (F.set_frame sg.nd hset hr hmu hs' F.fresh ?_ hx ho ⟨_, hn'⟩ ?_) ⟨⟨_, .inl rfl, hs'⟩, fun b o ⟨xs, n, q⟩ e => (hs'.2 b fun z => nseq o (z ▸ e) xs n q).trans e, hx, ho⟩
    · obtain ⟨o, es, ep, e, hd, _⟩ := hn
      intro o' e'; rw [e] at e'; cases e'; exact .inl ⟨_, _, hd⟩
    · intro z c lc
      obtain ⟨u, ic⟩ := F.cells z c lc
      exact ⟨u, ic.sameBut hs' (fun q => by
          subst q
          obtain ⟨o1, es1, ep1, e1, d1, _⟩ := hn
          obtain ⟨o2, e2, d2⟩ := ic
          rw [e1] at e2; cases e2; rw [d1] at d2; cases d2)⟩
  · obtain ⟨c, hc⟩ := Option.isSome_iff_exists.mp hc
    obtain ⟨u, ic⟩ := F.cells x c hc
    refine wpAny_storeName_cell st.fn hk hc ic fun h' ic' hs' => ?_
    have hx : HoldsAt env h' x y := .inr ⟨.inl hk, c, hc, ic'⟩
    have ho : ∀ z u, z ≠ x → HoldsAt env s.heap z u → HoldsAt env h' z u := by
      intro z u' ne hz
      rcases hz with ⟨kz, m', n', e⟩ | ⟨kz, c', lc, icz⟩
      · exact .inl ⟨kz, m', n'.sameBut hs' (fun q => by
          subst q
          obtain ⟨o1, es1, ep1, e1, d1, _⟩ := n'
          obtain ⟨o2, e2, d2⟩ := ic
          rw [e1] at e2; cases e2; rw [d1] at d2; cases d2), e⟩
      · exact .inr ⟨kz, c', lc, icz.sameBut hs' fun q => ne (name_of_addr st.apart (mem_of_lookup lc) (q ▸ mem_of_lookup hc))⟩
    have := F.set_frame (tk := s.toks) sg.nd hset hr hmu hs' (F.own x c hk hc) (fun o' e' => ?_) hx ho ⟨m, hn.sameBut hs' fun q => ?_⟩ fun z c' lc => ?_
    · exact h _ this ⟨⟨c, .inr ⟨c, hc, rfl⟩, hs'⟩, fun b o ⟨xs, n, q⟩ e => (hs'.2 b fun z => by
        obtain ⟨o1, e1, d1⟩ := ic
        rw [z, e1] at e; cases e; rw [d1] at q; cases q).trans e, hx, ho⟩
    · obtain ⟨o1, e1, d1⟩ := ic
      rw [e1] at e'; cases e'; exact .inr ⟨_, d1⟩
    · subst q
      obtain ⟨o1, es1, ep1, e1, d1, _⟩ := hn
      obtain ⟨o2, e2, d2⟩ := ic
      rw [e1] at e2; cases e2; rw [d1] at d2; cases d2
    · by_cases q : c' = c
      · subst q; exact ⟨_, ic'⟩
      · obtain ⟨u', ic2⟩ := F.cells z c' lc
        exact ⟨u', ic2.sameBut hs' q⟩
  · exact absurd e (hfree _ _ hm)
end
-- part L7
open PySem PySem.W PyProof.Rows PySem.Calls
set_option maxHeartbeats 1000000
inductive Fl where
  | next (σ : List Ent) (mu : Mu)
  | ret (v : MV) (mu : Mu)
  | brk (σ : List Ent) (mu : Mu)
  | cont (σ : List Ent) (mu : Mu)
structure Cx where
  w : World
  mg : Str → Option Value
  mb : Str → Option Value
  t : Bool
  A : Around
  s₀ : Shared
  pr : Pr
  env : Env
  st : EnvStat env
noncomputable abbrev Cx.FS (C : Cx) (σ : List Ent) (mu : Mu) (s : Shared) : Prop := Mine.FS C.w C.mg C.mb C.t C.s₀ C.pr C.env σ mu s
noncomputable abbrev Cx.P (C : Cx) (σ : List Ent) (mu : Mu) : SP C.w C.mg C.mb C.t := FSp C.w C.mg C.mb C.t C.s₀ C.pr C.st σ mu
/-- the list in change, at the end -/
noncomputable def MuAt (h : Heap) : Mu → Prop
  | none => True
  | some (_, a, vs) => (∃ ys, h.PlainList a (List.toArray ys) ∧ IRels vs ys) ∧ vs.length ≤ cap
theorem MuIs.at {env : Env} {h₀ h : Heap} {mu : Mu} (m : MuIs env h₀ h mu) : MuAt h mu := by
  cases mu with
  | none => trivial
  | some p => obtain ⟨x, a, vs⟩ := p; exact ⟨m.2.1, m.2.2.1⟩
noncomputable def FlowIs (C : Cx) (Φ : Fl → Prop) : Flow → Shared → Prop
  | .next, s' => ∃ σ mu, SigOk C.env σ ∧ C.FS σ mu s' ∧ Φ (.next σ mu)
  | .brk, s' => ∃ σ mu, SigOk C.env σ ∧ C.FS σ mu s' ∧ Φ (.brk σ mu)
  | .cont, s' => ∃ σ mu, SigOk C.env σ ∧ C.FS σ mu s' ∧ Φ (.cont σ mu)
  | .ret y, s' => ∃ v mu, MRel [] s'.heap v y ∧ Go C.w C.mg C.mb C.t C.s₀ s' ∧ (∀ p ∈ C.pr, PrOk [] s'.heap p) ∧ MuAt s'.heap mu ∧ Φ (.ret v mu)
structure X1 (C : Cx) (σ : List Ent) (mu : Mu) (st : Stmt) (Φ : Fl → Prop) : Prop where
  run : SigOk C.env σ → ∀ (s : Shared) (Q : Flow → Shared → Prop) (E : Value → Shared → Prop), C.FS σ mu s → (∀ f s', FlowIs C Φ f s' → Q f s') → wpAny (model PG C.w) C.A (exec st C.env) Q E s
structure XS (C : Cx) (σ : List Ent) (mu : Mu) (ss : List Stmt) (Φ : Fl → Prop) : Prop where
  run : SigOk C.env σ → ∀ (s : Shared) (Q : Flow → Shared → Prop) (E : Value → Shared → Prop), C.FS σ mu s → (∀ f s', FlowIs C Φ f s' → Q f s') → wpAny (model PG C.w) C.A (execs ss C.env) Q E s
noncomputable def Seq (C : Cx) (rest : List Stmt) (Φ : Fl → Prop) : Fl → Prop
  | .next σ mu => XS C σ mu rest Φ
  | fl => Φ fl
theorem FlowIs.mono {C : Cx} {Φ Ψ : Fl → Prop} (h : ∀ fl, Φ fl → Ψ fl) {f : Flow} {s : Shared} : FlowIs C Φ f s → FlowIs C Ψ f s := by
  cases f with
  | next => rintro ⟨σ, mu, a, b, c⟩; exact ⟨σ, mu, a, b, h _ c⟩
  | brk => rintro ⟨σ, mu, a, b, c⟩; exact ⟨σ, mu, a, b, h _ c⟩
  | cont => rintro ⟨σ, mu, a, b, c⟩; exact ⟨σ, mu, a, b, h _ c⟩
  | ret y => rintro ⟨v, mu, a, b, c, m, d⟩; exact ⟨v, mu, a, b, c, m, h _ d⟩
section
variable {C : Cx} {σ σ' : List Ent} {mu : Mu} {Φ : Fl → Prop}
theorem XS.nil (h : Φ (.next σ mu)) : XS C σ mu [] Φ := ⟨fun sg s Q E F hq => wpAny_execs_nil (hq .next s ⟨σ, mu, sg, F, h⟩)⟩
theorem XS.cons {st : Stmt} {rest : List Stmt} (h : X1 C σ mu st (Seq C rest Φ)) : XS C σ mu (st :: rest) Φ := ⟨fun sg s Q E F hq => wpAny_execs_cons (h.run sg s _ _ F fun f s' hf => by
  cases f with
  | next => obtain ⟨σ', mu', sg', F', hx⟩ := hf; exact hx.run sg' s' Q E F' hq
  | brk => exact hq _ _ hf
  | cont => exact hq _ _ hf
  | ret y => exact hq _ _ hf)⟩
theorem XS.mono {ss : List Stmt} {Ψ : Fl → Prop} (x : XS C σ mu ss Φ) (h : ∀ fl, Φ fl → Ψ fl) : XS C σ mu ss Ψ := ⟨fun sg s Q E F hq => x.run sg s Q E F fun f s' hf => hq f s' (hf.mono h)⟩
/-- the value may be kept under a name: it is no list while one is changed -/
noncomputable def Keepable : Mu → MV → Prop
  | none, _ => True
  | some _, .im _ => True
  | some _, .fn _ => True
  | _, _ => False
theorem Keepable.rel {mu : Mu} {v : MV} (k : Keepable mu v) {h : Heap} {y : Value} (r : MRel [] h v y) : MRel (muX mu) h v y := by
  cases mu with
  | none => exact r
  | some p => cases v <;> first | exact r | exact k.elim
/-- the name that holds the list in change -/
noncomputable def offMu : Mu → Str → Prop
  | none, _ => True
  | some (y, _, _), x => y ≠ x
theorem offMu.out {mu : Mu} {x : Str} (h : offMu mu x) : ∀ x' a vs, mu = some (x', a, vs) → x' ≠ x := by
  rintro x' a vs rfl; exact h
/-- a name of the frame's own -/
inductive Own : List Ent → Str → Prop
  | here {x k o σ} : k ≠ NameKind.free → Own ((x, k, o) :: σ) x
  | there {p σ x} : Own σ x → Own (p :: σ) x
theorem Own.mem {σ : List Ent} {x : Str} (h : Own σ x) : x ∈ σ.map (·.1) := by
  induction h with
  | here _ => exact .head _
  | there _ ih => exact .tail _ ih
theorem Own.out {σ : List Ent} {x : Str} (h : Own σ x) : (σ.map (·.1)).Nodup → ∀ k o, (x, k, o) ∈ σ → k ≠ .free := by
  induction h with
  | here hk =>
    intro nd k o hm
    rcases List.mem_cons.mp hm with e | hm
    · exact (Prod.mk.inj (Prod.mk.inj e).2).1 ▸ hk
    · rw [List.map_cons, List.nodup_cons] at nd
      exact absurd (List.mem_map.mpr ⟨_, hm, rfl⟩) nd.1
  | there h ih =>
    intro nd k o hm
    rw [List.map_cons, List.nodup_cons] at nd
    rcases List.mem_cons.mp hm with e | hm
    · exact absurd (e ▸ h.mem) nd.1
    · exact ih nd.2 k o hm
inductive St : List Ent → Str → MV → List Ent → Prop
  | here {x k o v σ} : k ≠ NameKind.free → St ((x, k, o) :: σ) x v ((x, k, some v) :: σ)
  | there {p σ x v σ'} : St σ x v σ' → St (p :: σ) x v (p :: σ')
theorem St.set {σ σ' : List Ent} {x : Str} {v : MV} (h : St σ x v σ') : SetV σ x (some v) σ' := by
  induction h with
  | here _ => exact .here
  | there h ih => exact .there ih
theorem St.own {σ σ' : List Ent} {x : Str} {v : MV} (h : St σ x v σ') : Own σ x := by
  induction h with
  | here h => exact .here h
  | there h ih => exact .there ih
theorem St.here' {x : Str} {o : Option MV} {v : MV} {σ : List Ent} : St ((x, .local, o) :: σ) x v ((x, .local, some v) :: σ) := .here (by decide)
theorem St.hereC {x : Str} {o : Option MV} {v : MV} {σ : List Ent} : St ((x, .cell, o) :: σ) x v ((x, .cell, some v) :: σ) := .here (by decide)
theorem storeX {A : Around} {E : Value → Shared → Prop} {Q : Unit → Shared → Prop} (sg : SigOk C.env σ) {s : Shared} (F : C.FS σ mu s) {x : Str} {v : MV} (hst : St σ x v σ') {y : Value} (hr : MRel [] s.heap v y) (hk : Keepable mu v) (ho : offMu mu x)
    (h : ∀ s', SigOk C.env σ' → C.FS σ' mu s' → Stored C.env s.heap s'.heap x y → Q () s') : wpAny (model PG C.w) A (storeName C.env x y) Q E s :=
  FS.store C.st sg F hst.set (hk.rel hr) ho.out (hst.own.out sg.nd) fun s' F' k => h s' (sg.set hst.set) F' k
theorem X1.asg {x : Str} {pos' pos : Pos} {e : PySem.Expr} {v : MV} (he : EvT C.A (C.P σ mu) e v) (hst : St σ x v σ') (hk : Keepable mu v) (ho : offMu mu x) (h : Φ (.next σ' mu)) (hs : swapsWith e (some (.Name x pos')) pos.line C.env = pure false := by rfl) : X1 C σ mu (.Assign [.Name x pos'] e pos) Φ := ⟨fun sg s Q E F hq =>
  wpAny_Assign_Name (he.run s _ _ F fun y s₁ g r => storeX sg (F.goes g) hst r hk ho fun s₂ sg₂ F₂ _ => hq .next s₂ ⟨_, _, sg₂, F₂, h⟩) hs⟩
theorem X1.asg2 {x z : Str} {px pz pos : Pos} {e : PySem.Expr} {v : MV} {σ'' : List Ent} (he : EvT C.A (C.P σ mu) e v) (hst : St σ x v σ') (hst2 : St σ' z v σ'') (hk : Keepable mu v) (ho : offMu mu x) (ho2 : offMu mu z) (h : Φ (.next σ'' mu))
    (h1 : (assignEach [PySem.Expr.Name x px, PySem.Expr.Name z pz] C.env).map (·.2) = [assign (PySem.Expr.Name x px) C.env, assign (PySem.Expr.Name z pz) C.env] := by rfl) (h2 : swappedStores [PySem.Expr.Name x px, PySem.Expr.Name z pz] e C.env = pure Option.none := by rfl) : X1 C σ mu (.Assign [PySem.Expr.Name x px, PySem.Expr.Name z pz] e pos) Φ := ⟨fun sg s Q E F hq =>
  wpAny_Assign_two (he.run s _ _ F fun y s₁ g r => PySem.wpAny_assign_Name (storeX sg (F.goes g) hst r hk ho fun s₂ sg₂ F₂ keep => PySem.wpAny_assign_Name (storeX sg₂ F₂ hst2 (keep.mrel r) hk ho2 fun s₃ sg₃ F₃ _ => hq .next s₃ ⟨_, _, sg₃, F₃, h⟩))) h1 h2⟩
/-- two names out of a tuple of two -/
theorem assignTX {A : Around} {E : Value → Shared → Prop} {Q : Unit → Shared → Prop} (hh : A.handled = Option.none) (sg : SigOk C.env σ) {s : Shared} (F : C.FS σ mu s) {x z : Str} {px pz pt : Pos} {k : Nat} {a b : IV} {σ'' : List Ent} (hst : St σ x (.im a) σ') (hst2 : St σ' z (.im b) σ'') {y : Value} (hr : MRel [] s.heap (.tup [a, b]) y) (ho : offMu mu x) (ho2 : offMu mu z)
    (h : ∀ s', SigOk C.env σ'' → C.FS σ'' mu s' → Q () s')
    (h1 : (assignEach [PySem.Expr.Name x px, PySem.Expr.Name z pz] C.env).map (·.2) = [assign (PySem.Expr.Name x px) C.env, assign (PySem.Expr.Name z pz) C.env] := by rfl) (h3 : (assignEach [PySem.Expr.Name x px, PySem.Expr.Name z pz] C.env).findIdx? (·.1) = Option.none := by rfl) : wpAny (model PG C.w) A (assign (.Tuple [.Name x px, .Name z pz] k pt) C.env y) Q E s := by
  obtain ⟨tA, vs, rfl, _, ht, hv, _⟩ := hr
  have kp : ∀ c : IV, Keepable mu (.im c) := fun c => by cases mu <;> trivial
  match vs, hv with
  | [u, v], hv =>
    refine wpAny_assign_Tuple hh ht rfl h3 fun h' hx => ?_
    rw [h1]
    have g : Go C.w C.mg C.mb C.t s { s with heap := h' } := Go.keep (tk := s.toks) F.go.base fun b o e => hx b o (Nat.ne_of_lt (Heap.lt_size e)) e
    exact wpAny_assignInOrder_more (PySem.wpAny_assign_Name (storeX sg (F.goes g) hst (v := .im a) hv.1 (kp a) ho fun s₂ sg₂ F₂ _ => wpAny_assignInOrder_more (PySem.wpAny_assign_Name (storeX sg₂ F₂ hst2 (v := .im b) hv.2.1 (kp b) ho2 fun s₃ sg₃ F₃ _ => wpAny_assignInOrder_none (h s₃ sg₃ F₃)))))
  | [], hv => exact hv.elim
  | [_], hv => exact hv.2.elim
  | _ :: _ :: _ :: _, hv => exact hv.2.2.elim
theorem X1.asgT {x z : Str} {px pz pt pos : Pos} {k : Nat} {e : PySem.Expr} {a b : IV} {σ'' : List Ent} (hh : C.A.handled = Option.none) (he : EvT C.A (C.P σ mu) e (.tup [a, b])) (hst : St σ x (.im a) σ') (hst2 : St σ' z (.im b) σ'') (ho : offMu mu x) (ho2 : offMu mu z) (h : Φ (.next σ'' mu))
    (h1 : (assignEach [PySem.Expr.Name x px, PySem.Expr.Name z pz] C.env).map (·.2) = [assign (PySem.Expr.Name x px) C.env, assign (PySem.Expr.Name z pz) C.env] := by rfl) (h3 : (assignEach [PySem.Expr.Name x px, PySem.Expr.Name z pz] C.env).findIdx? (·.1) = Option.none := by rfl)
    (h4 : swapsWithSole [PySem.Expr.Tuple [.Name x px, .Name z pz] k pt] e pos.line C.env = pure false := by rfl) (h5 : swappedStores [PySem.Expr.Tuple [.Name x px, .Name z pz] k pt] e C.env = pure Option.none := by rfl) : X1 C σ mu (.Assign [.Tuple [.Name x px, .Name z pz] k pt] e pos) Φ := ⟨fun sg s Q E F hq =>
  Assign_Tuple (he.run s _ _ F fun y s₁ g r => assignTX hh sg (F.goes g) hst hst2 r ho ho2 (fun s₂ sg₂ F₂ => hq .next s₂ ⟨_, _, sg₂, F₂, h⟩) h1 h3) h4 h5⟩
/-- the same, where the compiler swaps the stores -/
theorem X1.asgSw {x z : Str} {px pz pt pos : Pos} {k : Nat} {e : PySem.Expr} {a b : IV} {σ'' : List Ent} (hh : C.A.handled = Option.none) (he : EvT C.A (C.P σ mu) e (.tup [a, b])) (hst : St σ z (.im b) σ') (hst2 : St σ' x (.im a) σ'') (ho : offMu mu x) (ho2 : offMu mu z) (h : Φ (.next σ'' mu))
    (h4 : swapsWithSole [PySem.Expr.Tuple [.Name x px, .Name z pz] k pt] e pos.line C.env = pure false := by rfl) (h5 : swappedStores [PySem.Expr.Tuple [.Name x px, .Name z pz] k pt] e C.env = pure (some [x, z]) := by rfl) : X1 C σ mu (.Assign [.Tuple [.Name x px, .Name z pz] k pt] e pos) Φ := ⟨fun sg s Q E F hq => by
  have kp : ∀ c : IV, Keepable mu (.im c) := fun c => by cases mu <;> trivial
  refine Assign_Tuple_swapped (he.run s _ _ F fun y s₁ g r => ?_) h4 h5
  obtain ⟨tA, vs, rfl, _, ht, hv, _⟩ := r
  match vs, hv with
  | [u, v], hv =>
    have F₁ := F.goes g
    refine wpAny_unpackItems_tuple (items := #[u, v]) hh ht fun h' hx => ?_
    have g : Go C.w C.mg C.mb C.t s₁ { s₁ with heap := h' } := Go.keep (tk := s₁.toks) F₁.go.base fun b o e => hx b o (Nat.ne_of_lt (Heap.lt_size e)) e
    exact wpAny_assignInOrder_more (wpAny_bindName (storeX sg (F₁.goes g) hst (v := .im b) hv.2.1 (kp b) ho2 fun s₂ sg₂ F₂ _ => wpAny_assignInOrder_more (wpAny_bindName (storeX sg₂ F₂ hst2 (v := .im a) hv.1 (kp a) ho fun s₃ sg₃ F₃ _ => wpAny_assignInOrder_none (hq .next s₃ ⟨_, _, sg₃, F₃, h⟩)))))
  | [], hv => exact hv.elim
  | [_], hv => exact hv.2.elim
  | _ :: _ :: _ :: _, hv => exact hv.2.2.elim⟩
theorem X1.aug {x : Str} {px pos : Pos} {op : PySem.Operator} {e : PySem.Expr} {a v c : MV} (hx : Has (C.P σ mu).σ x a) (he : EvT C.A (C.P σ mu) e v) (ho : ∀ (w : World) (mg mb : Str → Option Value) (s : Shared) (x y : Value) (Q : Value → Shared → Prop) (E : Value → Shared → Prop), Base w mg mb s.heap → MRel [] s.heap a x → MRel [] s.heap v y →
    (∀ z s', Go w mg mb false s s' → MRel [] s'.heap c z → Q z s') → wpAny (model PG w) C.A (inplaceOp op x y) Q E s) (hst : St σ x c σ') (hk : Keepable mu c) (ho1 : offMu mu x) (h : Φ (.next σ' mu)) (h1 : (x == Str.ofString "__classdict__") = false := by decide) : X1 C σ mu (.AugAssign (.Name x px) op e pos) Φ := ⟨fun sg s Q E F hq => by
  have main : ∀ y, MRel [] s.heap a y → wpAny (model PG C.w) C.A (eval e C.env) (fun v s₂ => wpAny (model PG C.w) C.A (inplaceOp op y v) (fun r s₃ => wpAny (model PG C.w) C.A (storeName C.env x r) (fun _ => Q .next) E s₃) E s₂) E s := fun y r =>
    he.run s _ _ F fun z s₁ g₁ r₁ => ho C.w C.mg C.mb s₁ y z _ _ g₁.base (g₁.mrel F.go.base r) r₁ fun u s₂ g₂ r₂ => storeX sg ((F.goes g₁).goes g₂.weak) hst r₂ hk ho1 fun s₃ sg₃ F₃ _ => hq .next s₃ ⟨_, _, sg₃, F₃, h⟩
  obtain ⟨y, r, hh⟩ := (C.P σ mu).rd F hx
  refine wpAny_AugAssign_Name ?_
  rcases hh with ⟨k, m, n, e⟩ | ⟨k | k, c, n, e⟩
  · exact wpAny_loadName_local C.st.fn k n e (main y r)
  · exact wpAny_loadName_cell C.st.fn k n e (main y r)
  · exact wpAny_loadName_free C.st.fn k n e (main y r) h1⟩
theorem X1.ret {pos : Pos} {e : PySem.Expr} {v : MV} (he : EvT C.A (C.P σ mu) e v) (h : Φ (.ret v mu)) : X1 C σ mu (.Return (some e) pos) Φ := ⟨fun sg s Q E F hq =>
  wpAny_Return_some (he.run s _ _ F fun y s₁ g r => hq (.ret y) s₁ ⟨v, mu, r, F.go.trans g, fun p hp => let P := (F.goes g).prs p hp; ⟨P.get, P.dict, P.cell, P.cls, by simp⟩, (F.goes g).mus.at, h⟩)⟩
theorem X1.ret0 {pos : Pos} (h : Φ (.ret .none mu)) : X1 C σ mu (.Return Option.none pos) Φ := ⟨fun sg s Q E F hq =>
  wpAny_Return_none (hq _ s ⟨.none, mu, MRel.ofNone, F.go, fun p hp => let P := F.prs p hp; ⟨P.get, P.dict, P.cell, P.cls, by simp⟩, F.mus.at, h⟩)⟩
theorem X1.ite {pos : Pos} {test : PySem.Expr} {body orelse : List Stmt} {b : Bool} (ht : EvC C.A (C.P σ mu) test b) (h1 : b = true → XS C σ mu body Φ) (h2 : b = false → XS C σ mu orelse Φ) : X1 C σ mu (.If test body orelse pos) Φ := ⟨fun sg s Q E F hq =>
  wpAny_If (ht.run s _ _ F fun s₁ g => by
    cases b with
    | true => exact (h1 rfl).run sg s₁ Q E (F.goes g) hq
    | false => exact (h2 rfl).run sg s₁ Q E (F.goes g) hq)⟩
end
-- part L8
open PySem PySem.W PyProof.Rows PySem.Calls
set_option maxHeartbeats 1000000
theorem len0 {P : List Value → Prop} (h : P []) (xs : List Value) (e : xs.length = 0) : P xs := by
  cases xs with
  | nil => exact h
  | cons => cases e
theorem len1 {P : List Value → Prop} (h : ∀ a, P [a]) (xs : List Value) (e : xs.length = 1) : P xs := by
  cases xs with
  | nil => cases e
  | cons a r => exact len0 (P := fun r => P (a :: r)) (h a) r (Nat.succ.inj e)
theorem len2 {P : List Value → Prop} (h : ∀ a b, P [a, b]) (xs : List Value) (e : xs.length = 2) : P xs := by
  cases xs with
  | nil => cases e
  | cons a r => exact len1 (P := fun r => P (a :: r)) (h a) r (Nat.succ.inj e)
theorem len3 {P : List Value → Prop} (h : ∀ a b c, P [a, b, c]) (xs : List Value) (e : xs.length = 3) : P xs := by
  cases xs with
  | nil => cases e
  | cons a r => exact len2 (P := fun r => P (a :: r)) (h a) r (Nat.succ.inj e)
theorem len4 {P : List Value → Prop} (h : ∀ a b c d, P [a, b, c, d]) (xs : List Value) (e : xs.length = 4) : P xs := by
  cases xs with
  | nil => cases e
  | cons a r => exact len3 (P := fun r => P (a :: r)) (h a) r (Nat.succ.inj e)
structure OkA (A : Around) (d u : Nat) : Prop where
  hd : A.handled = none
  dp : A.depth + d < recursionLimit
  un : A.units + u < cLine
theorem OkA.deeper {A : Around} {d u : Nat} (x : OkA A (d + 1) (u + 3)) (env : Env) : OkA (A.deeper env) d u := by
  refine ⟨x.hd, ?_, ?_⟩
  · have := x.dp
    show A.depth + 1 + d < _
    (first | lia | omega)
  · have := x.un
    show A.units + 3 + u < _
    (first | lia | omega)
theorem OkA.le {A : Around} {d u d' u' : Nat} (x : OkA A d u) (h1 : d' ≤ d) (h2 : u' ≤ u) : OkA A d' u' := ⟨x.hd, by have := x.dp; (first | lia | omega), by have := x.un; (first | lia | omega)⟩
noncomputable def initS (names : List (Str × NameKind)) (ps : List Str) (vs : List MV) : List Ent := names.map fun p => (p.1, p.2, (ps.zip vs).lookup p.1)
theorem initS_has : ∀ {names : List (Str × NameKind)} {ps : List Str} {vs : List MV} {x : Str} {v : MV}, Has (initS names ps vs) x v → (ps.zip vs).lookup x = some v := by
  intro names ps vs x v h
  generalize e : initS names ps vs = σ at h
  induction h generalizing names with
  | here => 
    cases names with
    | nil => cases e
    | cons p r =>
      simp only [initS, List.map_cons, List.cons.injEq, Prod.mk.injEq] at e
      obtain ⟨⟨rfl, -, h⟩, -⟩ := e
      exact h
  | there h ih =>
    cases names with
    | nil => cases e
    | cons p r =>
      simp only [initS, List.map_cons, List.cons.injEq] at e
      exact ih e.2
theorem zip_lookup : ∀ {ps : List Str} {vs : List MV} {xs : List Value} {h : Heap} {x : Str} {v : MV}, MRels [] h vs xs → (ps.zip vs).lookup x = some v → ∃ y, (ps.zip xs).lookup x = some y ∧ MRel [] h v y
  | [], _, _, _, _, _, _, e => by cases e
  | _ :: _, [], _, _, _, _, _, e => by cases e
  | p :: ps, a :: vs, y :: xs, h, x, v, r, e => by
    rw [List.zip_cons_cons, List.lookup_cons] at e ⊢
    cases hb : x == p with
    | true => rw [hb] at e; cases e; exact ⟨y, rfl, r.1⟩
    | false => rw [hb] at e; exact zip_lookup r.2 e
  | _ :: _, _ :: _, [], _, _, _, r, _ => r.elim
theorem lookup_reverse {α : Type} : ∀ {l : List (Str × α)} {x : Str} {v : α}, (l.map (·.1)).Nodup → l.lookup x = some v → l.reverse.lookup x = some v := by
  intro l x v nd e
  have hm := mem_of_lookup e
  have key : ∀ (l : List (Str × α)), (l.map (·.1)).Nodup → (x, v) ∈ l → l.lookup x = some v := by
    intro l
    induction l with
    | nil => intro _ h; cases h
    | cons p r ih =>
      intro nd h
      rw [List.map_cons, List.nodup_cons] at nd
      rcases List.mem_cons.mp h with rfl | h
      · simp [List.lookup_cons]
      · rw [List.lookup_cons]
        have : (x == p.1) = false := by
          simp only [beq_eq_false_iff_ne, ne_eq]
          intro q
          exact nd.1 (List.mem_map.mpr ⟨_, h, q⟩)
        rw [this]; exact ih nd.2 h
  refine key _ ?_ (List.mem_reverse.mpr hm)
  rw [List.map_reverse]
  exact List.pairwise_reverse.mpr (nd.imp fun h => Ne.symm h)
noncomputable def sigB (env : Env) (σ : List Ent) : Bool := σ.all fun p => env.kindOf p.1 == some p.2.1 && (p.2.1 == .local || (p.2.1 == .cell && (env.cells.lookup p.1).isSome) || p.2.1 == .free)
noncomputable def ndB : List Ent → Bool
  | [] => true
  | p :: r => r.all (fun q => !(q.1 == p.1)) && ndB r
theorem ndB_out : ∀ {σ : List Ent}, ndB σ = true → (σ.map (·.1)).Nodup
  | [], _ => List.nodup_nil
  | p :: r, h => by
    rw [ndB, Bool.and_eq_true] at h
    rw [List.map_cons, List.nodup_cons]
    refine ⟨fun hm => ?_, ndB_out h.2⟩
    obtain ⟨q, hq, e⟩ := List.mem_map.mp hm
    have := List.all_eq_true.mp h.1 q hq
    rw [e] at this
    simp at this
theorem SigOk.of {env : Env} {σ : List Ent} (h1 : ndB σ = true) (h2 : sigB env σ = true) : SigOk env σ := ⟨ndB_out h1, fun p hp => by
  have := List.all_eq_true.mp h2 p hp
  rw [Bool.and_eq_true] at this
  refine ⟨by simpa using this.1, ?_⟩
  have h := this.2
  simp only [Bool.or_eq_true, Bool.and_eq_true, beq_iff_eq] at h
  rcases h with (h | h) | h
  · exact .inl h
  · exact .inr (.inl h)
  · exact .inr (.inr h)⟩
noncomputable def RetIs (c : MV) : Fl → Prop
  | .ret v _ => v = c
  | .next _ _ => c = .none
  | _ => False
theorem codeRec_35 {h : Heap} {c : Addr} {q : Str} {P : Params} {oc : Value} {od : Option Addr} {sl : Array (Option Value)} {vs : Array Value} {t : Tok} (X : (kHp P).In h) (e : (kHp P).lookup c = some ⟨oc, od, .fields vs, sl⟩) (h1 : vs[1]? = some (.str q t)) : h.CodeRec (.ref c) q := ⟨c, _, vs, t, rfl, X _ _ e, rfl, h1⟩
/-- a def of the text's, its frame without cells -/
structure DefOk (f : Addr) (fd : FuncData) (body : List Stmt) (ps : List Str) : Prop where
  fn : ∀ w, isFn w f fd
  code : ∀ (w : World) (h : Heap), (kHp w.params).In h → h.CodeRec fd.code fd.qualname
  body : fd.body = .stmts body
  bind : ∀ xs : List Value, xs.length = ps.length → bindArgs fd ⟨xs, []⟩ = pure (ps.zip xs)
  nd : ps.Nodup
  cells : (fd.scope.names.all fun x => x.2 != .cell) = true
  clo : fd.closure = []
  loc : (ps.all fun x => fd.scope.names.lookup x == some .local) = true
  co : fd.scope.isCoroutine = false
  gen : fd.scope.isGenerator = false
  kind : fd.scope.kind = .function
  glob : fd.globals = mainGlobals
  blt : fd.builtins = builtinsNs
theorem DefOk.st {f : Addr} {fd : FuncData} {body : List Stmt} {ps : List Str} (D : DefOk f fd body ps) (L : Addr) : EnvStat (callEnv fd L f) :=
  ⟨D.kind, D.glob, D.blt, by show fd.closure.Pairwise _; rw [D.clo]; exact List.Pairwise.nil⟩
theorem mrels_length : ∀ {X : List Addr} {h : Heap} {vs : List MV} {xs : List Value}, MRels X h vs xs → xs.length = vs.length
  | _, _, [], [], _ => rfl
  | _, _, _ :: _, _ :: _, r => by simp [mrels_length r.2]
  | _, _, [], _ :: _, r => r.elim
  | _, _, _ :: _, [], r => r.elim
theorem FS.start {w : World} {mg mb : Str → Option Value} {t : Bool} {s : Shared} {fd : FuncData} {f : Addr} {ps : List Str} {vs : List MV} {xs : List Value} {σ : List Ent} (B : Base w mg mb s.heap) (hclo : fd.closure = []) (hnd : ps.Nodup) (hlen : vs.length = ps.length) (r : MRels [] s.heap vs xs)
    (hσ : ∀ x v, Has σ x v → (ps.zip vs).lookup x = some v) (hloc : ∀ x ∈ ps, fd.scope.names.lookup x = some .local) {h₀ : Heap} {tk : Nat} (hn : h₀.Ns s.heap.objs.size (fun x => (ps.zip xs).reverse.lookup x)) (hk : ∀ b o, s.heap.get? b = some o → h₀.get? b = some o) :
    FS w mg mb t s [] (callEnv fd s.heap.objs.size f) σ none { s with heap := h₀, toks := tk } := by
  have g : Go w mg mb t s { s with heap := h₀, toks := tk } := Go.keep B hk
  have hxl := mrels_length r
  refine ⟨B, g, ⟨_, hn⟩, fun x v hx => ?_, trivial, Heap.get?_none_of_le (Nat.le_refl _), fun x c hc => ?_, fun x c _ hc => ?_, fun p hp => by cases hp⟩
  · have e := hσ x v hx
    obtain ⟨y, e', ry⟩ := zip_lookup r e
    have hmem : x ∈ ps := by
      have := mem_of_lookup e
      exact (List.of_mem_zip this).1
    refine ⟨y, g.mrel B ry, .inl ⟨hloc x hmem, _, hn, ?_⟩⟩
    refine lookup_reverse ?_ e'
    rw [List.map_fst_zip (by (first | lia | omega))]
    exact hnd
  · have : (fd.closure).lookup x = some c := hc
    rw [hclo] at this; cases this
  · have : (fd.closure).lookup x = some c := hc
    rw [hclo] at this; cases this
theorem CalV.ofDef {t : Bool} {A : Around} {f : Addr} {fd : FuncData} {body : List Stmt} {ps : List Str} {vs : List MV} {c : MV} {σ : List Ent} (D : DefOk f fd body ps) (hroom : A.depth < recursionLimit) (hlen : vs.length = ps.length)
    (hσ : initS (fd.scope.names.filter fun p => p.2 == .local) ps vs = σ) (hsg : ndB σ = true) (hsk : sigB (callEnv fd 0 f) σ = true)
    (hb : ∀ (w : World) (mg mb : Str → Option Value) (s : Shared) (L : Addr), XS ⟨w, mg, mb, t, A.deeper (callEnv fd L f), s, [], callEnv fd L f, D.st L⟩ σ none body (RetIs c)) : CalV t A (.ref f) vs c := by
  constructor
  intro w mg mb s xs Q E B r h
  obtain ⟨oc, od, sl, hf⟩ := D.fn w
  have hcell : ∀ x ∈ fd.scope.names, x.2 ≠ .cell := fun x hx => by simpa using List.all_eq_true.mp D.cells x hx
  have hloc : ∀ x ∈ ps, fd.scope.names.lookup x = some .local := fun x hx => by simpa using List.all_eq_true.mp D.loc x hx
  have hxl := mrels_length r
  refine wpAny_call (codeAny_call_def hroom (B.K _ _ hf) rfl B.lim (D.code w _ B.K) D.body (BindsTo.of_eq (D.bind xs (by (first | lia | omega)))) hcell (fun x hx => hloc _ (List.of_mem_zip hx).1) (fun h₀ hn hk => ?_) D.co D.gen D.kind)
  have F := FS.start (t := t) (tk := s.toks + (ps.zip xs).length) (f := f) B D.clo D.nd hlen r (σ := σ) (fun x v hx => initS_has (hσ ▸ hx)) hloc hn hk
  have sg : SigOk (callEnv fd s.heap.objs.size f) σ := SigOk.of hsg hsk
  refine (hb w mg mb s s.heap.objs.size).run sg _ _ _ F fun fl s' hf => ?_
  cases fl with
  | next =>
    obtain ⟨σ', mu', _, F', e⟩ := hf
    have e' : c = .none := e
    exact h _ _ F'.go (e' ▸ MRel.ofNone)
  | ret y =>
    obtain ⟨v, _, rv, g, _, _, e⟩ := hf
    have e' : v = c := e
    exact h y s' g (e' ▸ rv)
  | brk => obtain ⟨_, _, _, _, e⟩ := hf; exact e.elim
  | cont => obtain ⟨_, _, _, _, e⟩ := hf; exact e.elim
theorem mrels1 {X : List Addr} {h : Heap} {a : MV} {xs : List Value} (r : MRels X h [a] xs) : ∃ u, xs = [u] ∧ MRel X h a u := by
  cases xs with
  | nil => exact r.elim
  | cons u r' => cases r' with
    | nil => exact ⟨u, rfl, r.1⟩
    | cons => exact r.2.elim
theorem mrels2 {X : List Addr} {h : Heap} {a b : MV} {xs : List Value} (r : MRels X h [a, b] xs) : ∃ u v, xs = [u, v] ∧ MRel X h a u ∧ MRel X h b v := by
  cases xs with
  | nil => exact r.elim
  | cons u r' => obtain ⟨v, rfl, q⟩ := mrels1 r.2; exact ⟨u, v, rfl, r.1, q⟩
theorem mrels3 {X : List Addr} {h : Heap} {a b c : MV} {xs : List Value} (r : MRels X h [a, b, c] xs) : ∃ u v z, xs = [u, v, z] ∧ MRel X h a u ∧ MRel X h b v ∧ MRel X h c z := by
  cases xs with
  | nil => exact r.elim
  | cons u r' => obtain ⟨v, z, rfl, q⟩ := mrels2 r.2; exact ⟨u, v, z, rfl, r.1, q⟩
-- part L9
open PySem PySem.W PyProof.Rows PySem.Calls
set_option maxHeartbeats 1000000
noncomputable abbrev S (x : String) : Str := Str.ofString x
noncomputable def noParams : Params := ⟨fun _ => 0, fun _ => 0, fun x => x, fun _ => 0, fun _ _ => 0, fun _ => false, fun _ => 0, .refcount, .text, fun _ => 0, fun _ => none, fun _ => false, fun _ _ _ => true, fun _ young a => decide (a ≥ young), true, fun _ => false, fun _ => none, fun _ => none, fun _ _ _ => 0, fun _ _ => none, fun _ => none, fun _ => (0, false, Str.ofString "UTC"), fun _ => none, fun d => d, fun _ => false⟩
noncomputable def fdOf (f : Addr) : FuncData := match (kHp noParams).lookup f with
  | some ⟨_, _, .func fd, _⟩ => fd
  | _ => ⟨S "", S "", ⟨[], [], none, [], [], none, []⟩, .stmts [], ⟨.function, [], false, false, []⟩, 0, [], .none, .none, .none, .none, none, .none, .none, 0⟩
noncomputable def scOf (f : Addr) : Scope := (fdOf f).scope
section
variable {C : Cx} {σ : List Ent} {mu : Mu} {Φ : Fl → Prop}
theorem EvT.nm {x : Str} {pos : Pos} {v : MV} (hx : Has σ x v) (h1 : (x == Str.ofString "__debug__") = false := by decide) (h2 : (x == Str.ofString "__classdict__") = false := by decide) : EvT C.A (C.P σ Option.none) (.Name x pos) v := EvT.name (P := C.P σ Option.none) hx h1 h2
theorem EvT.nmM {x y : Str} {a : Addr} {vs : List IV} {pos : Pos} {v : MV} (hx : Has σ x v) (h1 : (x == Str.ofString "__debug__") = false := by decide) (h2 : (x == Str.ofString "__classdict__") = false := by decide) : EvT C.A (C.P σ (some (y, a, vs))) (.Name x pos) v := EvT.name (P := C.P σ (some (y, a, vs))) (.there hx) h1 h2
theorem EvT.nmL {x : Str} {a : Addr} {vs : List IV} {pos : Pos} (h1 : (x == Str.ofString "__debug__") = false := by decide) (h2 : (x == Str.ofString "__classdict__") = false := by decide) : EvT C.A (C.P σ (some (x, a, vs))) (.Name x pos) (.list vs) := EvT.name (P := C.P σ (some (x, a, vs))) .here h1 h2
theorem Seq.next {rest : List Stmt} (h : XS C σ mu rest Φ) : Seq C rest Φ (.next σ mu) := h
theorem Seq.ret {rest : List Stmt} {v : MV} (h : Φ (.ret v mu)) : Seq C rest Φ (.ret v mu) := h
theorem Seq.brk {rest : List Stmt} (h : Φ (.brk σ mu)) : Seq C rest Φ (.brk σ mu) := h
theorem Seq.cont {rest : List Stmt} (h : Φ (.cont σ mu)) : Seq C rest Φ (.cont σ mu) := h
theorem RetIs.ret {c v : MV} (h : v = c) : v = c := h
theorem Keepable.no {v : MV} : Keepable none v := trivial
theorem Keepable.imm {mu : Mu} {v : IV} : Keepable mu (.im v) := by cases mu <;> trivial
theorem offMu.no {x : Str} : offMu none x := trivial
theorem offMu.dif {x y : Str} {a : Addr} {vs : List IV} (h : (y == x) = false := by decide) : offMu (some (y, a, vs)) x := by
  show y ≠ x
  simpa using h
end
section
variable {w : World} {mg mb : Str → Option Value} {t : Bool} {A : Around} {P : SP w mg mb t}
theorem CalV.lower {x : Str} (hl : (Txt.lower x).length ≤ cap) : CalV t A (.builtin "str.lower") [.str x] (.str (Txt.lower x)) := by
  constructor; intro w mg mb s xs Q E B r h
  obtain ⟨u, rfl, ru⟩ := mrels1 r
  · have l : x.length ≤ 1024 := ru.2
    obtain ⟨t, rfl⟩ := IRel.str ru
    exact SCL.lower (by (first | lia | omega)) fun _ => h _ _ (Go.tok B) (MRel.ofStr _ _ hl)
theorem EvT.lower {o : PySem.Expr} {apos pos : Pos} {x : Str} (ho : EvT A P o (.str x)) (hl : (Txt.lower x).length ≤ cap)
    (hb : attributeBase o (Str.ofString "lower") P.env (eval o P.env) = eval o P.env := by rfl) (hq : ((((backTo pos (starEach [] P.env)).all fun x => !x.1) && (backToKw pos (keywordEach [] P.env)).all fun x => x.1.isSome) && decide ((([] : List PySem.Expr).length + ([] : List Keyword).length + if ([] : List Keyword).isEmpty = true then 0 else 1) < 30)) = true := by rfl)
    (hln : (apos.endLine == pos.line) = true := by rfl) : EvT A P (.Call (.Attribute o (Str.ofString "lower") apos) [] [] pos) (.str (Txt.lower x)) :=
  EvT.meth0 ho str_type im_ref F.plainAttrs_str F.slot_str_lower (CalV.lower hl) hb hq hln F.type_str_lower
end
-- part L10
open PySem PySem.W PyProof.Rows PySem.Calls
set_option maxHeartbeats 1000000
inductive Wk : List Ent → List Ent → Prop
  | nil : Wk [] []
  | keep {p σ τ} : Wk σ τ → Wk (p :: σ) (p :: τ)
  | drop {x k o σ τ} : Wk σ τ → Wk ((x, k, o) :: σ) ((x, k, none) :: τ)
theorem Wk.has {σ τ : List Ent} (h : Wk σ τ) : ∀ {x : Str} {v : MV}, Has τ x v → Has σ x v := by
  induction h with
  | nil => exact id
  | @keep p σ τ h ih =>
    intro x v q
    obtain ⟨y, k, o⟩ := p
    rcases has_cons q with ⟨rfl, rfl⟩ | q
    · exact .here
    · exact .there (ih q)
  | drop h ih =>
    intro x v q
    rcases has_cons q with ⟨_, e⟩ | q
    · cases e
    · exact .there (ih q)
theorem Wk.names {σ τ : List Ent} (h : Wk σ τ) : τ.map (·.1) = σ.map (·.1) := by
  induction h with
  | nil => rfl
  | keep h ih => rw [List.map_cons, List.map_cons, ih]
  | drop h ih => rw [List.map_cons, List.map_cons, ih]
theorem Wk.kinds {σ τ : List Ent} (h : Wk σ τ) : ∀ p ∈ τ, ∃ o, (p.1, p.2.1, o) ∈ σ := by
  induction h with
  | nil => intro p h; cases h
  | keep h ih =>
    intro p hp
    rcases List.mem_cons.mp hp with rfl | hp
    · exact ⟨_, .head _⟩
    · obtain ⟨o, e⟩ := ih p hp; exact ⟨o, .tail _ e⟩
  | drop h ih =>
    intro p hp
    rcases List.mem_cons.mp hp with rfl | hp
    · exact ⟨_, .head _⟩
    · obtain ⟨o, e⟩ := ih p hp; exact ⟨o, .tail _ e⟩
theorem Wk.refl : ∀ (σ : List Ent), Wk σ σ
  | [] => .nil
  | _ :: σ => .keep (Wk.refl σ)
theorem SigOk.wk {env : Env} {σ τ : List Ent} (k : SigOk env σ) (h : Wk σ τ) : SigOk env τ :=
  ⟨by rw [h.names]; exact k.nd, fun p hp => by obtain ⟨o, e⟩ := h.kinds p hp; exact k.kinds (p.1, p.2.1, o) e⟩
/-- what all the values of a frame have -/
inductive AllV (p : Str → MV → Prop) : List Ent → Prop
  | nil : AllV p []
  | none {x k σ} : AllV p σ → AllV p ((x, k, Option.none) :: σ)
  | some {x k v σ} : p x v → AllV p σ → AllV p ((x, k, Option.some v) :: σ)
theorem AllV.out {p : Str → MV → Prop} {σ : List Ent} (h : AllV p σ) : ∀ {x : Str} {v : MV}, Has σ x v → p x v := by
  induction h with
  | nil => intro x v q; cases q
  | none h ih =>
    intro x v q
    rcases has_cons q with ⟨_, e⟩ | q
    · cases e
    · exact ih q
  | some h1 h ih =>
    intro x v q
    rcases has_cons q with ⟨rfl, e⟩ | q
    · cases e; exact h1
    · exact ih q
section
variable {C : Cx} {σ τ : List Ent} {mu : Mu} {Φ : Fl → Prop} {s : Shared}
theorem FSx.wk {w : World} {mg mb : Str → Option Value} {t : Bool} {s₀ : Shared} {pr : Pr} {env : Env} (F : FS w mg mb t s₀ pr env σ mu s) (h : Wk σ τ) : FS w mg mb t s₀ pr env τ mu s :=
  ⟨F.b0, F.go, F.ns, fun x v hx => F.vars x v (h.has hx), F.mus, F.fresh, F.cells, F.own, F.prs⟩
theorem XS.wk {ss : List Stmt} (h : Wk σ τ) (x : XS C τ mu ss Φ) : XS C σ mu ss Φ := ⟨fun sg s Q E F hq => x.run (sg.wk h) s Q E (FSx.wk F h) hq⟩
theorem X1.wk {ss : Stmt} (h : Wk σ τ) (x : X1 C τ mu ss Φ) : X1 C σ mu ss Φ := ⟨fun sg s Q E F hq => x.run (sg.wk h) s Q E (FSx.wk F h) hq⟩
theorem X1.mono {st : Stmt} {Ψ : Fl → Prop} (x : X1 C σ mu st Φ) (h : ∀ fl, Φ fl → Ψ fl) : X1 C σ mu st Ψ := ⟨fun sg s Q E F hq => x.run sg s Q E F fun f s' hf => hq f s' (hf.mono h)⟩
/-- the end of a loop's turn -/
noncomputable def Turn (next : List Ent → Mu → Prop) (Φ : Fl → Prop) : Fl → Prop
  | .next σ mu => next σ mu
  | .cont σ mu => next σ mu
  | .brk σ mu => Φ (.next σ mu)
  | .ret v mu => Φ (.ret v mu)
theorem Turn.nx {next : List Ent → Mu → Prop} (h : next σ mu) : Turn next Φ (.next σ mu) := h
theorem Turn.rt {next : List Ent → Mu → Prop} {v : MV} (h : Φ (.ret v mu)) : Turn next Φ (.ret v mu) := h
theorem Turn.bk {next : List Ent → Mu → Prop} (h : Φ (.next σ mu)) : Turn next Φ (.brk σ mu) := h
theorem Turn.ct {next : List Ent → Mu → Prop} (h : next σ mu) : Turn next Φ (.cont σ mu) := h
structure ForInv {α : Type} (C : Cx) (xs : List IV) (σf : List IV → α → List Ent) (muf : α → Mu) (Inv : List IV → α → Prop) (St : Nat → Heap → Prop) (k : Nat) (s' : Shared) (i : Nat) (a : α) : Prop where
  le : i ≤ xs.length
  eq : k = xs.length + 1 - i
  inv : Inv (xs.drop i) a
  st : St i s'.heap
  sg : SigOk C.env (σf (xs.drop i) a)
  fs : C.FS (σf (xs.drop i) a) (muf a) s'
structure WhlInv {α : Type} (C : Cx) (σf : α → List Ent) (muf : α → Mu) (ms : α → Nat) (Inv : α → Prop) (n : Nat) (s : Shared) (a : α) : Prop where
  inv : Inv a
  eq : ms a = n
  sg : SigOk C.env (σf a)
  fs : C.FS (σf a) (muf a) s
theorem X1.whl {α : Type} (σf : α → List Ent) (muf : α → Mu) (ms : α → Nat) (Inv : α → Prop) (a₀ : α) {test : PySem.Expr} {body orelse : List Stmt} {pos : Pos} (h0 : Wk σ (σf a₀)) (hm : mu = muf a₀) (hi : Inv a₀)
    (turn : ∀ a, Inv a → ∃ b, EvC C.A (C.P (σf a) (muf a)) test b ∧ (b = true → XS C (σf a) (muf a) body (Turn (fun σ' mu' => ∃ a', Wk σ' (σf a') ∧ mu' = muf a' ∧ Inv a' ∧ ms a' < ms a) Φ)) ∧ (b = false → XS C (σf a) (muf a) orelse Φ)) :
    X1 C σ mu (.While test body orelse pos) Φ := ⟨fun sg s Q E F hq => by
  subst hm
  refine wpAny_While (codeAny_whileLoop (fun n s => ∃ a, WhlInv C σf muf ms Inv n s a) ?_ _ ⟨a₀, hi, rfl, sg.wk h0, FSx.wk F h0⟩)
  rintro n s₁ ⟨a, hi, rfl, sg, F⟩
  obtain ⟨b, hc, ht, hf⟩ := turn a hi
  refine hc.run s₁ _ _ F fun s₂ g => ?_
  cases b with
  | true =>
    refine (ht rfl).run sg s₂ _ _ (F.goes g) fun f s₃ hfl => ?_
    cases f with
    | next => obtain ⟨σ', mu', sg', F', a', hw, rfl, hi', hlt⟩ := hfl; exact ⟨_, hlt, a', hi', rfl, sg'.wk hw, FSx.wk F' hw⟩
    | cont => obtain ⟨σ', mu', sg', F', a', hw, rfl, hi', hlt⟩ := hfl; exact ⟨_, hlt, a', hi', rfl, sg'.wk hw, FSx.wk F' hw⟩
    | brk => obtain ⟨σ', mu', sg', F', h⟩ := hfl; exact hq .next s₃ ⟨σ', mu', sg', F', h⟩
    | ret y => obtain ⟨v, mu', r, g, p, m, h⟩ := hfl; exact hq (.ret y) s₃ ⟨v, mu', r, g, p, m, h⟩
  | false => exact (hf rfl).run sg s₂ _ _ (F.goes g) fun f s₃ hfl => hq f s₃ hfl⟩
noncomputable abbrev Cx.wp (C : Cx) (pr : Pr) : Cx := { C with pr := pr }
theorem Base.ext {w : World} {mg mb : Str → Option Value} {h₀ h h' : Heap} {a : Addr} (B₀ : Base w mg mb h₀) (B : Base w mg mb h) (hs : ∀ b o, b ≠ a → h.get? b = some o → h'.get? b = some o) (ha : h₀.get? a = none) (nc : NotCode h a) : Base w mg mb h' := by
  have ne : ∀ {b o}, h₀.get? b = some o → b ≠ a := fun e q => by rw [q, ha] at e; cases e
  have nsne : ∀ {b m}, h₀.Ns b m → b ≠ a := fun n => let ⟨_, _, _, e, _⟩ := n; ne e
  have xb : Heap.ExtBut a h h' := fun b o hb e => hs b o hb e
  have tab : ∀ {c P q pos}, TabOk h₀ c P q pos → TabOk h c P q pos → TabOk h' c P q pos := fun T₀ T => by
    obtain ⟨⟨_, e1⟩, ⟨_, e2⟩⟩ := T₀.there
    obtain ⟨⟨o, vs, file, tf, flags, tg, inF, text, tt, e, r⟩, ps, e2', r2, u⟩ := T
    exact ⟨⟨o, vs, file, tf, flags, tg, inF, text, tt, hs _ _ (ne e1) e, r⟩, ps, hs _ _ (ne e2) e2', r2, fun cv hc => (u cv hc).but nc hs⟩
  refine ⟨fun b o e => hs _ _ (ne (B₀.K b o e)) (B.K b o e), B.g.extBut xb (nsne B₀.g), B.b.extBut xb (nsne B₀.b), ?_, B.bi, tab B₀.t30 B.t30, tab B₀.t37 B.t37, ?_⟩
  · obtain ⟨mc, n, _⟩ := B₀.lim
    · exact B.lim.extBut xb (nsne n)
  · obtain ⟨bm, ob, e1, e2, e3, r⟩ := B.bm
    obtain ⟨bm', ob', e1', e2', e3', r'⟩ := B₀.bm
    rw [e1] at e1'; cases e1'
    exact ⟨bm, ob, e1, e2, hs _ _ (ne e3') e3, r⟩
/-- an object of another make is changed (an iterator) -/
theorem FS.ext {w : World} {mg mb : Str → Option Value} {t : Bool} {s₀ : Shared} {pr pr' : Pr} {env : Env} (F : FS w mg mb t s₀ pr env σ mu s) {h' : Heap} {tk : Nat} {a : Addr} (hs : ∀ b o, b ≠ a → s.heap.get? b = some o → h'.get? b = some o) (ha : s₀.heap.get? a = none)
    (hd : ∀ o, s.heap.get? a = some o → ∃ vs, o.data = .fields vs) (hcc : ∀ o, s.heap.get? a = some o → o.cls ≠ .type "code") (hp : ∀ p ∈ pr', p ∈ pr ∧ p.1 ≠ a) : FS w mg mb t s₀ pr' env σ mu { s with heap := h', toks := tk } := by
  have ne : ∀ {b o}, s.heap.get? b = some o → (∀ vs, o.data ≠ .fields vs) → b ≠ a := fun e h q => by
    subst q; obtain ⟨vs, x⟩ := hd _ e; exact h vs x
  have hmr : ∀ {X v y}, MRel X s.heap v y → MRel X h' v y := fun {X v y} r => by
    cases v with
    | im a => exact r
    | fn a => exact r
    | list l =>
      obtain ⟨b, vs, e, hx, ⟨n, ho⟩, r⟩ := r
      exact ⟨b, vs, e, hx, ⟨n, hs _ _ (ne ho (by intro vs q; cases q)) ho⟩, r⟩
    | tup l =>
      obtain ⟨b, vs, e, hx, ⟨o, ho, hc, n, hd⟩, r⟩ := r
      exact ⟨b, vs, e, hx, ⟨o, hs _ _ (ne ho (by rw [hd]; intro vs q; cases q)) ho, hc, n, hd⟩, r⟩
  have hns : ∀ {b m}, s.heap.Ns b m → h'.Ns b m := fun ⟨o, es, ep, e, d, r⟩ => ⟨o, es, ep, hs _ _ (ne e (by rw [d]; intro vs q; cases q)) e, d, r⟩
  have hcl : ∀ {b v}, s.heap.IsCell b v → h'.IsCell b v := fun ⟨o, e, d⟩ => ⟨o, hs _ _ (ne e (by rw [d]; intro vs q; cases q)) e, d⟩
  have hho : ∀ {x y}, HoldsAt env s.heap x y → HoldsAt env h' x y := fun h => by
    rcases h with ⟨k, m, n, e⟩ | ⟨k, c, n, e⟩
    · exact .inl ⟨k, m, hns n, e⟩
    · exact .inr ⟨k, c, n, hcl e⟩
  refine ⟨F.b0, ⟨fun b o hb e => hs _ _ (fun q => by rw [q, ha] at e; cases e) (F.go.ext b o hb e), Base.ext F.b0 F.go.base hs ha (fun o e => .inl (hcc o e)), F.go.gens, F.go.drawn, F.go.os⟩, let ⟨m, n⟩ := F.ns; ⟨m, hns n⟩,
    fun x v hx => let ⟨y, r, q⟩ := F.vars x v hx; ⟨y, hmr r, hho q⟩, ?_, F.fresh, fun x c hc => let ⟨v, e⟩ := F.cells x c hc; ⟨v, hcl e⟩, F.own, fun p hp' => ?_⟩
  · have := F.mus
    match mu, this with
    | none, _ => trivial
    | some (x', b, vs), ⟨h1, ⟨ys, h2, h3⟩, h4, h5⟩ =>
      obtain ⟨n, e⟩ := h2
      exact ⟨hho h1, ⟨ys, ⟨n, hs _ _ (ne e (by intro vs q; cases q)) e⟩, h3⟩, h4, h5⟩
  · obtain ⟨hm, hne⟩ := hp p hp'
    have P := F.prs p hm
    exact ⟨hs _ _ hne P.get, P.dict, P.cell, P.cls, P.off⟩
theorem FS.setPr {w : World} {mg mb : Str → Option Value} {t : Bool} {s₀ : Shared} {pr pr' : Pr} {env : Env} (F : FS w mg mb t s₀ pr env σ mu s) (hp : ∀ p ∈ pr', PrOk (muX mu) s.heap p) : FS w mg mb t s₀ pr' env σ mu s :=
  ⟨F.b0, F.go, F.ns, F.vars, F.mus, F.fresh, F.cells, F.own, hp⟩
/-- an iterator of xs; its objects -/
structure ItIs (w : World) (A : Around) (X : List Addr) (h : Heap) (it : Addr) (fp : List Addr) (xs : List IV) (P : Nat → Value → Prop) (St : Nat → Heap → Prop) : Prop where
  W : Walks PG w A it fp [it] xs.length P St
  st : St 0 h
  val : ∀ i v, P i v → ∃ a, xs[i]? = some a ∧ IRel a v
  ok : ∀ i h, St i h → ∀ b ∈ fp, ∃ o, h.get? b = some o ∧ (∀ es n, o.data ≠ .dict es n) ∧ (∀ v, o.data ≠ .cell v) ∧ o.cls ≠ .none
  fl : ∀ i h, St i h → ∀ o, h.get? it = some o → (∃ vs, o.data = .fields vs) ∧ o.cls ≠ .type "code"
  off : ∀ b ∈ fp, b ∉ X
  mem : it ∈ fp
structure EvI {w : World} {mg mb : Str → Option Value} {t : Bool} (A : Around) (P : SP w mg mb t) (X : List Addr) (iter : PySem.Expr) (xs : List IV) : Prop where
  run : ∀ (s : Shared) (Q : Value → Shared → Prop) (E : Value → Shared → Prop), P.p s →
    (∀ it s' fp P' St, Go w mg mb t s s' → ItIs w A X s'.heap it fp xs P' St → s.heap.get? it = none → Q (.ref it) s') →
    wpAny (model PG w) A (eval iter P.env) (fun x s₁ => wpAny (model PG w) A (pyIter x) Q E s₁) E s
theorem wpAny_letGo_name {x : Str} {px : Pos} {it v : Value} : letOwnedTupleGo (.Name x px) it v = pure () := rfl
theorem X1.for {α : Type} {x : Str} {px pos : Pos} {iter : PySem.Expr} {body orelse : List Stmt} {xs : List IV} (he : EvI C.A (C.P σ mu) (muX mu) iter xs) (σf : List IV → α → List Ent) (muf : α → Mu) (hX : ∀ a, muX (muf a) = muX mu) (Inv : List IV → α → Prop) (a₀ : α) (h0 : Wk σ (σf xs a₀)) (hm : mu = muf a₀) (hi : Inv xs a₀)
    (turn : ∀ v r a, Inv (v :: r) a → ∃ σ₁, Mine.St (σf (v :: r) a) x (.im v) σ₁ ∧ offMu (muf a) x ∧ ∀ pr, XS (C.wp pr) σ₁ (muf a) body (Turn (fun σ' mu' => ∃ a', Wk σ' (σf r a') ∧ mu' = muf a' ∧ Inv r a') Φ))
    (fin : ∀ a, Inv [] a → XS C (σf [] a) (muf a) orelse Φ) (hs : ∀ y, foldedSetIterable iter C.env y = pure y := by intro _; rfl) : X1 C σ mu (.For (.Name x px) iter body orelse pos) Φ := ⟨fun sg s Q E F hq => by
  subst hm
  refine wpAny_For (he.run s _ _ F fun it s₁ fp P St g I hn => ?_) hs
  have h₀it : C.s₀.heap.get? it = none := by
    cases e : C.s₀.heap.get? it with
    | none => rfl
    | some o =>
      have hne := I.off it I.mem
      by_cases hb : it ∈ tabs C.t
      · obtain ⟨ps, e'⟩ := F.go.base.tab_obj (tabs_le hb); rw [hn] at e'; cases e'
      · have := F.go.ext it o hb e; rw [hn] at this; cases this
  refine codeAny_forLoop (fun k s' => ∃ i a, ForInv C xs σf muf Inv St k s' i a) ?_ _
    ⟨0, a₀, Nat.zero_le _, rfl, by simpa using hi, I.st, by simpa using sg.wk h0, by simpa using (FSx.wk F h0).goes g⟩ (fun v => wpAny_letGo_name)
  rintro k s₂ ⟨i, a, hile, rfl, hinv, hst, sg₂, F₂⟩
  by_cases hlt : i < xs.length
  · refine I.W.item i s₂ _ _ hlt hst fun v h₃ tk₃ hP hst₃ hk₃ => ?_
    obtain ⟨b, hb, hr⟩ := I.val i v hP
    have hdrop : xs.drop i = b :: xs.drop (i + 1) := by
      obtain ⟨hl, he⟩ := List.getElem?_eq_some_iff.mp hb
      rw [← he]; exact List.drop_eq_getElem_cons hl
    rw [hdrop] at hinv sg₂ F₂
    obtain ⟨σ₁, hset, hoff, hbody⟩ := turn b _ a hinv
    have hitne : ∀ p ∈ C.pr, p.1 ≠ it := fun p hp q => by
      have := (F.prs p hp).get; rw [q, hn] at this; cases this
    have F₃ := F₂.ext (pr' := C.pr) (tk := tk₃) (a := it) (fun b o hb e => hk₃ b o (by simpa using hb) e) h₀it (fun o e => (I.fl i _ hst o e).1) (fun o e => (I.fl i _ hst o e).2) (fun p hp => ⟨hp, hitne p hp⟩)
    let gd : Pr := fp.filterMap fun b => (h₃.get? b).map fun o => (b, o)
    have hgd : ∀ b ∈ fp, ∀ o, h₃.get? b = some o → (b, o) ∈ gd := fun b hb o e => List.mem_filterMap.mpr ⟨b, hb, by rw [e]; rfl⟩
    have F₄ : FS C.w C.mg C.mb C.t C.s₀ (gd ++ C.pr) C.env (σf (b :: xs.drop (i + 1)) a) (muf a) { s₂ with heap := h₃, toks := tk₃ } := F₃.setPr fun p hp => by
      rcases List.mem_append.mp hp with hp | hp
      · obtain ⟨c, hc, e⟩ := List.mem_filterMap.mp hp
        obtain ⟨o, ho, d1, d2, d3⟩ := I.ok _ _ hst₃ c hc
        rw [ho] at e; cases e
        exact ⟨ho, d1, d2, d3, by rw [hX a]; exact I.off c hc⟩
      · exact F₃.prs p hp
    refine PySem.wpAny_assign_Name (storeX (C := C.wp (gd ++ C.pr)) sg₂ F₄ hset (v := .im b) hr Keepable.imm hoff fun s₅ sg₅ F₅ _ => ?_)
    refine (hbody (gd ++ C.pr)).run sg₅ s₅ _ _ F₅ fun f s₆ hf => ?_
    have back : ∀ {σ' mu'}, FS C.w C.mg C.mb C.t C.s₀ (gd ++ C.pr) C.env σ' mu' s₆ → C.FS σ' mu' s₆ ∧ St (i + 1) s₆.heap := fun F₆ =>
      ⟨F₆.setPr fun p hp => F₆.prs p (List.mem_append_right _ hp), I.W.frame _ _ _ hst₃ fun c hc o e => (F₆.prs _ (List.mem_append_left _ (hgd c hc o e))).get⟩
    cases f with
    | next =>
      obtain ⟨σ', mu', sg', F', a', hw, rfl, hi'⟩ := hf
      obtain ⟨F6, st6⟩ := back F'
      exact ⟨_, by (first | lia | omega), i + 1, a', hlt, rfl, hi', st6, sg'.wk hw, FSx.wk F6 hw⟩
    | cont =>
      obtain ⟨σ', mu', sg', F', a', hw, rfl, hi'⟩ := hf
      obtain ⟨F6, st6⟩ := back F'
      exact ⟨_, by (first | lia | omega), i + 1, a', hlt, rfl, hi', st6, sg'.wk hw, FSx.wk F6 hw⟩
    | brk =>
      obtain ⟨σ', mu', sg', F', h⟩ := hf
      exact hq .next s₆ ⟨σ', mu', sg', (back F').1, h⟩
    | ret y =>
      obtain ⟨v, mu', r, g, p, m, h⟩ := hf
      exact hq (.ret y) s₆ ⟨v, mu', r, g, fun q hq => p q (List.mem_append_right _ hq), m, h⟩
  · have hie : i = xs.length := by (first | lia | omega)
    subst hie
    rw [List.drop_length] at hinv sg₂ F₂
    have hitne : ∀ p ∈ C.pr, p.1 ≠ it := fun p hp q => by
      have := (F.prs p hp).get; rw [q, hn] at this; cases this
    refine I.W.done s₂ _ _ hst fun h₃ tk₃ hk₃ => ?_
    have F₃ := F₂.ext (pr' := C.pr) (tk := tk₃) (a := it) (fun b o hb e => hk₃ b o (by simpa using hb) e) h₀it (fun o e => (I.fl _ _ hst o e).1) (fun o e => (I.fl _ _ hst o e).2) (fun p hp => ⟨hp, hitne p hp⟩)
    exact (fin a hinv).run sg₂ _ _ _ F₃ fun f s' hf => hq f s' hf⟩
theorem ItIs.ofList {w : World} {A : Around} {X : List Addr} {h : Heap} {it l : Addr} {ys : List Value} {xs : List IV} (hh : A.handled = Option.none) (hit : h.IsListIter it l 0) (hl : h.IsList l ys.toArray) (hr : IRels xs ys) (hne : l ≠ it) (h1 : it ∉ X) (h2 : l ∉ X) :
    ItIs w A X h it [it, l] xs (fun i v => ys.toArray[i]? = some v) (fun i h => h.IsListIter it l i ∧ h.IsList l ys.toArray) where
  W := by
    have e : xs.length = ys.toArray.size := by rw [List.size_toArray]; exact hr.length
    rw [e]; exact Walks.list hh it l hne ys.toArray
  st := ⟨hit, hl⟩
  val := fun i v e => hr.get' i v (by simpa using e)
  ok := fun i h st b hb => by
    rcases List.mem_cons.mp hb with rfl | hb
    · obtain ⟨o, e, c, d⟩ := st.1
      exact ⟨o, e, (by rw [d]; intro _ _ q; cases q), (by rw [d]; intro _ q; cases q), (by rw [c]; intro q; cases q)⟩
    · rw [List.mem_singleton] at hb; subst hb
      obtain ⟨o, e, c, n, d⟩ := st.2
      exact ⟨o, e, (by rw [d]; intro _ _ q; cases q), (by rw [d]; intro _ q; cases q), (by rw [c]; intro q; cases q)⟩
  fl := fun i h st o e => by
    obtain ⟨o', e', c, d⟩ := st.1
    rw [e'] at e; cases e; exact ⟨⟨_, d⟩, by rw [c]; simp⟩
  off := fun b hb => by
    rcases List.mem_cons.mp hb with rfl | hb
    · exact h1
    · rw [List.mem_singleton] at hb; subst hb; exact h2
  mem := .head _
theorem ItIs.ofRange {w : World} {A : Around} {X : List Addr} {h : Heap} {it : Addr} {a c : Int} {n : Nat} (hh : A.handled = Option.none) (hit : IsRangeIter h it a n c) (h1 : it ∉ X) :
    ItIs w A X h it [it] ((List.range n).map fun (i : Nat) => IV.int (a + i * c)) (fun i v => i < n ∧ ∃ t, v = .int (a + i * c) t) (fun i h => IsRangeIter h it (a + (i : Nat) * c) ((n : Int) - (i : Nat)) c) where
  W := by
    have W := Walks.range (prog := PG) (w := w) hh it a c n
    rw [List.length_map, List.length_range]
    exact ⟨W.sub, W.frame, fun i s Q E hi st hQ => W.item i s Q E hi st fun v h' tk hp => hQ v h' tk ⟨hi, hp⟩, W.done, W.self⟩
  st := by simpa using hit
  val := fun i v e => by
    obtain ⟨hi, t, rfl⟩ := e
    exact ⟨.int (a + i * c), by simp [hi], IRel.ofInt _ _⟩
  ok := fun i h st b hb => by
    rw [List.mem_singleton] at hb; subst hb
    exact ⟨_, st, (by intro _ _ q; cases q), (by intro _ q; cases q), (by intro q; cases q)⟩
  fl := fun i h st o e => by
    have st' : h.get? it = _ := st
    rw [st'] at e; cases e; exact ⟨⟨_, rfl⟩, by simp⟩
  off := fun b hb => by rw [List.mem_singleton] at hb; subst hb; exact h1
  mem := .head _
theorem ItIs.ofRev {w : World} {A : Around} {X : List Addr} {h : Heap} {it l : Addr} {ys : List Value} {xs : List IV} (hh : A.handled = Option.none) (hit : h.IsRevIter it l ((ys.length : Int) - 1)) (hl : h.IsList l ys.toArray) (hr : IRels xs ys) (hne : l ≠ it) (h1 : it ∉ X) (h2 : l ∉ X) :
    ItIs w A X h it [it, l] xs.reverse (fun i v => i < ys.length ∧ ys.toArray[ys.toArray.size - 1 - i]? = some v) (fun i h => i ≤ ys.toArray.size ∧ h.IsRevIter it l ((ys.toArray.size : Int) - 1 - (i : Int)) ∧ h.IsList l ys.toArray) where
  W := by
    have e : xs.reverse.length = ys.toArray.size := by rw [List.size_toArray, List.length_reverse]; exact hr.length
    rw [e]
    have W := Walks.listRev (prog := PG) (w := w) hh it l hne ys.toArray
    exact ⟨W.sub, W.frame, fun i s Q E hi st hQ => W.item i s Q E hi st fun v h' tk hp => hQ v h' tk ⟨by simpa using hi, hp⟩, W.done, W.self⟩
  st := ⟨Nat.zero_le _, by simpa using hit, hl⟩
  val := fun i v e => by
    obtain ⟨hi, e⟩ := e
    refine hr.reverse.get' i v ?_
    rw [List.getElem?_reverse (by simpa using hi)]
    simpa using e
  ok := fun i h st b hb => by
    rcases List.mem_cons.mp hb with rfl | hb
    · obtain ⟨o, e, c, d⟩ := st.2.1
      exact ⟨o, e, (by rw [d]; intro _ _ q; cases q), (by rw [d]; intro _ q; cases q), (by rw [c]; intro q; cases q)⟩
    · rw [List.mem_singleton] at hb; subst hb
      obtain ⟨o, e, c, n, d⟩ := st.2.2
      exact ⟨o, e, (by rw [d]; intro _ _ q; cases q), (by rw [d]; intro _ q; cases q), (by rw [c]; intro q; cases q)⟩
  fl := fun i h st o e => by
    obtain ⟨o', e', c, d⟩ := st.2.1
    rw [e'] at e; cases e; exact ⟨⟨_, d⟩, by rw [c]; simp⟩
  off := fun b hb => by
    rcases List.mem_cons.mp hb with rfl | hb
    · exact h1
    · rw [List.mem_singleton] at hb; subst hb; exact h2
  mem := .head _
theorem Go.none {w : World} {mg mb : Str → Option Value} {t : Bool} {s s' : Shared} (g : Go w mg mb t s s') {a : Addr} (h : s'.heap.get? a = Option.none) : s.heap.get? a = Option.none := by
  cases e : s.heap.get? a with
  | none => rfl
  | some o =>
    by_cases hb : a ∈ tabs t
    · obtain ⟨ps, e'⟩ := g.base.tab_obj (tabs_le hb); rw [h] at e'; cases e'
    · have := g.ext a o hb e; rw [h] at this; cases this
section
variable {w : World} {mg mb : Str → Option Value} {t : Bool} {A : Around} {P : SP w mg mb t}
theorem EvI.list {e : PySem.Expr} {xs : List IV} (hh : A.handled = Option.none) (he : EvT A P e (.list xs)) : EvI A P [] e xs := ⟨fun s Q E hs h =>
  he.run s _ _ hs fun x s₁ g r => by
    obtain ⟨l, ys, rfl, -, hl, hr, -⟩ := r
    have hnew : s₁.heap.get? s₁.heap.objs.size = Option.none := Heap.get?_none_of_le (Nat.le_refl _)
    have hne : l ≠ s₁.heap.objs.size := fun q => by obtain ⟨o, e⟩ := hl; rw [q, hnew] at e; cases e
    refine wpAny_pyIter_list hl.isList (h _ _ _ _ _ (g.trans (Go.push (tk := s₁.toks) g.base _)) (ItIs.ofList hh ⟨_, Heap.get?_push_size _ rfl, rfl, rfl⟩ (hl.isList.push _) hr hne (by simp) (by simp)) (g.none hnew))⟩
theorem EvI.range {p pos : Pos} {e : PySem.Expr} {n : Int} {X : List Addr} (hh : A.handled = Option.none) (he : EvT A P e (.int n)) (h0 : 0 ≤ n) (h1 : n ≤ 1000000) (hX : ∀ s, P.p s → ∀ a ∈ X, ∃ o, s.heap.get? a = some o) (hk : P.env.kindOf (Str.ofString "range") = some .globalImplicit := by rfl)
    (hst : starEach [e] P.env = (false, eval e P.env) :: starEach [] P.env := by rfl) : EvI A P X (.Call (.Name (Str.ofString "range") p) [e] [] pos) ((List.range n.toNat).map fun (i : Nat) => IV.int i) := ⟨fun s Q E hs h => by
  refine wpAny_Call_NameR (evBuiltin hk n_range b_range hs (callWith_type1 ((EvL.cons he EvL.nil hst).run pos s _ _ hs fun xs s₁ g r => ?_) hst rfl) (by decide) (by decide))
  obtain ⟨u, rfl, ru⟩ := mrels1 r
  · obtain ⟨tk, rfl⟩ := IRel.int ru
    refine call_range_1 ?_
    have g₂ := g.trans (Go.push (tk := s₁.toks + 1 + 1) g.base { cls := .type "range", data := .fields #[.int 0 s₁.toks, .int n tk, .int 1 (s₁.toks + 1)] })
    generalize hs2 : ({ s₁ with heap := s₁.heap.push { cls := .type "range", data := .fields #[.int 0 s₁.toks, .int n tk, .int 1 (s₁.toks + 1)] }, toks := s₁.toks + 1 + 1 } : Shared) = s₂ at g₂
    have hr : IsRange s₂.heap s₁.heap.objs.size 0 n 1 s₁.toks tk (s₁.toks + 1) := by rw [← hs2]; exact IsRange.new ..
    have hnew : s₂.heap.get? s₂.heap.objs.size = Option.none := Heap.get?_none_of_le (Nat.le_refl _)
    have hX2 : s₂.heap.objs.size ∉ X := fun hm => by
      obtain ⟨o, e⟩ := hX s hs _ hm
      rw [g₂.none hnew] at e; cases e
    refine wpAny_pyIter_range hr (small_one (by (first | lia | omega)) (by (first | lia | omega)) (by (first | lia | omega)) (by (first | lia | omega))) ?_
    have I := ItIs.ofRange (w := w) (A := A) (X := X) (h := s₂.heap.push { cls := .type "range_iterator", data := .fields #[rawInt 0, rawInt (Builtin.Range.rangeSize 0 n 1), rawInt 1] }) (it := s₂.heap.objs.size) (a := 0) (c := 1) (n := n.toNat) hh (by
      rw [rangeSize_nat]
      have : (n - 0).toNat = n.toNat := by simp
      rw [this]
      exact Heap.get?_push_size _ rfl) hX2
    have e : ((List.range n.toNat).map fun (i : Nat) => IV.int (0 + i * 1)) = ((List.range n.toNat).map fun (i : Nat) => IV.int i) := by
      apply List.map_congr_left; intro i _; simp
    rw [e] at I
    exact h _ _ _ _ _ (g₂.trans (Go.push (tk := s₂.toks) g₂.base _)) I (g₂.none hnew)⟩
end
end
-- part L11
open PySem PySem.W PyProof.Rows PySem.Calls
set_option maxHeartbeats 1000000
/-- an item -/
structure GetV (A : Around) (a b c : MV) : Prop where
  run : ∀ (w : World) (mg mb : Str → Option Value) (s : Shared) (x y : Value) (Q : Value → Shared → Prop) (E : Value → Shared → Prop), Base w mg mb s.heap → MRel [] s.heap a x → MRel [] s.heap b y →
    (∃ T id, s.TypeIs x T ∧ typeLookup (.type T) (Str.ofString "__getitem__") = pure (some (.builtin id))) ∧
    ((∀ z s', Go w mg mb false s s' → MRel [] s'.heap c z → Q z s') → wpAny (model PG w) A (getItem x y) Q E s)
section
variable {prog : Program} {w : World} {A : Around} {E : Value → Shared → Prop} {s : Shared} {env : Env}
/-- a slice of what no name keeps -/
theorem sliceAny {value : PySem.Expr} {lower upper : Option PySem.Expr} {p pos : Pos} {T id : String} {Q : Value → Shared → Prop}
    (hl : typeLookup (.type T) "__getitem__" = pure (some (.builtin id)))
    (h : wpAny (model prog w) A (eval value env) (fun o s₁ => wpAny (model prog w) A (eval (.Slice lower upper Option.none p) env) (fun i s₂ => s₂.TypeIs o T ∧ wpAny (model prog w) A (getItem o i) Q E s₂) E s₁) E s) :
    wpAny (model prog w) A (eval (.Subscript value (.Slice lower upper Option.none p) pos) env) Q E s := by
  rw [eval_Subscript]
  refine wpAny_bind (wpAny_mono h (fun o s₁ h₁ => wpAny_bind (wpAny_holding (wpAny_mono h₁ (fun i s₂ h₂ => wpAny_bind (wpAny_standAt ?_)) fun _ _ x => x))) fun _ _ x => x)
  have fin : wpAny (model prog w) A (operate [i, o] (getItem o i)) (fun r s₃ => wpAny (model prog w) A (letTemporaryGo value o r >>= fun _ => pure r) Q E s₃) E s₂ :=
    wpAny_operating (wpAny_mono h₂.2 (fun r s₃ h₃ => wpAny_bind (wpAny_letTemporaryGo (wpAny_pure h₃))) fun _ _ x => x)
  first
    | (refine wpAny_bind ?_
       rw [getitemInPython_of_ne h₂.1.not_modules]
       refine wpAny_bind (wpAny_specialOf h₂.1 hl ?_)
       first
         | exact wpAny_pure (wpAny_bind fin)
         | exact wpAny_bind (wpAny_pure (wpAny_bind fin))
         | exact wpAny_bind fin)
    | (refine wpAny_bind (wpAny_specialOf h₂.1 hl ?_)
       first
         | exact wpAny_bind (wpAny_pure (wpAny_bind fin))
         | exact wpAny_bind fin)
theorem sliceList {value : PySem.Expr} {lower upper : Option PySem.Expr} {p pos : Pos} {Q : Value → Shared → Prop}
    (h : wpAny (model prog w) A (eval value env) (fun o s₁ => wpAny (model prog w) A (evalPart lower env) (fun vl s₂ => wpAny (model prog w) A (evalPart upper env) (fun vu s₃ =>
      ∃ l items lo hi, o = .ref l ∧ s₃.heap.IsList l items ∧ items.size ≤ sizeLine ∧ IsPart vl lo ∧ IsPart vu hi ∧
        Q (.ref (s₃.heap.objs.size + 1)) { s₃ with heap := (s₃.heap.push { cls := .type "slice", data := .fields #[vl, vu, .none] }).push { cls := .type "list", data := .seq (slicePick items lo hi Option.none) } }) E s₂) E s₁) E s) :
    wpAny (model prog w) A (eval (.Subscript value (.Slice lower upper Option.none p) pos) env) Q E s := by
  refine sliceAny (T := "list") list_getitem_lookup (wpAny_mono h (fun o s₁ h₁ => wpAny_Slice (wpAny_mono h₁ (fun vl s₂ h₂ => wpAny_mono h₂ (fun vu s₃ h₃ => ?_) fun _ _ e => e) fun _ _ e => e)) fun _ _ e => e)
  obtain ⟨l, items, lo, hi, rfl, hl, hsz, pl, pu, hQ⟩ := h₃
  rw [evalPart_none]
  refine wpAny_pure ⟨(hl.push _).typeIs, wpAny_getItem_list_slice (hl.push _) (Heap.IsSliceOf.new ..) pl pu .none (by simp) ?_ hsz⟩
  rw [Heap.size_push]
  exact hQ
end
section
variable {w : World} {mg mb : Str → Option Value} {t : Bool} {A : Around} {P : SP w mg mb t}
theorem EvT.sub {value slice : PySem.Expr} {pos : Pos} {a b c : MV} (hv : EvT A P value a) (hi : EvT A P slice b) (hg : GetV A a b c) (hs : ∀ o i, subscripted slice false o i = operate [o, i] (getItem o i) := by intro _ _; rfl) : EvT A P (.Subscript value slice pos) c := ⟨fun s Q E hs' h =>
  Subscript_ (hv.run s _ _ hs' fun x s₁ g₁ r₁ => hi.run s₁ _ _ (P.go hs' g₁) fun y s₂ g₂ r₂ => by
    have q := hg.run w mg mb s₂ x y Q E g₂.base (g₂.mrel g₁.base r₁) r₂
    obtain ⟨⟨T, id, hT, hl⟩, q⟩ := q
    exact tail_any hT hl (q fun z s₃ g₃ r₃ => h z s₃ (g₁.trans (g₂.trans g₃.weak)) r₃) (hs x y))⟩
theorem GetV.list {l : List IV} {k : Int} {v : IV} (h0 : 0 ≤ k) (hx : l[k.toNat]? = some v) : GetV A (.list l) (.int k) (.im v) := by
  constructor
  intro w mg mb s x y Q E B r1 r2
  obtain ⟨a, ys, rfl, -, hl, hr, hc⟩ := r1
  obtain ⟨tk, rfl⟩ := IRel.int r2
  obtain ⟨z, hz, rz⟩ := hr.get _ _ hx
  have hlt : k.toNat < l.length := (List.getElem?_eq_some_iff.mp hx).1
  refine ⟨⟨"list", _, hl.isList.typeIs, slot_list_getitem.lookup⟩, fun h => wpAny_getItem_list hl.isList h0 (by simp only [cap] at hc; (first | lia | omega)) (by simpa using hz) (h z s (Go.refl B) rz)⟩
theorem GetV.listNeg {l : List IV} {k : Int} {v : IV} (h0 : k < 0) (h1 : -(l.length : Int) ≤ k) (hx : l[(k + l.length).toNat]? = some v) : GetV A (.list l) (.int k) (.im v) := by
  constructor
  intro w mg mb s x y Q E B r1 r2
  obtain ⟨a, ys, rfl, -, hl, hr, hc⟩ := r1
  obtain ⟨tk, rfl⟩ := IRel.int r2
  obtain ⟨z, hz, rz⟩ := hr.get _ _ hx
  have e : ys.toArray.size = l.length := by rw [List.size_toArray]; exact hr.length.symm
  simp only [cap] at hc
  refine ⟨⟨"list", _, hl.isList.typeIs, slot_list_getitem.lookup⟩, fun h => wpAny_getItem_list_neg hl.isList h0 (by rw [e]; exact h1) (by (first | lia | omega)) (by rw [e]; simpa using hz) (h z s (Go.refl B) rz)⟩
theorem GetV.str {x : Str} {k : Int} (h1 : -(x.length : Int) ≤ k) (h2 : k < x.length) : GetV A (.str x) (.int k) (.str (Txt.item x k)) := by
  constructor
  intro w mg mb s u y Q E B r1 r2
  have l1 := r1.2
  simp only [smallIV, cap] at l1
  obtain ⟨t1, rfl⟩ := IRel.str r1
  obtain ⟨tk, rfl⟩ := IRel.int r2
  refine ⟨⟨"str", _, typeIs_str s x t1, F.slot_str_getitem.lookup⟩, fun h => ?_⟩
  obtain ⟨T, id, _, _, hg⟩ := SBL.item (prog := PG) (w := w) (A := A) (E := E) (s := s) (t := t1) (u := tk) (Q := Q) h1 h2 (by (first | lia | omega)) fun hl => h _ _ (Go.tok B) (MRel.ofStr _ _ (by simp only [cap]; (first | lia | omega)))
  exact hg
inductive PartV : MV → Option Int → Prop
  | none : PartV .none Option.none
  | int {i : Int} : PartV (.int i) (some i)
structure EvP (A : Around) (P : SP w mg mb t) (e : Option PySem.Expr) (u : Option Int) : Prop where
  run : ∀ (s : Shared) (Q : Value → Shared → Prop) (E : Value → Shared → Prop), P.p s → (∀ p s', Go w mg mb t s s' → Q (partValue p) s' ∨ p.map (·.1) ≠ u) → wpAny (model PG w) A (evalPart e P.env) Q E s
theorem EvP.none : EvP A P Option.none Option.none := ⟨fun s Q E hs h => wpAny_evalPart_none ((h Option.none s (Go.refl (P.base hs))).resolve_right (by simp))⟩
theorem EvP.some {e : PySem.Expr} {v : MV} {u : Option Int} (he : EvT A P e v) (hp : PartV v u) : EvP A P (some e) u := ⟨fun s Q E hs h => wpAny_evalPart_some (he.run s _ _ hs fun x s₁ g r => by
  cases hp with
  | none => cases IRel.none r; exact (h Option.none s₁ g).resolve_right (by simp)
  | int => obtain ⟨tk, rfl⟩ := IRel.int r; exact (h (Option.some (_, tk)) s₁ g).resolve_right (by simp))⟩
theorem part_is : ∀ (p : Option (Int × Tok)), IsPart (partValue p) (p.map (·.1))
  | Option.none => .none
  | Option.some (i, t) => .int i t
theorem EvT.strSlice {value : PySem.Expr} {lower upper : Option PySem.Expr} {p pos : Pos} {x : Str} {l u : Option Int} (hv : EvT A P value (.str x)) (hl : EvP A P lower l) (hu : EvP A P upper u) (ht : ∀ o r, letTemporaryGo value o r = pure () := by intro _ _; rfl) : EvT A P (.Subscript value (.Slice lower upper Option.none p) pos) (.str (Txt.slice x l u)) := ⟨fun s Q E hs h =>
  wpAny_Subscript_str_slice (hv.run s _ _ hs fun xv s₁ g₁ r₁ => hl.run s₁ _ _ (P.go hs g₁) fun pl s₂ g₂ => by
    by_cases hpl : pl.map (·.1) = l
    · left
      refine hu.run s₂ _ _ (P.go (P.go hs g₁) g₂) fun pu s₃ g₃ => ?_
      by_cases hpu : pu.map (·.1) = u
      · left
        have l1 := r₁.2
        simp only [smallIV, cap] at l1
        obtain ⟨tk, rfl⟩ := IRel.str r₁
        have hsz : (Txt.slice x l u).length ≤ 1024 := Nat.le_trans (Txt.slice_le x l u) l1
        refine ⟨x, tk, pl, pu, rfl, rfl, rfl, ?_⟩
        unfold sliceMade slicePicked
        rw [hpl, hpu]
        refine post_val_or_str (Q := Q) ⟨?_, fun t' k => ?_⟩
        · exact Nat.le_trans hsz (by rw [sizeLine_eq]; (first | lia | omega))
        · exact h _ _ (g₁.trans (g₂.trans (g₃.trans (Go.push (tk := k) g₃.base _)))) (MRel.ofStr _ _ hsz)
      · right; exact hpu
    · right; exact hpl) ht⟩
/-- a slice of a list: any expression -/
theorem EvT.listSlice {value : PySem.Expr} {lower upper : Option PySem.Expr} {p pos : Pos} {xs ys : List IV} {l u : Option Int} (hv : EvT A P value (.list xs)) (hl : EvP A P lower l) (hu : EvP A P upper u) (hy : ∀ vs : List Value, IRels xs vs → IRels ys (slicePick vs.toArray l u Option.none).toList) : EvT A P (.Subscript value (.Slice lower upper Option.none p) pos) (.list ys) := ⟨fun s Q E hs h =>
  sliceList (hv.run s _ _ hs fun xv s₁ g₁ r₁ => hl.run s₁ _ _ (P.go hs g₁) fun pl s₂ g₂ => by
    by_cases hpl : pl.map (·.1) = l
    · left
      refine hu.run s₂ _ _ (P.go (P.go hs g₁) g₂) fun pu s₃ g₃ => ?_
      by_cases hpu : pu.map (·.1) = u
      · left
        obtain ⟨a, vs, rfl, -, hlist, hr, hc⟩ := r₁
        subst hpl hpu
        have hry := hy vs hr
        have hle : ys.length ≤ xs.length := by
          have e1 := hry.length
          have e2 := slicePick_size_le vs.toArray (pl.map (·.1)) (pu.map (·.1)) Option.none
          have e3 := hr.length
          simp only [Array.length_toList, List.size_toArray] at e1 e2
          (first | lia | omega)
        refine ⟨a, vs.toArray, _, _, rfl, g₃.list g₂.base (g₂.list g₁.base hlist.isList), ?_, part_is pl, part_is pu, ?_⟩
        · rw [List.size_toArray, ← hr.length, sizeLine_eq]; simp only [cap] at hc; (first | lia | omega)
        · have g4 := g₃.trans (Go.push (t := t) (tk := s₃.toks) g₃.base { cls := .type "slice", data := .fields #[partValue pl, partValue pu, .none] })
          have g5 := g4.trans (Go.push (t := t) (tk := s₃.toks) g4.base { cls := .type "list", data := .seq (slicePick vs.toArray (pl.map (·.1)) (pu.map (·.1)) Option.none) })
          refine h _ _ (g₁.trans (g₂.trans g5)) ⟨_, (slicePick vs.toArray (pl.map (·.1)) (pu.map (·.1)) Option.none).toList, rfl, by simp, ⟨0, ?_⟩, hry, Nat.le_trans hle hc⟩
          rw [Array.toArray_toList]
          have e : s₃.heap.objs.size + 1 = (s₃.heap.push { cls := .type "slice", data := .fields #[partValue pl, partValue pu, .none] }).objs.size := (Heap.size_push ..).symm
          rw [e]
          exact Heap.get?_push_size _ rfl
      · right; exact hpu
    · right; exact hpl)⟩
theorem CalV.lenS {x : Str} : CalV t A (.builtin "len") [.str x] (.int x.length) := by
  constructor; intro w mg mb s xs Q E B r h
  obtain ⟨u, rfl, ru⟩ := mrels1 r
  · have l : x.length ≤ 1024 := ru.2
    obtain ⟨t, rfl⟩ := IRel.str ru
    refine SBL.len (by (first | lia | omega)) ?_
    exact h _ _ (Go.tok B) (MRel.ofInt _ _)
theorem CalV.lenL {x : List IV} : CalV t A (.builtin "len") [.list x] (.int x.length) := by
  constructor; intro w mg mb s xs Q E B r h
  obtain ⟨u, rfl, ru⟩ := mrels1 r
  · obtain ⟨a, vs, rfl, -, hl, hr, hc⟩ := ru
    have hc : x.length ≤ 1024 := hc
    have e : vs.toArray.size = x.length := by rw [List.size_toArray]; exact hr.length.symm
    refine PyProof.Rows.len_list hl.isList (by rw [e]; (first | lia | omega)) ?_
    rw [e]
    exact h _ _ (Go.tok B) (MRel.ofInt _ _)
theorem CalV.min2 {a b : Int} (hh : A.handled = Option.none) : CalV t A (.builtin "min") [.int a, .int b] (.int (min a b)) := by
  constructor; intro w mg mb s xs Q E B r h
  obtain ⟨u, v, rfl, r1, r2⟩ := mrels2 r
  · obtain ⟨t1, rfl⟩ := IRel.int r1
    obtain ⟨t2, rfl⟩ := IRel.int r2
    refine min_two_ints hh fun h' tk hk => ?_
    have e : (if b < a then Value.int b t2 else .int a t1) = .int (min a b) (if b < a then t2 else t1) := by split <;> congr 1 <;> (first | lia | omega)
    rw [e]
    exact h _ _ (Go.keep B hk) (MRel.ofInt _ _)
theorem CalV.max2 {a b : Int} (hh : A.handled = Option.none) : CalV t A (.builtin "max") [.int a, .int b] (.int (max a b)) := by
  constructor; intro w mg mb s xs Q E B r h
  obtain ⟨u, v, rfl, r1, r2⟩ := mrels2 r
  · obtain ⟨t1, rfl⟩ := IRel.int r1
    obtain ⟨t2, rfl⟩ := IRel.int r2
    refine max_two_ints hh fun h' tk hk => ?_
    have e : (if b > a then Value.int b t2 else .int a t1) = .int (max a b) (if b > a then t2 else t1) := by split <;> congr 1 <;> (first | lia | omega)
    rw [e]
    exact h _ _ (Go.keep B hk) (MRel.ofInt _ _)
end
-- part L12
open PySem PySem.W PyProof.Rows PySem.Calls
set_option maxHeartbeats 1000000
/-- the state without one object -/
noncomputable def Er (a : Addr) (s : Shared) : Shared := { s with heap := s.heap.update a fun _ => ⟨.none, none, .freed, #[]⟩ }
section
variable {a b : Addr} {s : Shared}
theorem Er.get (h : b ≠ a) : (Er a s).heap.get? b = s.heap.get? b := Heap.get?_update_other _ _ (Ne.symm h)
theorem Er.non : (Er a s).heap.get? a = Option.none := by
  show (s.heap.update a _).get? a = Option.none
  obtain ⟨⟨objs, l⟩, _, _, _, _⟩ := s
  simp only [Heap.update, Heap.get?, Array.getElem?_modify, if_true]
  cases objs[a]? <;> rfl
theorem Er.same : Heap.SameBut a s.heap (Er a s).heap := Heap.SameBut.update ..
theorem Er.was {o : Obj} (e : (Er a s).heap.get? b = some o) : b ≠ a ∧ s.heap.get? b = some o := by
  have : b ≠ a := fun q => by rw [q, Er.non] at e; cases e
  exact ⟨this, (Er.get this) ▸ e⟩
end
section
variable {w : World} {mg mb : Str → Option Value} {t : Bool} {s₀ : Shared} {pr : Pr} {env : Env} {σ σ' : List Ent} {s s' : Shared} {a : Addr} {x : Str} {vs vs' : List IV}
theorem Go.er {h' : Heap} {tk : Nat} (B : Base w mg mb (Er a s).heap) (hs : Heap.SameBut a s.heap h') : Go w mg mb t (Er a s) { s with heap := h', toks := tk } :=
  have k : ∀ b o, (Er a s).heap.get? b = some o → h'.get? b = some o := fun b o e => (hs.2 b (Er.was e).1).trans (Er.was e).2
  ⟨fun b o _ e => k b o e, B.keeps k, rfl, rfl, rfl⟩
theorem Go.erase (B : Base w mg mb (Er a s).heap) (g : Go w mg mb t s s') : Go w mg mb t (Er a s) s' :=
  ⟨fun b o hb e => g.ext b o hb (Er.was e).2, g.base, g.gens, g.drawn, g.os⟩
theorem FS.er (F : FS w mg mb t s₀ pr env σ (some (x, a, vs)) s) : Base w mg mb (Er a s).heap := Base.same F.b0 F.go.base Er.same F.mus.2.2.2 (let ⟨_, ⟨_, h, _⟩, _⟩ := F.mus; NotCode.plain h)
theorem FS.mut (F : FS w mg mb t s₀ pr env σ (some (x, a, vs)) s) (g : Go w mg mb t (Er a s) s') {ys : List Value} (hp : s'.heap.PlainList a (List.toArray ys)) (hr : IRels vs' ys) (hc : vs'.length ≤ cap) : FS w mg mb t s₀ pr env σ (some (x, a, vs')) s' := by
  obtain ⟨h1, ⟨ys₀, ⟨n0, h2⟩, h3⟩, h4, h5⟩ := F.mus
  have B := FS.er F
  have ne : ∀ {b o}, s.heap.get? b = some o → (∀ xs n, o.data ≠ .seq xs n) → b ≠ a := fun e h q => by subst q; rw [h2] at e; cases e; exact h _ _ rfl
  have hns : ∀ {b m}, s.heap.Ns b m → s'.heap.Ns b m := fun n => g.ns B (by
    obtain ⟨o, es, ep, e, d, r⟩ := n; exact ⟨o, es, ep, (Er.get (ne e (by rw [d]; intro _ _ q; cases q))).trans e, d, r⟩)
  have hcl : ∀ {b v}, s.heap.IsCell b v → s'.heap.IsCell b v := fun n => g.cell B (by
    obtain ⟨o, e, d⟩ := n; exact ⟨o, (Er.get (ne e (by rw [d]; intro _ _ q; cases q))).trans e, d⟩)
  have hho : ∀ {x y}, HoldsAt env s.heap x y → HoldsAt env s'.heap x y := fun h => by
    rcases h with ⟨k, m, n, e⟩ | ⟨k, c, n, e⟩
    · exact .inl ⟨k, m, hns n, e⟩
    · exact .inr ⟨k, c, n, hcl e⟩
  refine ⟨F.b0, ⟨fun b o hb e => ?_, g.base, g.gens.trans F.go.gens, g.drawn.trans F.go.drawn, g.os.trans F.go.os⟩, let ⟨m, n⟩ := F.ns; ⟨m, hns n⟩, fun z u hz => ?_, ⟨hho h1, ⟨ys, hp, hr⟩, hc, h5⟩, F.fresh, fun z c hz => let ⟨v, e⟩ := F.cells z c hz; ⟨v, hcl e⟩, F.own, fun p hp' => ?_⟩
  · have hne : b ≠ a := fun q => by rw [q, h5] at e; cases e
    exact g.ext b o hb ((Er.get hne).trans (F.go.ext b o hb e))
  · obtain ⟨y, r, q⟩ := F.vars z u hz
    exact ⟨y, g.mrel B (mrel_sameX Er.same (by simp [muX]) r), hho q⟩
  · have P := F.prs p hp'
    have hne : p.1 ≠ a := fun q => P.off (by simp [muX, q])
    exact ⟨g.get B ((Er.get hne).trans P.get) P.cls, P.dict, P.cell, P.cls, P.off⟩
theorem FS.evMu {Q E : Value → Shared → Prop} {A : Around} {pos : Pos} (st : EnvStat env) (F : FS w mg mb t s₀ pr env σ (some (x, a, vs)) s) (h : Q (.ref a) s) (h1 : (x == Str.ofString "__debug__") = false := by decide) (h2 : (x == Str.ofString "__classdict__") = false := by decide) : wpAny (model PG w) A (eval (.Name x pos) env) Q E s := by
  rcases F.mus.1 with ⟨k, m, n, e⟩ | ⟨k | k, c, n, e⟩
  · exact wpAny_Name (wpAny_loadName_local st.fn k n e h) h1
  · exact wpAny_Name (wpAny_loadName_cell st.fn k n e h) h1
  · exact wpAny_Name (wpAny_loadName_free st.fn k n e h h2) h1
theorem MRel.fresh {h : Heap} {v : MV} {y : Value} (r : MRel [] h v y) (e : h.get? a = Option.none) : MRel [a] h v y := by
  cases v with
  | im a => exact r
  | fn a => exact r
  | list l => obtain ⟨b, vs, e', hx, ⟨n, ho⟩, r⟩ := r; exact ⟨b, vs, e', (by simp only [List.mem_singleton]; rintro rfl; rw [e] at ho; cases ho), ⟨n, ho⟩, r⟩
  | tup l => obtain ⟨b, vs, e', hx, ⟨o, ho, q⟩, r⟩ := r; exact ⟨b, vs, e', (by simp only [List.mem_singleton]; rintro rfl; rw [e] at ho; cases ho), ⟨o, ho, q⟩, r⟩
theorem FS.unmu (F : FS w mg mb t s₀ pr env σ (some (x, a, vs)) s) (nd : (σ.map (·.1)).Nodup) (hs : SetV σ x (some (.list vs)) σ') : FS w mg mb t s₀ pr env σ' none s := by
  obtain ⟨h1, ⟨ys, h2, h3⟩, h4, h5⟩ := F.mus
  refine ⟨F.b0, F.go, F.ns, fun z u hz => ?_, trivial, F.fresh, F.cells, F.own, fun p hp => let P := F.prs p hp; ⟨P.get, P.dict, P.cell, P.cls, by simp [muX]⟩⟩
  rcases hs.has nd hz with ⟨rfl, e⟩ | ⟨ne, hz⟩
  · cases e; exact ⟨_, ⟨a, ys, rfl, by simp [muX], h2, h3, h4⟩, h1⟩
  · exact (F.vars z u hz).weak
end
structure EvF {w : World} {mg mb : Str → Option Value} {t : Bool} (A : Around) (P : SP w mg mb t) (e : PySem.Expr) (vs : List IV) : Prop where
  run : ∀ (s : Shared) (Q : Value → Shared → Prop) (E : Value → Shared → Prop), P.p s →
    (∀ a ys s', Go w mg mb t s s' → s.heap.get? a = none → s'.heap.PlainList a (List.toArray ys) → IRels vs ys → vs.length ≤ cap → Q (.ref a) s') → wpAny (model PG w) A (eval e P.env) Q E s
theorem EvF.t {w : World} {mg mb : Str → Option Value} {t : Bool} {A : Around} {P : SP w mg mb t} {e : PySem.Expr} {vs : List IV} (h : EvF A P e vs) : EvT A P e (.list vs) := ⟨fun s Q E hs hq =>
  h.run s Q E hs fun a ys s' g _ h2 h3 h4 => hq _ s' g ⟨a, ys, rfl, by simp, h2, h3, h4⟩⟩
inductive Uns : List Ent → Str → List Ent → Prop
  | here {x k o σ} : Uns ((x, k, o) :: σ) x ((x, k, none) :: σ)
  | there {p σ x σ'} : Uns σ x σ' → Uns (p :: σ) x (p :: σ')
theorem Uns.set {σ σ' : List Ent} {x : Str} (h : Uns σ x σ') : SetV σ x none σ' := by
  induction h with
  | here => exact .here
  | there h ih => exact .there ih
section
variable {C : Cx} {σ σ' σ₀ : List Ent} {mu : Mu} {Φ : Fl → Prop} {x : Str} {a : Addr} {vs vs' : List IV}
theorem storeMu {A : Around} {E : Value → Shared → Prop} {Q : Unit → Shared → Prop} (sg : SigOk C.env σ) {s s₁ : Shared} (F : C.FS σ none s) (g : Go C.w C.mg C.mb C.t s s₁) (hn : s.heap.get? a = none) {ys : List Value} (hp : s₁.heap.PlainList a (List.toArray ys)) (hr : IRels vs ys) (hc : vs.length ≤ cap) (hst : St σ x (.list vs) σ') (hun : Uns σ x σ₀)
    (h : ∀ s', SigOk C.env σ₀ → C.FS σ₀ (some (x, a, vs)) s' → Stored C.env s₁.heap s'.heap x (.ref a) → Q () s') : wpAny (model PG C.w) A (storeName C.env x (.ref a)) Q E s₁ := by
  refine storeX sg (F.goes g) hst ⟨a, ys, rfl, by simp, hp, hr, hc⟩ trivial trivial fun s' sg' F' S => h s' (sg.set hun.set) ?_ S
  have h₀ : C.s₀.heap.get? a = none := F.go.none hn
  refine ⟨F'.b0, F'.go, F'.ns, fun z u hz => ?_, ⟨S.hx, ⟨ys, S.plain hp, hr⟩, hc, h₀⟩, F'.fresh, F'.cells, F'.own, fun p hp' => ?_⟩
  · rcases hun.set.has sg.nd hz with ⟨rfl, e⟩ | ⟨ne, hz⟩
    · cases e
    · obtain ⟨y, r, q⟩ := F.vars z u hz
      exact ⟨y, S.mrel (g.mrel F.go.base (MRel.fresh r hn)), S.ho z y ne (g.holds F.go.base q)⟩
  · have P := F'.prs p hp'
    refine ⟨P.get, P.dict, P.cell, P.cls, ?_⟩
    have := (F.prs p hp').get
    simp only [muX, List.mem_singleton]
    intro q; rw [q, hn] at this; cases this
theorem X1.asgMu {pos' pos : Pos} {e : PySem.Expr} (he : EvF C.A (C.P σ none) e vs) (hst : St σ x (.list vs) σ') (hun : Uns σ x σ₀) (h : ∀ a, Φ (.next σ₀ (some (x, a, vs)))) (hs : swapsWith e (some (.Name x pos')) pos.line C.env = pure false := by rfl) : X1 C σ none (.Assign [.Name x pos'] e pos) Φ := ⟨fun sg s Q E F hq =>
  wpAny_Assign_Name (he.run s _ _ F fun a ys s₁ g hn hp hr hc => storeMu sg F g hn hp hr hc hst hun fun s₂ sg₂ F₂ _ => hq .next s₂ ⟨_, _, sg₂, F₂, h a⟩) hs⟩
theorem XS.unmu {ss : List Stmt} (hs : St σ x (.list vs) σ') (h : XS C σ' none ss Φ) : XS C σ (some (x, a, vs)) ss Φ := ⟨fun sg s Q E F hq =>
  h.run (sg.set hs.set) s Q E (F.unmu sg.nd hs.set) hq⟩
/-- a call that changes its first argument, a list, and gives None -/
structure CalM (t : Bool) (A : Around) (f : Value) (l : List IV) (us : List IV) (l' : List IV) : Prop where
  run : ∀ (w : World) (mg mb : Str → Option Value) (s : Shared) (a : Addr) (ys xs : List Value) (Q : Value → Shared → Prop) (E : Value → Shared → Prop), Base w mg mb (Er a s).heap → s.heap.PlainList a (List.toArray ys) → IRels l ys → l.length ≤ cap → IRels us xs →
    (∀ ys' s', Go w mg mb t (Er a s) s' → s'.heap.PlainList a (List.toArray ys') → IRels l' ys' → l'.length ≤ cap → Q .none s') → wpAny (model PG w) A (call f (.ref a :: xs)) Q E s
theorem CalM.weak {t : Bool} {A : Around} {f : Value} {l us l' : List IV} (x : CalM false A f l us l') : CalM t A f l us l' := ⟨fun w mg mb s a ys xs Q E B h1 h2 h3 h4 h => x.run w mg mb s a ys xs Q E B h1 h2 h3 h4 fun ys' s' g => h ys' s' g.weak⟩
theorem mrels_im : ∀ {h : Heap} {us : List IV} {xs : List Value}, MRels [] h (us.map MV.im) xs → IRels us xs
  | _, [], [], _ => trivial
  | _, _ :: _, _ :: _, r => ⟨r.1, mrels_im r.2⟩
  | _, [], _ :: _, r => r.elim
  | _, _ :: _, [], r => r.elim
theorem mus_of {env : Env} {h₀ h : Heap} (F : MuIs env h₀ h (some (x, a, vs))) : ∃ ys, h.PlainList a (List.toArray ys) ∧ IRels vs ys ∧ vs.length ≤ cap := let ⟨_, ⟨ys, h2, h3⟩, h4, _⟩ := F; ⟨ys, h2, h3, h4⟩
theorem X1.meth1 {e : PySem.Expr} {es : List PySem.Expr} {px apos pos spos : Pos} {name : Str} {us : List IV} {id : String} (hl : EvL C.A (C.P σ (some (x, a, vs))) (e :: es) (us.map MV.im)) (hc : CalM C.t C.A (.builtin id) vs us vs') (hsl : Slot "list" name id) (ht : typeOf (.builtin id) = pure (.type "method_descriptor")) (h : Φ (.next σ (some (x, a, vs'))))
    (hb : attributeBase (.Name x px) name C.env (eval (.Name x px) C.env) = eval (.Name x px) C.env := by rfl) (hq : ((((backTo pos (starEach (e :: es) C.env)).all fun x => !x.1) && (backToKw pos (keywordEach [] C.env)).all fun x => x.1.isSome) && decide (((e :: es).length + ([] : List Keyword).length + if ([] : List Keyword).isEmpty = true then 0 else 1) < 30)) = true := by rfl)
    (hln : (apos.endLine == pos.line) = true := by rfl) (he : starEach (e :: es) C.env = (false, eval e C.env) :: starEach es C.env := by rfl) (hpl : (backTo pos (starEach es C.env)).any (·.1) = false := by rfl) (hi : interactive C.env = false := by rfl) (hs : swapsWith (.Call (.Attribute (.Name x px) name apos) (e :: es) [] pos) none spos.line C.env = pure false := by rfl)
    (h1 : (x == Str.ofString "__debug__") = false := by decide) (h2 : (x == Str.ofString "__classdict__") = false := by decide) : X1 C σ (some (x, a, vs)) (.Expr (.Call (.Attribute (.Name x px) name apos) (e :: es) [] pos) spos) Φ := ⟨fun sg s Q E F hqq => by
  obtain ⟨ys, hp, hr, hcap⟩ := mus_of F.mus
  refine wpAny_Expr (wpAny_Call_method hb hq hln PySem.F.plainAttrs_list hsl ht (FS.evMu C.st F ⟨hp.isList.typeIs, fun b e => by cases e; obtain ⟨n, e⟩ := hp; exact ⟨_, e, rfl⟩, callWith_method1 (hl.run pos s _ _ F fun xs s₁ g₁ r₁ => ?_) he hpl⟩ h1 h2)) hi hs
  have F₁ := FS.goes F g₁
  obtain ⟨ys, hp, hr, hcap⟩ := mus_of F₁.mus
  exact hc.run C.w C.mg C.mb s₁ a ys xs _ _ F₁.er hp hr hcap (mrels_im r₁) fun ys' s' g h1 h2 h3 => hqq .next s' ⟨_, _, sg, F₁.mut g h1 h2 h3, h⟩⟩
theorem X1.meth0 {px apos pos spos : Pos} {name : Str} {id : String} (hc : CalM C.t C.A (.builtin id) vs [] vs') (hsl : Slot "list" name id) (ht : typeOf (.builtin id) = pure (.type "method_descriptor")) (h : Φ (.next σ (some (x, a, vs'))))
    (hb : attributeBase (.Name x px) name C.env (eval (.Name x px) C.env) = eval (.Name x px) C.env := by rfl) (hq : ((((backTo pos (starEach [] C.env)).all fun x => !x.1) && (backToKw pos (keywordEach [] C.env)).all fun x => x.1.isSome) && decide ((([] : List PySem.Expr).length + ([] : List Keyword).length + if ([] : List Keyword).isEmpty = true then 0 else 1) < 30)) = true := by rfl)
    (hln : (apos.endLine == pos.line) = true := by rfl) (hi : interactive C.env = false := by rfl) (hs : swapsWith (.Call (.Attribute (.Name x px) name apos) [] [] pos) none spos.line C.env = pure false := by rfl)
    (h1 : (x == Str.ofString "__debug__") = false := by decide) (h2 : (x == Str.ofString "__classdict__") = false := by decide) : X1 C σ (some (x, a, vs)) (.Expr (.Call (.Attribute (.Name x px) name apos) [] [] pos) spos) Φ := ⟨fun sg s Q E F hqq => by
  obtain ⟨ys, hp, hr, hcap⟩ := mus_of F.mus
  refine wpAny_Expr (wpAny_Call_method hb hq hln PySem.F.plainAttrs_list hsl ht (FS.evMu C.st F ⟨hp.isList.typeIs, fun b e => by cases e; obtain ⟨n, e⟩ := hp; exact ⟨_, e, rfl⟩, callWith_method0 ?_⟩ h1 h2)) hi hs
  exact hc.run C.w C.mg C.mb s a ys [] _ _ (FS.er F) hp hr hcap trivial fun ys' s' g h1 h2 h3 => hqq .next s' ⟨_, _, sg, FS.mut F g h1 h2 h3, h⟩⟩
theorem X1.callM {f : Str} {fa : Addr} {fd : FuncData} {e : PySem.Expr} {es : List PySem.Expr} {px p pos spos : Pos} {us : List IV} (hy : ∀ {h : Heap}, Base C.w C.mg C.mb h → C.mg f = some (.ref fa)) (hf : isFn C.w fa fd) (hl : EvL C.A (C.P σ (some (x, a, vs))) (e :: es) (us.map MV.im)) (hc : CalM C.t C.A (.ref fa) vs us vs') (h : Φ (.next σ (some (x, a, vs'))))
    (hk : C.env.kindOf f = some .globalImplicit := by rfl) (he : starEach (.Name x px :: e :: es) C.env = (false, eval (.Name x px) C.env) :: starEach (e :: es) C.env := by rfl) (he2 : starEach (e :: es) C.env = (false, eval e C.env) :: starEach es C.env := by rfl) (hi : interactive C.env = false := by rfl) (hs : swapsWith (.Call (.Name f p) (.Name x px :: e :: es) [] pos) none spos.line C.env = pure false := by rfl)
    (h0 : (f == Str.ofString "__debug__") = false := by decide) (h1 : (x == Str.ofString "__debug__") = false := by decide) (h2 : (x == Str.ofString "__classdict__") = false := by decide) : X1 C σ (some (x, a, vs)) (.Expr (.Call (.Name f p) (.Name x px :: e :: es) [] pos) spos) Φ := ⟨fun sg s Q E F hqq => by
  obtain ⟨oc, od, sl, hf⟩ := hf
  refine wpAny_Expr (wpAny_Call_NameR (evGlobal (P := C.P σ (some (x, a, vs))) hk hy F (callWith_def (o := ⟨oc, od, .func fd, sl⟩) rfl (spliced_more (FS.evMu C.st F (hl.run pos s _ _ F fun xs s₁ g₁ r₁ => ⟨g₁.base.K _ _ hf, ?_⟩) h1 h2) he) he) h0)) hi hs
  have F₁ := FS.goes F g₁
  obtain ⟨ys, hp, hr, hcap⟩ := mus_of F₁.mus
  exact hc.run C.w C.mg C.mb s₁ a ys xs _ _ F₁.er hp hr hcap (mrels_im r₁) fun ys' s' g h1 h2 h3 => hqq .next s' ⟨_, _, sg, F₁.mut g h1 h2 h3, h⟩⟩
end
-- part L13
open PySem PySem.W PyProof.Rows PySem.Calls PySem.SeqAt
set_option maxHeartbeats 1000000
theorem irels1 {a : IV} {xs : List Value} (r : IRels [a] xs) : ∃ u, xs = [u] ∧ IRel a u := by
  cases xs with
  | nil => exact r.elim
  | cons u r' => cases r' with
    | nil => exact ⟨u, rfl, r.1⟩
    | cons => exact r.2.elim
theorem irels2 {a b : IV} {xs : List Value} (r : IRels [a, b] xs) : ∃ u v, xs = [u, v] ∧ IRel a u ∧ IRel b v := by
  cases xs with
  | nil => exact r.elim
  | cons u r' => obtain ⟨v, rfl, q⟩ := irels1 r.2; exact ⟨u, v, rfl, r.1, q⟩
theorem irels0 {xs : List Value} (r : IRels [] xs) : xs = [] := by
  cases xs with
  | nil => rfl
  | cons => exact r.elim
section
variable {t : Bool} {A : Around} {l : List IV}
theorem CalM.append {u : IV} (hc : l.length + 1 ≤ cap) : CalM t A (.builtin "list.append") l [u] (l ++ [u]) := ⟨fun w mg mb s a ys xs Q E B hp hr hcap rx h => by
  obtain ⟨x, rfl, rx'⟩ := irels1 rx
  have hl : ys.toArray.size = l.length := by rw [List.size_toArray]; exact hr.length.symm
  refine wpAny_list_append_plain hp (fun h' hp' hs => h (ys ++ [x]) _ (Go.er (tk := s.toks) B hs) ?_ (hr.append ⟨rx', trivial⟩) (by simpa using hc)) (by rw [hl, sizeLine_eq]; simp only [cap] at hcap; (first | lia | omega))
  simpa using hp'⟩
theorem CalM.reverse : CalM t A (.builtin "list.reverse") l [] l.reverse := ⟨fun w mg mb s a ys xs Q E B hp hr hcap rx h => by
  cases irels0 rx
  obtain ⟨n, ho⟩ := hp
  have hl : ys.toArray.size = l.length := by rw [List.size_toArray]; exact hr.length.symm
  have hl' : ys.toArray.size ≤ sizeLine := by rw [hl, sizeLine_eq]; simp only [cap] at hcap; (first | lia | omega)
  refine call_meets PySem.F.slot_list_reverse ⟨_, ho, rfl⟩ PySem.F.entry_list_reverse (PySem.F.args_list_reverse_1 _) (AutoListH.list_reverse_list_0 a ys.toArray n hl') ⟨ho, ?_⟩
  have this := IsL.update (h := s.heap) (n := n) ho (fun x => x.reverse)
  simp only [List.reverse_toArray] at this
  exact h ys.reverse _ (Go.er (tk := s.toks) B (Heap.SameBut.update ..)) ⟨_, this⟩ hr.reverse (by simpa using hcap)⟩
theorem CalM.insert {k : Int} {u : IV} (h0 : 0 ≤ k) (h1 : k ≤ l.length) (hc : l.length + 1 ≤ cap) : CalM t A (.builtin "list.insert") l [.int k, u] (l.take k.toNat ++ u :: l.drop k.toNat) := ⟨fun w mg mb s a ys xs Q E B hp hr hcap rx h => by
  obtain ⟨kk, x, rfl, rk, rx'⟩ := irels2 rx
  obtain ⟨tk, rfl⟩ := rk.int
  obtain ⟨n, ho⟩ := hp
  have hyl : ys.length = l.length := hr.length.symm
  have hl : ys.toArray.size = l.length := by rw [List.size_toArray]; exact hyl
  simp only [cap] at hcap hc
  have hl' : ys.toArray.size ≤ sizeLine := by rw [hl, sizeLine_eq]; (first | lia | omega)
  refine call_meets PySem.F.slot_list_insert ⟨_, ho, rfl⟩ PySem.F.entry_list_insert (PySem.F.args_list_insert_3 _ _ _) (AutoListH.list_insert_list_int_val_1 a ys.toArray n k tk x (by simp [Builtin.List.listFitsIndex]; (first | lia | omega)) hl') ⟨ho, ?_⟩
  have this := IsL.update (h := s.heap) (n := n) ho (fun xs => have k := if k < 0 then (k + ((xs.size : Nat) : Int)).toNat else min k.toNat xs.size; (xs.extract 0 k).push x ++ xs.extract k)
  have e : (if k < 0 then (k + ((ys.toArray.size : Nat) : Int)).toNat else min k.toNat ys.toArray.size) = k.toNat := by rw [if_neg (by (first | lia | omega)), hl]; (first | lia | omega)
  have e2 : (ys.toArray.extract 0 k.toNat).push x ++ ys.toArray.extract k.toNat = (ys.take k.toNat ++ x :: ys.drop k.toNat).toArray := by
    apply Array.ext'
    simp [List.extract_eq_take_drop]
    rw [List.take_of_length_le (by simp)]
  simp only [e, e2] at this
  exact h (ys.take k.toNat ++ x :: ys.drop k.toNat) _ (Go.er (tk := s.toks) B (Heap.SameBut.update ..)) ⟨_, this⟩ ((hr.take _).append ⟨rx', hr.drop _⟩) (by simp [cap]; (first | lia | omega))⟩
end
theorem setItem_slot {M : Model} {A : Around} {E : Value → Shared → Prop} {s : Shared} {o i v : Value} {T id : String} {Q : Unit → Shared → Prop} (hT : s.TypeIs o T) (hn : seqItemTypes.contains T = false) (slot : Slot T (Str.ofString "__setitem__") id)
    (hc : wpAny M A (call (.builtin id) [o, i, v]) (fun _ s' => Q () s') E s) : wpAny M A (setItem o i v) Q E s := by
  unfold setItem
  refine wpAny_holding ?_
  refine wpAny_bind (wpAny_sequenceKey hT hn ?_)
  exact wpAny_bind (wpAny_callSpecial?_slot hT slot (wpAny_mono hc (fun v s' h' => wpAny_pure h') fun _ _ e => e))
theorem setItem_plain {prog : Program} {w : World} {A : Around} {E : Value → Shared → Prop} {s : Shared} {a : Addr} {ys : Array Value} {k : Int} {u : Tok} {v : Value} {Q : Unit → Shared → Prop} (hp : s.heap.PlainList a ys) (h0 : 0 ≤ k) (hk : k < ys.size) (hf : k < 1024)
    (h : ∀ h', h'.PlainList a (ys.setIfInBounds k.toNat v) → Heap.SameBut a s.heap h' → Q () { s with heap := h' }) : wpAny (model prog w) A (setItem (.ref a) (.int k u) v) Q E s := by
  obtain ⟨n, ho⟩ := hp
  have hT : s.TypeIs (.ref a) "list" := ⟨_, ho, rfl⟩
  have hfit : Builtin.List.listFitsIndex k = true := by simp [Builtin.List.listFitsIndex]; (first | lia | omega)
  refine setItem_slot hT (by decide) slot_list_setitem (wpAny_call_entry slot_list_setitem hT entry_list_setitem ?_ (args_list_setitem _ _ _))
  show wpAny _ _ (Builtin.List.listSubscript? (.int k u) >>= _) _ _ s
  refine wpAny_bind (wpAny_listSubscript_int hfit ?_)
  clear hfit
  obtain ⟨j, rfl⟩ := Int.eq_ofNat_of_zero_le h0
  have fin := h _ ⟨_, IsL.update (h := s.heap) (n := n) ho (·.setIfInBounds j v)⟩ (Heap.SameBut.update ..)
  have hj : j < ys.size := by (first | lia | omega)
  have hx : ys[j]? = some ys[j] := Array.getElem?_eq_getElem hj
  show wpAny _ _ ((seqItemAt a j >>= fun r => pure (r.map (j, ·))) >>= _) _ _ s
  refine wpAny_bind (wpAny_bind (wpAny_seqItemAt ho rfl (wpAny_pure ?_)))
  rw [hx]
  show wpAny _ _ (setSeqItemAt a j v >>= _) _ _ s
  refine wpAny_bind (wpAny_setSeqItemAt ho rfl ?_)
  exact wpAny_pure ⟨.none, rfl, fin⟩
section
variable {C : Cx} {σ : List Ent} {Φ : Fl → Prop} {x : Str} {a : Addr} {vs : List IV}
theorem X1.setItem {i e : PySem.Expr} {px p pos : Pos} {k : Int} {v : IV} (he : EvT C.A (C.P σ (some (x, a, vs))) e (.im v)) (hi : EvT C.A (C.P σ (some (x, a, vs))) i (.int k)) (h0 : 0 ≤ k) (hk : k < vs.length) (h : Φ (.next σ (some (x, a, vs.set k.toNat v))))
    (hs : swapsWith e (some (.Subscript (.Name x px) i p)) pos.line C.env = pure false := by rfl) (h1 : (x == Str.ofString "__debug__") = false := by decide) (h2 : (x == Str.ofString "__classdict__") = false := by decide) : X1 C σ (some (x, a, vs)) (.Assign [.Subscript (.Name x px) i p] e pos) Φ := ⟨fun sg s Q E F hq =>
  wpAny_Assign_Subscript (he.run s _ _ F fun u s₁ g₁ r₁ => by
    have F₁ := FS.goes F g₁
    refine FS.evMu C.st F₁ (hi.run s₁ _ _ F₁ fun kv s₂ g₂ r₂ => ?_) h1 h2
    have F₂ := F₁.goes g₂
    obtain ⟨tk, rfl⟩ := IRel.int r₂
    obtain ⟨ys, hp, hr, hcap⟩ := mus_of F₂.mus
    have hlen := hr.length
    have hcap' := hcap
    simp only [cap] at hcap'
    refine setItem_plain hp h0 (by rw [List.size_toArray]; (first | lia | omega)) (by (first | lia | omega)) fun h' hp' hs' => hq .next _ ⟨_, _, sg, F₂.mut (Go.er (tk := s₂.toks) F₂.er hs') (ys := ys.set k.toNat u) (vs' := vs.set k.toNat v) (by simpa using hp') (hr.set _ _ _ r₁) (by rw [List.length_set]; exact hcap), h⟩) hs⟩
theorem X1.del {px pi p pos : Pos} {i : PySem.Expr} {k : Int} {j : Nat} (hi : EvT C.A (C.P σ (some (x, a, vs))) i (.int k)) (hf : Builtin.List.listFitsIndex k = true) (hj : seqIndex? k vs.length = some j) (h : Φ (.next σ (some (x, a, vs.eraseIdx j))))
    (h1 : (x == Str.ofString "__debug__") = false := by decide) (h2 : (x == Str.ofString "__classdict__") = false := by decide) : X1 C σ (some (x, a, vs)) (.Delete [.Subscript (.Name x px) i p] pos) Φ := ⟨fun sg s Q E F hq => by
  refine wpAny_Delete (wpAny_deleteEach_cons (wpAny_delete_Subscript (FS.evMu C.st F (hi.run s _ _ F fun kv s₂ g₂ r₂ => ?_) h1 h2)))
  have F₂ := FS.goes F g₂
  obtain ⟨tk, rfl⟩ := IRel.int r₂
  obtain ⟨ys, hp, hr, hcap⟩ := mus_of F₂.mus
  have hlen := hr.length
  have hsz : ys.toArray.size = vs.length := by rw [List.size_toArray]; exact hlen.symm
  refine wpAny_delItem_plain hp hf (k := j) (by rw [hsz]; exact hj) (fun h' hp' hs' => wpAny_deleteEach_nil (hq .next _ ⟨_, _, sg, F₂.mut (Go.er (tk := s₂.toks) F₂.er hs') (ys := ys.eraseIdx j) (vs' := vs.eraseIdx j) (by simpa using hp') ?_ ?_, h⟩)) (by rw [hsz, sizeLine_eq]; simp only [cap] at hcap; (first | lia | omega))
  · have : ∀ {as : List IV} {xs : List Value}, IRels as xs → ∀ j, IRels (as.eraseIdx j) (xs.eraseIdx j) := by
      intro as xs r
      intro j
      rw [List.eraseIdx_eq_take_drop_succ, List.eraseIdx_eq_take_drop_succ]
      exact (r.take _).append (r.drop _)
    exact this hr j
  · exact Nat.le_trans (List.length_eraseIdx_le _ _) hcap⟩
end
section
variable {w : World} {mg mb : Str → Option Value} {t : Bool} {A : Around} {P : SP w mg mb t}
theorem EvF.disp {es : List PySem.Expr} {pos : Pos} {vs : List IV} (hl : EvL A P es (vs.map MV.im)) (hc : vs.length ≤ cap) : EvF A P (.List es pos) vs := ⟨fun s Q E hs h =>
  wpAny_List (hl.run pos s _ _ hs fun xs s₁ g r => by
    have rr := mrels_im r
    have hlen := rr.length
    have hc' := hc
    simp only [cap] at hc'
    refine ⟨by rw [sizeLine_eq]; (first | lia | omega), h _ xs _ (g.trans (Go.push (tk := s₁.toks) g.base _)) ?_ ⟨0, Heap.get?_push_size _ rfl⟩ rr hc⟩
    exact g.none (Heap.get?_none_of_le (Nat.le_refl _)))⟩
theorem EvT.tup {es : List PySem.Expr} {pos : Pos} {k : Nat} {vs : List IV} (hl : EvL A P es (vs.map MV.im)) (hc : vs.length ≤ cap) : EvT A P (.Tuple es k pos) (.tup vs) := ⟨fun s Q E hs h =>
  wpAny_Tuple (hl.run pos s _ _ hs fun xs s₁ g r => by
    have rr := mrels_im r
    have hlen := rr.length
    have hc' := hc
    simp only [cap] at hc'
    exact ⟨by rw [sizeLine_eq]; (first | lia | omega), h _ _ (g.trans (Go.push (tk := s₁.toks) g.base _)) ⟨_, xs, rfl, by simp, ⟨_, Heap.get?_push_size _ rfl, rfl, 0, rfl⟩, rr, hc⟩⟩)⟩
theorem BinV.catL {l m : List IV} (hc : l.length + m.length ≤ cap) : BinV A .Add (.list l) (.list m) (.list (l ++ m)) := by
  constructor; intro w mg mb s u v Q E B r1 r2 h
  obtain ⟨a, ys, rfl, -, ⟨n, hp⟩, hr, -⟩ := r1
  obtain ⟨b, zs, rfl, -, ⟨n2, hp2⟩, hr2, -⟩ := r2
  have e : ys.toArray ++ zs.toArray = (ys ++ zs).toArray := by simp
  have h1 := hr.length
  have h2 := hr2.length
  have hc' := hc
  simp only [cap] at hc'
  refine concat_meets ⟨_, hp, rfl⟩ ⟨_, hp2, rfl⟩ noFill_list_add seq_list_add PySem.F.slot_list_add PySem.F.entry_list_add (PySem.F.args_list_add_2 _ _) (list_addW a b ys.toArray zs.toArray n n2 none none #[] #[] (by rw [sizeLine_eq]; simp only [List.size_toArray]; (first | lia | omega))) ⟨hp, hp2, ?_⟩
  refine h _ _ (Go.push (tk := s.toks) B _) ⟨_, ys ++ zs, rfl, by simp, ⟨0, ?_⟩, hr.append hr2, by simpa using hc⟩
  rw [← e]
  exact Heap.get?_push_size _ rfl
theorem ints_are : ∀ {ns : List Int} {vs : List Value}, IRels (ns.map IV.int) vs → IntsAre vs ns
  | [], [], _ => .nil
  | n :: ns, v :: vs, r => by obtain ⟨t, rfl⟩ := r.1.int; exact .cons n t (ints_are r.2)
  | [], _ :: _, r => r.elim
  | _ :: _, [], r => r.elim
theorem ints_items : ∀ {vs : List Value} {ns : List Int}, IntsAre vs ns → ∃ xs : Array (Int × Tok), vs.toArray = intItems xs ∧ xs.toList.map (·.1) = ns
  | _, _, .nil => ⟨#[], by simp [intItems], rfl⟩
  | _, _, .cons n t h => by
    obtain ⟨xs, e, e2⟩ := ints_items h
    refine ⟨⟨(n, t) :: xs.toList⟩, ?_, by simp [e2]⟩
    simp only [intItems] at e ⊢
    apply Array.ext'
    have := congrArg Array.toList e
    simp at this
    simp [this]
theorem CalV.sum {ns : List Int} (hh : A.handled = Option.none) : CalV t A (.builtin "sum") [.list (ns.map IV.int)] (.int ns.sum) := by
  constructor; intro w mg mb s xs Q E B r h
  obtain ⟨u, rfl, ru⟩ := mrels1 r
  obtain ⟨a, vs, rfl, -, hl, hr, hc⟩ := ru
  obtain ⟨xs, e, e2⟩ := ints_items (ints_are hr)
  rw [e] at hl
  refine sum_intListG hh hl.isList fun h' tk t' hk => ?_
  have e3 : preSum (numAt xs) xs.size = ns.sum := by
    have := nums_intItems xs
    rw [preSum_eq, List.take_of_length_le (by simp), ← e2]
  rw [e3]
  exact h _ _ (Go.keep B hk) (MRel.ofInt _ _)
theorem CalV.divmod {a b : Int} (hb : b ≠ 0) (hp : ∀ (w : World) (mg mb : Str → Option Value) (s : Shared), Base w mg mb s.heap → Builtin.divisionGoesByPylong a b = false ∨ PySem.PylongRoom (model PG w) A s) : CalV t A (.builtin "divmod") [.int a, .int b] (.tup [.int (a.fdiv b), .int (a.fmod b)]) := by
  constructor; intro w mg mb s xs Q E B r h
  obtain ⟨u, v, rfl, r1, r2⟩ := mrels2 r
  obtain ⟨t1, rfl⟩ := IRel.int r1
  obtain ⟨t2, rfl⟩ := IRel.int r2
  refine divmod_int hb ?_ (hp w mg mb s B)
  exact h _ _ (Go.push (tk := s.toks + 1 + 1) B _) ⟨_, [.int (a.fdiv b) s.toks, .int (a.fmod b) (s.toks + 1)], rfl, by simp, ⟨_, Heap.get?_push_size _ rfl, rfl, 0, rfl⟩, ⟨IRel.ofInt _ _, IRel.ofInt _ _, trivial⟩, by simp [cap]⟩
theorem CmpV.isNone {v : MV} {b : Bool} (hb : match v with | .im .none => b = true | _ => b = false) : CmpV A .Is v .none b := by
  constructor; intro w mg mb s u z Q E B r1 r2 h
  cases IRel.none r2
  refine is_none ?_
  have : (u == Value.none) = b := by
    match v, hb, r1 with
    | .im .none, hb, r1 => cases IRel.none r1; rw [hb]; rfl
    | .im (.int i), hb, r1 => obtain ⟨t, rfl⟩ := IRel.int r1; rw [hb]; rfl
    | .im (.bool i), hb, r1 => cases IRel.bool r1; rw [hb]; rfl
    | .im (.str i), hb, r1 => obtain ⟨t, rfl⟩ := IRel.str r1; rw [hb]; rfl
    | .list l, hb, r1 => obtain ⟨a, vs, rfl, _⟩ := r1; rw [hb]; rfl
    | .tup l, hb, r1 => obtain ⟨a, vs, rfl, _⟩ := r1; rw [hb]; rfl
    | .fn a, hb, r1 => have r1 : u = .ref a := r1; subst r1; rw [hb]; rfl
  rw [this]
  exact h s (Go.refl B)
end
-- part L14
open PySem PySem.W PyProof.Rows PySem.Calls PySem.SeqAt
set_option maxHeartbeats 1000000
/-- names of the frame around, seen from within -/
inductive Frees (env env' : Env) (σ : List Ent) : List Str → List Ent → Prop
  | nil : Frees env env' σ [] []
  | cons {z zs u fs} : Has σ z u → (env.kindOf z = some .cell ∨ env.kindOf z = some .free) → (env'.kindOf z = some .cell ∨ env'.kindOf z = some .free) → env'.cells.lookup z = env.cells.lookup z → Frees env env' σ zs fs → Frees env env' σ (z :: zs) ((z, .free, some u) :: fs)
theorem Frees.has {env env' : Env} {σ : List Ent} {zs : List Str} {fs : List Ent} (F : Frees env env' σ zs fs) : ∀ {z : Str} {u : MV}, Has fs z u → Has σ z u ∧ ∀ h y, HoldsAt env h z y → HoldsAt env' h z y := by
  induction F with
  | nil => intro z u h; cases h
  | cons h1 h2 h3 h4 hr ih =>
    intro z u h
    cases h with
    | here =>
      refine ⟨h1, fun h y hy => ?_⟩
      rcases hy with ⟨k, m, n, e⟩ | ⟨k, c, n, e⟩
      · rw [k] at h2; rcases h2 with h2 | h2 <;> cases h2
      · exact .inr ⟨h3, c, h4.trans n, e⟩
    | there h => exact ih h
section
variable {w : World} {mg mb : Str → Option Value} {t : Bool}
/-- the frame of a comprehension, its target bound -/
noncomputable def CSP (P : SP w mg mb t) (env' : Env) (hf : env'.scope.kind = .function) (hg : env'.globals = P.env.globals) (hb : env'.builtins = P.env.builtins) (x : Str) (v : IV) {zs : List Str} {fr : List Ent} (hfr : Frees P.env env' P.σ zs fr) : SP w mg mb t where
  env := env'
  σ := (x, .local, some (.im v)) :: fr
  p := fun s => P.p s ∧ VarIs env' [] s.heap x (.im v)
  fn := hf
  glob := hg.trans P.glob
  blt := hb.trans P.blt
  base := fun h => P.base h.1
  go := fun h g => ⟨P.go h.1 g, g.varIs (P.base h.1) h.2⟩
  rd := fun h hx => by
    cases hx with
    | here => exact h.2
    | there hx =>
      obtain ⟨h1, h2⟩ := hfr.has hx
      obtain ⟨y, r, q⟩ := P.rd h.1 h1
      exact ⟨y, r, h2 _ _ q⟩
structure EvIfs (A : Around) (P : SP w mg mb t) (ifs : List PySem.Expr) (b : Bool) : Prop where
  run : ∀ (s : Shared) (Q : Bool → Shared → Prop) (E : Value → Shared → Prop), P.p s → (∀ s', Go w mg mb t s s' → Q b s') →
    wpAny (model PG w) A (forIn ifs true fun c r => if r = true then do let ok ← PySem.isTrue c P.env (eval c P.env); pure (ForInStep.yield ok) else pure (ForInStep.yield r)) Q E s
variable {A : Around} {P : SP w mg mb t}
theorem EvIfs.nil : EvIfs A P [] true := ⟨fun s Q E hs h => by rw [List.forIn_nil]; exact wpAny_pure (h _ (Go.refl (P.base hs)))⟩
theorem EvIfs.one {e : PySem.Expr} {b : Bool} (he : EvC A P e b) : EvIfs A P [e] b := ⟨fun s Q E hs h => by
  rw [List.forIn_cons]
  simp only [if_true]
  refine wpAny_bind (wpAny_bind (he.run s _ _ hs fun s' g => wpAny_pure ?_))
  exact wpAny_pure (h s' g)⟩
theorem newCompEnv {M : Model} {E : Value → Shared → Prop} {s : Shared} {scope : Scope} {g : Addr} {cl : List (Str × Addr)} {q : Str} {env : Env} {Q : Env → Shared → Prop}
    (h : Q { scope := scope, locals := s.heap.objs.size, globals := g, cells := cellsFrom (s.heap.objs.size + 1) scope.names cl, qual := q, func := none, code := env.code, frame := env.frame, builtins := env.builtins } { s with heap := pushCells (s.heap.push { cls := .type "dict", data := .dict #[] }) scope.names }) :
    wpAny M A (newFunctionEnv scope g cl [] q none .none (some env)) Q E s := by
  simp only [newFunctionEnv, Option.isSome_some, if_true]
  refine wpAny_bind (wpAny_alloc ?_)
  refine wpAny_bind (wpAny_layCells _ (fun name kind cells => by cases hkc : kind == NameKind.cell <;> simp [hkc]) _ _ _ _ ?_)
  rw [show ({ s with heap := s.heap.push { cls := .type "dict", data := .dict #[] } } : Shared).heap.objs.size = s.heap.objs.size + 1 from Heap.size_push ..]
  refine wpAny_bind ?_
  rw [List.forIn_nil]
  exact wpAny_pure (wpAny_pure h)
/-- where the target of a comprehension is kept -/
structure Tgt (env' : Env) (x : Str) (h : Heap) (a : Addr) : Prop where
  way : (env'.kindOf x = some .local ∧ a = env'.locals ∧ ∃ m, h.Ns a m) ∨ (env'.kindOf x = some .cell ∧ env'.cells.lookup x = some a ∧ ∃ v, h.IsCell a v)
theorem Tgt.obj {env' : Env} {x : Str} {h : Heap} {a : Addr} (T : Tgt env' x h a) : ∃ o, h.get? a = some o ∧ (∀ xs n, o.data ≠ .seq xs n) ∧ (∀ vs, o.data ≠ .fields vs) := by
  rcases T.way with ⟨_, _, m, o, es, ep, e, d, _⟩ | ⟨_, _, v, o, e, d⟩
  · exact ⟨o, e, (by rw [d]; intro _ _ q; cases q), (by rw [d]; intro _ q; cases q)⟩
  · exact ⟨o, e, (by rw [d]; intro _ _ q; cases q), (by rw [d]; intro _ q; cases q)⟩
theorem Tgt.keep {env' : Env} {x : Str} {h h' : Heap} {a : Addr} (T : Tgt env' x h a) (k : ∀ o, h.get? a = some o → h'.get? a = some o) : Tgt env' x h' a := by
  rcases T.way with ⟨h1, h2, m, o, es, ep, e, r⟩ | ⟨h1, h2, v, o, e, d⟩
  · exact ⟨.inl ⟨h1, h2, m, o, es, ep, k o e, r⟩⟩
  · exact ⟨.inr ⟨h1, h2, v, o, k o e, d⟩⟩
theorem Tgt.store {env' : Env} {x : Str} {s : Shared} {a : Addr} {E : Value → Shared → Prop} {y : Value} {Q : Unit → Shared → Prop} (hf : env'.scope.kind = .function) (T : Tgt env' x s.heap a)
    (h : ∀ h' tk, Heap.SameBut a s.heap h' → Tgt env' x h' a → HoldsAt env' h' x y → Q () { s with heap := h', toks := tk }) : wpAny (model PG w) A (storeName env' x y) Q E s := by
  rcases T.way with ⟨h1, rfl, m, n⟩ | ⟨h1, h2, v, n⟩
  · exact wpAny_storeName_local h1 n (fun h' hn' hs' => h h' _ hs' ⟨.inl ⟨h1, rfl, _, hn'⟩⟩ (.inl ⟨h1, _, hn', if_pos rfl⟩)) (by rw [hf]; rfl)
  · exact wpAny_storeName_cell hf h1 h2 n fun h' hc' hs' => h h' _ hs' ⟨.inr ⟨h1, h2, _, hc'⟩⟩ (.inr ⟨.inl h1, a, h2, hc'⟩)
structure CInv (w : World) (mg mb : Str → Option Value) (t : Bool) (s : Shared) (xs : List IV) (p : IV → Bool) (f : IV → IV) (St : Nat → Heap → Prop) (Dd Cc : Addr) (T : Heap → Prop) (k : Nat) (s' : Shared) (i : Nat) (ys : List Value) : Prop where
  le : i ≤ xs.length
  eq : k = xs.length + 1 - i
  go : Go w mg mb t s s'
  st : St i s'.heap
  pl : s'.heap.PlainList Dd (List.toArray ys)
  ir : IRels (((xs.take i).filter p).map f) ys
  ns : ∃ m, s'.heap.Ns Cc m
  tg : T s'.heap
theorem compCore {elt iter : PySem.Expr} {x : Str} {px pos : Pos} {ifs : List PySem.Expr} {scope : Scope} {cl : List (Str × Addr)} {xs : List IV} {p : IV → Bool} {f : IV → IV} {zs : List Str} {fr : Addr → List Ent}
    (hlen : xs.length ≤ cap) (hkind : scope.kind = .function) (hx : ∀ C : Addr, (compEnvC scope (cellsFrom (C + 1) scope.names cl) C P.env).kindOf x = some .local ∨ ((compEnvC scope (cellsFrom (C + 1) scope.names cl) C P.env).kindOf x = some .cell ∧ (cellsFrom (C + 1) scope.names cl).lookup x = some (C + 1) ∧ ∃ d nm r, scope.names = (d, .local) :: (nm, .cell) :: r))
    (hfr : ∀ C : Addr, Frees P.env (compEnvC scope (cellsFrom (C + 1) scope.names cl) C P.env) P.σ zs (fr C))
    (htest : ∀ v ∈ xs, ∀ C : Addr, EvIfs A (CSP P (compEnvC scope (cellsFrom (C + 1) scope.names cl) C P.env) hkind rfl rfl x v (hfr C)) ifs (p v))
    (helt : ∀ v ∈ xs, p v = true → ∀ C : Addr, EvT A (CSP P (compEnvC scope (cellsFrom (C + 1) scope.names cl) C P.env) hkind rfl rfl x v (hfr C)) elt (.im (f v)))
    {s : Shared} {E : Value → Shared → Prop} (hs : P.p s) {it : Addr} {s₁ : Shared} {fp : List Addr} {P' : Nat → Value → Prop} {St : Nat → Heap → Prop} (g : Go w mg mb t s s₁) (I : ItIs w A [] s₁.heap it fp xs P' St) (hn : s.heap.get? it = none)
    {R : Value → Addr → Result → Shared → Prop} (hR : ∀ D C ys s', Go w mg mb t s s' → s.heap.get? D = none → s.heap.get? C = none → D ≠ C → s'.heap.PlainList D (List.toArray ys) → IRels ((xs.filter p).map f) ys → (∃ m, s'.heap.Ns C m) → R (.ref D) C (.ok .next) s') :
    wpAny (model PG w) A (newList []) (fun acc s₃ => wpAny (model PG w) A (newFunctionEnv scope P.env.globals cl [] P.env.qual none .none (some P.env)) (fun cenv s₄ =>
      codeAny (model PG w) A (.compStart (.ListComp elt [⟨.Name x px, iter, ifs, 0⟩] scope pos) 0 (.ref it) acc { cenv with scope := relabel scope P.env }) (R acc cenv.locals) s₄) E s₃) E s₁ := by
  refine wpAny_newObj_type (newCompEnv ?_)
  dsimp only
  generalize hH2 : s₁.heap.push { cls := .type "list", dict := none, data := .seq ([] : List Value).toArray } = H2
  have hC : H2.objs.size = s₁.heap.objs.size + 1 := by rw [← hH2, Heap.size_push]
  generalize hH3 : pushCells (H2.push { cls := .type "dict", data := .dict #[] }) scope.names = H3
  have k2 : ∀ b o, H2.get? b = some o → H3.get? b = some o := fun b o e => by rw [← hH3]; exact pushCells_keeps _ _ b o (Heap.get?_push_of_some _ e)
  have k1 : ∀ b o, s₁.heap.get? b = some o → H3.get? b = some o := fun b o e => k2 b o (by rw [← hH2]; exact Heap.get?_push_of_some _ e)
  have nz : ∀ b, s₁.heap.objs.size ≤ b → s₁.heap.get? b = none := fun b hb => Heap.get?_none_of_le hb
  have zs' : ∀ b, s₁.heap.objs.size ≤ b → s.heap.get? b = none := fun b hb => g.none (nz b hb)
  have hD : H3.PlainList s₁.heap.objs.size (List.toArray []) := ⟨0, k2 _ _ (by rw [← hH2]; exact Heap.get?_push_size _ rfl)⟩
  have hNs : H3.Ns H2.objs.size fun _ => none := by
    rw [← hH3]
    exact (Heap.Ns.new H2 (.type "dict")).keeps (pushCells_keeps _ _)
  have hDC : s₁.heap.objs.size ≠ H2.objs.size := by rw [hC]; exact Nat.ne_of_lt (Nat.lt_succ_self _)
  generalize hCC : H2.objs.size = Cc at hNs hDC hC
  generalize hDD : s₁.heap.objs.size = Dd at hD hDC hC nz zs'
  obtain ⟨a, hTgt, haD, hale⟩ : ∃ a, Tgt (compEnvC scope (cellsFrom (Cc + 1) scope.names cl) Cc P.env) x H3 a ∧ a ≠ Dd ∧ Dd ≤ a := by
    rcases hx Cc with h | ⟨h1, h2, d0, nm, r0, h3⟩
    · exact ⟨Cc, ⟨.inl ⟨h, rfl, _, hNs⟩⟩, Ne.symm hDC, hC ▸ Nat.le_succ _⟩
    · refine ⟨Cc + 1, ⟨.inr ⟨h1, h2, Option.none, ?_⟩⟩, hC ▸ Nat.ne_of_gt (Nat.lt_succ_of_lt (Nat.lt_succ_self _)), hC ▸ Nat.le_succ_of_le (Nat.le_succ _)⟩
      rw [← hH3, h3]
      show (pushCells ((H2.push { cls := .type "dict", data := .dict #[] }).push { cls := .type "cell", data := .cell none }) r0).IsCell _ _
      have : Cc + 1 = (H2.push { cls := .type "dict", data := .dict #[] }).objs.size := by rw [Heap.size_push, hCC]
      rw [this]
      exact ⟨{ cls := .type "cell", data := .cell none }, pushCells_keeps _ _ _ _ (Heap.get?_push_size _ rfl), rfl⟩
  have g3 : Go w mg mb t s { s₁ with heap := H3 } := g.trans (Go.keep (tk := s₁.toks) g.base k1)
  have fpD : Dd ∉ fp := fun hm => by obtain ⟨o, e, _⟩ := I.ok 0 _ I.st _ hm; rw [nz _ (Nat.le_refl _)] at e; cases e
  have fpa : a ∉ fp := fun hm => by obtain ⟨o, e, _⟩ := I.ok 0 _ I.st _ hm; rw [nz _ hale] at e; cases e
  have fpC : Cc ∉ fp := fun hm => by obtain ⟨o, e, _⟩ := I.ok 0 _ I.st _ hm; rw [nz _ (hC ▸ Nat.le_succ _)] at e; cases e
  have hit : Dd ≠ it ∧ a ≠ it ∧ Cc ≠ it := ⟨fun q => fpD (q ▸ I.mem), fun q => fpa (q ▸ I.mem), fun q => fpC (q ▸ I.mem)⟩
  have hsa : s.heap.get? a = none := zs' a hale
  have hsD : s.heap.get? Dd = none := zs' Dd (Nat.le_refl _)
  have hsC : s.heap.get? Cc = none := zs' Cc (hC ▸ Nat.le_succ _)
  have st3 : St 0 H3 := I.W.frame _ _ _ I.st fun b _ o e => k1 b o e
  have key : codeAny (model PG w) A (.compLoop (.ListComp elt [⟨.Name x px, iter, ifs, 0⟩] scope pos) 0 (.ref it) (.ref Dd) (compEnvC scope (cellsFrom (Cc + 1) scope.names cl) Cc P.env)) (R (.ref Dd) Cc) { s₁ with heap := H3 } := by
    refine codeAny_compLoop_tests (fun k s' => ∃ i ys, CInv w mg mb t s xs p f St Dd Cc (fun h => Tgt (compEnvC scope (cellsFrom (Cc + 1) scope.names cl) Cc P.env) x h a) k s' i ys) ?_ _
      ⟨0, [], Nat.zero_le _, rfl, g3, st3, hD, trivial, ⟨_, hNs⟩, hTgt⟩
    rintro k s₂ ⟨i, ys, hile, rfl, g₂, st₂, ⟨n₂, pl₂⟩, hr, ⟨m₂, ns₂⟩, tg₂⟩
    by_cases hlt : i < xs.length
    · refine I.W.item i s₂ _ _ hlt st₂ fun v h₃ tk₃ hP st₃ hk₃ => ?_
      obtain ⟨b, hb, rb⟩ := I.val i v hP
      have hbm : b ∈ xs := List.mem_of_getElem? hb
      have k₃ : ∀ b o, b ≠ it → s₂.heap.get? b = some o → h₃.get? b = some o := fun b o hb e => hk₃ b o (by simpa using hb) e
      have g₃ : Go w mg mb t s { s₂ with heap := h₃, toks := tk₃ } := ⟨fun b o hb e => k₃ b o (fun q => by rw [q, hn] at e; cases e) (g₂.ext b o hb e), Base.ext (P.base hs) g₂.base k₃ hn (fun o e => .inl (I.fl _ _ st₂ o e).2), g₂.gens, g₂.drawn, g₂.os⟩
      refine PySem.wpAny_assign_Name (Tgt.store hkind (tg₂.keep fun o e => k₃ _ o hit.2.1 e) fun h₄ tk₄ hs₄ tg₄ ho₄ => ?_)
      have g₄ : Go w mg mb t s { s₂ with heap := h₄, toks := tk₄ } := Go.same (s := { s₂ with heap := h₃, toks := tk₃ }) (P.base hs) g₃ hs₄ hsa (NotCode.data fun o e => by
        obtain ⟨o', e', _, h2⟩ := (tg₂.keep fun o e => k₃ _ o hit.2.1 e).obj
        have e : h₃.get? a = some o := e
        rw [e] at e'; cases e'; exact h2)
      have st₄ : St (i + 1) h₄ := I.W.frame _ _ _ st₃ fun b hb o e => (hs₄.2 b (fun q => fpa (q ▸ hb))).trans e
      have pl₄ : h₄.PlainList Dd (List.toArray ys) := ⟨n₂, (hs₄.2 Dd (Ne.symm haD)).trans (k₃ _ _ hit.1 pl₂)⟩
      have ns₃ : h₃.Ns Cc m₂ := ns₂.at' fun o e => k₃ _ o hit.2.2 e
      have ns₄ : ∃ m, h₄.Ns Cc m := by
        rcases tg₄.way with ⟨_, e, m, n⟩ | ⟨h1, _, v, o, e, d⟩
        · have e : a = Cc := e
          exact ⟨m, e ▸ n⟩
        · refine ⟨m₂, ns₃.sameBut hs₄ fun q => ?_⟩
          rcases tg₂.way with ⟨h2, _⟩ | ⟨_, _, v, o, e, d⟩
          · rw [h1] at h2; cases h2
          · obtain ⟨o', es, ep, e', d', _⟩ := ns₂
            rw [q, e] at e'; cases e'; rw [d] at d'; cases d'
      have p₄ : (CSP P (compEnvC scope (cellsFrom (Cc + 1) scope.names cl) Cc P.env) hkind rfl rfl x b (hfr Cc)).p { s₂ with heap := h₄, toks := tk₄ } := ⟨P.go hs g₄, ⟨v, rb, ho₄⟩⟩
      have stG : ∀ {s' s'' : Shared} {j : Nat}, Go w mg mb t s s' → St j s'.heap → Go w mg mb t s' s'' → St j s''.heap := fun g' st' g'' => I.W.frame _ _ _ st' fun b hb o e => by
        obtain ⟨o', e', _, _, hc⟩ := I.ok _ _ st' b hb
        rw [e] at e'; cases e'
        exact g''.get g'.base e hc
      have tgG : ∀ {s' s'' : Shared}, Go w mg mb t s s' → Tgt (compEnvC scope (cellsFrom (Cc + 1) scope.names cl) Cc P.env) x s'.heap a → Go w mg mb t s' s'' → Tgt (compEnvC scope (cellsFrom (Cc + 1) scope.names cl) Cc P.env) x s''.heap a := fun g' tg' g'' => tg'.keep fun o e => by
        obtain ⟨o', e', h1, h2⟩ := tg'.obj
        rw [e] at e'; cases e'
        exact g''.get' g'.base e h2
      have htake : xs.take (i + 1) = xs.take i ++ [b] := by rw [List.take_add_one, hb]; rfl
      refine (htest b hbm Cc).run _ _ _ p₄ fun s₅ g₅ => ?_
      have g₅' := g₄.trans g₅
      have pl₅ := g₅.plain g₄.base pl₄
      obtain ⟨m₄, ns₄⟩ := ns₄
      have ns₅ := g₅.ns g₄.base ns₄
      cases hpb : p b with
      | false =>
        simp only [Bool.false_eq_true, if_false]
        refine ⟨_, Nat.lt_of_lt_of_le (Nat.sub_lt_sub_left (by (first | lia | omega)) (Nat.lt_succ_self i)) (Nat.le_refl _), i + 1, ys, hlt, rfl, g₅', stG g₄ st₄ g₅, pl₅, ?_, ⟨_, ns₅⟩, tgG g₄ tg₄ g₅⟩
        rw [htake, List.filter_append]; simpa [hpb] using hr
      | true =>
        simp only [if_true]
        refine (helt b hbm hpb Cc).run _ _ _ ((CSP P (compEnvC scope (cellsFrom (Cc + 1) scope.names cl) Cc P.env) hkind rfl rfl x b (hfr Cc)).go p₄ g₅) fun y s₆ g₆ r₆ => ?_
        have g₆' := g₅'.trans g₆
        have hyl := hr.length
        have hle : (((xs.take i).filter p).map f).length ≤ xs.length := by
          rw [List.length_map]
          exact Nat.le_trans (List.length_filter_le _ _) (by rw [List.length_take]; (first | lia | omega))
        simp only [cap] at hlen
        refine wpAny_list_append_plain (g₆.plain g₅'.base pl₅) (fun h₇ pl₇ hs₇ => ?_) (by rw [List.size_toArray, sizeLine_eq]; (first | lia | omega))
        have g₇ : Go w mg mb t s { s₆ with heap := h₇ } := Go.same (tk := s₆.toks) (P.base hs) g₆' hs₇ hsD (NotCode.plain (g₆.plain g₅'.base pl₅))
        refine ⟨_, Nat.lt_of_lt_of_le (Nat.sub_lt_sub_left (by (first | lia | omega)) (Nat.lt_succ_self i)) (Nat.le_refl _), i + 1, ys ++ [y], hlt, rfl, g₇, ?_, by simpa using pl₇, ?_, ⟨_, (g₆.ns g₅'.base ns₅).sameBut hs₇ (Ne.symm hDC)⟩, ?_⟩
        · exact I.W.frame _ _ _ (stG g₅' (stG g₄ st₄ g₅) g₆) fun b hb o e => (hs₇.2 b (fun q => fpD (q ▸ hb))).trans e
        · rw [htake, List.filter_append, List.map_append]
          have e : ([b].filter p).map f = [f b] := by simp [hpb]
          rw [e]
          exact hr.append ⟨r₆, trivial⟩
        · exact (tgG g₅' (tgG g₄ tg₄ g₅) g₆).keep fun o e => (hs₇.2 a haD).trans e
    · have hie : i = xs.length := by (first | lia | omega)
      subst hie
      refine I.W.done s₂ _ _ st₂ fun h₃ tk₃ hk₃ => ?_
      have k₃ : ∀ b o, b ≠ it → s₂.heap.get? b = some o → h₃.get? b = some o := fun b o hb e => hk₃ b o (by simpa using hb) e
      refine hR Dd Cc ys _ ⟨fun b o hb e => k₃ b o (fun q => by rw [q, hn] at e; cases e) (g₂.ext b o hb e), Base.ext (P.base hs) g₂.base k₃ hn (fun o e => .inl (I.fl _ _ st₂ o e).2), g₂.gens, g₂.drawn, g₂.os⟩ hsD hsC hDC ⟨n₂, k₃ _ _ hit.1 pl₂⟩ ?_ ⟨m₂, ns₂.at' fun o e => k₃ _ o hit.2.2 e⟩
      rw [List.take_length] at hr; exact hr
  exact codeAny_compStart_list key (I.W.self 0 _ _ _ st3 key)
end
-- part L15
open PySem PySem.W PyProof.Rows PySem.Calls PySem.SeqAt
set_option maxHeartbeats 1000000
section
variable {w : World} {mg mb : Str → Option Value} {t : Bool} {A : Around} {P : SP w mg mb t}
noncomputable def namesOk (names : List (Str × NameKind)) : Bool := names.all fun p => p.2 != .local || names.lookup p.1 == some .local
theorem namesOk.out {names : List (Str × NameKind)} (h : namesOk names = true) : ∀ x ∈ names, x.2 = .local → names.lookup x.1 = some .local := fun x hx e => by
  have := List.all_eq_true.mp h x hx
  rw [e] at this
  simpa using this
theorem EvF.comp {elt iter : PySem.Expr} {x : Str} {px pos : Pos} {ifs : List PySem.Expr} {scope : Scope} {cl : List (Str × Addr)} {xs : List IV} {p : IV → Bool} {f : IV → IV} {zs : List Str} {fr : Addr → List Ent}
    (he : EvI A P [] iter xs) (hlen : xs.length ≤ cap) (hclos : closureFor scope P.env = pure cl) (hkind : scope.kind = .function) (hnames : namesOk scope.names = true) (hx : ∀ C : Addr, (compEnvC scope (cellsFrom (C + 1) scope.names cl) C P.env).kindOf x = some .local ∨ ((compEnvC scope (cellsFrom (C + 1) scope.names cl) C P.env).kindOf x = some .cell ∧ (cellsFrom (C + 1) scope.names cl).lookup x = some (C + 1) ∧ ∃ d nm r, scope.names = (d, .local) :: (nm, .cell) :: r))
    (hfr : ∀ C : Addr, Frees P.env (compEnvC scope (cellsFrom (C + 1) scope.names cl) C P.env) P.σ zs (fr C))
    (htest : ∀ v ∈ xs, ∀ C : Addr, EvIfs A (CSP P (compEnvC scope (cellsFrom (C + 1) scope.names cl) C P.env) hkind rfl rfl x v (hfr C)) ifs (p v))
    (helt : ∀ v ∈ xs, p v = true → ∀ C : Addr, EvT A (CSP P (compEnvC scope (cellsFrom (C + 1) scope.names cl) C P.env) hkind rfl rfl x v (hfr C)) elt (.im (f v)))
    (hs : ∀ x, foldedSetIterable iter P.env x = pure x := by intro _; rfl) : EvF A P (.ListComp elt [⟨.Name x px, iter, ifs, 0⟩] scope pos) ((xs.filter p).map f) := ⟨fun s Q E hs' h => by
  rw [eval_ListComp]
  refine wpAny_comprehension_free (use := none) rfl hs hclos hkind (namesOk.out hnames) (he.run s _ _ hs' fun it s₁ fp P' St g I hn => compCore hlen hkind hx hfr htest helt hs' g I hn fun D C ys s' g' hD hC hDC pl hr ⟨m, ns⟩ => ⟨m, ns, fun h' hs'' => ?_⟩)
  obtain ⟨n, pl⟩ := pl
  refine h D ys { s' with heap := h' } (Go.same (tk := s'.toks) (P.base hs') g' hs'' hC (NotCode.ns ns)) hD ⟨n, (hs''.2 _ hDC).trans pl⟩ hr ?_
  rw [List.length_map]
  exact Nat.le_trans (List.length_filter_le _ _) hlen⟩
end
theorem FS.dropAt {w : World} {mg mb : Str → Option Value} {t : Bool} {s₀ : Shared} {pr : Pr} {env : Env} {σ : List Ent} {s : Shared} {a : Addr} {h' : Heap} {m : Str → Option Value} (F : FS w mg mb t s₀ pr env σ none s) (hs : Heap.SameBut a s.heap h') (ha : s₀.heap.get? a = none) (hl : env.locals ≠ a) (hc : ∀ x c, env.cells.lookup x = some c → c ≠ a) (hv : s.heap.Ns a m) (hp : ∀ p ∈ pr, p.1 ≠ a) : FS w mg mb t s₀ pr env σ none { s with heap := h' } := by
  have nseq : ∀ o, s.heap.get? a = some o → ∀ xs n, o.data ≠ .seq xs n := by
    obtain ⟨o1, es1, ep1, e1, d1, _⟩ := hv
    intro o e xs n q; rw [e1] at e; cases e; rw [d1] at q; cases q
  have hho : ∀ {x y}, HoldsAt env s.heap x y → HoldsAt env h' x y := fun h => by
    rcases h with ⟨k, m, n, e⟩ | ⟨k, c, n, e⟩
    · exact .inl ⟨k, m, n.sameBut hs hl, e⟩
    · exact .inr ⟨k, c, n, e.sameBut hs (hc _ _ n)⟩
  exact ⟨F.b0, F.go.same (tk := s.toks) F.b0 hs ha (NotCode.ns hv), let ⟨m, n⟩ := F.ns; ⟨m, n.sameBut hs hl⟩, fun z u hz => let ⟨y, r, q⟩ := F.vars z u hz; ⟨y, mrel_same hs nseq r, hho q⟩, trivial, F.fresh,
    fun z c hz => let ⟨v, e⟩ := F.cells z c hz; ⟨v, e.sameBut hs (hc _ _ hz)⟩, F.own, fun p hp' => let P := F.prs p hp'; ⟨(hs.2 _ (hp p hp')).trans P.get, P.dict, P.cell, P.cls, P.off⟩⟩
section
variable {C : Cx} {σ σ' : List Ent} {Φ : Fl → Prop}
theorem X1.asgComp {y : Str} {py spos : Pos} {elt iter : PySem.Expr} {x : Str} {px pos : Pos} {ifs : List PySem.Expr} {scope : Scope} {cl : List (Str × Addr)} {xs : List IV} {p : IV → Bool} {f : IV → IV} {zs : List Str} {fr : Addr → List Ent}
    (he : EvI C.A (C.P σ none) [] iter xs) (hlen : xs.length ≤ cap) (hclos : closureFor scope C.env = pure cl) (hkind : scope.kind = .function) (hnames : namesOk scope.names = true) (hx : ∀ D : Addr, (compEnvC scope (cellsFrom (D + 1) scope.names cl) D C.env).kindOf x = some .local ∨ ((compEnvC scope (cellsFrom (D + 1) scope.names cl) D C.env).kindOf x = some .cell ∧ (cellsFrom (D + 1) scope.names cl).lookup x = some (D + 1) ∧ ∃ d nm r, scope.names = (d, .local) :: (nm, .cell) :: r))
    (hfr : ∀ D : Addr, Frees C.env (compEnvC scope (cellsFrom (D + 1) scope.names cl) D C.env) (C.P σ none).σ zs (fr D))
    (htest : ∀ v ∈ xs, ∀ D : Addr, EvIfs C.A (CSP (C.P σ none) (compEnvC scope (cellsFrom (D + 1) scope.names cl) D C.env) hkind rfl rfl x v (hfr D)) ifs (p v))
    (helt : ∀ v ∈ xs, p v = true → ∀ D : Addr, EvT C.A (CSP (C.P σ none) (compEnvC scope (cellsFrom (D + 1) scope.names cl) D C.env) hkind rfl rfl x v (hfr D)) elt (.im (f v)))
    (hst : St σ y (.list ((xs.filter p).map f)) σ') (h : Φ (.next σ' none))
    (hsw : swapsWith (.ListComp elt [⟨.Name x px, iter, ifs, 0⟩] scope pos) (some (.Name y py)) spos.line C.env = pure true := by rfl) (hs : ∀ x, foldedSetIterable iter C.env x = pure x := by intro _; rfl) :
    X1 C σ none (.Assign [.Name y py] (.ListComp elt [⟨.Name x px, iter, ifs, 0⟩] scope pos) spos) Φ := ⟨fun sg s Q E F hq => by
  rw [exec_Assign_Name_used _ _ _ _ hsw]
  refine wpAny_bind (wpAny_standAt (wpAny_bind ?_))
  show wpAny _ C.A (do let _ ← comprehension (.ListComp elt [⟨.Name x px, iter, ifs, 0⟩] scope pos) scope C.env _ (newList []) false (eval iter C.env) (some (assign (.Name y py) C.env))) _ _ s
  refine wpAny_bind (wpAny_mono (wpAny_comprehension_free (use := some (assign (.Name y py) C.env)) (Q := fun _ s' => Q .next s') rfl hs hclos hkind (namesOk.out hnames)
    (he.run s _ _ F fun it s₁ fp P' St g I hn => compCore hlen hkind hx hfr htest helt F g I hn fun D Cc ys s' g' hD hC hDC pl hr ⟨m, ns⟩ => ?_)) (fun _ s' hq => wpAny_pure (wpAny_pure hq)) fun _ _ e => e)
  have F' := FS.goes F g'
  have hlen' : ((xs.filter p).map f).length ≤ cap := by rw [List.length_map]; exact Nat.le_trans (List.length_filter_le _ _) hlen
  have hlC : C.env.locals ≠ Cc := fun q => by obtain ⟨m, o, es, ep, e, _⟩ := F.ns; rw [q, hC] at e; cases e
  have hcC : ∀ x c, C.env.cells.lookup x = some c → c ≠ Cc := fun z c hz q => by obtain ⟨v, o, e, _⟩ := F.cells z c hz; rw [q, hC] at e; cases e
  show wpAny _ C.A (assign (.Name y py) C.env (.ref D)) _ _ _
  refine PySem.wpAny_assign_Name (storeX sg F' hst ⟨D, ys, rfl, by simp, pl, hr, hlen'⟩ trivial trivial fun s₂ sg₂ F₂ S => ?_)
  obtain ⟨a, ha, hsa⟩ := S.same
  have haC : Cc ≠ a := by
    rcases ha with rfl | ⟨c, hc, rfl⟩
    · exact Ne.symm hlC
    · exact Ne.symm (hcC _ _ hc)
  have ns₂ := ns.sameBut hsa haC
  refine ⟨m, ns₂, fun h' hs' => hq .next _ ⟨_, _, sg₂, F₂.dropAt hs' (F.go.none hC) hlC hcC ns₂ (fun q hq' e => ?_), h⟩⟩
  have := (F.prs q hq').get
  rw [e, hC] at this; cases this⟩
end
-- part L16
open PySem PySem.W PyProof.Rows PySem.Calls PySem.SeqAt
set_option maxHeartbeats 1000000
theorem BindsTo.of_looks {K : Frag} {s : Shared} {fd : FuncData} {args : Args} {binds : List (Str × Value)} (x : K.In s.heap) (e : ∀ M : Model, peek K ⟨M.prog, M.w.params⟩ (bindArgs fd args) = some binds) : BindsTo s fd args binds := fun M A E Q hq => (Looks.of_peek (M := M) x (e M)).here hq
theorem bindD2 {K : Frag} {s : Shared} {fd : FuncData} {ps : List Str} {dv : List Value} (x : K.In s.heap) (e : ∀ (M : Model) (a b : Value), peek K ⟨M.prog, M.w.params⟩ (bindArgs fd ⟨[a, b], []⟩) = some (ps.zip ([a, b] ++ dv))) (xs : List Value) (h : xs.length = 2) : BindsTo s fd ⟨xs, []⟩ (ps.zip (xs ++ dv)) :=
  len2 (P := fun xs => BindsTo s fd ⟨xs, []⟩ (ps.zip (xs ++ dv))) (fun a b => BindsTo.of_looks x fun M => e M a b) xs h
theorem bindD3 {K : Frag} {s : Shared} {fd : FuncData} {ps : List Str} {dv : List Value} (x : K.In s.heap) (e : ∀ (M : Model) (a b c : Value), peek K ⟨M.prog, M.w.params⟩ (bindArgs fd ⟨[a, b, c], []⟩) = some (ps.zip ([a, b, c] ++ dv))) (xs : List Value) (h : xs.length = 3) : BindsTo s fd ⟨xs, []⟩ (ps.zip (xs ++ dv)) :=
  len3 (P := fun xs => BindsTo s fd ⟨xs, []⟩ (ps.zip (xs ++ dv))) (fun a b c => BindsTo.of_looks x fun M => e M a b c) xs h
theorem bindD4 {K : Frag} {s : Shared} {fd : FuncData} {ps : List Str} {dv : List Value} (x : K.In s.heap) (e : ∀ (M : Model) (a b c d : Value), peek K ⟨M.prog, M.w.params⟩ (bindArgs fd ⟨[a, b, c, d], []⟩) = some (ps.zip ([a, b, c, d] ++ dv))) (xs : List Value) (h : xs.length = 4) : BindsTo s fd ⟨xs, []⟩ (ps.zip (xs ++ dv)) :=
  len4 (P := fun xs => BindsTo s fd ⟨xs, []⟩ (ps.zip (xs ++ dv))) (fun a b c d => BindsTo.of_looks x fun M => e M a b c d) xs h
theorem mrels_append : ∀ {X : List Addr} {h : Heap} {as bs : List MV} {xs ys : List Value}, MRels X h as xs → MRels X h bs ys → MRels X h (as ++ bs) (xs ++ ys)
  | _, _, [], _, [], _, _, h => h
  | _, _, _ :: _, _, _ :: _, _, h, h' => ⟨h.1, mrels_append h.2 h'⟩
  | _, _, [], _, _ :: _, _, h, _ => h.elim
  | _, _, _ :: _, _, [], _, h, _ => h.elim
/-- a def whose call takes defaults; its frame without cells -/
structure DefOkD (f : Addr) (fd : FuncData) (body : List Stmt) (ps : List Str) (dm : List MV) (dv : List Value) : Prop where
  fn : ∀ w, isFn w f fd
  code : ∀ (w : World) (h : Heap), (kHp w.params).In h → h.CodeRec fd.code fd.qualname
  body : fd.body = .stmts body
  bind : ∀ (w : World) (s : Shared) (xs : List Value), (kHp w.params).In s.heap → xs.length + dv.length = ps.length → BindsTo s fd ⟨xs, []⟩ (ps.zip (xs ++ dv))
  rel : ∀ h, MRels [] h dm dv
  nd : ps.Nodup
  cells : (fd.scope.names.all fun x => x.2 != .cell) = true
  clo : fd.closure = []
  loc : (ps.all fun x => fd.scope.names.lookup x == some .local) = true
  co : fd.scope.isCoroutine = false
  gen : fd.scope.isGenerator = false
  kind : fd.scope.kind = .function
  glob : fd.globals = mainGlobals
  blt : fd.builtins = builtinsNs
theorem DefOkD.st {f : Addr} {fd : FuncData} {body : List Stmt} {ps : List Str} {dm : List MV} {dv : List Value} (D : DefOkD f fd body ps dm dv) (L : Addr) : EnvStat (callEnv fd L f) :=
  ⟨D.kind, D.glob, D.blt, by show fd.closure.Pairwise _; rw [D.clo]; exact List.Pairwise.nil⟩
theorem CalV.ofDefD {t : Bool} {A : Around} {f : Addr} {fd : FuncData} {body : List Stmt} {ps : List Str} {dm : List MV} {dv : List Value} {vs : List MV} {c : MV} {σ : List Ent} (D : DefOkD f fd body ps dm dv) (hroom : A.depth < recursionLimit) (hlen : (vs ++ dm).length = ps.length)
    (hσ : initS (fd.scope.names.filter fun p => p.2 == .local) ps (vs ++ dm) = σ) (hsg : ndB σ = true) (hsk : sigB (callEnv fd 0 f) σ = true)
    (hb : ∀ (w : World) (mg mb : Str → Option Value) (s : Shared) (L : Addr), XS ⟨w, mg, mb, t, A.deeper (callEnv fd L f), s, [], callEnv fd L f, D.st L⟩ σ none body (RetIs c)) : CalV t A (.ref f) vs c := by
  constructor
  intro w mg mb s xs Q E B r h
  obtain ⟨oc, od, sl, hf⟩ := D.fn w
  have hcell : ∀ x ∈ fd.scope.names, x.2 ≠ .cell := fun x hx => by simpa using List.all_eq_true.mp D.cells x hx
  have hloc : ∀ x ∈ ps, fd.scope.names.lookup x = some .local := fun x hx => by simpa using List.all_eq_true.mp D.loc x hx
  have r' := mrels_append r (D.rel s.heap)
  have hxl := mrels_length r'
  rw [List.length_append] at hxl
  refine wpAny_call (codeAny_call_def hroom (B.K _ _ hf) rfl B.lim (D.code w _ B.K) D.body (D.bind w s xs B.K (by (first | lia | omega))) hcell (fun x hx => hloc _ (List.of_mem_zip hx).1) (fun h₀ hn hk => ?_) D.co D.gen D.kind)
  have F := FS.start (t := t) (tk := s.toks + (ps.zip (xs ++ dv)).length) (f := f) B D.clo D.nd hlen r' (σ := σ) (fun x v hx => initS_has (hσ ▸ hx)) hloc hn hk
  have sg : SigOk (callEnv fd s.heap.objs.size f) σ := SigOk.of hsg hsk
  refine (hb w mg mb s s.heap.objs.size).run sg _ _ _ F fun fl s' hf => ?_
  cases fl with
  | next =>
    obtain ⟨σ', mu', _, F', e⟩ := hf
    have e' : c = .none := e
    exact h _ _ F'.go (e' ▸ MRel.ofNone)
  | ret y =>
    obtain ⟨v, _, rv, g, _, _, e⟩ := hf
    have e' : v = c := e
    exact h y s' g (e' ▸ rv)
  | brk => obtain ⟨_, _, _, _, e⟩ := hf; exact e.elim
  | cont => obtain ⟨_, _, _, _, e⟩ := hf; exact e.elim
/-- a def whose frame has cells -/
structure DefOkC (f : Addr) (fd : FuncData) (body : List Stmt) (ps : List Str) : Prop where
  fn : ∀ w, isFn w f fd
  code : ∀ (w : World) (h : Heap), (kHp w.params).In h → h.CodeRec fd.code fd.qualname
  body : fd.body = .stmts body
  bind : ∀ xs : List Value, xs.length = ps.length → bindArgs fd ⟨xs, []⟩ = pure (ps.zip xs)
  nd : ps.Nodup
  clo : fd.closure = []
  loc : ∀ n, (ps.all fun x => fd.scope.names.lookup x == some .local || (fd.scope.names.lookup x == some .cell && ((cellsFrom (n + 1) fd.scope.names []).lookup x).isSome)) = true
  co : fd.scope.isCoroutine = false
  gen : fd.scope.isGenerator = false
  kind : fd.scope.kind = .function
  glob : fd.globals = mainGlobals
  blt : fd.builtins = builtinsNs
theorem bindL_other {k : Str → Option NameKind} : ∀ {bs : List (Str × Value)} {m : Str → Option Value} {x : Str}, x ∉ bs.map (·.1) → bindL k bs m x = m x
  | [], m, x, _ => rfl
  | (n, v) :: r, m, x, h => by
    rw [List.map_cons, List.mem_cons, not_or] at h
    rw [bindL, bindL_other h.2]
    split
    · exact if_neg h.1
    · rfl
theorem bindC_other {k : Str → Option NameKind} : ∀ {bs : List (Str × Value)} {m : Str → Option Value} {x : Str}, x ∉ bs.map (·.1) → bindC k bs m x = m x
  | [], m, x, _ => rfl
  | (n, v) :: r, m, x, h => by
    rw [List.map_cons, List.mem_cons, not_or] at h
    rw [bindC, bindC_other h.2]
    split
    · rfl
    · exact if_neg h.1
theorem bindL_get {k : Str → Option NameKind} : ∀ {bs : List (Str × Value)} {m : Str → Option Value} {x : Str} {v : Value}, (bs.map (·.1)).Nodup → bs.lookup x = some v → k x = some .local → bindL k bs m x = some v
  | [], m, x, v, _, h, _ => by cases h
  | (n, u) :: r, m, x, v, nd, h, hk => by
    rw [List.map_cons, List.nodup_cons] at nd
    rw [List.lookup_cons] at h
    rw [bindL]
    cases hb : x == n with
    | true =>
      rw [hb] at h; cases h
      rw [beq_iff_eq] at hb; subst hb
      rw [bindL_other nd.1, if_pos hk]; exact if_pos rfl
    | false => rw [hb] at h; exact bindL_get nd.2 h hk
theorem bindC_get {k : Str → Option NameKind} : ∀ {bs : List (Str × Value)} {m : Str → Option Value} {x : Str} {v : Value}, (bs.map (·.1)).Nodup → bs.lookup x = some v → k x = some .cell → bindC k bs m x = some v
  | [], m, x, v, _, h, _ => by cases h
  | (n, u) :: r, m, x, v, nd, h, hk => by
    rw [List.map_cons, List.nodup_cons] at nd
    rw [List.lookup_cons] at h
    rw [bindC]
    cases hb : x == n with
    | true =>
      rw [hb] at h; cases h
      rw [beq_iff_eq] at hb; subst hb
      rw [bindC_other nd.1, if_neg (by rw [hk]; intro q; cases q)]; exact if_pos rfl
    | false => rw [hb] at h; exact bindC_get nd.2 h hk
theorem DefOkC.st {f : Addr} {fd : FuncData} {body : List Stmt} {ps : List Str} (D : DefOkC f fd body ps) (L : Addr) (hap : (callEnvC fd L f).cells.Pairwise fun x y => x.2 ≠ y.2) : EnvStat (callEnvC fd L f) := ⟨D.kind, D.glob, D.blt, hap⟩
theorem FS.startC {w : World} {mg mb : Str → Option Value} {t : Bool} {s s₁ : Shared} {fd : FuncData} {f : Addr} {ps : List Str} {vs : List MV} {xs : List Value} {σ : List Ent} (B : Base w mg mb s.heap) (hnd : ps.Nodup) (hlen : vs.length = ps.length) (r : MRels [] s.heap vs xs)
    (hσ : ∀ x v, Has σ x v → (ps.zip vs).lookup x = some v) (hloc : ∀ x ∈ ps, fd.scope.names.lookup x = some .local ∨ (fd.scope.names.lookup x = some .cell ∧ ((cellsFrom (s.heap.objs.size + 1) fd.scope.names []).lookup x).isSome = true))
    (X : InCallC s (callEnvC fd s.heap.objs.size f).locals (bindL (callEnvC fd s.heap.objs.size f).kindOf (ps.zip xs) fun _ => none) (callEnvC fd s.heap.objs.size f).cells (bindC (callEnvC fd s.heap.objs.size f).kindOf (ps.zip xs) fun _ => none) s₁) :
    FS w mg mb t s [] (callEnvC fd s.heap.objs.size f) σ none s₁ := by
  have hxl := mrels_length r
  have nd' : ((ps.zip xs).map (·.1)).Nodup := by rw [List.map_fst_zip (by (first | lia | omega))]; exact hnd
  obtain ⟨h', tk, rfl, keep⟩ := X.done
  have g : Go w mg mb t s { s with heap := h', toks := tk } := Go.keep B keep
  refine ⟨B, g, ⟨_, X.toInCall.ns⟩, fun x v hx => ?_, trivial, Heap.get?_none_of_le (Nat.le_refl _), fun x c hc => ⟨_, X.cell x c hc⟩, fun x c _ hc => Heap.get?_none_of_le (Nat.le_of_lt (X.above x c (mem_of_lookup hc))), fun p hp => by cases hp⟩
  have e := hσ x v hx
  obtain ⟨y, e', ry⟩ := zip_lookup r e
  have hmem : x ∈ ps := (List.of_mem_zip (mem_of_lookup e)).1
  refine ⟨y, g.mrel B ry, ?_⟩
  rcases hloc x hmem with k | ⟨k, hc⟩
  · exact .inl ⟨k, _, X.toInCall.ns, bindL_get nd' e' k⟩
  · obtain ⟨c, hc⟩ := Option.isSome_iff_exists.mp hc
    have := X.cell x c hc
    rw [bindC_get nd' e' k] at this
    exact .inr ⟨.inl k, c, hc, this⟩
theorem CalV.ofDefC {t : Bool} {A : Around} {f : Addr} {fd : FuncData} {body : List Stmt} {ps : List Str} {vs : List MV} {c : MV} {σ : List Ent} (D : DefOkC f fd body ps) (hroom : A.depth < recursionLimit) (hlen : vs.length = ps.length)
    (hσ : initS (fd.scope.names.filter fun p => p.2 == .local || p.2 == .cell) ps vs = σ) (hsg : ndB σ = true) (hsk : ∀ n, sigB (callEnvC fd n f) σ = true)
    (hb : ∀ (w : World) (mg mb : Str → Option Value) (s : Shared) (L : Addr) (hap : (callEnvC fd L f).cells.Pairwise fun x y => x.2 ≠ y.2), XS ⟨w, mg, mb, t, A.deeper (callEnvC fd L f), s, [], callEnvC fd L f, D.st L hap⟩ σ none body (RetIs c)) : CalV t A (.ref f) vs c := by
  constructor
  intro w mg mb s xs Q E B r h
  obtain ⟨oc, od, sl, hf⟩ := D.fn w
  have hloc : ∀ x ∈ ps, fd.scope.names.lookup x = some .local ∨ (fd.scope.names.lookup x = some .cell ∧ ((cellsFrom (s.heap.objs.size + 1) fd.scope.names []).lookup x).isSome = true) := fun x hx => by
    have := List.all_eq_true.mp (D.loc s.heap.objs.size) x hx
    simpa only [Bool.or_eq_true, Bool.and_eq_true, beq_iff_eq] using this
  have hxl := mrels_length r
  refine wpAny_call (codeAny_call_cells hroom (B.K _ _ hf) rfl B.lim (D.code w _ B.K) D.body (D.bind xs (by (first | lia | omega))) D.clo (fun x hx => hloc _ (List.of_mem_zip hx).1) (fun s₁ X => ?_) D.co D.gen D.kind)
  have F := FS.startC (w := w) (mg := mg) (mb := mb) (t := t) B D.nd hlen r (σ := σ) (fun x v hx => initS_has (hσ ▸ hx)) hloc X
  have sg : SigOk (callEnvC fd s.heap.objs.size f) σ := SigOk.of hsg (hsk _)
  refine (hb w mg mb s s.heap.objs.size X.apart).run sg _ _ _ F fun fl s' hf => ?_
  cases fl with
  | next =>
    obtain ⟨σ', mu', _, F', e⟩ := hf
    have e' : c = .none := e
    exact h _ _ F'.go (e' ▸ MRel.ofNone)
  | ret y =>
    obtain ⟨v, _, rv, g, _, _, e⟩ := hf
    have e' : v = c := e
    exact h y s' g (e' ▸ rv)
  | brk => obtain ⟨_, _, _, _, e⟩ := hf; exact e.elim
  | cont => obtain ⟨_, _, _, _, e⟩ := hf; exact e.elim
-- part L17
open PySem PySem.W PyProof.Rows PySem.Calls PySem.SeqAt
set_option maxHeartbeats 1000000
section
variable {w : World} {mg mb : Str → Option Value} {t : Bool} {A : Around} {P : SP w mg mb t}
theorem EvT.nmC {env' : Env} {hf : env'.scope.kind = .function} {hg : env'.globals = P.env.globals} {hb : env'.builtins = P.env.builtins} {x : Str} {v : IV} {zs : List Str} {fr : List Ent} {hfr : Frees P.env env' P.σ zs fr} {z : Str} {pos : Pos} {u : MV}
    (hx : Has ((x, .local, some (.im v)) :: fr) z u) (h1 : (z == Str.ofString "__debug__") = false := by decide) (h2 : (z == Str.ofString "__classdict__") = false := by decide) : EvT A (CSP P env' hf hg hb x v hfr) (.Name z pos) u := EvT.name (P := CSP P env' hf hg hb x v hfr) hx h1 h2
theorem EvT.cast {e : PySem.Expr} {v v' : MV} (h : EvT A P e v) (e' : v = v') : EvT A P e v' := e' ▸ h
theorem EvF.cast {e : PySem.Expr} {v v' : List IV} (h : EvF A P e v) (e' : v = v') : EvF A P e v' := e' ▸ h
theorem EvI.cast {X : List Addr} {e : PySem.Expr} {v v' : List IV} (h : EvI A P X e v) (e' : v = v') : EvI A P X e v' := e' ▸ h
end
noncomputable def closOf (cells : List (Str × Addr)) : List (Str × NameKind) → List (Str × Addr) → Option (List (Str × Addr))
  | [], acc => some acc
  | (n, k) :: r, acc => if k == .free then (match cells.lookup n with | some c => closOf cells r ((n, c) :: acc) | Option.none => Option.none) else closOf cells r acc
theorem closureFor_of {scope : Scope} {env : Env} {cl : List (Str × Addr)} (h : closOf env.cells scope.names [] = some cl) : closureFor scope env = pure cl := by
  have key : ∀ (names : List (Str × NameKind)) (acc : List (Str × Addr)), closOf env.cells names acc = some cl → (forIn names acc (fun (x : Str × NameKind) (cs : List (Str × Addr)) => if x.2 == NameKind.free then (do let a ← cellOf env x.1; pure (ForInStep.yield ((x.1, a) :: cs))) else pure (ForInStep.yield cs)) : Sem (List (Str × Addr))) = pure cl := by
    intro names
    induction names with
    | nil => intro acc h; rw [closOf] at h; cases h; rfl
    | cons p r ih =>
      intro acc h
      obtain ⟨n, k⟩ := p
      rw [List.forIn_cons]
      rw [closOf] at h
      dsimp only
      by_cases hk : (k == NameKind.free) = true
      · rw [if_pos hk] at h ⊢
        cases hc : env.cells.lookup n with
        | none => rw [hc] at h; cases h
        | some c =>
          rw [hc] at h
          have e : cellOf env n = pure c := by unfold cellOf; rw [hc]
          rw [e]
          exact ih _ h
      · rw [if_neg hk] at h ⊢
        exact ih _ h
  have := key scope.names [] h
  exact congrArg (· >>= fun cs => (pure cs : Sem (List (Str × Addr)))) this
theorem filterT {l : List IV} : l.filter (fun _ => true) = l := List.filter_eq_self.mpr fun _ _ => rfl
theorem mulN {a b c d : Nat} (h1 : a ≤ c) (h2 : b ≤ d) {n : Nat} (h : c * d ≤ n) : ((a : Nat) : Int) * (b : Int) ≤ n := by
  rw [← Int.natCast_mul]
  exact Int.ofNat_le.mpr (Nat.le_trans (Nat.mul_le_mul h1 h2) h)
theorem bits64 {a : Int} (h1 : -(2 ^ 64) < a) (h2 : a < 2 ^ 64) : Builtin.Int.intBits a ≤ 64 := intBits_le_64 h1 h2
noncomputable abbrev tgtOk (scope : Scope) (cl : List (Str × Addr)) (env : Env) (x : Str) : Prop := ∀ D : Addr, (compEnvC scope (cellsFrom (D + 1) scope.names cl) D env).kindOf x = some .local ∨ ((compEnvC scope (cellsFrom (D + 1) scope.names cl) D env).kindOf x = some .cell ∧ (cellsFrom (D + 1) scope.names cl).lookup x = some (D + 1) ∧ ∃ d nm r, scope.names = (d, .local) :: (nm, .cell) :: r)
/-- a comprehension in a frame -/
theorem EvF.compN {C : Cx} {σ : List Ent} {elt iter : PySem.Expr} {x : Str} {px pos : Pos} {ifs : List PySem.Expr} {scope : Scope} {cl : List (Str × Addr)} {xs : List IV} {fr : Addr → List Ent} (p : IV → Bool) (f : IV → IV) (zs : List Str)
    (he : EvI C.A (C.P σ none) [] iter xs) (hlen : xs.length ≤ cap) (hclos : closOf C.env.cells scope.names [] = some cl) (hkind : scope.kind = .function) (hnames : namesOk scope.names = true) (hx : tgtOk scope cl C.env x)
    (hfr : ∀ D : Addr, Frees C.env (compEnvC scope (cellsFrom (D + 1) scope.names cl) D C.env) σ zs (fr D))
    (htest : ∀ v ∈ xs, ∀ D : Addr, EvIfs C.A (CSP (C.P σ none) (compEnvC scope (cellsFrom (D + 1) scope.names cl) D C.env) hkind rfl rfl x v (hfr D)) ifs (p v))
    (helt : ∀ v ∈ xs, p v = true → ∀ D : Addr, EvT C.A (CSP (C.P σ none) (compEnvC scope (cellsFrom (D + 1) scope.names cl) D C.env) hkind rfl rfl x v (hfr D)) elt (.im (f v)))
    (hs : ∀ x, foldedSetIterable iter C.env x = pure x := by intro _; rfl) : EvF C.A (C.P σ none) (.ListComp elt [⟨.Name x px, iter, ifs, 0⟩] scope pos) ((xs.filter p).map f) :=
  EvF.comp he hlen (closureFor_of hclos) hkind hnames hx hfr htest helt hs
/-- a comprehension within a comprehension -/
theorem EvF.compC {w : World} {mg mb : Str → Option Value} {t : Bool} {A : Around} {P : SP w mg mb t} {env' : Env} {hf : env'.scope.kind = .function} {hg : env'.globals = P.env.globals} {hb : env'.builtins = P.env.builtins} {x₀ : Str} {v₀ : IV} {zs₀ : List Str} {fr₀ : List Ent} {hfr₀ : Frees P.env env' P.σ zs₀ fr₀}
    {elt iter : PySem.Expr} {x : Str} {px pos : Pos} {ifs : List PySem.Expr} {scope : Scope} {cl : List (Str × Addr)} {xs : List IV} {fr : Addr → List Ent} (p : IV → Bool) (f : IV → IV) (zs : List Str)
    (he : EvI A (CSP P env' hf hg hb x₀ v₀ hfr₀) [] iter xs) (hlen : xs.length ≤ cap) (hclos : closOf env'.cells scope.names [] = some cl) (hkind : scope.kind = .function) (hnames : namesOk scope.names = true) (hx : tgtOk scope cl env' x)
    (hfr : ∀ D : Addr, Frees env' (compEnvC scope (cellsFrom (D + 1) scope.names cl) D env') ((x₀, .local, some (.im v₀)) :: fr₀) zs (fr D))
    (htest : ∀ v ∈ xs, ∀ D : Addr, EvIfs A (CSP (CSP P env' hf hg hb x₀ v₀ hfr₀) (compEnvC scope (cellsFrom (D + 1) scope.names cl) D env') hkind rfl rfl x v (hfr D)) ifs (p v))
    (helt : ∀ v ∈ xs, p v = true → ∀ D : Addr, EvT A (CSP (CSP P env' hf hg hb x₀ v₀ hfr₀) (compEnvC scope (cellsFrom (D + 1) scope.names cl) D env') hkind rfl rfl x v (hfr D)) elt (.im (f v)))
    (hs : ∀ x, foldedSetIterable iter env' x = pure x := by intro _; rfl) : EvF A (CSP P env' hf hg hb x₀ v₀ hfr₀) (.ListComp elt [⟨.Name x px, iter, ifs, 0⟩] scope pos) ((xs.filter p).map f) :=
  EvF.comp he hlen (closureFor_of hclos) hkind hnames hx hfr htest helt hs
theorem X1.asgCompN {C : Cx} {σ σ' : List Ent} {Φ : Fl → Prop} {y : Str} {py spos : Pos} {elt iter : PySem.Expr} {x : Str} {px pos : Pos} {ifs : List PySem.Expr} {scope : Scope} {cl : List (Str × Addr)} {xs : List IV} {fr : Addr → List Ent} (p : IV → Bool) (f : IV → IV) (zs : List Str)
    (he : EvI C.A (C.P σ none) [] iter xs) (hlen : xs.length ≤ cap) (hclos : closOf C.env.cells scope.names [] = some cl) (hkind : scope.kind = .function) (hnames : namesOk scope.names = true) (hx : tgtOk scope cl C.env x)
    (hfr : ∀ D : Addr, Frees C.env (compEnvC scope (cellsFrom (D + 1) scope.names cl) D C.env) σ zs (fr D))
    (htest : ∀ v ∈ xs, ∀ D : Addr, EvIfs C.A (CSP (C.P σ none) (compEnvC scope (cellsFrom (D + 1) scope.names cl) D C.env) hkind rfl rfl x v (hfr D)) ifs (p v))
    (helt : ∀ v ∈ xs, p v = true → ∀ D : Addr, EvT C.A (CSP (C.P σ none) (compEnvC scope (cellsFrom (D + 1) scope.names cl) D C.env) hkind rfl rfl x v (hfr D)) elt (.im (f v)))
    {l : List IV} (hl : (xs.filter p).map f = l) (hst : St σ y (.list l) σ') (h : Φ (.next σ' none))
    (hsw : swapsWith (.ListComp elt [⟨.Name x px, iter, ifs, 0⟩] scope pos) (some (.Name y py)) spos.line C.env = pure true := by rfl) (hs : ∀ x, foldedSetIterable iter C.env x = pure x := by intro _; rfl) :
    X1 C σ none (.Assign [.Name y py] (.ListComp elt [⟨.Name x px, iter, ifs, 0⟩] scope pos) spos) Φ :=
  X1.asgComp he hlen (closureFor_of hclos) hkind hnames hx hfr htest helt (hl ▸ hst) h hsw hs
-- part L18
open PySem PySem.W PyProof.Rows PySem.Calls PySem.SeqAt
set_option maxHeartbeats 1000000
noncomputable def bodyOf (f : Addr) : List Stmt := match (fdOf f).body with | .stmts b => b | _ => []
theorem Wk.keepE {x : Str} {k : NameKind} {o o' : Option MV} {σ τ : List Ent} (e : o = o') (h : Wk σ τ) : Wk ((x, k, o) :: σ) ((x, k, o') :: τ) := e ▸ Wk.keep h
local macro_rules | `(tactic| walk_at "has") => `(tactic| with_reducible (repeat (first | exact Has.here | apply Has.there)))
local macro_rules | `(tactic| walk_at "bin") => `(tactic| first | exact BinV.add | exact BinV.sub | exact BinV.and | exact BinV.or | exact BinV.xor | (apply BinV.floordiv <;> decide) | (apply BinV.mod; decide))
local macro_rules | `(tactic| walk_at "cmp") => `(tactic| first | exact CmpV.eqI | exact CmpV.eqS | exact CmpV.ltI | exact CmpV.leI | exact CmpV.gtI | exact CmpV.geI | exact CmpV.neI | exact CmpV.inS | exact CmpV.isNone rfl)
local macro_rules | `(tactic| walk_at "gl") => `(tactic| ((first | apply EvT.gint g_MC | apply EvT.gint g_CC | apply EvT.gint g_MS | apply EvT.gint g_DIV | apply EvT.gstr g_EM) <;> (first | rfl | decide | with_unfolding_all rfl)))
local macro_rules | `(tactic| walk_at "ev") => `(tactic| first
  | exact EvT.int | exact EvT.none | exact EvT.bool | (apply EvT.str; decide)
  | (apply EvT.nmC; walk_at "has"; rfl; rfl)
  | (apply EvT.nm; walk_at "has"; rfl; rfl)
  | (apply EvT.nmL; rfl; rfl) | (apply EvT.nmM; walk_at "has"; rfl; rfl)
  | (apply EvT.bin; walk_at "ev"; walk_at "ev"; walk_at "bin")
  | (apply EvT.cmp; walk_at "ev"; walk_at "ev"; walk_at "cmp"; with_unfolding_all rfl)
  | walk_at "gl")
-- part F1
open PySem PySem.W PyProof.Rows PySem.Calls
set_option maxHeartbeats 1000000
noncomputable def subCost (a b : Str) : Int := if a = b then 0 else if Txt.lower a = Txt.lower b then 1 else 2
theorem sub_spec {t : Bool} {A : Around} {a b : Str} (hA : OkA A 0 0) (ha : (Txt.lower a).length ≤ cap) (hb : (Txt.lower b).length ≤ cap) : CalV t A (.ref 97) [.str a, .str b] (.int (subCost a b)) := by
  refine CalV.ofDef (fd := fdOf 97) (ps := [S "ch_a", S "ch_b"]) (σ := [(S "ch_a", .local, some (.str a)), (S "ch_b", .local, some (.str b))])
    ⟨fun w => ⟨_, _, _, by rfl⟩, (by intro w h X; exact codeRec_35 (c := 96) X (by rfl) (by rfl)), by rfl, (len2 fun a b => rfl), by decide, by rfl, by rfl, by rfl, by rfl, by rfl, by rfl, by rfl, by rfl⟩ (by have := hA.dp; (first | lia | omega)) rfl (by rfl) (by rfl) (by rfl) ?_
  intro w mg mb s L
  refine' XS.cons (X1.ite ?A (fun h => ?_) (fun h => ?_))
  case A => (first | (apply EvC.cmp; walk_at "ev"; walk_at "ev"; walk_at "cmp"; with_unfolding_all rfl) | (apply EvC.plain; walk_at "ev"; (first | exact TruV.int | exact TruV.bool | exact TruV.str | exact TruV.list); rfl) | (apply EvC.not; first | (apply EvC.cmp; walk_at "ev"; walk_at "ev"; walk_at "cmp"; with_unfolding_all rfl) | (apply EvC.plain; walk_at "ev"; (first | exact TruV.int | exact TruV.bool | exact TruV.str | exact TruV.list); rfl)))
  · refine XS.cons (X1.ret (by walk_at "ev") (RetIs.ret ?_))
    simp at h; simp [subCost, h]
  refine XS.nil (Seq.next ?_)
  refine XS.cons (X1.ite (EvC.cmp (EvT.lower (by walk_at "ev") ha) (EvT.lower (by walk_at "ev") hb) (by walk_at "cmp")) (fun h2 => ?_) (fun h2 => ?_))
  · refine XS.cons (X1.ret (by walk_at "ev") (RetIs.ret ?_))
    simp at h h2; simp [subCost, h, h2]
  refine XS.nil (Seq.next ?_)
  refine XS.cons (X1.ret (by walk_at "ev") (RetIs.ret ?_))
  simp at h h2; simp [subCost, h, h2]
-- part Gwei
open PySem PySem.W PyProof.Rows PySem.Calls
set_option maxHeartbeats 1000000
noncomputable def weiT (cs : List Int) (base : Int) (k : Nat) : Int := cs.getD k 0 * (1 - base) ^ k * (1 + base) ^ (5 - k)
noncomputable def weighed (cs : List Int) (base : Int) : Int := ((List.range 6).map (weiT cs base)).sum
theorem pow_small {b : Int} (h0 : 0 ≤ b) (h1 : b ≤ 4097) {n : Nat} (hn : n ≤ 5) : -(2 ^ 64) < b ^ n ∧ b ^ n < 2 ^ 64 := by
  obtain ⟨k, rfl⟩ := Int.eq_ofNat_of_zero_le h0
  have hk : k ≤ 4097 := by (first | lia | omega)
  have e : ((k : Int)) ^ n = ((k ^ n : Nat) : Int) := by push_cast; rfl
  rw [e]
  have h2 : k ^ n ≤ 4097 ^ n := Nat.pow_le_pow_left hk n
  have h3 : (4097 : Nat) ^ n ≤ 4097 ^ 5 := Nat.pow_le_pow_right (by (first | lia | omega)) hn
  have h4 : (4097 : Nat) ^ 5 < 2 ^ 62 := by decide
  have h5 : k ^ n < 2 ^ 62 := by (first | lia | omega)
  generalize k ^ n = m at h5
  (first | lia | omega)
theorem wei_spec {t : Bool} {A : Around} {cs : List Int} {base : Int} (hA : OkA A 0 0) (hl : cs.length = 6) (hc : ∀ c ∈ cs, -(2 ^ 64) < c ∧ c < 2 ^ 64) (hb : 0 ≤ base) (hb2 : base ≤ 4096) : CalV t A (.ref 119) [.list (cs.map IV.int), .int base] (.int (weighed cs base)) := by
  have D : DefOkC 119 (fdOf 119) _ [S "counts", S "base"] := ⟨fun w => ⟨_, _, _, by rfl⟩, (by intro w h X; exact codeRec_35 (c := 118) X (by rfl) (by rfl)), by rfl, (len2 fun a b => rfl), by decide, by rfl, by intro n; rfl, by rfl, by rfl, by rfl, by rfl, by rfl⟩
  refine CalV.ofDefC (σ := [(S "counts", .cell, some (.list (cs.map IV.int))), (S "base", .cell, some (.int base))]) D (by have := hA.dp; (first | lia | omega)) rfl (by rfl) (by rfl) (by intro n; rfl) ?_
  intro w mg mb s L hap
  have hh : (A.deeper (callEnvC (fdOf 119) L 119)).handled = none := hA.hd
  refine XS.cons (X1.ret (EvT.callB n_sum b_sum (EvL.cons (EvT.cast (EvF.compN (xs := (List.range 6).map fun (i : Nat) => IV.int i) (fun _ => true) (fun v => match v with | .int i => .int (weiT cs base i.toNat) | v => v) [S "base", S "counts"] (EvI.range (n := 6) hh EvT.int (by decide) (by decide) (by simp) rfl rfl) (by decide) (by rfl) (by rfl) (by rfl) (fun C => .inl rfl)
      (fun C => by (repeat (first | exact Frees.nil | (apply Frees.cons; walk_at "has"; (first | exact Or.inl rfl | exact Or.inr rfl); (first | exact Or.inl rfl | exact Or.inr rfl); rfl)))) (fun v hv C => EvIfs.nil) (fun v hv _ C => ?elt)).t ?e) EvL.nil rfl) (CalV.sum hh) rfl) (RetIs.ret rfl))
  case e => rw [filterT]; simp [Function.comp_def]
  case elt =>
    obtain ⟨i, hi, rfl⟩ := List.mem_map.mp hv
    rw [List.mem_range] at hi
    obtain ⟨p1, p2⟩ := pow_small (b := 1 + base) (by (first | lia | omega)) (by (first | lia | omega)) (n := 5 - i) (by (first | lia | omega))
    have hci : -(2 ^ 64) < cs.getD i 0 ∧ cs.getD i 0 < 2 ^ 64 := by
      rw [List.getD_eq_getElem?_getD, List.getElem?_eq_getElem (by (first | lia | omega))]
      exact hc _ (List.getElem_mem _)
    have hb1 : Builtin.Int.intBits (1 - base) ≤ 64 := bits64 (by (first | lia | omega)) (by (first | lia | omega))
    have hb3 : Builtin.Int.intBits (1 + base) ≤ 64 := bits64 (by (first | lia | omega)) (by (first | lia | omega))
    refine EvT.cast (EvT.bin (EvT.bin (EvT.sub (by walk_at "ev") (by walk_at "ev") (GetV.list (v := .int (cs.getD i 0)) (by (first | lia | omega)) ?g)) (EvT.bin (by walk_at "ev") (by walk_at "ev") (BinV.pow (by (first | lia | omega)) ?p1)) (BinV.mul (IntMulOk.of_left (bits64 hci.1 hci.2)))) (EvT.bin (by walk_at "ev") (by walk_at "ev") (BinV.pow (by (first | lia | omega)) ?p2)) (BinV.mul ?m)) ?e
    case g => simp [hl, hi]
    case p1 => exact mulN hb1 (show i ≤ 5 by (first | lia | omega)) (n := 1000000) (by decide)
    case p2 =>
      have e : ((5 : Int) - (i : Int)) = ((5 - i : Nat) : Int) := by (first | lia | omega)
      rw [e]
      exact mulN hb3 (show 5 - i ≤ 5 by (first | lia | omega)) (n := 1000000) (by decide)
    case m =>
      have e : ((5 : Int) - (i : Int)).toNat = 5 - i := by (first | lia | omega)
      rw [e]
      exact IntMulOk.of_right (bits64 p1 p2)
    case e =>
      have e : ((5 : Int) - (i : Int)).toNat = 5 - i := by (first | lia | omega)
      rw [e]
      simp [weiT]
-- part L19
open PySem PySem.W PyProof.Rows PySem.Calls PySem.SeqAt
set_option maxHeartbeats 1000000
noncomputable def NextMu (p0 : Str) (a : Addr) (l' : List IV) : Fl → Prop
  | .next _ mu => mu = some (p0, a, l')
  | _ => False
noncomputable def imB (σ : List Ent) : Bool := σ.all fun p => match p.2.2 with | some (.im _) => true | none => true | _ => false
theorem imB.out {σ : List Ent} (h : imB σ = true) {x : Str} {v : MV} (hx : Has σ x v) : ∃ i, v = .im i := by
  obtain ⟨k, hm⟩ := has_mem hx
  have := List.all_eq_true.mp h _ hm
  cases v with
  | im i => exact ⟨i, rfl⟩
  | _ => simp at this
theorem Uns.names {σ σ' : List Ent} {x : Str} (h : Uns σ x σ') : σ'.map (·.1) = σ.map (·.1) := h.set.names
theorem CalM.ofDefD {t : Bool} {A : Around} {f : Addr} {fd : FuncData} {body : List Stmt} {p0 : Str} {ps : List Str} {dm : List MV} {dv : List Value} {us l l' : List IV} {σ₀ : Addr → List Ent} {σ : List Ent} (D : DefOkD f fd body (p0 :: ps) dm dv) (hroom : A.depth < recursionLimit) (hlen : us.length + dm.length = ps.length)
    (hσ : ∀ a, initS (fd.scope.names.filter fun p => p.2 == .local) (p0 :: ps) (.fn a :: (us.map MV.im ++ dm)) = σ₀ a) (hun : ∀ a, Uns (σ₀ a) p0 σ) (hh : ∀ a, Has (σ₀ a) p0 (.fn a)) (hsg : ndB σ = true) (hsk : sigB (callEnv fd 0 f) σ = true) (him : imB σ = true)
    (hb : ∀ (w : World) (mg mb : Str → Option Value) (s : Shared) (L a : Addr), XS ⟨w, mg, mb, t, A.deeper (callEnv fd L f), s, [], callEnv fd L f, D.st L⟩ σ (some (p0, a, l)) body (NextMu p0 a l')) : CalM t A (.ref f) l us l' := by
  constructor
  intro w mg mb s a ys xs Q E B hp hr hcap rx h
  obtain ⟨oc, od, sl, hf⟩ := D.fn w
  have hcell : ∀ x ∈ fd.scope.names, x.2 ≠ .cell := fun x hx => by simpa using List.all_eq_true.mp D.cells x hx
  have hloc : ∀ x ∈ p0 :: ps, fd.scope.names.lookup x = some .local := fun x hx => by simpa using List.all_eq_true.mp D.loc x hx
  have rim : ∀ {us : List IV} {xs : List Value}, IRels us xs → MRels [] s.heap (us.map MV.im) xs := by
    intro us
    induction us with
    | nil => intro xs r; cases xs with
      | nil => trivial
      | cons => exact r.elim
    | cons u us ih => intro xs r; cases xs with
      | nil => exact r.elim
      | cons x xs => exact ⟨r.1, ih r.2⟩
  have r' : MRels [] s.heap (.fn a :: (us.map MV.im ++ dm)) (.ref a :: (xs ++ dv)) := ⟨rfl, mrels_append (rim rx) (D.rel s.heap)⟩
  have hxl := mrels_length r'
  simp only [List.length_cons, List.length_append, List.length_map] at hxl
  have hnd := D.nd
  have hzl : ((p0 :: ps).zip (.ref a :: (xs ++ dv))).map (·.1) = p0 :: ps := List.map_fst_zip (by simp; (first | lia | omega))
  have Kin : (kHp w.params).In s.heap := fun b o e => (Er.was (B.K b o e)).2
  have lim : s.heap.NoLimit := B.lim.keeps fun b o e => (Er.was e).2
  refine wpAny_call (codeAny_call_def (binds := (p0 :: ps).zip (.ref a :: (xs ++ dv))) hroom (Kin _ _ hf) rfl lim (D.code w _ Kin) D.body (by simpa using D.bind w s (.ref a :: xs) Kin (by simp; (first | lia | omega))) hcell (fun x hx => hloc _ (List.of_mem_zip hx).1) (fun h₀ hn hk => ?_) D.co D.gen D.kind)
  generalize htk : s.toks + ((p0 :: ps).zip (Value.ref a :: (xs ++ dv))).length = tk
  have kEr : ∀ b o, (Er a s).heap.get? b = some o → h₀.get? b = some o := fun b o e => hk b o (Er.was e).2
  have g : Go w mg mb t (Er a s) { s with heap := h₀, toks := tk } := ⟨fun b o _ e => kEr b o e, B.keeps kEr, rfl, rfl, rfl⟩
  have holds : ∀ x v, Has (σ₀ a) x v → ∃ y, MRel [] s.heap v y ∧ HoldsAt (callEnv fd s.heap.objs.size f) h₀ x y := fun x v hx => by
    have e := initS_has (hσ a ▸ hx)
    obtain ⟨y, e', ry⟩ := zip_lookup r' e
    have hmem : x ∈ p0 :: ps := (List.of_mem_zip (mem_of_lookup e)).1
    exact ⟨y, ry, .inl ⟨hloc x hmem, _, hn, lookup_reverse (by rw [hzl]; exact hnd) e'⟩⟩
  have nd : (σ.map (·.1)).Nodup := ndB_out hsg
  have F : FS w mg mb t (Er a s) [] (callEnv fd s.heap.objs.size f) σ (some (p0, a, l)) { s with heap := h₀, toks := tk } := by
    refine ⟨B, g, ⟨_, hn⟩, fun x v hx => ?_, ?_, ?_, fun x c hc => ?_, fun x c _ hc => ?_, fun p hp => by cases hp⟩
    · rcases (hun a).set.has (by rw [← (hun a).names]; exact nd) hx with ⟨rfl, e⟩ | ⟨ne, hx'⟩
      · cases e
      · obtain ⟨y, ry, q⟩ := holds x v hx'
        obtain ⟨i, rfl⟩ := imB.out him hx
        exact ⟨y, ry, q⟩
    · obtain ⟨y, ry, q⟩ := holds p0 _ (hh a)
      have ry : y = .ref a := ry
      subst ry
      obtain ⟨n, hp⟩ := hp
      exact ⟨q, ⟨ys, ⟨n, hk _ _ hp⟩, hr⟩, hcap, Er.non⟩
    · cases e : (Er a s).heap.get? (callEnv fd s.heap.objs.size f).locals with
      | none => rfl
      | some o =>
        have e1 := (Er.was e).2
        have e2 : s.heap.get? s.heap.objs.size = none := Heap.get?_none_of_le (Nat.le_refl _)
        have e1 : s.heap.get? s.heap.objs.size = some o := e1
        rw [e2] at e1; cases e1
    · have : (fd.closure).lookup x = some c := hc
      rw [D.clo] at this; cases this
    · have : (fd.closure).lookup x = some c := hc
      rw [D.clo] at this; cases this
  have sg : SigOk (callEnv fd s.heap.objs.size f) σ := SigOk.of hsg hsk
  refine (hb w mg mb (Er a s) s.heap.objs.size a).run sg _ _ _ F fun fl s' hf => ?_
  cases fl with
  | next =>
    obtain ⟨σ', mu', _, F', e⟩ := hf
    have e' : mu' = some (p0, a, l') := e
    subst e'
    have F' : FS w mg mb t (Er a s) [] (callEnv fd s.heap.objs.size f) σ' (some (p0, a, l')) s' := F'
    obtain ⟨ys', hp', hr', hc'⟩ := mus_of F'.mus
    exact h ys' s' F'.go hp' hr' hc'
  | ret y => obtain ⟨v, _, rv, g, _, _, e⟩ := hf; exact e.elim
  | brk => obtain ⟨_, _, _, _, e⟩ := hf; exact e.elim
  | cont => obtain ⟨_, _, _, _, e⟩ := hf; exact e.elim
theorem CmpV.notInI {A : Around} {l : List Int} {x : Int} : CmpV A .NotIn (.int x) (.list (l.map IV.int)) (!l.any (· == x)) := by
  constructor; intro w mg mb s u v Q E B r1 r2 h
  obtain ⟨tk, rfl⟩ := IRel.int r1
  obtain ⟨a, ys, rfl, -, hp, hr, -⟩ := r2
  have hi := ints_are hr
  refine notIn_listAt (fun y => match y with | .int k _ => k == x | _ => false) hp.isList (fun y hy => ?_) ?_
  · have : ∃ k t, y = .int k t := by
      have hy' : y ∈ ys := by simpa using hy
      clear hy hr hp h
      induction hi with
      | nil => cases hy'
      | cons n t _ ih =>
        rcases List.mem_cons.mp hy' with rfl | h'
        · exact ⟨n, t, rfl⟩
        · exact ih h'
    obtain ⟨k, t, rfl⟩ := this
    exact EqAt.int_int k t x tk
  · have : (ys.toArray.any fun y => match y with | .int k _ => k == x | _ => false) = l.any (· == x) := by
      rw [← Array.any_toList]
      clear hr hp h
      induction hi with
      | nil => rfl
      | cons n t _ ih => exact congrArg (fun b => (n == x || b)) ih
    rw [this]
    exact h s (Go.refl B)
-- part Gbis
open PySem PySem.W PyProof.Rows PySem.Calls
set_option maxHeartbeats 1000000
structure Cut (l : List Int) (x : Int) (r : Nat) : Prop where
  le : r ≤ l.length
  lt : ∀ i (h : i < l.length), i < r → l[i] < x
  ge : ∀ i (h : i < l.length), r ≤ i → x ≤ l[i]
theorem bl_spec {t : Bool} {A : Around} {l : List Int} {x : Int} {r : Nat} (hA : OkA A 0 0) (hc : Cut l x r) : CalV t A (.ref 83) [.list (l.map IV.int), .int x, .int 0, .none] (.int r) ∧ CalV t A (.ref 83) [.list (l.map IV.int), .int x] (.int r) := by
  have hroom : A.depth < recursionLimit := by have := hA.dp; (first | lia | omega)
  have D : DefOkD 83 (fdOf 83) (bodyOf 83) [S "a", S "x", S "lo", S "hi", S "key"] [.none] [.none] := ⟨fun w => ⟨_, _, _, by rfl⟩, (by intro w h X; exact codeRec_35 (c := 82) X (by rfl) (by rfl)), by rfl,
    (fun w s xs X h => bindD4 X (fun M a b c d => by rfl) xs (by simpa using h)), (fun h => ⟨MRel.ofNone, trivial⟩), by decide, by rfl, by rfl, by rfl, by rfl, by rfl, by rfl, by rfl, by rfl⟩
  have D2 : DefOkD 83 (fdOf 83) (bodyOf 83) [S "a", S "x", S "lo", S "hi", S "key"] [.int 0, .none, .none] [.int 0 298, .none, .none] := ⟨fun w => ⟨_, _, _, by rfl⟩, (by intro w h X; exact codeRec_35 (c := 82) X (by rfl) (by rfl)), by rfl,
    (fun w s xs X h => bindD2 X (fun M a b => by rfl) xs (by simpa using h)), (fun h => ⟨MRel.ofInt _ _, MRel.ofNone, MRel.ofNone, trivial⟩), by decide, by rfl, by rfl, by rfl, by rfl, by rfl, by rfl, by rfl, by rfl⟩
  have key : ∀ (w : World) (mg mb : Str → Option Value) (s : Shared) (L : Addr), XS ⟨w, mg, mb, t, A.deeper (callEnv (fdOf 83) L 83), s, [], callEnv (fdOf 83) L 83, D.st L⟩ [(S "a", .local, some (.list (l.map IV.int))), (S "x", .local, some (.int x)), (S "lo", .local, some (.int 0)), (S "hi", .local, some .none), (S "key", .local, some .none), (S "mid", .local, none)] none (bodyOf 83) (RetIs (.int r)) := by
    intro w mg mb s L
    refine XS.cons (X1.ite (b := false) (by (first | (apply EvC.cmp; walk_at "ev"; walk_at "ev"; walk_at "cmp"; with_unfolding_all rfl) | (apply EvC.plain; walk_at "ev"; (first | exact TruV.int | exact TruV.bool | exact TruV.str | exact TruV.list); rfl) | (apply EvC.not; first | (apply EvC.cmp; walk_at "ev"; walk_at "ev"; walk_at "cmp"; with_unfolding_all rfl) | (apply EvC.plain; walk_at "ev"; (first | exact TruV.int | exact TruV.bool | exact TruV.str | exact TruV.list); rfl)))) (fun h => by cases h) fun _ => XS.nil (Seq.next ?_))
    refine XS.cons (X1.ite (b := true) (by (first | (apply EvC.cmp; walk_at "ev"; walk_at "ev"; walk_at "cmp"; with_unfolding_all rfl) | (apply EvC.plain; walk_at "ev"; (first | exact TruV.int | exact TruV.bool | exact TruV.str | exact TruV.list); rfl) | (apply EvC.not; first | (apply EvC.cmp; walk_at "ev"; walk_at "ev"; walk_at "cmp"; with_unfolding_all rfl) | (apply EvC.plain; walk_at "ev"; (first | exact TruV.int | exact TruV.bool | exact TruV.str | exact TruV.list); rfl)))) (fun _ => ?_) (fun h => by cases h))
    refine XS.cons (X1.asg (EvT.callB n_len b_len (by (repeat (first | exact EvL.nil | (apply EvL.cons; walk_at "ev"; case hst => rfl)))) CalV.lenL rfl) (by (with_reducible (repeat (first | exact St.here' | exact St.hereC | apply St.there)))) trivial trivial (Seq.next (XS.nil (Seq.next ?_))) rfl)
    refine XS.cons (X1.ite (b := true) (by (first | (apply EvC.cmp; walk_at "ev"; walk_at "ev"; walk_at "cmp"; with_unfolding_all rfl) | (apply EvC.plain; walk_at "ev"; (first | exact TruV.int | exact TruV.bool | exact TruV.str | exact TruV.list); rfl) | (apply EvC.not; first | (apply EvC.cmp; walk_at "ev"; walk_at "ev"; walk_at "cmp"; with_unfolding_all rfl) | (apply EvC.plain; walk_at "ev"; (first | exact TruV.int | exact TruV.bool | exact TruV.str | exact TruV.list); rfl)))) (fun _ => ?_) (fun h => by cases h))
    refine XS.cons (X1.whl (α := Int × Int) (fun a => [(S "a", .local, some (.list (l.map IV.int))), (S "x", .local, some (.int x)), (S "lo", .local, some (.int a.1)), (S "hi", .local, some (.int a.2)), (S "key", .local, some .none), (S "mid", .local, none)]) (fun _ => none) (fun a => (a.2 - a.1).toNat) (fun a => 0 ≤ a.1 ∧ a.1 ≤ r ∧ (r : Int) ≤ a.2 ∧ a.2 ≤ l.length) (0, (l.map IV.int).length) (by (repeat (first | with_reducible exact Wk.nil | with_reducible apply Wk.keep | with_reducible apply Wk.drop | (apply Wk.keepE (by rfl))))) rfl (by have := hc.le; simp; (first | lia | omega)) ?_)
    rintro ⟨lo, hi⟩ ⟨h0, h1, h2, h3⟩
    refine ⟨_, by (first | (apply EvC.cmp; walk_at "ev"; walk_at "ev"; walk_at "cmp"; with_unfolding_all rfl) | (apply EvC.plain; walk_at "ev"; (first | exact TruV.int | exact TruV.bool | exact TruV.str | exact TruV.list); rfl) | (apply EvC.not; first | (apply EvC.cmp; walk_at "ev"; walk_at "ev"; walk_at "cmp"; with_unfolding_all rfl) | (apply EvC.plain; walk_at "ev"; (first | exact TruV.int | exact TruV.bool | exact TruV.str | exact TruV.list); rfl))), fun hb => ?_, fun hb => ?_⟩
    · simp only [decide_eq_true_eq] at hb
      refine XS.cons (X1.asg (by walk_at "ev") (by (with_reducible (repeat (first | exact St.here' | exact St.hereC | apply St.there)))) trivial trivial (Seq.next ?_) rfl)
      have hm0 : 0 ≤ (lo + hi).fdiv 2 := by rw [Int.fdiv_eq_ediv_of_nonneg _ (by (first | lia | omega))]; (first | lia | omega)
      have hm1 : (lo + hi).fdiv 2 < hi ∧ lo ≤ (lo + hi).fdiv 2 := by rw [Int.fdiv_eq_ediv_of_nonneg _ (by (first | lia | omega))]; (first | lia | omega)
      generalize (lo + hi).fdiv 2 = mid at hm0 hm1
      have hml : mid.toNat < l.length := by (first | lia | omega)
      refine XS.cons (X1.ite (EvC.cmp (EvT.sub (by walk_at "ev") (by walk_at "ev") (GetV.list (v := .int (l[mid.toNat])) hm0 (by simp [hml]))) (by walk_at "ev") (by walk_at "cmp")) (fun hb2 => ?_) (fun hb2 => ?_))
      · simp only [decide_eq_true_eq] at hb2
        refine XS.cons (X1.asg (by walk_at "ev") (by (with_reducible (repeat (first | exact St.here' | exact St.hereC | apply St.there)))) trivial trivial (Seq.next (XS.nil (Seq.next (XS.nil (Turn.nx ⟨(mid + 1, hi), by (repeat (first | with_reducible exact Wk.nil | with_reducible apply Wk.keep | with_reducible apply Wk.drop | (apply Wk.keepE (by rfl)))), rfl, ?_, ?_⟩))))) rfl)
        · have : mid.toNat < r := by
            refine Nat.lt_of_not_le fun hle => ?_
            have := hc.ge _ hml hle
            (first | lia | omega)
          exact ⟨by (first | lia | omega), by (first | lia | omega), h2, h3⟩
        · show (hi - (mid + 1)).toNat < (hi - lo).toNat
          (first | lia | omega)
      · simp only [decide_eq_false_iff_not] at hb2
        refine XS.cons (X1.asg (by walk_at "ev") (by (with_reducible (repeat (first | exact St.here' | exact St.hereC | apply St.there)))) trivial trivial (Seq.next (XS.nil (Seq.next (XS.nil (Turn.nx ⟨(lo, mid), by (repeat (first | with_reducible exact Wk.nil | with_reducible apply Wk.keep | with_reducible apply Wk.drop | (apply Wk.keepE (by rfl)))), rfl, ?_, ?_⟩))))) rfl)
        · have : r ≤ mid.toNat := by
            refine Nat.le_of_not_lt fun hle => ?_
            have := hc.lt _ hml hle
            (first | lia | omega)
          exact ⟨h0, h1, by (first | lia | omega), by show mid ≤ l.length; (first | lia | omega)⟩
        · show (mid - lo).toNat < (hi - lo).toNat
          (first | lia | omega)
    · simp only [decide_eq_false_iff_not] at hb
      refine XS.nil (Seq.next (XS.nil (Seq.next ?_)))
      refine XS.cons (X1.ret (by walk_at "ev") (RetIs.ret ?_))
      have : lo = r := by (first | lia | omega)
      rw [this]
  exact ⟨CalV.ofDefD D hroom rfl (by rfl) (by rfl) (by rfl) key, CalV.ofDefD D2 hroom rfl (by rfl) (by rfl) (by rfl) key⟩
structure CutR (l : List Int) (x : Int) (r : Nat) : Prop where
  le : r ≤ l.length
  lt : ∀ i (h : i < l.length), i < r → l[i] ≤ x
  ge : ∀ i (h : i < l.length), r ≤ i → x < l[i]
theorem br_spec {t : Bool} {A : Around} {l : List Int} {x lo₀ : Int} {r : Nat} (hA : OkA A 0 0) (hc : CutR l x r) (hl0 : 0 ≤ lo₀) (hl1 : lo₀ ≤ r) : CalV t A (.ref 65) [.list (l.map IV.int), .int x, .int lo₀] (.int r) := by
  have hroom : A.depth < recursionLimit := by have := hA.dp; (first | lia | omega)
  have D : DefOkD 65 (fdOf 65) (bodyOf 65) [S "a", S "x", S "lo", S "hi", S "key"] [.none, .none] [.none, .none] := ⟨fun w => ⟨_, _, _, by rfl⟩, (by intro w h X; exact codeRec_35 (c := 64) X (by rfl) (by rfl)), by rfl,
    (fun w s xs X h => bindD3 X (fun M a b c => by rfl) xs (by simpa using h)), (fun h => ⟨MRel.ofNone, MRel.ofNone, trivial⟩), by decide, by rfl, by rfl, by rfl, by rfl, by rfl, by rfl, by rfl, by rfl⟩
  refine CalV.ofDefD (σ := [(S "a", .local, some (.list (l.map IV.int))), (S "x", .local, some (.int x)), (S "lo", .local, some (.int lo₀)), (S "hi", .local, some .none), (S "key", .local, some .none), (S "mid", .local, none)]) D hroom rfl (by rfl) (by rfl) (by rfl) ?_
  intro w mg mb s L
  refine XS.cons (X1.ite (by (first | (apply EvC.cmp; walk_at "ev"; walk_at "ev"; walk_at "cmp"; with_unfolding_all rfl) | (apply EvC.plain; walk_at "ev"; (first | exact TruV.int | exact TruV.bool | exact TruV.str | exact TruV.list); rfl) | (apply EvC.not; first | (apply EvC.cmp; walk_at "ev"; walk_at "ev"; walk_at "cmp"; with_unfolding_all rfl) | (apply EvC.plain; walk_at "ev"; (first | exact TruV.int | exact TruV.bool | exact TruV.str | exact TruV.list); rfl)))) (fun h => by simp at h; (first | lia | omega)) fun _ => XS.nil (Seq.next ?_))
  refine XS.cons (X1.ite (b := true) (by (first | (apply EvC.cmp; walk_at "ev"; walk_at "ev"; walk_at "cmp"; with_unfolding_all rfl) | (apply EvC.plain; walk_at "ev"; (first | exact TruV.int | exact TruV.bool | exact TruV.str | exact TruV.list); rfl) | (apply EvC.not; first | (apply EvC.cmp; walk_at "ev"; walk_at "ev"; walk_at "cmp"; with_unfolding_all rfl) | (apply EvC.plain; walk_at "ev"; (first | exact TruV.int | exact TruV.bool | exact TruV.str | exact TruV.list); rfl)))) (fun _ => ?_) (fun h => by cases h))
  refine XS.cons (X1.asg (EvT.callB n_len b_len (by (repeat (first | exact EvL.nil | (apply EvL.cons; walk_at "ev"; case hst => rfl)))) CalV.lenL rfl) (by (with_reducible (repeat (first | exact St.here' | exact St.hereC | apply St.there)))) trivial trivial (Seq.next (XS.nil (Seq.next ?_))) rfl)
  refine XS.cons (X1.ite (b := true) (by (first | (apply EvC.cmp; walk_at "ev"; walk_at "ev"; walk_at "cmp"; with_unfolding_all rfl) | (apply EvC.plain; walk_at "ev"; (first | exact TruV.int | exact TruV.bool | exact TruV.str | exact TruV.list); rfl) | (apply EvC.not; first | (apply EvC.cmp; walk_at "ev"; walk_at "ev"; walk_at "cmp"; with_unfolding_all rfl) | (apply EvC.plain; walk_at "ev"; (first | exact TruV.int | exact TruV.bool | exact TruV.str | exact TruV.list); rfl)))) (fun _ => ?_) (fun h => by cases h))
  refine XS.cons (X1.whl (α := Int × Int) (fun a => [(S "a", .local, some (.list (l.map IV.int))), (S "x", .local, some (.int x)), (S "lo", .local, some (.int a.1)), (S "hi", .local, some (.int a.2)), (S "key", .local, some .none), (S "mid", .local, none)]) (fun _ => none) (fun a => (a.2 - a.1).toNat) (fun a => 0 ≤ a.1 ∧ a.1 ≤ r ∧ (r : Int) ≤ a.2 ∧ a.2 ≤ l.length) (lo₀, (l.map IV.int).length) (by (repeat (first | with_reducible exact Wk.nil | with_reducible apply Wk.keep | with_reducible apply Wk.drop | (apply Wk.keepE (by rfl))))) rfl (by have := hc.le; simp; (first | lia | omega)) ?_)
  rintro ⟨lo, hi⟩ ⟨h0, h1, h2, h3⟩
  refine ⟨_, by (first | (apply EvC.cmp; walk_at "ev"; walk_at "ev"; walk_at "cmp"; with_unfolding_all rfl) | (apply EvC.plain; walk_at "ev"; (first | exact TruV.int | exact TruV.bool | exact TruV.str | exact TruV.list); rfl) | (apply EvC.not; first | (apply EvC.cmp; walk_at "ev"; walk_at "ev"; walk_at "cmp"; with_unfolding_all rfl) | (apply EvC.plain; walk_at "ev"; (first | exact TruV.int | exact TruV.bool | exact TruV.str | exact TruV.list); rfl))), fun hb => ?_, fun hb => ?_⟩
  · simp only [decide_eq_true_eq] at hb
    refine XS.cons (X1.asg (by walk_at "ev") (by (with_reducible (repeat (first | exact St.here' | exact St.hereC | apply St.there)))) trivial trivial (Seq.next ?_) rfl)
    have hm0 : 0 ≤ (lo + hi).fdiv 2 := by rw [Int.fdiv_eq_ediv_of_nonneg _ (by (first | lia | omega))]; (first | lia | omega)
    have hm1 : (lo + hi).fdiv 2 < hi ∧ lo ≤ (lo + hi).fdiv 2 := by rw [Int.fdiv_eq_ediv_of_nonneg _ (by (first | lia | omega))]; (first | lia | omega)
    generalize (lo + hi).fdiv 2 = mid at hm0 hm1
    have hml : mid.toNat < l.length := by (first | lia | omega)
    refine XS.cons (X1.ite (EvC.cmp (by walk_at "ev") (EvT.sub (by walk_at "ev") (by walk_at "ev") (GetV.list (v := .int (l[mid.toNat])) hm0 (by simp [hml]))) (by walk_at "cmp")) (fun hb2 => ?_) (fun hb2 => ?_))
    · simp only [decide_eq_true_eq] at hb2
      refine XS.cons (X1.asg (by walk_at "ev") (by (with_reducible (repeat (first | exact St.here' | exact St.hereC | apply St.there)))) trivial trivial (Seq.next (XS.nil (Seq.next (XS.nil (Turn.nx ⟨(lo, mid), by (repeat (first | with_reducible exact Wk.nil | with_reducible apply Wk.keep | with_reducible apply Wk.drop | (apply Wk.keepE (by rfl)))), rfl, ?_, ?_⟩))))) rfl)
      · have : r ≤ mid.toNat := by
          refine Nat.le_of_not_lt fun hle => ?_
          have := hc.lt _ hml hle
          (first | lia | omega)
        exact ⟨h0, h1, by (first | lia | omega), by show mid ≤ l.length; (first | lia | omega)⟩
      · show (mid - lo).toNat < (hi - lo).toNat
        (first | lia | omega)
    · simp only [decide_eq_false_iff_not] at hb2
      refine XS.cons (X1.asg (by walk_at "ev") (by (with_reducible (repeat (first | exact St.here' | exact St.hereC | apply St.there)))) trivial trivial (Seq.next (XS.nil (Seq.next (XS.nil (Turn.nx ⟨(mid + 1, hi), by (repeat (first | with_reducible exact Wk.nil | with_reducible apply Wk.keep | with_reducible apply Wk.drop | (apply Wk.keepE (by rfl)))), rfl, ?_, ?_⟩))))) rfl)
      · have : mid.toNat < r := by
          refine Nat.lt_of_not_le fun hle => ?_
          have := hc.ge _ hml hle
          (first | lia | omega)
        exact ⟨by (first | lia | omega), by (first | lia | omega), h2, h3⟩
      · show (hi - (mid + 1)).toNat < (hi - lo).toNat
        (first | lia | omega)
  · simp only [decide_eq_false_iff_not] at hb
    refine XS.nil (Seq.next (XS.nil (Seq.next ?_)))
    refine XS.cons (X1.ret (by walk_at "ev") (RetIs.ret ?_))
    have : lo = r := by (first | lia | omega)
    rw [this]
theorem il_spec {t : Bool} {A : Around} {l : List Int} {x : Int} {r : Nat} (hA : OkA A 1 3) (hc : Cut l x r) (hl : l.length + 1 ≤ cap) : CalM t A (.ref 74) (l.map IV.int) [.int x] ((l.take r ++ x :: l.drop r).map IV.int) := by
  have hroom : A.depth < recursionLimit := by have := hA.dp; (first | lia | omega)
  have D : DefOkD 74 (fdOf 74) (bodyOf 74) [S "a", S "x", S "lo", S "hi", S "key"] [.int 0, .none, .none] [.int 0 285, .none, .none] := ⟨fun w => ⟨_, _, _, by rfl⟩, (by intro w h X; exact codeRec_35 (c := 73) X (by rfl) (by rfl)), by rfl,
    (fun w s xs X h => bindD2 X (fun M a b => by rfl) xs (by simpa using h)), (fun h => ⟨MRel.ofInt _ _, MRel.ofNone, MRel.ofNone, trivial⟩), by decide, by rfl, by rfl, by rfl, by rfl, by rfl, by rfl, by rfl, by rfl⟩
  refine CalM.ofDefD (σ₀ := fun a => [(S "a", .local, some (.fn a)), (S "x", .local, some (.int x)), (S "lo", .local, some (.int 0)), (S "hi", .local, some .none), (S "key", .local, some .none)]) (σ := [(S "a", .local, none), (S "x", .local, some (.int x)), (S "lo", .local, some (.int 0)), (S "hi", .local, some .none), (S "key", .local, some .none)]) D hroom rfl (fun a => by rfl) (fun a => by (with_reducible (repeat (first | exact Uns.here | apply Uns.there)))) (fun a => by walk_at "has") (by rfl) (by rfl) (by rfl) ?_
  intro w mg mb s L a
  have hA' := OkA.deeper hA (callEnv (fdOf 74) L 74)
  refine XS.cons (X1.ite (b := true) (by (first | (apply EvC.cmp; walk_at "ev"; walk_at "ev"; walk_at "cmp"; with_unfolding_all rfl) | (apply EvC.plain; walk_at "ev"; (first | exact TruV.int | exact TruV.bool | exact TruV.str | exact TruV.list); rfl) | (apply EvC.not; first | (apply EvC.cmp; walk_at "ev"; walk_at "ev"; walk_at "cmp"; with_unfolding_all rfl) | (apply EvC.plain; walk_at "ev"; (first | exact TruV.int | exact TruV.bool | exact TruV.str | exact TruV.list); rfl)))) (fun _ => ?_) (fun h => by cases h))
  refine XS.cons (X1.asg (EvT.callF g_bl (fd := fdOf 83) ⟨_, _, _, by rfl⟩ (by (repeat (first | exact EvL.nil | (apply EvL.cons; walk_at "ev"; case hst => rfl)))) (bl_spec hA' hc).1) (by (with_reducible (repeat (first | exact St.here' | exact St.hereC | apply St.there)))) Keepable.imm (by (first | exact offMu.no | (apply offMu.dif; rfl))) (Seq.next (XS.nil (Seq.next ?_))) rfl)
  refine XS.cons (X1.meth1 (us := [.int r, .int x]) (by (repeat (first | exact EvL.nil | (apply EvL.cons; walk_at "ev"; case hst => rfl)))) (CalM.insert (by (first | lia | omega)) (by have := hc.le; simp; (first | lia | omega)) (by simpa using hl)) PySem.F.slot_list_insert PySem.F.type_list_insert (Seq.next (XS.nil ?_)))
  simp [NextMu]
-- part Gcode
open PySem PySem.W PyProof.Rows PySem.Calls
set_option maxHeartbeats 1000000
noncomputable def codeStep (c : List Int) (x : Int) : List Int := if c.any (· == x.fmod 31 + 1) then c else c ++ c.map fun r => Builtin.bitXor r (x.fmod 31 + 1)
noncomputable def lawCode (ns : List Int) : List Int := ns.foldl codeStep [0]
theorem codeStep_len (c : List Int) (x : Int) : (codeStep c x).length ≤ 2 * c.length := by
  unfold codeStep; split
  · (first | lia | omega)
  · simp; (first | lia | omega)
theorem code_spec {t : Bool} {A : Around} {ns : List Int} (hA : OkA A 0 0) (hl : ns.length ≤ 3) : CalV t A (.ref 114) [.list (ns.map IV.int)] (.list ((lawCode ns).map IV.int)) := by
  have D : DefOkC 114 (fdOf 114) (bodyOf 114) [S "numbers"] := ⟨fun w => ⟨_, _, _, by rfl⟩, (by intro w h X; exact codeRec_35 (c := 113) X (by rfl) (by rfl)), by rfl, (len1 fun a => rfl), by decide, by rfl, by intro n; rfl, by rfl, by rfl, by rfl, by rfl, by rfl⟩
  refine CalV.ofDefC (σ := [(S "numbers", .local, some (.list (ns.map IV.int))), (S "code", .local, none), (S "x", .cell, none)]) D (by have := hA.dp; (first | lia | omega)) rfl (by rfl) (by rfl) (by intro n; rfl) ?_
  intro w mg mb s L hap
  have hh : (A.deeper (callEnvC (fdOf 114) L 114)).handled = none := hA.hd
  refine XS.cons (X1.asg (EvF.disp (vs := [.int 0]) (by (repeat (first | exact EvL.nil | (apply EvL.cons; walk_at "ev"; case hst => rfl)))) (by decide)).t (by (with_reducible (repeat (first | exact St.here' | exact St.hereC | apply St.there)))) trivial trivial (Seq.next ?_) rfl)
  refine XS.cons (X1.for (α := List Int) (EvI.list hh (by walk_at "ev")) (fun r c => [(S "numbers", .local, some (.list (ns.map IV.int))), (S "code", .local, some (.list (c.map IV.int))), (S "x", .cell, none)]) (fun _ => none) (fun _ => rfl) (fun r c => ∃ ms : List Int, r = ms.map IV.int ∧ ms.foldl codeStep c = lawCode ns ∧ c.length * 2 ^ ms.length ≤ 8) [0] (by (repeat (first | with_reducible exact Wk.nil | with_reducible apply Wk.keep | with_reducible apply Wk.drop | (apply Wk.keepE (by rfl))))) rfl ⟨ns, rfl, rfl, ?len⟩ ?turn ?fin (fun _ => rfl))
  case len =>
    show 1 * 2 ^ ns.length ≤ 8
    have : 2 ^ ns.length ≤ 2 ^ 3 := Nat.pow_le_pow_right (by (first | lia | omega)) hl
    (first | lia | omega)
  case fin =>
    rintro c ⟨ms, hms, hf, -⟩
    refine XS.nil (Seq.next ?_)
    refine XS.cons (X1.ret (by walk_at "ev") (RetIs.ret ?_))
    cases ms with
    | nil => rw [← hf]; rfl
    | cons => simp at hms
  case turn =>
    rintro v r c ⟨ms, hms, hf, hlen⟩
    cases ms with
    | nil => simp at hms
    | cons m ms =>
      simp only [List.map_cons, List.cons.injEq] at hms
      obtain ⟨rfl, rfl⟩ := hms
      refine ⟨_, by (with_reducible (repeat (first | exact St.here' | exact St.hereC | apply St.there))), trivial, fun pr => ?_⟩
      have hcl : c.length ≤ 4 ∨ c.length * 2 ≤ 8 := by
        right
        have : c.length * 2 ^ (ms.length + 1) = c.length * 2 * 2 ^ ms.length := by rw [Nat.pow_succ]; ac_rfl
        rw [List.length_cons, this] at hlen
        have h1 : 1 ≤ 2 ^ ms.length := Nat.one_le_two_pow
        exact Nat.le_trans (Nat.le_mul_of_pos_right _ h1) hlen
      have hc4 : c.length ≤ 4 := by (first | lia | omega)
      have hnext : (codeStep c m).length * 2 ^ ms.length ≤ 8 := by
        have h1 := codeStep_len c m
        have h2 : (codeStep c m).length * 2 ^ ms.length ≤ 2 * c.length * 2 ^ ms.length := Nat.mul_le_mul_right _ h1
        have : c.length * 2 ^ (ms.length + 1) = 2 * c.length * 2 ^ ms.length := by rw [Nat.pow_succ]; ac_rfl
        rw [List.length_cons, this] at hlen
        (first | lia | omega)
      refine XS.cons (X1.ite (EvC.cmp (by walk_at "ev") (by walk_at "ev") CmpV.notInI) (fun hb => ?_) (fun hb => ?_))
      · refine XS.cons (X1.asg (v := .list ((codeStep c m).map IV.int)) (EvT.cast (EvT.bin (by walk_at "ev") (EvF.compN (xs := c.map IV.int) (fun _ => true) (fun v => match v with | .int i => .int (Builtin.bitXor i (m.fmod 31 + 1)) | v => v) [S "x"] (EvI.list hh (by walk_at "ev")) (by simp [cap]; (first | lia | omega)) (by rfl) (by rfl) (by rfl) (fun C => .inl rfl) (fun C => by (repeat (first | exact Frees.nil | (apply Frees.cons; walk_at "has"; (first | exact Or.inl rfl | exact Or.inr rfl); (first | exact Or.inl rfl | exact Or.inr rfl); rfl)))) (fun v hv C => EvIfs.nil) (fun v hv _ C => ?elt)).t (BinV.catL ?cat)) ?eq) (by (with_reducible (repeat (first | exact St.here' | exact St.hereC | apply St.there)))) trivial trivial (Seq.next ?_) rfl)
        case elt =>
          obtain ⟨i, hi, rfl⟩ := List.mem_map.mp hv
          walk_at "ev"
        case cat => rw [filterT]; simp [cap]; (first | lia | omega)
        case eq =>
          simp at hb
          rw [filterT]
          have : codeStep c m = c ++ c.map fun r => Builtin.bitXor r (m.fmod 31 + 1) := by
            unfold codeStep; rw [if_neg (by simp only [List.any_eq_true, beq_iff_eq]; rintro ⟨y, hy, e⟩; exact hb y hy e)]
          rw [this]; simp [Function.comp_def]
        exact XS.nil (Seq.next (XS.nil (Turn.nx ⟨codeStep c m, by (repeat (first | with_reducible exact Wk.nil | with_reducible apply Wk.keep | with_reducible apply Wk.drop | (apply Wk.keepE (by rfl)))), rfl, ms, rfl, hf, hnext⟩)))
      · simp at hb
        have e : codeStep c m = c := by unfold codeStep; rw [if_pos (by simpa using hb)]
        exact XS.nil (Seq.next (XS.nil (Turn.nx ⟨c, by (repeat (first | with_reducible exact Wk.nil | with_reducible apply Wk.keep | with_reducible apply Wk.drop | (apply Wk.keepE (by rfl)))), rfl, ms, rfl, by rw [List.foldl_cons, e] at hf; exact hf, by rw [e] at hnext; exact hnext⟩)))
-- part L20
open PySem PySem.W PyProof.Rows PySem.Calls PySem.SeqAt
set_option maxHeartbeats 1000000
noncomputable abbrev fnObj (name qual : Str) (params : Arguments) (body : List Stmt) (scope : Scope) (clos : List (Str × Addr)) (doc pm cv ctv : Value) : Obj := { cls := .type "function", data := .func (fnX name qual params body scope clos .none .none doc pm none cv ctv) }
theorem makeFn {M : Model} {A : Around} {E : Value → Shared → Prop} {s : Shared} {name qual : Str} {params : Arguments} {body : List Stmt} {scope : Scope} {env : Env} {c P : Addr} {pos : Pos} {firstLine : Nat} {mg : Str → Option Value} {clos : List (Str × Addr)} {Q : Value → Shared → Prop}
    (hcl : closureFor scope env = pure clos) (hne : clos.isEmpty = false) (hge0 : env.globals = mainGlobals) (hg : s.heap.Ns mainGlobals mg) (hcode : env.code = .ref c) (T : TabOk s.heap c P qual pos) (hdoc : docOf body = none)
    (hb : ∃ bm ob, mg "__builtins__" = some (.ref bm) ∧ bm ≠ builtinsNs ∧ s.heap.get? bm = some ob ∧ ob.cls = .type "module" ∧ ob.dict = some builtinsNs ∧ ob.data = .plain)
    (h : ∀ f h' tk doc pm cv ctv, (∀ b o, b ≠ P → s.heap.get? b = some o → h'.get? b = some o) → TabOk h' c P qual pos → s.heap.get? f = none → h'.get? f = some (fnObj name qual params body scope clos doc pm cv ctv) → CodeOf h' cv qual → Q (.ref f) { s with heap := h', toks := tk }) :
    wpAny M A (makeFunction name qual params (.stmts body) scope env [] [] [] pos firstLine) Q E s := by
  obtain ⟨ps, hP, ht, hps⟩ := T.ps
  have hgP : mainGlobals ≠ P := fun q => by
    obtain ⟨o, es, ep, e, hd, _⟩ := hg
    rw [q, hP] at e; cases e; cases hd
  obtain ⟨bm, ob, b1, b2, b3, b4, b5, b6⟩ := hb
  have hbP : bm ≠ P := fun q => by rw [q, hP] at b3; cases b3; cases b4
  have hbG : bm ≠ mainGlobals := fun q => by
    obtain ⟨o, es, ep, e, hd, _⟩ := hg
    rw [q, e] at b3; cases b3; rw [hd] at b6; cases b6
  cases hf : codeAmong pos ps.toList with
  | some cv =>
    refine makeFunction_hit hcl hge0 hg hcode T.hd hP ht hf ⟨bm, ob, b1, b2, hbG, hbP, b3, b4, b5, b6⟩ fun ctv doc h' tk hk hsz => ?_
    have k2 : ∀ o' b o, s.heap.get? b = some o → (h'.push o').get? b = some o := fun o' b o e => Heap.get?_push_of_some _ (hk b o e)
    refine h _ _ tk doc _ cv ctv (fun b o _ e => k2 _ b o e) ⟨T.hd.keeps (k2 _), ps, k2 _ _ _ hP, ht, fun cv hc => (hps cv hc).keeps (k2 _)⟩ (Heap.get?_none_of_le hsz) (Heap.get?_push_size _ rfl) ((hps cv hf).keeps (k2 _))
  | none =>
    rw [makeFunction_eq]
    simp only [List.zip_nil_right, List.filterMap_nil, List.isEmpty_nil, if_true, pure_bind]
    unfold makeTail
    rw [hcl, hge0]
    refine wpAny_bind (wpAny_pure ?_)
    rw [hne]
    simp only [Bool.false_eq_true, if_false]
    refine wpAny_bind (wpAny_newTextTuple ?_)
    generalize hH : s.heap.push _ = H
    have kH : ∀ b o, s.heap.get? b = some o → H.get? b = some o := fun b o e => by rw [← hH]; exact Heap.get?_push_of_some _ e
    have hHs : s.heap.objs.size ≤ H.objs.size := by rw [← hH, Heap.size_push]; (first | lia | omega)
    refine wpAny_bind (wpAny_functionCodeX hcode ((T.hd.keeps kH).code (kH _ _ hP) ht) ((T.hd.keeps kH).tab (kH _ _ hP)) hf fun c' h' tk hx hge hlt _ hrec htb hP' => ?_)
    have hx' : ∀ b o, b ≠ P → s.heap.get? b = some o → h'.get? b = some o := fun b o hb e => hx b o hb (kH _ _ e)
    have hg' : h'.Ns mainGlobals mg := hg.extBut hx' hgP
    refine wpAny_bind (wpAny_builtinsFor hg' b1 b2 (hx' _ _ hbP b3) b4 b5 b6 ?_)
    refine wpAny_bind (wpAny_nsGet hg' ?_)
    refine wpAny_bind ?_
    dsimp only
    rw [hdoc]
    refine wpAny_pure (wpAny_newObj_type ?_ (by size_fits))
    have hco : CodeOf h' (.ref c') qual := by
      obtain ⟨P', _, _, ⟨oc, vc, g1, g2, g3, _⟩, _⟩ := hP'
      obtain ⟨c₂, o₂, vs₂, t₂, e₂, f1, f2, f3⟩ := hrec
      cases e₂
      rw [g1] at f1; cases f1
      rw [g3] at f2; cases f2
      exact ⟨c', oc, vc, t₂, rfl, g1, g2, g3, f3⟩
    have hcP : CodeHd h' c P := by
      obtain ⟨o, vs, file, tf, flags, tg, inF, text, tt, e1, r1, r2, r3, r4, r5, r6, r7, r8, hne'⟩ := T.hd
      exact ⟨o, vs, file, tf, flags, tg, inF, text, tt, hx' _ _ hne' e1, r1, r2, r3, r4, r5, r6, r7, r8, hne'⟩
    have kp : ∀ o' b o, h'.get? b = some o → (h'.push o').get? b = some o := fun o' b o e => Heap.get?_push_of_some _ e
    have hsz : s.heap.objs.size ≤ h'.objs.size := Nat.le_trans hHs (Nat.le_trans hge (Nat.le_of_lt hlt))
    refine h _ _ tk .none _ (.ref c') _ (fun b o hb e => kp _ b o (hx' b o hb e)) ⟨hcP.keeps (kp _), _, kp _ _ _ htb.2, ?_, fun cv hc => ?_⟩ (Heap.get?_none_of_le hsz) (Heap.get?_push_size _ rfl) (hco.keeps (kp _))
    · have e : (ps ++ #[rawInt pos.line, rawInt pos.col, Value.ref c']).toList = ps.toList ++ [rawInt pos.line, rawInt pos.col, .ref c'] := by simp
      rw [e]
      exact TriplesOk_snoc _ _ _ _ ht
    · have e : (ps ++ #[rawInt pos.line, rawInt pos.col, Value.ref c']).toList = ps.toList ++ [rawInt pos.line, rawInt pos.col, .ref c'] := by simp
      rw [e, codeAmong_snoc _ ht hf] at hc
      cases hc
      exact hco.keeps (kp _)
theorem Base.tabP {w : World} {mg mb : Str → Option Value} {h h' : Heap} {P : Addr} {ps : Array Value} (B : Base w mg mb h) (hP : h.get? P = some (tabObj ps)) (hK : ∀ w : World, (kHp w.params).lookup P = none) (k : ∀ b o, b ≠ P → h.get? b = some o → h'.get? b = some o) (T : TabOk h' 34 30 q30 p30) (T' : TabOk h' 41 37 q37 p37) : Base w mg mb h' := by
  have nsne : ∀ {b m}, h.Ns b m → b ≠ P := fun n q => by obtain ⟨o, es, ep, e, d, _⟩ := n; rw [q, hP] at e; cases e; cases d
  have xb : Heap.ExtBut P h h' := k
  refine ⟨fun b o e => k b o (fun q => ?_) (B.K b o e), B.g.extBut xb (nsne B.g), B.b.extBut xb (nsne B.b), ?_, B.bi, T, T', ?_⟩
  · rw [q, hK] at e; cases e
  · obtain ⟨mc, n, _⟩ := B.lim
    exact B.lim.extBut xb (nsne n)
  · obtain ⟨bm, ob, e1, e2, e3, e4, r⟩ := B.bm
    exact ⟨bm, ob, e1, e2, k _ _ (fun q => by rw [q, hP] at e3; cases e3; cases e4) e3, e4, r⟩
theorem TabOk.side {h h' : Heap} {c P P' : Addr} {q : Str} {pos : Pos} {ps : Array Value} (T : TabOk h c P' q pos) (hP : h.get? P = some (tabObj ps)) (h1 : c ≠ P) (h2 : P' ≠ P) (k : ∀ b o, b ≠ P → h.get? b = some o → h'.get? b = some o) : TabOk h' c P' q pos := by
  obtain ⟨⟨o, vs, file, tf, flags, tg, inF, text, tt, e, r⟩, ps, e2, r2, u⟩ := T
  exact ⟨⟨o, vs, file, tf, flags, tg, inF, text, tt, k _ _ h1 e, r⟩, ps, k _ _ h2 e2, r2, fun cv hc => (u cv hc).but (fun o e => by rw [hP] at e; cases e; exact .inl (by simp)) k⟩
theorem Base.tab30 {w : World} {mg mb : Str → Option Value} {h h' : Heap} (B : Base w mg mb h) (k : ∀ b o, b ≠ 30 → h.get? b = some o → h'.get? b = some o) (T : TabOk h' 34 30 q30 p30) : Base w mg mb h' :=
  let ⟨_, hP, _, _⟩ := B.t30.ps; B.tabP hP (fun _ => rfl) k T (B.t37.side hP (by decide) (by decide) k)
theorem Base.tab37 {w : World} {mg mb : Str → Option Value} {h h' : Heap} (B : Base w mg mb h) (k : ∀ b o, b ≠ 37 → h.get? b = some o → h'.get? b = some o) (T : TabOk h' 41 37 q37 p37) : Base w mg mb h' :=
  let ⟨_, hP, _, _⟩ := B.t37.ps; B.tabP hP (fun _ => rfl) k (B.t30.side hP (by decide) (by decide) k) T
/-- which table a def's code lies in -/
inductive TabIs : Addr → Addr → Str → Pos → Prop
  | i2d : TabIs 34 30 q30 p30
  | d2i : TabIs 41 37 q37 p37
theorem TabIs.ok {c P : Addr} {q : Str} {pos : Pos} (t : TabIs c P q pos) {w : World} {mg mb : Str → Option Value} {h : Heap} (B : Base w mg mb h) : TabOk h c P q pos := by cases t; exact B.t30; exact B.t37
theorem TabIs.base {c P : Addr} {q : Str} {pos : Pos} (t : TabIs c P q pos) {w : World} {mg mb : Str → Option Value} {h h' : Heap} (B : Base w mg mb h) (k : ∀ b o, b ≠ P → h.get? b = some o → h'.get? b = some o) (T : TabOk h' c P q pos) : Base w mg mb h' := by
  cases t
  · exact B.tab30 k T
  · exact B.tab37 k T
theorem TabIs.mem {c P : Addr} {q : Str} {pos : Pos} (t : TabIs c P q pos) : P ∈ tabs true := by cases t <;> simp [tabs]
theorem XS.defN {C : Cx} {σ : List Ent} {σ' : Addr → List Ent} {mu : Mu} {Φ : Fl → Prop} {rest : List Stmt} {name qual : Str} {params : Arguments} {body : List Stmt} {scope : Scope} {pos : Pos} {clos : List (Str × Addr)} {c P : Addr} (ht : C.t = true) (tb : TabIs c P qual pos)
    (hcl : closOf C.env.cells scope.names [] = some clos) (hne : clos.isEmpty = false) (hcode : C.env.code = .ref c) (hq : qualnameIn C.env name name = qual) (hd0 : params.defaults = []) (hk0 : params.kw_defaults = []) (ha : annTrees params none C.env = []) (hdoc : docOf body = none)
    (hst : ∀ f, Mine.St σ name (.fn f) (σ' f)) (hoff : offMu mu name)
    (h : ∀ f doc pm ctv cc oc vs tt, oc.cls = .type "code" → oc.data = .fields vs → vs[1]? = some (.str qual tt) → XS (C.wp ((f, fnObj name qual params body scope clos doc pm (.ref cc) ctv) :: (cc, oc) :: C.pr)) (σ' f) mu rest Φ) : XS C σ mu (.FunctionDef name params body [] none [] scope none name pos :: rest) Φ := ⟨fun sg s Q E F hqq => by
  refine wpAny_execs_cons (nestDef_K hd0 hk0 ha ?_)
  rw [hq]
  have B := F.go.base
  refine makeFn (mg := C.mg) (closureFor_of hcl) hne C.st.glob B.g hcode (tb.ok B) hdoc B.bm fun f h' tk doc pm cv ctv hk T hn hf hco => ?_
  have hk' : ∀ b o, b ∉ tabs C.t → s.heap.get? b = some o → h'.get? b = some o := fun b o hb e => hk b o (fun q => hb (q ▸ ht ▸ tb.mem)) e
  have g : Go C.w C.mg C.mb C.t s { s with heap := h', toks := tk } := ⟨hk', tb.base B hk T, rfl, rfl, rfl⟩
  have F₁ := FS.goes F g
  obtain ⟨cc, oc, vs, tt, rfl, hc1, hc2, hc3, hc4⟩ := hco
  have omu : ∀ b, (∀ xs n, h'.get? b ≠ some { cls := .type "list", data := .seq xs n }) → b ∉ muX mu := fun b hb hm => by
    cases mu with
    | none => cases hm
    | some p =>
      obtain ⟨x, a, vs⟩ := p
      simp only [muX, List.mem_singleton] at hm
      obtain ⟨_, ⟨ys, ⟨n, e⟩, _⟩, _⟩ := F₁.mus
      exact hb _ _ (hm ▸ e)
  have F₂ : (C.wp ((f, fnObj name qual params body scope clos doc pm (.ref cc) ctv) :: (cc, oc) :: C.pr)).FS σ mu { s with heap := h', toks := tk } := F₁.setPr fun p hp => by
    rcases List.mem_cons.mp hp with rfl | hp
    · exact ⟨hf, (by intro _ _ q; cases q), (by intro _ q; cases q), (by intro q; cases q), omu f fun xs n q => by rw [hf] at q; simp at q⟩
    · rcases List.mem_cons.mp hp with rfl | hp
      · exact ⟨hc1, (by intro _ _ q; rw [hc3] at q; cases q), (by intro _ q; rw [hc3] at q; cases q), (by rw [hc2]; intro q; cases q), omu cc fun xs n q => by rw [hc1] at q; cases q; simp at hc3⟩
      · exact F₁.prs p hp
  refine storeX (C := C.wp ((f, fnObj name qual params body scope clos doc pm (.ref cc) ctv) :: (cc, oc) :: C.pr)) sg F₂ (hst f) (rfl : MRel [] h' (.fn f) (.ref f)) (by cases mu <;> trivial) hoff fun s₃ sg₃ F₃ _ => ?_
  refine (h f doc pm ctv cc oc vs tt hc2 hc3 hc4).run sg₃ s₃ Q E F₃ fun fl s' hfl => hqq fl s' ?_
  have sub : ∀ {σ mu}, (C.wp ((f, fnObj name qual params body scope clos doc pm (.ref cc) ctv) :: (cc, oc) :: C.pr)).FS σ mu s' → C.FS σ mu s' := fun F => F.setPr fun p hp => F.prs p (.tail _ (.tail _ hp))
  cases fl with
  | next => obtain ⟨σ₁, mu₁, a, b, c⟩ := hfl; exact ⟨σ₁, mu₁, a, sub b, c⟩
  | brk => obtain ⟨σ₁, mu₁, a, b, c⟩ := hfl; exact ⟨σ₁, mu₁, a, sub b, c⟩
  | cont => obtain ⟨σ₁, mu₁, a, b, c⟩ := hfl; exact ⟨σ₁, mu₁, a, sub b, c⟩
  | ret y => obtain ⟨v, mu₁, a, b, c, d⟩ := hfl; exact ⟨v, mu₁, a, b, fun p hp => c p (.tail _ (.tail _ hp)), d⟩⟩
theorem VarIs.cell {env : Env} {X : List Addr} {h : Heap} {x : Str} {v : MV} {c : Addr} (V : VarIs env X h x v) (hk : env.kindOf x = some .cell) (hl : env.cells.lookup x = some c) : ∃ y, MRel X h v y ∧ h.IsCell c (some y) := by
  obtain ⟨y, r, q⟩ := V
  rcases q with ⟨k, _⟩ | ⟨_, c', l, ic⟩
  · rw [hk] at k; cases k
  · rw [hl] at l; cases l; exact ⟨y, r, ic⟩
theorem Er.cell {a b : Addr} {s : Shared} {ys : Array Value} {v : Option Value} (hp : s.heap.PlainList a ys) (ic : s.heap.IsCell b v) : (Er a s).heap.IsCell b v := by
  obtain ⟨o, e, d⟩ := ic
  refine ⟨o, (Er.get fun q => ?_).trans e, d⟩
  obtain ⟨n, e'⟩ := hp
  rw [q, e'] at e; cases e; cases d
-- part Mdig
open PySem PySem.W PyProof.Rows PySem.Calls
set_option maxHeartbeats 1000000
noncomputable def digs (n x m : Nat) : List Nat := (List.range m).map fun i => x / 2 ^ (n * i) % 2 ^ n
theorem digs_length (n x m : Nat) : (digs n x m).length = m := by simp [digs]
theorem mod_div_mod {x p q r : Nat} (h : q + r ≤ p) : x % 2 ^ p / 2 ^ q % 2 ^ r = x / 2 ^ q % 2 ^ r := by
  apply Nat.eq_of_testBit_eq
  intro i
  rw [Nat.testBit_mod_two_pow, Nat.testBit_mod_two_pow, Nat.testBit_div_two_pow, Nat.testBit_div_two_pow, Nat.testBit_mod_two_pow]
  by_cases hi : i < r
  · have : i + q < p := by (first | lia | omega)
    simp [hi, this]
  · simp [hi]
theorem digs_add (n x a b : Nat) : digs n x (a + b) = digs n (x % 2 ^ (n * a)) a ++ digs n (x / 2 ^ (n * a)) b := by
  unfold digs
  rw [List.range_add, List.map_append, List.map_map]
  congr 1
  · apply List.map_congr_left
    intro i hi
    rw [List.mem_range] at hi
    refine (mod_div_mod ?_).symm
    have : n * (i + 1) ≤ n * a := Nat.mul_le_mul_left n hi
    rw [Nat.mul_add, Nat.mul_one] at this
    exact this
  · apply List.map_congr_left
    intro i _
    show x / 2 ^ (n * (a + i)) % 2 ^ n = x / 2 ^ (n * a) / 2 ^ (n * i) % 2 ^ n
    rw [Nat.div_div_eq_div_mul, ← Nat.pow_add, Nat.mul_add]
theorem digs_one {n x : Nat} (h : x < 2 ^ n) : digs n x 1 = [x] := by
  simp [digs, Nat.mod_eq_of_lt h]
theorem and_low (x s : Nat) : x &&& x / 2 ^ s * 2 ^ s = x / 2 ^ s * 2 ^ s := by
  apply Nat.eq_of_testBit_eq
  intro i
  rw [Nat.testBit_and, Nat.testBit_mul_two_pow, Nat.testBit_div_two_pow]
  by_cases h : s ≤ i
  · have : i - s + s = i := by (first | lia | omega)
    simp [h, this]
  · simp [h]
theorem xor_low (x s : Nat) : Builtin.bitXor (x : Int) (((x / 2 ^ s : Nat) : Int) * 2 ^ s) = ((x % 2 ^ s : Nat) : Int) := by
  have e : (((x / 2 ^ s : Nat) : Int) * 2 ^ s) = ((x / 2 ^ s * 2 ^ s : Nat) : Int) := by push_cast; rfl
  rw [e, bitXor_and, bitAnd_pp (by (first | lia | omega)) (by (first | lia | omega))]
  simp only [Int.toNat_natCast]
  rw [and_low]
  have h := Nat.div_add_mod x (2 ^ s)
  rw [Nat.mul_comm] at h
  (first | lia | omega)
theorem bits_nat {x p : Nat} (h : x < 2 ^ p) : Builtin.Int.intBits (x : Int) ≤ p := intBits_le_iff.mpr (by simpa using h)
theorem lt_bits {a : Int} (h0 : 0 ≤ a) : a.toNat < 2 ^ Builtin.Int.intBits a := by
  have := (intBits_le_iff (x := a) (m := Builtin.Int.intBits a)).mp (Nat.le_refl _)
  have e : a.natAbs = a.toNat := by (first | lia | omega)
  rw [e] at this; exact this
theorem fdiv_nat (x y : Nat) : (x : Int).fdiv (y : Int) = ((x / y : Nat) : Int) := by
  rw [Int.fdiv_eq_ediv_of_nonneg _ (by (first | lia | omega))]; rfl
theorem fmod_nat (x y : Nat) : (x : Int).fmod (y : Int) = ((x % y : Nat) : Int) := by
  rw [Int.fmod_eq_emod_of_nonneg _ (by (first | lia | omega))]; rfl
theorem shr_nat (x s : Nat) : (x : Int).fdiv (2 ^ ((s : Int)).toNat) = ((x / 2 ^ s : Nat) : Int) := by
  have e : ((2 : Int) ^ ((s : Int)).toNat) = ((2 ^ s : Nat) : Int) := by push_cast; simp
  rw [e, fdiv_nat]
/-- a list with x's digits written at L..R -/
noncomputable def wr (n : Nat) (l : List IV) (L R x : Nat) : List IV := l.take L ++ (digs n x (R - L)).map (fun (d : Nat) => IV.int d) ++ l.drop R
theorem wr_length {n : Nat} {l : List IV} {L R x : Nat} (h : L ≤ R) (hR : R ≤ l.length) : (wr n l L R x).length = l.length := by
  simp [wr, digs_length]; (first | lia | omega)
theorem wr_split {n : Nat} {l : List IV} {L m R x : Nat} (h1 : L ≤ m) (h2 : m ≤ R) (hR : R ≤ l.length) : wr n (wr n l L m (x % 2 ^ (n * (m - L)))) m R (x / 2 ^ (n * (m - L))) = wr n l L R x := by
  have e : R - L = (m - L) + (R - m) := by (first | lia | omega)
  have e1 : (wr n l L m (x % 2 ^ (n * (m - L)))).take m = l.take L ++ (digs n (x % 2 ^ (n * (m - L))) (m - L)).map (fun (d : Nat) => IV.int d) := by
    unfold wr
    rw [List.take_append_of_le_length (by simp [digs_length]; (first | lia | omega)), List.take_of_length_le (by simp [digs_length]; (first | lia | omega))]
  have e2 : (wr n l L m (x % 2 ^ (n * (m - L)))).drop R = l.drop R := by
    unfold wr
    have hl : (l.take L ++ (digs n (x % 2 ^ (n * (m - L))) (m - L)).map (fun (d : Nat) => IV.int d)).length = m := by simp [digs_length]; (first | lia | omega)
    rw [List.drop_append, List.drop_eq_nil_of_le (by rw [hl]; (first | lia | omega)), hl, List.drop_drop, List.nil_append]
    congr 1; (first | lia | omega)
  have e3 : wr n (wr n l L m (x % 2 ^ (n * (m - L)))) m R (x / 2 ^ (n * (m - L))) = (wr n l L m (x % 2 ^ (n * (m - L)))).take m ++ (digs n (x / 2 ^ (n * (m - L))) (R - m)).map (fun (d : Nat) => IV.int d) ++ (wr n l L m (x % 2 ^ (n * (m - L)))).drop R := rfl
  rw [e3, e1, e2]
  unfold wr
  rw [e, digs_add, List.map_append]
  simp
theorem wr_one {n : Nat} {l : List IV} {L x : Nat} (h : L < l.length) (hx : x < 2 ^ n) : wr n l L (L + 1) x = l.set L (.int x) := by
  have e : L + 1 - L = 1 := by (first | lia | omega)
  unfold wr
  rw [e, digs_one hx, List.set_eq_take_append_cons_drop, if_pos h]
  simp
-- part L21
open PySem PySem.W PyProof.Rows PySem.Calls PySem.SeqAt
set_option maxHeartbeats 1000000
theorem foldl_rep (v : Value) : ∀ (n : Nat) (acc : Array Value), List.foldl (fun x1 x2 => x1 ++ x2) acc (List.replicate n #[v]) = acc ++ (List.replicate n v).toArray
  | 0, acc => by simp
  | n + 1, acc => by
    rw [List.replicate_succ, List.foldl_cons, foldl_rep v n]
    apply Array.ext'
    simp [List.replicate_succ]
theorem irels_rep {v : IV} {x : Value} (r : IRel v x) : ∀ n, IRels (List.replicate n v) (List.replicate n x)
  | 0 => trivial
  | n + 1 => ⟨r, irels_rep r n⟩
section
variable {w : World} {mg mb : Str → Option Value} {t : Bool} {A : Around} {P : SP w mg mb t}
theorem EvF.mul1 {e r : PySem.Expr} {pos : Pos} {v : IV} {n : Int} (he : EvF A P e [v]) (hr : EvT A P r (.int n)) (h0 : 0 ≤ n) (h1 : n.toNat ≤ cap) : EvF A P (.BinOp e .Mult r pos) (List.replicate n.toNat v) := ⟨fun s Q E hs h =>
  wpAny_BinOp (he.run s _ _ hs fun a ys s₁ g₁ hn hp hr1 _ => hr.run s₁ _ _ (P.go hs g₁) fun y s₂ g₂ r₂ => by
    obtain ⟨x, rfl, rx⟩ := irels1 hr1
    obtain ⟨k, hl⟩ := g₂.plain g₁.base hp
    obtain ⟨u, rfl⟩ := IRel.int r₂
    have h1' := h1
    simp only [cap] at h1'
    have hsz : ([x].toArray : Array Value).size = 1 := rfl
    refine wpAny_binaryOp_repeat_ref (T := "list") (U := "int") (by decide) ⟨_, hl, rfl⟩ (fun s' => typeIs_int s' n u) noFill_list_mul PySem.F.fills_int_mul PySem.F.slot_int_rmul repeat_list PySem.F.slot_int_index.lookup
      (call_meets PySem.F.slot_int_rmul (typeIs_int s₂ n u) PySem.F.entry_int_rmul (PySem.F.args_int_rmul_2 _ _) (int___rmul___int_list n u a [x].toArray k)
        ⟨hl, rfl, ⟨_, hl, rfl⟩, call_meets PySem.F.slot_list_mul ⟨_, hl, rfl⟩ PySem.F.entry_list_mul (PySem.F.args_list_mul_2 _ _)
          (AutoListH.list___mul___list_int_3 a [x].toArray k n u (by simp [Builtin.List.listFitsIndex]; (first | lia | omega)) (by rw [hsz]; (first | lia | omega)) (by rw [hsz]; simp [Builtin.List.listTooLong, sizeLine]; (first | lia | omega)))
          ⟨hl, ?_⟩⟩)
    have g12 := g₁.trans g₂
    have e : List.foldl (fun x1 x2 => x1 ++ x2) #[] (List.replicate (if ([x].toArray : Array Value).isEmpty = true then 0 else n.toNat) [x].toArray) = (List.replicate n.toNat x).toArray := by
      rw [if_neg (by simp)]
      exact (foldl_rep x n.toNat #[]).trans (by simp)
    rw [e]
    exact h _ (List.replicate n.toNat x) _ (g12.trans (Go.push (tk := s₂.toks) g12.base _)) (g12.none (Heap.get?_none_of_le (Nat.le_refl _))) ⟨0, Heap.get?_push_size _ rfl⟩ (irels_rep rx _) (by simpa using h1))⟩
theorem CalV.bitlen {a : Int} : CalV t A (.builtin "int.bit_length") [.int a] (.int (Builtin.Int.intBits a)) := by
  constructor; intro w mg mb s xs Q E B r h
  obtain ⟨u, rfl, ru⟩ := mrels1 r
  obtain ⟨tk, rfl⟩ := IRel.int ru
  exact call_int_bit_length (h _ _ (Go.tok B) (MRel.ofInt _ _))
theorem EvT.bitlen {o : PySem.Expr} {apos pos : Pos} {a : Int} (ho : EvT A P o (.int a))
    (hb : attributeBase o (Str.ofString "bit_length") P.env (eval o P.env) = eval o P.env := by rfl) (hq : ((((backTo pos (starEach [] P.env)).all fun x => !x.1) && (backToKw pos (keywordEach [] P.env)).all fun x => x.1.isSome) && decide ((([] : List PySem.Expr).length + ([] : List Keyword).length + if ([] : List Keyword).isEmpty = true then 0 else 1) < 30)) = true := by rfl)
    (hln : (apos.endLine == pos.line) = true := by rfl) : EvT A P (.Call (.Attribute o (Str.ofString "bit_length") apos) [] [] pos) (.int (Builtin.Int.intBits a)) :=
  EvT.meth0 ho int_type im_ref PySem.F.plainAttrs_int PySem.F.slot_int_bit_length CalV.bitlen hb hq hln PySem.F.type_int_bit_length
end
section
variable {C : Cx} {σ : List Ent} {Φ : Fl → Prop} {x : Str} {a : Addr} {l l' : List IV}
/-- a call, as a statement, of a def of the frame's, which changes the list -/
theorem X1.callI {nm : Str} {f : Addr} {e : PySem.Expr} {es : List PySem.Expr} {p pos spos : Pos} {us : List IV} (hx : Has σ nm (.fn f)) (hl : EvL C.A (C.P σ (some (x, a, l))) (e :: es) (us.map MV.im))
    (hfo : ∀ s₁, SigOk C.env σ → C.FS σ (some (x, a, l)) s₁ → ∃ oc od fd sl, s₁.heap.get? f = some ⟨oc, od, .func fd, sl⟩)
    (hcall : ∀ (s₁ : Shared) (ys xs : List Value) (Q E : Value → Shared → Prop), SigOk C.env σ → C.FS σ (some (x, a, l)) s₁ → s₁.heap.PlainList a (List.toArray ys) → IRels l ys → l.length ≤ cap → IRels us xs →
      (∀ ys' s', Go C.w C.mg C.mb C.t (Er a s₁) s' → s'.heap.PlainList a (List.toArray ys') → IRels l' ys' → l'.length ≤ cap → Q .none s') → wpAny (model PG C.w) C.A (call (.ref f) xs) Q E s₁)
    (h : Φ (.next σ (some (x, a, l')))) (he : starEach (e :: es) C.env = (false, eval e C.env) :: starEach es C.env := by rfl) (hi : interactive C.env = false := by rfl) (hs : swapsWith (.Call (.Name nm p) (e :: es) [] pos) none spos.line C.env = pure false := by rfl)
    (h0 : (nm == Str.ofString "__debug__") = false := by decide) (h2 : (nm == Str.ofString "__classdict__") = false := by decide) : X1 C σ (some (x, a, l)) (.Expr (.Call (.Name nm p) (e :: es) [] pos) spos) Φ := ⟨fun sg s Q E F hqq => by
  refine wpAny_Expr (wpAny_Call_NameR ((EvT.name (P := C.P σ (some (x, a, l))) (x := nm) (v := .fn f) (.there hx) h0 h2).run s _ _ F fun v s₁ g r => ?_)) hi hs
  have hv : v = .ref f := r
  subst hv
  have F₁ := FS.goes F g
  obtain ⟨oc, od, fd, sl, hf⟩ := hfo s₁ sg F₁
  refine callWith_def (o := ⟨oc, od, .func fd, sl⟩) rfl (hl.run pos s₁ _ _ F₁ fun xs s₂ g₂ r₂ => ⟨g₂.get' F₁.go.base hf (by intro vs q; cases q), ?_⟩) he
  have F₂ := F₁.goes g₂
  obtain ⟨ys, hp, hr, hcap⟩ := mus_of F₂.mus
  exact hcall s₂ ys xs _ _ sg F₂ hp hr hcap (mrels_im r₂) fun ys' s' g h1 h2 h3 => hqq .next s' ⟨_, _, sg, F₂.mut g h1 h2 h3, h⟩⟩
end
-- part Gi2d
open PySem PySem.W PyProof.Rows PySem.Calls
set_option maxHeartbeats 2000000
noncomputable def iDef : Arguments × List Stmt × Scope := match bodyOf 35 with
  | _ :: .FunctionDef _ p b _ _ _ sc _ _ _ :: _ => (p, b, sc)
  | _ => (⟨[], [], none, [], [], none, []⟩, [], ⟨.function, [], false, false, []⟩)
noncomputable abbrev iFn (doc pm cv ctv : Value) (cn ci ca : Addr) : FuncData := fnX (S "inner") q30 iDef.1 iDef.2.1 iDef.2.2 [(S "n", cn), (S "inner", ci), (S "a_digits", ca)] .none .none doc pm none cv ctv
structure CloI (h : Heap) (f cn ci ca a : Addr) (n : Nat) (doc pm cv ctv : Value) : Prop where
  fo : h.get? f = some { cls := .type "function", data := .func (iFn doc pm cv ctv cn ci ca) }
  co : CodeOf h cv q30
  vn : ∃ tn, h.IsCell cn (some (.int n tn))
  vi : h.IsCell ci (some (.ref f))
  va : h.IsCell ca (some (.ref a))
  ap : cn ≠ ci ∧ cn ≠ ca ∧ ci ≠ ca
theorem lookup_all {α : Type} {l : List (Str × α)} {P : α → Prop} (h : ∀ p ∈ l, P p.2) {x : Str} {c : α} (e : l.lookup x = some c) : P c := h _ (mem_of_lookup e)
theorem CloI.go {w : World} {mg mb : Str → Option Value} {t : Bool} {s s' : Shared} {f cn ci ca a : Addr} {n : Nat} {doc pm cv ctv : Value} (K : CloI (Er a s).heap f cn ci ca a n doc pm cv ctv) (B : Base w mg mb (Er a s).heap) (g : Go w mg mb t (Er a s) s') : CloI (Er a s').heap f cn ci ca a n doc pm cv ctv := by
  have up : ∀ {b o}, (Er a s).heap.get? b = some o → (o.cls ≠ .none ∨ ∀ vs, o.data ≠ .fields vs) → (Er a s').heap.get? b = some o := fun e hc => by
    rw [Er.get (Er.was e).1]
    rcases hc with hc | hc
    · exact g.get B e hc
    · exact g.get' B e hc
  have cell : ∀ {b v}, (Er a s).heap.IsCell b v → (Er a s').heap.IsCell b v := fun ⟨o, e, d⟩ => ⟨o, up e (.inr (by rw [d]; intro vs q; cases q)), d⟩
  obtain ⟨c, o, vs, tt, e, e1, e2, r⟩ := K.co
  exact ⟨up K.fo (.inl (by intro q; cases q)), ⟨c, o, vs, tt, e, up e1 (.inl (by rw [e2]; intro q; cases q)), e2, r⟩, let ⟨tn, e⟩ := K.vn; ⟨tn, cell e⟩, cell K.vi, cell K.va, K.ap⟩
noncomputable def InnerTo (a : Addr) (l' : List IV) : Fl → Prop
  | .next _ mu => mu = some (S "a_digits", a, l')
  | .ret v mu => v = .none ∧ mu = some (S "a_digits", a, l')
  | _ => False
noncomputable def InnerSpec (n k : Nat) : Prop := ∀ (A : Around), OkA A k (3 * k) → ∀ (w : World) (mg mb : Str → Option Value) (s : Shared) (f cn ci ca a : Addr) (doc pm cv ctv : Value) (l : List IV) (L R x : Nat) (ys xs : List Value) (Q E : Value → Shared → Prop),
    Base w mg mb (Er a s).heap → CloI (Er a s).heap f cn ci ca a n doc pm cv ctv → s.heap.PlainList a (List.toArray ys) → IRels l ys → l.length ≤ cap → IRels [.int x, .int L, .int R] xs → L < R → R ≤ l.length → R - L ≤ 2 ^ k → x < 2 ^ (n * (R - L)) →
    (∀ ys' s', Go w mg mb true (Er a s) s' → s'.heap.PlainList a (List.toArray ys') → IRels (wr n l L R x) ys' → (wr n l L R x).length ≤ cap → Q .none s') → wpAny (model PG w) A (call (.ref f) xs) Q E s
theorem inner_i2d (n : Nat) (hn : n ≤ 1000) (k : Nat) : InnerSpec n k := by
  refine Nat.strongRecOn k fun k ih => ?_
  intro A hA w mg mb s f cn ci ca a doc pm cv ctv l L R x ys xs Q E B K hp hr hcap rx hLR hRl hRk hx h
  obtain ⟨u1, xs, rfl, r1, rx⟩ : ∃ u1 r, xs = u1 :: r ∧ IRel (.int x) u1 ∧ IRels [.int L, .int R] r := by
    cases xs with
    | nil => exact rx.elim
    | cons u r => exact ⟨u, r, rfl, rx.1, rx.2⟩
  obtain ⟨u2, u3, rfl, r2, r3⟩ := irels2 rx
  have Kin : (kHp w.params).In s.heap := fun b o e => (Er.was (B.K b o e)).2
  have lim : s.heap.NoLimit := B.lim.keeps fun b o e => (Er.was e).2
  have hroom : A.depth < recursionLimit := by have := hA.dp; (first | lia | omega)
  have hrec : s.heap.CodeRec cv q30 := by
    obtain ⟨c, o, vs, tt, e, e1, e2, e3, r⟩ := K.co
    exact ⟨c, o, vs, tt, e, (Er.was e1).2, e3, r⟩
  have hcell : ∀ x ∈ (iFn doc pm cv ctv cn ci ca).scope.names, x.2 ≠ .cell := fun x hx => by
    have := List.all_eq_true.mp (show (iDef.2.2.names.all fun x => x.2 != .cell) = true by rfl) x hx
    simpa using this
  have hloc : ∀ x ∈ ([(S "x", u1), (S "L", u2), (S "R", u3)] : List (Str × Value)), (iFn doc pm cv ctv cn ci ca).scope.names.lookup x.1 = some .local := fun x hx => by
    simp only [List.mem_cons, List.not_mem_nil, or_false] at hx
    rcases hx with rfl | rfl | rfl <;> rfl
  refine wpAny_call (codeAny_call_def (fd := iFn doc pm cv ctv cn ci ca) (binds := [(S "x", u1), (S "L", u2), (S "R", u3)]) hroom (Er.was K.fo).2 rfl lim hrec rfl (BindsTo.of_eq rfl) hcell hloc (fun h₀ hn₀ hk => ?_) rfl rfl rfl)
  generalize htk : s.toks + ([(S "x", u1), (S "L", u2), (S "R", u3)] : List (Str × Value)).length = tk
  have kEr : ∀ b o, (Er a s).heap.get? b = some o → h₀.get? b = some o := fun b o e => hk b o (Er.was e).2
  have g : Go w mg mb true (Er a s) { s with heap := h₀, toks := tk } := ⟨fun b o _ e => kEr b o e, B.keeps kEr, rfl, rfl, rfl⟩
  have st : EnvStat (callEnv (iFn doc pm cv ctv cn ci ca) s.heap.objs.size f) := ⟨rfl, rfl, rfl, by
    show [(S "n", cn), (S "inner", ci), (S "a_digits", ca)].Pairwise _
    obtain ⟨h1, h2, h3⟩ := K.ap
    simp [h1, h2, h3]⟩
  obtain ⟨tn, hvn⟩ := K.vn
  have hvn' : h₀.IsCell cn (some (.int n tn)) := let ⟨o, e, d⟩ := hvn; ⟨o, kEr _ _ e, d⟩
  have hvi' : h₀.IsCell ci (some (.ref f)) := let ⟨o, e, d⟩ := K.vi; ⟨o, kEr _ _ e, d⟩
  have hva' : h₀.IsCell ca (some (.ref a)) := let ⟨o, e, d⟩ := K.va; ⟨o, kEr _ _ e, d⟩
  have sg : SigOk (callEnv (iFn doc pm cv ctv cn ci ca) s.heap.objs.size f) [(S "x", .local, some (.int x)), (S "L", .local, some (.int L)), (S "R", .local, some (.int R)), (S "mid", .local, none), (S "shift", .local, none), (S "upper", .local, none), (S "lower", .local, none), (S "inner", .free, some (.fn f)), (S "n", .free, some (.int n))] := SigOk.of (by rfl) (by rfl)
  have F : FS w mg mb true (Er a s) [] (callEnv (iFn doc pm cv ctv cn ci ca) s.heap.objs.size f) [(S "x", .local, some (.int x)), (S "L", .local, some (.int L)), (S "R", .local, some (.int R)), (S "mid", .local, none), (S "shift", .local, none), (S "upper", .local, none), (S "lower", .local, none), (S "inner", .free, some (.fn f)), (S "n", .free, some (.int n))] (some (S "a_digits", a, l)) { s with heap := h₀, toks := tk } := by
    refine ⟨B, g, ⟨_, hn₀⟩, fun z v hz => ?_, ⟨.inr ⟨.inr rfl, ca, rfl, hva'⟩, ⟨ys, let ⟨n, e⟩ := hp; ⟨n, hk _ _ e⟩, hr⟩, hcap, Er.non⟩, ?_, fun z c hz => ?_, fun z c hz hc => ?_, fun p hp => by cases hp⟩
    · refine AllV.out (p := fun z v => VarIs _ _ _ z v) ?_ hz
      exact (.some ⟨u1, r1, .inl ⟨rfl, _, hn₀, rfl⟩⟩ (.some ⟨u2, r2, .inl ⟨rfl, _, hn₀, rfl⟩⟩ (.some ⟨u3, r3, .inl ⟨rfl, _, hn₀, rfl⟩⟩ (.none (.none (.none (.none (.some ⟨.ref f, rfl, .inr ⟨.inr rfl, ci, rfl, hvi'⟩⟩ (.some ⟨_, MRel.ofInt _ _, .inr ⟨.inr rfl, cn, rfl, hvn'⟩⟩ .nil)))))))))
    · cases e : (Er a s).heap.get? (callEnv (iFn doc pm cv ctv cn ci ca) s.heap.objs.size f).locals with
      | none => rfl
      | some o =>
        have e1 : s.heap.get? s.heap.objs.size = some o := (Er.was e).2
        rw [Heap.get?_none_of_le (Nat.le_refl _)] at e1; cases e1
    · have hz : [(S "n", cn), (S "inner", ci), (S "a_digits", ca)].lookup z = some c := hz
      exact lookup_all (P := fun c => ∃ v, h₀.IsCell c v) (List.forall_mem_cons.mpr ⟨⟨_, hvn'⟩, List.forall_mem_cons.mpr ⟨⟨_, hvi'⟩, List.forall_mem_cons.mpr ⟨⟨_, hva'⟩, fun _ h => by cases h⟩⟩⟩) hz
    · exfalso
      have hz : iDef.2.2.names.lookup z = some .cell := hz
      have := List.all_eq_true.mp (show (iDef.2.2.names.all fun x => x.2 != .cell) = true by rfl) _ (mem_of_lookup hz)
      simp at this
  have body : XS ⟨w, mg, mb, true, A.deeper (callEnv (iFn doc pm cv ctv cn ci ca) s.heap.objs.size f), Er a s, [], callEnv (iFn doc pm cv ctv cn ci ca) s.heap.objs.size f, st⟩ [(S "x", .local, some (.int x)), (S "L", .local, some (.int L)), (S "R", .local, some (.int R)), (S "mid", .local, none), (S "shift", .local, none), (S "upper", .local, none), (S "lower", .local, none), (S "inner", .free, some (.fn f)), (S "n", .free, some (.int n))] (some (S "a_digits", a, l)) iDef.2.1 (InnerTo a (wr n l L R x)) := by
    have hh : (A.deeper (callEnv (iFn doc pm cv ctv cn ci ca) s.heap.objs.size f)).handled = none := hA.hd
    refine XS.cons (X1.ite (by (first | (apply EvC.cmp; walk_at "ev"; walk_at "ev"; walk_at "cmp"; with_unfolding_all rfl) | (apply EvC.plain; walk_at "ev"; (first | exact TruV.int | exact TruV.bool | exact TruV.str | exact TruV.list); rfl) | (apply EvC.not; first | (apply EvC.cmp; walk_at "ev"; walk_at "ev"; walk_at "cmp"; with_unfolding_all rfl) | (apply EvC.plain; walk_at "ev"; (first | exact TruV.int | exact TruV.bool | exact TruV.str | exact TruV.list); rfl)))) (fun hb => ?_) (fun hb => ?_))
    · have hR : R = L + 1 := by simp at hb; (first | lia | omega)
      subst hR
      refine XS.cons (X1.setItem (k := L) (v := .int x) (by walk_at "ev") (by walk_at "ev") (by (first | lia | omega)) (by (first | lia | omega)) (Seq.next ?_))
      refine XS.cons (X1.ret0 ?_)
      have e1 : L + 1 - L = 1 := by (first | lia | omega)
      rw [e1, Nat.mul_one] at hx
      refine ⟨rfl, ?_⟩
      rw [wr_one (by (first | lia | omega)) hx]; rfl
    · have hR : L + 1 ≠ R := by simp at hb; (first | lia | omega)
      have hk1 : 1 ≤ k := by
        cases k with
        | zero => simp at hRk; (first | lia | omega)
        | succ k => (first | lia | omega)
      obtain ⟨k, rfl⟩ : ∃ j, k = j + 1 := ⟨k - 1, by (first | lia | omega)⟩
      have hpow : 2 ^ (k + 1) = 2 ^ k + 2 ^ k := by rw [Nat.pow_succ]; (first | lia | omega)
      refine XS.nil (Seq.next ?_)
      obtain ⟨m, hm⟩ : ∃ m, m = (L + R) / 2 := ⟨_, rfl⟩
      have hLm : L < m := by (first | lia | omega)
      have hmR : m < R := by (first | lia | omega)
      refine XS.cons (X1.asg (v := .int m) (EvT.cast (EvT.bin (by walk_at "ev") (by walk_at "ev") (BinV.shr (by decide))) ?e1) (by (with_reducible (repeat (first | exact St.here' | exact St.hereC | apply St.there)))) Keepable.imm (by (first | exact offMu.no | (apply offMu.dif; rfl))) (Seq.next ?_) rfl)
      case e1 =>
        have := shr_nat (L + R) 1
        rw [hm]; simpa using this
      have hn64 : Builtin.Int.intBits ((n : Nat) : Int) ≤ 64 := bits_nat (p := 64) (by (first | lia | omega))
      refine XS.cons (X1.asg (v := .int ((n * (m - L) : Nat) : Int)) (EvT.cast (EvT.bin (by walk_at "ev") (by walk_at "ev") (BinV.mul (IntMulOk.of_right hn64))) ?e2) (by (with_reducible (repeat (first | exact St.here' | exact St.hereC | apply St.there)))) Keepable.imm (by (first | exact offMu.no | (apply offMu.dif; rfl))) (Seq.next ?_) rfl)
      case e2 =>
        have : ((m : Int) - L) = ((m - L : Nat) : Int) := by (first | lia | omega)
        rw [this, ← Int.natCast_mul, Nat.mul_comm]
      refine XS.cons (X1.asg (v := .int ((x / 2 ^ (n * (m - L)) : Nat) : Int)) (EvT.cast (EvT.bin (by walk_at "ev") (by walk_at "ev") (BinV.shr (by (first | lia | omega)))) ?e3) (by (with_reducible (repeat (first | exact St.here' | exact St.hereC | apply St.there)))) Keepable.imm (by (first | exact offMu.no | (apply offMu.dif; rfl))) (Seq.next ?_) rfl)
      case e3 => rw [shr_nat]
      have hsplit : n * (R - L) = n * (m - L) + n * (R - m) := by rw [← Nat.mul_add]; congr 1; (first | lia | omega)
      have hup : x / 2 ^ (n * (m - L)) < 2 ^ (n * (R - m)) := by
        rw [Nat.div_lt_iff_lt_mul (Nat.two_pow_pos _), ← Nat.pow_add, Nat.add_comm, ← hsplit]; exact hx
      have hlo : x % 2 ^ (n * (m - L)) < 2 ^ (n * (m - L)) := Nat.mod_lt _ (Nat.two_pow_pos _)
      have hbig : n * (R - L) ≤ 1024000 := by
        have : n * (R - L) ≤ 1000 * 1024 := Nat.mul_le_mul hn (by simp only [cap] at hcap; (first | lia | omega))
        (first | lia | omega)
      refine XS.cons (X1.asg (v := .int ((x % 2 ^ (n * (m - L)) : Nat) : Int)) (EvT.cast (EvT.bin (by walk_at "ev") (EvT.bin (by walk_at "ev") (by walk_at "ev") (BinV.shl hh (by (first | lia | omega)) ?hbits)) BinV.xor) ?e4) (by (with_reducible (repeat (first | exact St.here' | exact St.hereC | apply St.there)))) Keepable.imm (by (first | exact offMu.no | (apply offMu.dif; rfl))) (Seq.next ?_) rfl)
      case hbits =>
        have h1 := bits_nat hup
        have h2 : (2 : Int) ^ 27 = 134217728 := by decide
        rw [h2]; (first | lia | omega)
      case e4 => rw [Int.toNat_natCast, xor_low]
      have hA' := OkA.deeper (OkA.le hA (Nat.le_refl _) (show 3 * k + 3 ≤ 3 * (k + 1) by (first | lia | omega))) (callEnv (iFn doc pm cv ctv cn ci ca) s.heap.objs.size f)
      refine XS.cons (X1.callI (us := [.int ((x % 2 ^ (n * (m - L)) : Nat) : Int), .int L, .int m]) (by walk_at "has") (by (repeat (first | exact EvL.nil | (apply EvL.cons; walk_at "ev"; case hst => rfl)))) (fun s₁ sg F₁ => ?fo) (fun s₁ ys xs Q E sg F₁ hp hr hc rx h => ih k (by (first | lia | omega)) _ hA' w mg mb s₁ f cn ci ca a doc pm cv ctv l L m (x % 2 ^ (n * (m - L))) ys xs Q E F₁.er (K.go B F₁.go) hp hr hc rx hLm (by (first | lia | omega)) (by (first | lia | omega)) hlo h) (Seq.next ?_))
      case fo => exact ⟨_, _, _, _, (Er.was (K.go B F₁.go).fo).2⟩
      have hwl : (wr n l L m (x % 2 ^ (n * (m - L)))).length = l.length := wr_length (by (first | lia | omega)) (by (first | lia | omega))
      refine XS.cons (X1.callI (us := [.int ((x / 2 ^ (n * (m - L)) : Nat) : Int), .int m, .int R]) (by walk_at "has") (by (repeat (first | exact EvL.nil | (apply EvL.cons; walk_at "ev"; case hst => rfl)))) (fun s₁ sg F₁ => ?fo) (fun s₁ ys xs Q E sg F₁ hp hr hc rx h => ih k (by (first | lia | omega)) _ hA' w mg mb s₁ f cn ci ca a doc pm cv ctv (wr n l L m (x % 2 ^ (n * (m - L)))) m R (x / 2 ^ (n * (m - L))) ys xs Q E F₁.er (K.go B F₁.go) hp hr hc rx hmR (by (first | lia | omega)) (by (first | lia | omega)) hup h) (Seq.next ?_))
      case fo => exact ⟨_, _, _, _, (Er.was (K.go B F₁.go).fo).2⟩
      refine XS.nil ?_
      show some (S "a_digits", a, wr n (wr n l L m (x % 2 ^ (n * (m - L)))) m R (x / 2 ^ (n * (m - L)))) = some (S "a_digits", a, wr n l L R x)
      rw [wr_split (by (first | lia | omega)) (by (first | lia | omega)) hRl]
  refine body.run sg _ _ _ F fun fl s' hf => ?_
  cases fl with
  | next =>
    obtain ⟨σ', mu', _, F', e⟩ := hf
    have e' : mu' = some (S "a_digits", a, wr n l L R x) := e
    subst e'
    have F' : FS w mg mb true (Er a s) [] (callEnv (iFn doc pm cv ctv cn ci ca) s.heap.objs.size f) σ' (some (S "a_digits", a, wr n l L R x)) s' := F'
    obtain ⟨ys', hp', hr', hc'⟩ := mus_of F'.mus
    exact h ys' s' F'.go hp' hr' hc'
  | ret y =>
    obtain ⟨v, mu', rv, g, _, m, e⟩ := hf
    obtain ⟨e1, e2⟩ : v = .none ∧ mu' = some (S "a_digits", a, wr n l L R x) := e
    subst e1 e2
    cases IRel.none rv
    obtain ⟨⟨ys', hp', hr'⟩, hc'⟩ := m
    exact h ys' s' g hp' hr' hc'
  | brk => obtain ⟨_, _, _, _, e⟩ := hf; exact e.elim
  | cont => obtain ⟨_, _, _, _, e⟩ := hf; exact e.elim
-- part Gi2d2
open PySem PySem.W PyProof.Rows PySem.Calls
set_option maxHeartbeats 2000000
noncomputable def nDig (n a : Nat) : Nat := (Builtin.Int.intBits (a : Int) + n - 1) / n
theorem nDig_lt {n a : Nat} (hn : 1 ≤ n) : a < 2 ^ (n * nDig n a) := by
  have h := lt_bits (a := (a : Int)) (by (first | lia | omega))
  simp only [Int.toNat_natCast] at h
  refine Nat.lt_of_lt_of_le h (Nat.pow_le_pow_right (by (first | lia | omega)) ?_)
  unfold nDig
  generalize Builtin.Int.intBits (a : Int) = b
  have h1 := Nat.div_add_mod (b + n - 1) n
  have h2 := Nat.mod_lt (b + n - 1) (show n > 0 by (first | lia | omega))
  (first | lia | omega)
theorem wr_all {n x m : Nat} (v : IV) : wr n (List.replicate m v) 0 m x = (digs n x m).map fun (d : Nat) => IV.int d := by
  unfold wr
  simp
theorem i2d_spec {A : Around} {a n : Nat} (hA : OkA A 12 40) (hn : 1 ≤ n) (hn2 : n ≤ 1000) (hc : nDig n a ≤ cap) : CalV true A (.ref 35) [.int a, .int n] (.list ((digs n a (nDig n a)).map fun (d : Nat) => IV.int d)) := by
  have D : DefOkC 35 (fdOf 35) (bodyOf 35) [S "a", S "n"] := ⟨fun w => ⟨_, _, _, by rfl⟩, (by intro w h X; exact codeRec_35 (c := 34) X (by rfl) (by rfl)), by rfl, (len2 fun a b => rfl), by decide, by rfl, by intro n; rfl, by rfl, by rfl, by rfl, by rfl, by rfl⟩
  refine CalV.ofDefC (σ := [(S "a", .local, some (.int a)), (S "n", .cell, some (.int n)), (S "a_digits", .cell, none), (S "inner", .cell, none)]) D (by have := hA.dp; (first | lia | omega)) rfl (by rfl) (by rfl) (by intro n; rfl) ?_
  intro w mg mb s L hap
  have hh : (A.deeper (callEnvC (fdOf 35) L 35)).handled = none := hA.hd
  have hA' := OkA.deeper (OkA.le hA (show 11 + 1 ≤ 12 by (first | lia | omega)) (show 37 + 3 ≤ 40 by (first | lia | omega))) (callEnvC (fdOf 35) L 35)
  obtain ⟨m, hm⟩ : ∃ m, m = nDig n a := ⟨_, rfl⟩
  rw [← hm] at hc ⊢
  have hc' := hc
  simp only [cap] at hc'
  have lem : (((Builtin.Int.intBits (a : Int) : Nat) : Int) + n - 1).fdiv n = ((m : Nat) : Int) := by
    have e : (((Builtin.Int.intBits (a : Int) : Nat) : Int) + n - 1) = ((Builtin.Int.intBits (a : Int) + n - 1 : Nat) : Int) := by (first | lia | omega)
    rw [e, fdiv_nat, hm]; rfl
  refine XS.cons (X1.asgMu (vs := List.replicate m (.int 0)) (EvF.cast (EvF.mul1 (n := m) (EvF.disp (vs := [.int 0]) (by (repeat (first | exact EvL.nil | (apply EvL.cons; walk_at "ev"; case hst => rfl)))) (by decide)) (EvT.cast (EvT.bin (EvT.bin (EvT.bin (EvT.bitlen (by walk_at "ev")) (by walk_at "ev") BinV.add) (by walk_at "ev") BinV.sub) (by walk_at "ev") (BinV.floordiv (by (first | lia | omega)) (by (first | lia | omega)))) ?e1) (by (first | lia | omega)) (by simpa using hc)) ?e2) (by (with_reducible (repeat (first | exact St.here' | exact St.hereC | apply St.there)))) (by (with_reducible (repeat (first | exact Uns.here | apply Uns.there)))) (fun l => Seq.next ?_) rfl)
  case e1 => rw [lem]
  case e2 => rw [Int.toNat_natCast]
  refine XS.defN rfl TabIs.i2d (by rfl) (by rfl) (by rfl) (by rfl) (by rfl) (by rfl) (by rfl) (by rfl) (fun f => by (with_reducible (repeat (first | exact St.here' | exact St.hereC | apply St.there)))) (by (first | exact offMu.no | (apply offMu.dif; rfl))) (fun f doc pm ctv cc oc vs tt hc1 hc2 hc3 => ?_)
  refine XS.cons (X1.ite (by (first | (apply EvC.cmp; walk_at "ev"; walk_at "ev"; walk_at "cmp"; with_unfolding_all rfl) | (apply EvC.plain; walk_at "ev"; (first | exact TruV.int | exact TruV.bool | exact TruV.str | exact TruV.list); rfl) | (apply EvC.not; first | (apply EvC.cmp; walk_at "ev"; walk_at "ev"; walk_at "cmp"; with_unfolding_all rfl) | (apply EvC.plain; walk_at "ev"; (first | exact TruV.int | exact TruV.bool | exact TruV.str | exact TruV.list); rfl)))) (fun hb => ?_) (fun hb => ?_))
  · have ha : a ≠ 0 := by simp at hb; (first | lia | omega)
    have hm0 : 0 < m := by
      have := nDig_lt (a := a) hn
      rw [← hm] at this
      cases m with
      | zero => simp at this; (first | lia | omega)
      | succ m => (first | lia | omega)
    have hlt : a < 2 ^ (n * (m - 0)) := by rw [Nat.sub_zero, hm]; exact nDig_lt hn
    refine XS.cons (X1.callI (us := [.int a, .int (0 : Nat), .int m]) (l' := wr n (List.replicate m (.int 0)) 0 m a) (by walk_at "has") (EvL.cons (by walk_at "ev") (EvL.cons EvT.int (EvL.cons (EvT.cast (EvT.callB n_len b_len (by (repeat (first | exact EvL.nil | (apply EvL.cons; walk_at "ev"; case hst => rfl)))) CalV.lenL rfl) (by simp)) EvL.nil rfl) rfl) rfl) (fun s₁ sg F₁ => ?fo) (fun s₁ ys xs Q E sg F₁ hp hr hcl rx h => ?call) (Seq.next (XS.nil (Seq.next ?_))))
    case fo => exact ⟨_, _, _, _, (F₁.prs _ (.head _)).get⟩
    case call =>
      have P1 := F₁.prs _ (.head _)
      have P2 := F₁.prs _ (.tail _ (.head _))
      have V1 := VarIs.cell (c := L + 1) (F₁.vars (S "n") (.int n) (by walk_at "has")) rfl rfl
      have V2 := VarIs.cell (c := L + 1 + 1 + 1) (F₁.vars (S "inner") (.fn f) (by walk_at "has")) rfl rfl
      obtain ⟨y1, r1, c1⟩ := V1
      obtain ⟨tn, rfl⟩ := IRel.int r1
      obtain ⟨y2, r2, c2⟩ := V2
      have r2 : y2 = .ref f := r2
      subst r2
      have V3 : s₁.heap.IsCell (L + 1 + 1) (some (.ref l)) := by
        rcases F₁.mus.1 with ⟨k, _⟩ | ⟨_, c', lk, ic⟩
        · cases k
        · cases lk; exact ic
      refine inner_i2d n hn2 10 _ (OkA.le hA' (by (first | lia | omega)) (by (first | lia | omega))) w mg mb s₁ f (L + 1) (L + 1 + 1 + 1) (L + 1 + 1) l doc pm (.ref cc) ctv (List.replicate m (.int 0)) 0 m a ys xs Q E F₁.er ⟨?_, ⟨cc, oc, vs, tt, rfl, ?_, hc1, hc2, hc3⟩, ⟨tn, Er.cell hp c1⟩, Er.cell hp c2, Er.cell hp V3, ?_⟩ hp hr hcl rx hm0 (by simp) (by (first | lia | omega)) hlt h
      · exact (Er.get fun q => P1.off (by simp [muX, q])).trans P1.get
      · exact (Er.get fun q => P2.off (by simp [muX, q])).trans P2.get
      · refine ⟨?_, ?_, ?_⟩ <;> (intro q; have q : (_ : Nat) = _ := q; (first | lia | omega))
    refine XS.cons (X1.ret (by walk_at "ev") (RetIs.ret ?_))
    rw [wr_all]
  · have ha : a = 0 := by simp at hb; (first | lia | omega)
    refine XS.nil (Seq.next ?_)
    refine XS.cons (X1.ret (by walk_at "ev") (RetIs.ret ?_))
    have hm0 : m = 0 := by
      rw [hm, ha]
      unfold nDig
      have : Builtin.Int.intBits ((0 : Nat) : Int) = 0 := rfl
      rw [this]
      exact Nat.div_eq_of_lt (by (first | lia | omega))
    rw [hm0]; rfl
-- part Gd2i
open PySem PySem.W PyProof.Rows PySem.Calls
set_option maxHeartbeats 2000000
theorem EvT.callFn {w : World} {mg mb : Str → Option Value} {t : Bool} {A : Around} {P : SP w mg mb t} {nm : Str} {f : Addr} {e : PySem.Expr} {es : List PySem.Expr} {p pos : Pos} {vs : List MV} {c : MV} (hx : Has P.σ nm (.fn f)) (hl : EvL A P (e :: es) vs)
    (hfo : ∀ s₁, P.p s₁ → ∃ oc od fd sl, s₁.heap.get? f = some ⟨oc, od, .func fd, sl⟩)
    (hcall : ∀ (s₁ : Shared) (xs : List Value) (Q E : Value → Shared → Prop), P.p s₁ → MRels [] s₁.heap vs xs → (∀ z s', Go w mg mb t s₁ s' → MRel [] s'.heap c z → Q z s') → wpAny (model PG w) A (call (.ref f) xs) Q E s₁)
    (he : starEach (e :: es) P.env = (false, eval e P.env) :: starEach es P.env := by rfl) (h0 : (nm == Str.ofString "__debug__") = false := by decide) (h2 : (nm == Str.ofString "__classdict__") = false := by decide) : EvT A P (.Call (.Name nm p) (e :: es) [] pos) c := ⟨fun s Q E hs h => by
  refine wpAny_Call_NameR ((EvT.name (P := P) (x := nm) (v := .fn f) hx h0 h2).run s _ _ hs fun v s₁ g r => ?_)
  have hv : v = .ref f := r
  subst hv
  have hs₁ := P.go hs g
  obtain ⟨oc, od, fd, sl, hf⟩ := hfo s₁ hs₁
  refine callWith_def (o := ⟨oc, od, .func fd, sl⟩) rfl (hl.run pos s₁ _ _ hs₁ fun xs s₂ g₂ r₂ => ⟨g₂.get' (P.base hs₁) hf (by intro vs q; cases q), ?_⟩) he
  exact hcall s₂ xs _ _ (P.go hs₁ g₂) r₂ fun z s₃ g₃ r₃ => h z s₃ (g.trans (g₂.trans g₃)) r₃⟩
theorem EvT.callFnN {C : Cx} {σ : List Ent} {nm : Str} {f : Addr} {e : PySem.Expr} {es : List PySem.Expr} {p pos : Pos} {vs : List MV} {c : MV} (hx : Has σ nm (.fn f)) (hl : EvL C.A (C.P σ Option.none) (e :: es) vs)
    (hfo : ∀ s₁, C.FS σ Option.none s₁ → ∃ oc od fd sl, s₁.heap.get? f = some ⟨oc, od, .func fd, sl⟩)
    (hcall : ∀ (s₁ : Shared) (xs : List Value) (Q E : Value → Shared → Prop), C.FS σ Option.none s₁ → MRels [] s₁.heap vs xs → (∀ z s', Go C.w C.mg C.mb C.t s₁ s' → MRel [] s'.heap c z → Q z s') → wpAny (model PG C.w) C.A (call (.ref f) xs) Q E s₁)
    (he : starEach (e :: es) C.env = (false, eval e C.env) :: starEach es C.env := by rfl) (h0 : (nm == Str.ofString "__debug__") = false := by decide) (h2 : (nm == Str.ofString "__classdict__") = false := by decide) : EvT C.A (C.P σ Option.none) (.Call (.Name nm p) (e :: es) [] pos) c := EvT.callFn (P := C.P σ Option.none) hx hl hfo hcall he h0 h2
noncomputable def dval (n : Nat) (ds : List Nat) : Nat := ds.foldr (fun d acc => d + acc * 2 ^ n) 0
theorem dval_append (n : Nat) : ∀ (as bs : List Nat), dval n (as ++ bs) = dval n as + dval n bs * 2 ^ (n * as.length)
  | [], bs => by simp [dval]
  | a :: as, bs => by
    show a + dval n (as ++ bs) * 2 ^ n = a + dval n as * 2 ^ n + dval n bs * 2 ^ (n * (as.length + 1))
    rw [dval_append n as bs, Nat.add_mul, Nat.mul_assoc, ← Nat.pow_add, Nat.mul_add, Nat.mul_one, Nat.add_assoc]
theorem dval_lt (n c : Nat) : ∀ (ds : List Nat), (∀ d ∈ ds, d < 2 ^ c) → dval n ds < 2 ^ (c + (n + 1) * ds.length)
  | [], _ => by simp [dval]; exact Nat.two_pow_pos c
  | d :: ds, h => by
    have h1 := dval_lt n c ds fun d hd => h d (.tail _ hd)
    have h2 := h d (.head _)
    show d + dval n ds * 2 ^ n < 2 ^ (c + (n + 1) * (ds.length + 1))
    have e : c + (n + 1) * (ds.length + 1) = c + (n + 1) * ds.length + n + 1 := by rw [Nat.mul_add]; (first | lia | omega)
    rw [e, Nat.pow_succ, Nat.pow_add 2 _ n]
    have h3 : 2 ^ c ≤ 2 ^ (c + (n + 1) * ds.length) * 2 ^ n := by rw [← Nat.pow_add]; exact Nat.pow_le_pow_right (by (first | lia | omega)) (by (first | lia | omega))
    have h4 : (dval n ds + 1) * 2 ^ n ≤ 2 ^ (c + (n + 1) * ds.length) * 2 ^ n := Nat.mul_le_mul_right _ h1
    rw [Nat.add_mul] at h4
    (first | lia | omega)
noncomputable def dDef : Arguments × List Stmt × Scope := match bodyOf 42 with
  | .FunctionDef _ p b _ _ _ sc _ _ _ :: _ => (p, b, sc)
  | _ => (⟨[], [], none, [], [], none, []⟩, [], ⟨.function, [], false, false, []⟩)
noncomputable abbrev dFn (doc pm cv ctv : Value) (cn ci cd : Addr) : FuncData := fnX (S "inner") q37 dDef.1 dDef.2.1 dDef.2.2 [(S "n", cn), (S "inner", ci), (S "digits", cd)] .none .none doc pm none cv ctv
structure CloD (h : Heap) (f cn ci cd : Addr) (n : Nat) (ds : List Nat) (doc pm cv ctv : Value) : Prop where
  fo : h.get? f = some { cls := .type "function", data := .func (dFn doc pm cv ctv cn ci cd) }
  co : CodeOf h cv q37
  vn : ∃ tn, h.IsCell cn (some (.int n tn))
  vi : h.IsCell ci (some (.ref f))
  vd : ∃ y, h.IsCell cd (some y) ∧ MRel [] h (.list (ds.map fun (d : Nat) => IV.int d)) y
  ap : cn ≠ ci ∧ cn ≠ cd ∧ ci ≠ cd
theorem CloD.go {w : World} {mg mb : Str → Option Value} {t : Bool} {s s' : Shared} {f cn ci cd : Addr} {n : Nat} {ds : List Nat} {doc pm cv ctv : Value} (K : CloD s.heap f cn ci cd n ds doc pm cv ctv) (B : Base w mg mb s.heap) (g : Go w mg mb t s s') : CloD s'.heap f cn ci cd n ds doc pm cv ctv := by
  obtain ⟨c, o, vs, tt, e, e1, e2, r⟩ := K.co
  obtain ⟨y, c1, r1⟩ := K.vd
  exact ⟨g.get B K.fo (by intro q; cases q), ⟨c, o, vs, tt, e, g.get B e1 (by rw [e2]; intro q; cases q), e2, r⟩, let ⟨tn, e⟩ := K.vn; ⟨tn, g.cell B e⟩, g.cell B K.vi, ⟨y, g.cell B c1, g.mrel B r1⟩, K.ap⟩
noncomputable def sl (ds : List Nat) (L R : Nat) : List Nat := (ds.take R).drop L
theorem sl_split {ds : List Nat} {L m R : Nat} (h1 : L ≤ m) (h2 : m ≤ R) (hR : R ≤ ds.length) : sl ds L R = sl ds L m ++ sl ds m R := by
  unfold sl
  have e : ds.take R = ds.take m ++ (ds.take R).drop m := by
    conv => lhs; rw [← List.take_append_drop m (ds.take R)]
    rw [List.take_take, Nat.min_eq_left h2]
  have hl : (ds.take m).length = m := by rw [List.length_take]; (first | lia | omega)
  conv => lhs; rw [e]
  rw [List.drop_append, hl, show L - m = 0 by (first | lia | omega), List.drop_zero]
theorem sl_len {ds : List Nat} {L R : Nat} (hR : R ≤ ds.length) : (sl ds L R).length = R - L := by
  unfold sl; rw [List.length_drop, List.length_take]; (first | lia | omega)
theorem sl_one {ds : List Nat} {L : Nat} (h : L < ds.length) : sl ds L (L + 1) = [ds[L]] := by
  unfold sl
  rw [List.take_succ_eq_append_getElem h, List.drop_append, List.drop_eq_nil_of_le (by rw [List.length_take]; exact Nat.min_le_left _ _)]
  simp [List.length_take, Nat.min_eq_left (Nat.le_of_lt h)]
theorem sl_mem {ds : List Nat} {L R d : Nat} (h : d ∈ sl ds L R) : d ∈ ds := List.mem_of_mem_take (List.mem_of_mem_drop h)
noncomputable def InnerSpecD (n k : Nat) (ds : List Nat) : Prop := ∀ (A : Around), OkA A k (3 * k) → ∀ (w : World) (mg mb : Str → Option Value) (s : Shared) (f cn ci cd : Addr) (doc pm cv ctv : Value) (L R : Nat) (xs : List Value) (Q E : Value → Shared → Prop),
    Base w mg mb s.heap → CloD s.heap f cn ci cd n ds doc pm cv ctv → IRels [.int L, .int R] xs → L < R → R ≤ ds.length → R - L ≤ 2 ^ k →
    (∀ z s', Go w mg mb true s s' → MRel [] s'.heap (.int (dval n (sl ds L R))) z → Q z s') → wpAny (model PG w) A (call (.ref f) xs) Q E s
theorem inner_d2i (n : Nat) (hn : n ≤ 1000) (ds : List Nat) (hds : ds.length ≤ cap) (hd : ∀ d ∈ ds, d < 2 ^ 2000) (k : Nat) : InnerSpecD n k ds := by
  refine Nat.strongRecOn k fun k ih => ?_
  intro A hA w mg mb s f cn ci cd doc pm cv ctv L R xs Q E B K rx hLR hRl hRk h
  obtain ⟨u1, u2, rfl, r1, r2⟩ := irels2 rx
  have hroom : A.depth < recursionLimit := by have := hA.dp; (first | lia | omega)
  have hrec : s.heap.CodeRec cv q37 := by
    obtain ⟨c, o, vs, tt, e, e1, e2, e3, r⟩ := K.co
    exact ⟨c, o, vs, tt, e, e1, e3, r⟩
  have hcell : ∀ x ∈ (dFn doc pm cv ctv cn ci cd).scope.names, x.2 ≠ .cell := fun x hx => by
    have := List.all_eq_true.mp (show (dDef.2.2.names.all fun x => x.2 != .cell) = true by rfl) x hx
    simpa using this
  have hloc : ∀ x ∈ ([(S "L", u1), (S "R", u2)] : List (Str × Value)), (dFn doc pm cv ctv cn ci cd).scope.names.lookup x.1 = some .local := fun x hx => by
    simp only [List.mem_cons, List.not_mem_nil, or_false] at hx
    rcases hx with rfl | rfl <;> rfl
  refine wpAny_call (codeAny_call_def (fd := dFn doc pm cv ctv cn ci cd) (binds := [(S "L", u1), (S "R", u2)]) hroom K.fo rfl B.lim hrec rfl (BindsTo.of_eq rfl) hcell hloc (fun h₀ hn₀ hk => ?_) rfl rfl rfl)
  generalize htk : s.toks + ([(S "L", u1), (S "R", u2)] : List (Str × Value)).length = tk
  have g : Go w mg mb true s { s with heap := h₀, toks := tk } := Go.keep B hk
  have st : EnvStat (callEnv (dFn doc pm cv ctv cn ci cd) s.heap.objs.size f) := ⟨rfl, rfl, rfl, by
    show [(S "n", cn), (S "inner", ci), (S "digits", cd)].Pairwise _
    obtain ⟨h1, h2, h3⟩ := K.ap
    simp [h1, h2, h3]⟩
  have K' := K.go B g
  obtain ⟨tn, hvn⟩ := K'.vn
  obtain ⟨yd, hvd, rd⟩ := K'.vd
  have sg : SigOk (callEnv (dFn doc pm cv ctv cn ci cd) s.heap.objs.size f) [(S "L", .local, some (.int L)), (S "R", .local, some (.int R)), (S "mid", .local, none), (S "shift", .local, none), (S "digits", .free, some (.list (ds.map fun (d : Nat) => IV.int d))), (S "inner", .free, some (.fn f)), (S "n", .free, some (.int n))] := SigOk.of (by rfl) (by rfl)
  have F : FS w mg mb true s [] (callEnv (dFn doc pm cv ctv cn ci cd) s.heap.objs.size f) [(S "L", .local, some (.int L)), (S "R", .local, some (.int R)), (S "mid", .local, none), (S "shift", .local, none), (S "digits", .free, some (.list (ds.map fun (d : Nat) => IV.int d))), (S "inner", .free, some (.fn f)), (S "n", .free, some (.int n))] none { s with heap := h₀, toks := tk } := by
    refine ⟨B, g, ⟨_, hn₀⟩, fun z v hz => ?_, trivial, Heap.get?_none_of_le (Nat.le_refl _), fun z c hz => ?_, fun z c hz hc => ?_, fun p hp => by cases hp⟩
    · refine AllV.out (p := fun z v => VarIs _ _ _ z v) ?_ hz
      exact (.some ⟨u1, r1, .inl ⟨rfl, _, hn₀, rfl⟩⟩ (.some ⟨u2, r2, .inl ⟨rfl, _, hn₀, rfl⟩⟩ (.none (.none (.some ⟨yd, rd, .inr ⟨.inr rfl, cd, rfl, hvd⟩⟩ (.some ⟨.ref f, rfl, .inr ⟨.inr rfl, ci, rfl, K'.vi⟩⟩ (.some ⟨_, MRel.ofInt _ _, .inr ⟨.inr rfl, cn, rfl, hvn⟩⟩ .nil)))))))
    · have hz : [(S "n", cn), (S "inner", ci), (S "digits", cd)].lookup z = some c := hz
      exact lookup_all (P := fun c => ∃ v, h₀.IsCell c v) (List.forall_mem_cons.mpr ⟨⟨_, hvn⟩, List.forall_mem_cons.mpr ⟨⟨_, K'.vi⟩, List.forall_mem_cons.mpr ⟨⟨_, hvd⟩, fun _ h => by cases h⟩⟩⟩) hz
    · exfalso
      have hz : dDef.2.2.names.lookup z = some .cell := hz
      have := List.all_eq_true.mp (show (dDef.2.2.names.all fun x => x.2 != .cell) = true by rfl) _ (mem_of_lookup hz)
      simp at this
  have body : XS ⟨w, mg, mb, true, A.deeper (callEnv (dFn doc pm cv ctv cn ci cd) s.heap.objs.size f), s, [], callEnv (dFn doc pm cv ctv cn ci cd) s.heap.objs.size f, st⟩ [(S "L", .local, some (.int L)), (S "R", .local, some (.int R)), (S "mid", .local, none), (S "shift", .local, none), (S "digits", .free, some (.list (ds.map fun (d : Nat) => IV.int d))), (S "inner", .free, some (.fn f)), (S "n", .free, some (.int n))] none dDef.2.1 (RetIs (.int (dval n (sl ds L R)))) := by
    have hh : (A.deeper (callEnv (dFn doc pm cv ctv cn ci cd) s.heap.objs.size f)).handled = none := hA.hd
    refine XS.cons (X1.ite (by (first | (apply EvC.cmp; walk_at "ev"; walk_at "ev"; walk_at "cmp"; with_unfolding_all rfl) | (apply EvC.plain; walk_at "ev"; (first | exact TruV.int | exact TruV.bool | exact TruV.str | exact TruV.list); rfl) | (apply EvC.not; first | (apply EvC.cmp; walk_at "ev"; walk_at "ev"; walk_at "cmp"; with_unfolding_all rfl) | (apply EvC.plain; walk_at "ev"; (first | exact TruV.int | exact TruV.bool | exact TruV.str | exact TruV.list); rfl)))) (fun hb => ?_) (fun hb => ?_))
    · have hR : R = L + 1 := by simp at hb; (first | lia | omega)
      subst hR
      refine XS.cons (X1.ret (v := .int ((ds[L] : Nat) : Int)) (EvT.sub (by walk_at "ev") (by walk_at "ev") (GetV.list (by (first | lia | omega)) (by simp [List.getElem?_eq_getElem (show L < ds.length by (first | lia | omega))]))) (RetIs.ret ?_))
      rw [sl_one (by (first | lia | omega))]
      simp [dval]
    · have hR : L + 1 ≠ R := by simp at hb; (first | lia | omega)
      have hk1 : 1 ≤ k := by
        cases k with
        | zero => simp at hRk; (first | lia | omega)
        | succ k => (first | lia | omega)
      obtain ⟨k, rfl⟩ : ∃ j, k = j + 1 := ⟨k - 1, by (first | lia | omega)⟩
      have hpow : 2 ^ (k + 1) = 2 ^ k + 2 ^ k := by rw [Nat.pow_succ]; (first | lia | omega)
      refine XS.nil (Seq.next ?_)
      obtain ⟨m, hm⟩ : ∃ m, m = (L + R) / 2 := ⟨_, rfl⟩
      have hLm : L < m := by (first | lia | omega)
      have hmR : m < R := by (first | lia | omega)
      refine XS.cons (X1.asg (v := .int m) (EvT.cast (EvT.bin (by walk_at "ev") (by walk_at "ev") (BinV.shr (by decide))) ?e1) (by (with_reducible (repeat (first | exact St.here' | exact St.hereC | apply St.there)))) Keepable.imm (by (first | exact offMu.no | (apply offMu.dif; rfl))) (Seq.next ?_) rfl)
      case e1 =>
        have := shr_nat (L + R) 1
        rw [hm]; simpa using this
      have hn64 : Builtin.Int.intBits ((n : Nat) : Int) ≤ 64 := bits_nat (p := 64) (by (first | lia | omega))
      refine XS.cons (X1.asg (v := .int ((n * (m - L) : Nat) : Int)) (EvT.cast (EvT.bin (by walk_at "ev") (by walk_at "ev") (BinV.mul (IntMulOk.of_right hn64))) ?e2) (by (with_reducible (repeat (first | exact St.here' | exact St.hereC | apply St.there)))) Keepable.imm (by (first | exact offMu.no | (apply offMu.dif; rfl))) (Seq.next ?_) rfl)
      case e2 =>
        have : ((m : Int) - L) = ((m - L : Nat) : Int) := by (first | lia | omega)
        rw [this, ← Int.natCast_mul, Nat.mul_comm]
      have hA' := OkA.deeper (OkA.le hA (Nat.le_refl _) (show 3 * k + 3 ≤ 3 * (k + 1) by (first | lia | omega))) (callEnv (dFn doc pm cv ctv cn ci cd) s.heap.objs.size f)
      have hlt := dval_lt n 2000 (sl ds m R) fun d hd' => hd d (sl_mem hd')
      rw [sl_len (by (first | lia | omega))] at hlt
      have hbig : n * (m - L) ≤ 1024000 ∧ (n + 1) * (R - m) ≤ 1001 * 1024 := by
        simp only [cap] at hds
        have h1 : n * (m - L) ≤ 1000 * 1024 := Nat.mul_le_mul hn (by (first | lia | omega))
        have h2 : (n + 1) * (R - m) ≤ 1001 * 1024 := Nat.mul_le_mul (by (first | lia | omega)) (by (first | lia | omega))
        (first | lia | omega)
      refine XS.cons (X1.ret (EvT.cast (EvT.bin (EvT.bin (EvT.callFnN (vs := [.int m, .int R]) (c := .int (dval n (sl ds m R))) (f := f) (by walk_at "has") (by (repeat (first | exact EvL.nil | (apply EvL.cons; walk_at "ev"; case hst => rfl)))) (fun s₁ F₁ => ⟨_, _, _, _, (K.go B F₁.go).fo⟩) (fun s₁ xs Q E F₁ rx h => ih k (by (first | lia | omega)) _ hA' w mg mb s₁ f cn ci cd doc pm cv ctv m R xs Q E F₁.go.base (K.go B F₁.go) (mrels_im (us := [.int m, .int R]) rx) hmR hRl (by (first | lia | omega)) h)) (by walk_at "ev") (BinV.shl hh (by (first | lia | omega)) ?hbits))
          (EvT.callFnN (vs := [.int L, .int m]) (c := .int (dval n (sl ds L m))) (f := f) (by walk_at "has") (by (repeat (first | exact EvL.nil | (apply EvL.cons; walk_at "ev"; case hst => rfl)))) (fun s₁ F₁ => ⟨_, _, _, _, (K.go B F₁.go).fo⟩) (fun s₁ xs Q E F₁ rx h => ih k (by (first | lia | omega)) _ hA' w mg mb s₁ f cn ci cd doc pm cv ctv L m xs Q E F₁.go.base (K.go B F₁.go) (mrels_im (us := [.int L, .int m]) rx) hLm (by (first | lia | omega)) (by (first | lia | omega)) h)) BinV.add) ?eq) (RetIs.ret rfl))
      case hbits =>
        have h1 := bits_nat hlt
        have h2 : (2 : Int) ^ 27 = 134217728 := by decide
        rw [h2]; (first | lia | omega)
      case eq =>
        rw [sl_split (Nat.le_of_lt hLm) (Nat.le_of_lt hmR) hRl, dval_append, sl_len (by (first | lia | omega)), Int.toNat_natCast]
        congr 1; congr 1
        push_cast
        (first | lia | omega)
  refine body.run sg _ _ _ F fun fl s' hf => ?_
  cases fl with
  | next => obtain ⟨σ', mu', _, F', e⟩ := hf; cases (show MV.int _ = MV.none from e)
  | ret y =>
    obtain ⟨v, mu', rv, g, _, m, e⟩ := hf
    have e' : v = .int (dval n (sl ds L R)) := e
    exact h y s' g (e' ▸ rv)
  | brk => obtain ⟨_, _, _, _, e⟩ := hf; exact e.elim
  | cont => obtain ⟨_, _, _, _, e⟩ := hf; exact e.elim
theorem d2i_spec {A : Around} {ds : List Nat} {n : Nat} (hA : OkA A 12 40) (hn : n ≤ 1000) (hl : ds.length ≤ cap) (hd : ∀ d ∈ ds, d < 2 ^ 2000) : CalV true A (.ref 42) [.list (ds.map fun (d : Nat) => IV.int d), .int n] (.int (dval n ds)) := by
  have D : DefOkC 42 (fdOf 42) (bodyOf 42) [S "digits", S "n"] := ⟨fun w => ⟨_, _, _, by rfl⟩, (by intro w h X; exact codeRec_35 (c := 41) X (by rfl) (by rfl)), by rfl, (len2 fun a b => rfl), by decide, by rfl, by intro n; rfl, by rfl, by rfl, by rfl, by rfl, by rfl⟩
  refine CalV.ofDefC (σ := [(S "digits", .cell, some (.list (ds.map fun (d : Nat) => IV.int d))), (S "n", .cell, some (.int n)), (S "inner", .cell, none)]) D (by have := hA.dp; (first | lia | omega)) rfl (by rfl) (by rfl) (by intro n; rfl) ?_
  intro w mg mb s L hap
  have hh : (A.deeper (callEnvC (fdOf 42) L 42)).handled = none := hA.hd
  have hA' := OkA.deeper (OkA.le hA (show 11 + 1 ≤ 12 by (first | lia | omega)) (show 37 + 3 ≤ 40 by (first | lia | omega))) (callEnvC (fdOf 42) L 42)
  refine XS.defN rfl TabIs.d2i (by rfl) (by rfl) (by rfl) (by rfl) (by rfl) (by rfl) (by rfl) (by rfl) (fun f => by (with_reducible (repeat (first | exact St.here' | exact St.hereC | apply St.there)))) (by (first | exact offMu.no | (apply offMu.dif; rfl))) (fun f doc pm ctv cc oc vs tt hc1 hc2 hc3 => ?_)
  refine XS.cons (X1.ret (v := .int (dval n ds)) (EvT.ifexp (EvC.plain (by walk_at "ev") TruV.list) (fun hb => ?_) (fun hb => ?_)) (RetIs.ret rfl))
  · have hpos : 0 < ds.length := by
      cases ds with
      | nil => simp at hb
      | cons => simp
    refine EvT.callFnN (vs := [.int (0 : Nat), .int ds.length]) (by walk_at "has") (EvL.cons EvT.int (EvL.cons (EvT.cast (EvT.callB n_len b_len (by (repeat (first | exact EvL.nil | (apply EvL.cons; walk_at "ev"; case hst => rfl)))) CalV.lenL rfl) (by simp)) EvL.nil rfl) rfl) (fun s₁ F₁ => ⟨_, _, _, _, (F₁.prs _ (.head _)).get⟩) (fun s₁ xs Q E F₁ rx h => ?_)
    have P1 := F₁.prs _ (.head _)
    have P2 := F₁.prs _ (.tail _ (.head _))
    have V1 := VarIs.cell (c := L + 1 + 1) (F₁.vars (S "n") (.int n) (by walk_at "has")) rfl rfl
    have V2 := VarIs.cell (c := L + 1 + 1 + 1) (F₁.vars (S "inner") (.fn f) (by walk_at "has")) rfl rfl
    have V3 := VarIs.cell (c := L + 1) (F₁.vars (S "digits") (.list (ds.map fun (d : Nat) => IV.int d)) (by walk_at "has")) rfl rfl
    obtain ⟨y1, r1, c1⟩ := V1
    obtain ⟨tn, rfl⟩ := IRel.int r1
    obtain ⟨y2, r2, c2⟩ := V2
    have r2 : y2 = .ref f := r2
    subst r2
    obtain ⟨y3, r3, c3⟩ := V3
    have e : sl ds 0 ds.length = ds := by simp [sl]
    refine inner_d2i n hn ds hl hd 10 _ (OkA.le hA' (by (first | lia | omega)) (by (first | lia | omega))) w mg mb s₁ f (L + 1 + 1) (L + 1 + 1 + 1) (L + 1) doc pm (.ref cc) ctv 0 ds.length xs Q E F₁.go.base ⟨P1.get, ⟨cc, oc, vs, tt, rfl, P2.get, hc1, hc2, hc3⟩, ⟨tn, c1⟩, c2, ⟨y3, c3, r3⟩, ?_⟩ (mrels_im (us := [.int (0 : Nat), .int ds.length]) rx) hpos (Nat.le_refl _) (by simp only [cap] at hl; (first | lia | omega)) (by rw [e]; exact h)
    refine ⟨?_, ?_, ?_⟩ <;> (intro q; have q : (_ : Nat) = _ := q; (first | lia | omega))
  · have : ds = [] := by
      cases ds with
      | nil => rfl
      | cons => simp at hb
    subst this
    exact EvT.int
-- part L22
open PySem PySem.W PyProof.Rows PySem.Calls PySem.SeqAt
set_option maxHeartbeats 1000000
theorem evHolds {w : World} {A : Around} {env : Env} {s : Shared} {x : Str} {y : Value} {pos : Pos} {Q E : Value → Shared → Prop} (hf : env.scope.kind = .function) (hh : HoldsAt env s.heap x y) (h : Q y s) (h1 : (x == Str.ofString "__debug__") = false := by decide) (h2 : (x == Str.ofString "__classdict__") = false := by decide) : wpAny (model PG w) A (eval (.Name x pos) env) Q E s := by
  rcases hh with ⟨k, m, n, e⟩ | ⟨k | k, c, n, e⟩
  · exact wpAny_Name (wpAny_loadName_local hf k n e h) h1
  · exact wpAny_Name (wpAny_loadName_cell hf k n e h) h1
  · exact wpAny_Name (wpAny_loadName_free hf k n e h h2) h1
theorem FS.muThere {w : World} {mg mb : Str → Option Value} {t : Bool} {s₀ : Shared} {pr : Pr} {env : Env} {σ : List Ent} {mu : Mu} {s : Shared} (F : FS w mg mb t s₀ pr env σ mu s) : ∀ a ∈ muX mu, ∃ o, s.heap.get? a = some o := fun a ha => by
  match mu, F, ha with
  | none, F, ha => cases ha
  | some (x, b, vs), F, ha =>
    simp only [muX, List.mem_singleton] at ha
    subst ha
    obtain ⟨_, ⟨ys, ⟨n, e⟩, _⟩, _⟩ := F.mus
    exact ⟨_, e⟩
section
variable {C : Cx} {σ : List Ent} {mu : Mu}
theorem EvI.revN {x : Str} {px p pos : Pos} {xs : List IV} (hh : C.A.handled = Option.none) (hx : Has σ x (.list xs)) (hk : C.env.kindOf (Str.ofString "reversed") = some .globalImplicit := by rfl)
    (hst : starEach [PySem.Expr.Name x px] C.env = (false, eval (.Name x px) C.env) :: starEach [] C.env := by rfl) (h1 : (x == Str.ofString "__debug__") = false := by decide) (h2 : (x == Str.ofString "__classdict__") = false := by decide) : EvI C.A (C.P σ mu) (muX mu) (.Call (.Name (Str.ofString "reversed") p) [.Name x px] [] pos) xs.reverse := ⟨fun s Q E F h => by
  have F' : C.FS σ mu s := F
  obtain ⟨y, ⟨l, ys, rfl, hlX, hl, hr, -⟩, hy⟩ := F'.vars x _ hx
  refine wpAny_Call_NameR (evBuiltin (P := C.P σ mu) hk n_reversed b_reversed F (callWith_type1 (spliced_more (evHolds C.st.fn hy (spliced_none ?_) h1 h2) hst) hst rfl) (by decide) (by decide))
  refine call_reversed_list hl.isList ?_
  have hnew : s.heap.get? s.heap.objs.size = Option.none := Heap.get?_none_of_le (Nat.le_refl _)
  have hne : l ≠ s.heap.objs.size := fun q => by obtain ⟨n, e⟩ := hl; rw [q, hnew] at e; cases e
  have e : ((ys.toArray.size : Int) - 1) = (ys.length : Int) - 1 := by simp
  have hit : (s.heap.push (revObj l ((ys.toArray.size : Int) - 1))).IsRevIter s.heap.objs.size l ((ys.length : Int) - 1) := ⟨_, Heap.get?_push_size _ rfl, rfl, by rw [e]; rfl⟩
  refine wpAny_pyIter_revIter hit ?_
  refine h _ _ _ _ _ (Go.push (tk := s.toks) F'.go.base _) (ItIs.ofRev hh hit (hl.isList.push _) hr hne (fun hm => ?_) hlX) hnew
  obtain ⟨o, e⟩ := F'.muThere _ hm
  rw [hnew] at e; cases e⟩
theorem EvI.rangeN {p pos : Pos} {e : PySem.Expr} {n : Int} (hh : C.A.handled = Option.none) (he : EvT C.A (C.P σ mu) e (.int n)) (h0 : 0 ≤ n) (h1 : n ≤ 1000000) (hk : C.env.kindOf (Str.ofString "range") = some .globalImplicit := by rfl)
    (hst : starEach [e] C.env = (false, eval e C.env) :: starEach [] C.env := by rfl) : EvI C.A (C.P σ mu) (muX mu) (.Call (.Name (Str.ofString "range") p) [e] [] pos) ((List.range n.toNat).map fun (i : Nat) => IV.int i) :=
  EvI.range hh he h0 h1 (fun s F => FS.muThere F) hk hst
end
-- part Gdiv
open PySem PySem.W PyProof.Rows PySem.Calls
set_option maxHeartbeats 2000000
theorem log2_of_bits {b : Int} (h : Builtin.Int.intBits b ≤ 500) : b.natAbs.log2 < 9000 := by
  have h1 := intBits_le_iff.mp h
  by_cases h0 : b.natAbs = 0
  · rw [h0]; decide
  · have : b.natAbs.log2 < 500 := (Nat.log2_lt h0).mpr h1
    (first | lia | omega)
theorem d21_spec {t : Bool} {A : Around} {a b n : Int} (hA : OkA A 0 0) (hb : b ≠ 0) (hbb : Builtin.Int.intBits b ≤ 500) (hn : ((Builtin.Int.intBits a : Nat) : Int) - n ≤ 4000) : CalV t A (.ref 21) [.int a, .int b, .int n] (.tup [.int (a.fdiv b), .int (a.fmod b)]) := by
  refine CalV.ofDef (fd := fdOf 21) (ps := [S "a", S "b", S "n"]) (σ := [(S "a", .local, some (.int a)), (S "b", .local, some (.int b)), (S "n", .local, some (.int n)), (S "pad", .local, none), (S "half_n", .local, none), (S "mask", .local, none), (S "b1", .local, none), (S "b2", .local, none), (S "q1", .local, none), (S "r", .local, none), (S "q2", .local, none)])
    ⟨fun w => ⟨_, _, _, by rfl⟩, (by intro w h X; exact codeRec_35 (c := 20) X (by rfl) (by rfl)), by rfl, (len3 fun a b c => rfl), by decide, by rfl, by rfl, by rfl, by rfl, by rfl, by rfl, by rfl, by rfl⟩ (by have := hA.dp; (first | lia | omega)) rfl (by rfl) (by rfl) (by rfl) ?_
  intro w mg mb s L
  refine XS.cons (X1.ite (EvC.cmp (EvT.bin (EvT.bitlen (by walk_at "ev")) (by walk_at "ev") BinV.sub) (by walk_at "ev") CmpV.leI) (fun hb1 => ?_) (fun hb1 => ?_))
  · refine XS.cons (X1.ret (EvT.callB n_divmod b_divmod (by (repeat (first | exact EvL.nil | (apply EvL.cons; walk_at "ev"; case hst => rfl)))) (CalV.divmod hb fun w mg mb s B => .inl (PyProof.noPylong_of_log2 (log2_of_bits hbb))) rfl) (RetIs.ret rfl))
  · simp at hb1; (first | lia | omega)
theorem dval_digs (n : Nat) : ∀ (m x : Nat), dval n (digs n x m) = x % 2 ^ (n * m)
  | 0, x => by simp [digs, dval, Nat.mod_one]
  | m + 1, x => by
    rw [Nat.add_comm m 1, digs_add, dval_append, dval_digs n m, digs_length, Nat.mul_one, digs_one (Nat.mod_lt _ (Nat.two_pow_pos _))]
    show x % 2 ^ n + 0 * 2 ^ n + x / 2 ^ n % 2 ^ (n * m) * 2 ^ n = _
    rw [Nat.mul_add, Nat.mul_one, Nat.pow_add, Nat.mod_mul, Nat.mul_comm (2 ^ n)]
    (first | lia | omega)
theorem dmp_step {H b n d : Nat} (hb : 0 < b) : (H % b * 2 ^ n + d) / b + H / b * 2 ^ n = (H * 2 ^ n + d) / b ∧ (H % b * 2 ^ n + d) % b = (H * 2 ^ n + d) % b := by
  have h := Nat.div_add_mod H b
  have e : H * 2 ^ n + d = (H % b * 2 ^ n + d) + b * (H / b * 2 ^ n) := by
    conv => lhs; rw [← h]
    rw [Nat.add_mul, Nat.mul_assoc]; (first | lia | omega)
  rw [e, Nat.add_mul_div_left _ _ hb, Nat.add_mul_mod_self_left]
  exact ⟨rfl, rfl⟩
theorem dmp_spec {A : Around} {a b : Nat} (hA : OkA A 13 43) (hb : 0 < b) (ha5 : Builtin.Int.intBits (a : Int) ≤ 500) (hb5 : Builtin.Int.intBits (b : Int) ≤ 500) : CalV true A (.ref 49) [.int a, .int b] (.tup [.int ((a / b : Nat) : Int), .int ((a % b : Nat) : Int)]) := by
  refine CalV.ofDef (fd := fdOf 49) (ps := [S "a", S "b"]) (σ := [(S "a", .local, some (.int a)), (S "b", .local, some (.int b)), (S "n", .local, none), (S "a_digits", .local, none), (S "r", .local, none), (S "q_digits", .local, none), (S "a_digit", .local, none), (S "q_digit", .local, none), (S "q", .local, none)])
    ⟨fun w => ⟨_, _, _, by rfl⟩, (by intro w h X; exact codeRec_35 (c := 48) X (by rfl) (by rfl)), by rfl, (len2 fun a b => rfl), by decide, by rfl, by rfl, by rfl, by rfl, by rfl, by rfl, by rfl, by rfl⟩ (by have := hA.dp; (first | lia | omega)) rfl (by rfl) (by rfl) (by rfl) ?_
  intro w mg mb s L
  have hh : (A.deeper (callEnv (fdOf 49) L 49)).handled = none := hA.hd
  have hA' := OkA.deeper (OkA.le hA (show 12 + 1 ≤ 13 by (first | lia | omega)) (show 40 + 3 ≤ 43 by (first | lia | omega))) (callEnv (fdOf 49) L 49)
  obtain ⟨n, hn⟩ : ∃ n, n = Builtin.Int.intBits (b : Int) := ⟨_, rfl⟩
  have hbn : b < 2 ^ n := by have := lt_bits (a := (b : Int)) (by (first | lia | omega)); rw [hn]; simpa using this
  have hn1 : 1 ≤ n := by
    cases n with
    | zero => simp at hbn; (first | lia | omega)
    | succ n => (first | lia | omega)
  rw [← hn] at hb5
  obtain ⟨m, hm⟩ : ∃ m, m = nDig n a := ⟨_, rfl⟩
  have ham : a < 2 ^ (n * m) := by rw [hm]; exact nDig_lt hn1
  have hmc : m ≤ 1000 := by
    rw [hm]; unfold nDig
    refine Nat.le_trans (Nat.div_le_self _ _) ?_
    (first | lia | omega)
  refine XS.cons (X1.asg (v := .int n) (EvT.cast (EvT.bitlen (by walk_at "ev")) (by rw [hn])) (by (with_reducible (repeat (first | exact St.here' | exact St.hereC | apply St.there)))) trivial trivial (Seq.next ?_) rfl)
  refine XS.cons (X1.asg (v := .list ((digs n a m).map fun (d : Nat) => IV.int d)) (EvT.callF g_i2d (fd := fdOf 35) ⟨_, _, _, by rfl⟩ (by (repeat (first | exact EvL.nil | (apply EvL.cons; walk_at "ev"; case hst => rfl)))) (by rw [hm]; exact i2d_spec hA' hn1 (by (first | lia | omega)) (by rw [← hm]; simp only [cap]; (first | lia | omega))) rfl) (by (with_reducible (repeat (first | exact St.here' | exact St.hereC | apply St.there)))) trivial trivial (Seq.next ?_) rfl)
  refine XS.cons (X1.asg EvT.int (by (with_reducible (repeat (first | exact St.here' | exact St.hereC | apply St.there)))) trivial trivial (Seq.next ?_) rfl)
  refine XS.cons (X1.asgMu (vs := []) (EvF.disp (vs := []) EvL.nil (by decide)) (by (with_reducible (repeat (first | exact St.here' | exact St.hereC | apply St.there)))) (by (with_reducible (repeat (first | exact Uns.here | apply Uns.there)))) (fun l => Seq.next ?_) rfl)
  refine XS.cons (X1.for (α := Nat × List Nat) (EvI.cast (EvI.revN (mu := some (S "q_digits", l, [])) hh (by walk_at "has")) (v' := (digs n a m).reverse.map fun (d : Nat) => IV.int d) (by rw [List.map_reverse]))
    (fun r α => [(S "a", .local, some (.int a)), (S "b", .local, some (.int b)), (S "n", .local, some (.int n)), (S "a_digits", .local, some (.list ((digs n a m).map fun (d : Nat) => IV.int d))), (S "r", .local, some (.int ((α.1 % b : Nat) : Int))), (S "q_digits", .local, none), (S "a_digit", .local, none), (S "q_digit", .local, none), (S "q", .local, none)])
    (fun α => some (S "q_digits", l, α.2.map fun (d : Nat) => IV.int d)) (fun _ => rfl)
    (fun r α => ∃ rest : List Nat, r = rest.map (fun (d : Nat) => IV.int d) ∧ dval n rest.reverse + α.1 * 2 ^ (n * rest.length) = a ∧ dval n α.2.reverse = α.1 / b ∧ α.2.length + rest.length = m ∧ (∀ d ∈ rest, d < 2 ^ n) ∧ (∀ d ∈ α.2, d < 2 ^ 2000)) (0, []) ?wk rfl ?inv ?turn ?fin (fun _ => rfl))
  case wk =>
    rw [show ((0 % b : Nat) : Int) = 0 by simp]
    (repeat (first | with_reducible exact Wk.nil | with_reducible apply Wk.keep | with_reducible apply Wk.drop | (apply Wk.keepE (by rfl))))
  case inv =>
    refine ⟨(digs n a m).reverse, rfl, ?_, by simp [dval], by simp [digs_length], fun d hd => ?_, by simp⟩
    · rw [List.reverse_reverse, dval_digs, Nat.mod_eq_of_lt ham]; simp
    · rw [List.mem_reverse, digs] at hd
      obtain ⟨i, _, rfl⟩ := List.mem_map.mp hd
      exact Nat.mod_lt _ (Nat.two_pow_pos _)
  case turn =>
    rintro v r ⟨H, qs⟩ ⟨rest, hr, h1, h2, h3, h4, h5⟩
    cases rest with
    | nil => simp at hr
    | cons d rest =>
      simp only [List.map_cons, List.cons.injEq] at hr
      obtain ⟨rfl, rfl⟩ := hr
      have hd := h4 d (.head _)
      have hrlt : H % b < b := Nat.mod_lt _ hb
      have hx : H % b * 2 ^ n + d < 2 ^ (n + n) := by
        have h6 : (H % b + 1) * 2 ^ n ≤ 2 ^ n * 2 ^ n := Nat.mul_le_mul_right _ (by (first | lia | omega))
        rw [Nat.pow_add, Nat.add_mul] at *
        (first | lia | omega)
      refine ⟨_, by (with_reducible (repeat (first | exact St.here' | exact St.hereC | apply St.there))), by (first | exact offMu.no | (apply offMu.dif; rfl)), fun pr => ?_⟩
      refine XS.cons (X1.asgT (a := .int (((H % b * 2 ^ n + d) / b : Nat) : Int)) (b := .int (((H * 2 ^ n + d) % b : Nat) : Int)) hh (EvT.cast (EvT.callF g_d21 (fd := fdOf 21) ⟨_, _, _, by rfl⟩ (vs := [.int ((H % b * 2 ^ n + d : Nat) : Int), .int b, .int n]) (EvL.cons (EvT.cast (EvT.bin (EvT.bin (by walk_at "ev") (by walk_at "ev") (BinV.shl hh (by (first | lia | omega)) ?hbits)) (by walk_at "ev") BinV.add) ?eq) (by (repeat (first | exact EvL.nil | (apply EvL.cons; walk_at "ev"; case hst => rfl)))) rfl) (d21_spec (OkA.le hA' (by (first | lia | omega)) (by (first | lia | omega))) (by (first | lia | omega)) (by rw [← hn]; exact hb5) ?hd4) rfl) ?eq2) (by (with_reducible (repeat (first | exact St.here' | exact St.hereC | apply St.there)))) (by (with_reducible (repeat (first | exact St.here' | exact St.hereC | apply St.there)))) (by (first | exact offMu.no | (apply offMu.dif; rfl))) (by (first | exact offMu.no | (apply offMu.dif; rfl))) (Seq.next ?_))
      case hbits =>
        have h7 := bits_nat (x := H % b) (p := n) (by (first | lia | omega))
        have h8 : (2 : Int) ^ 27 = 134217728 := by decide
        rw [h8]
        show ((Builtin.Int.intBits ((H % b : Nat) : Int) : Nat) : Int) + (n : Int) ≤ 134217728
        (first | lia | omega)
      case eq => congr 1
      case hd4 => have := bits_nat hx; (first | lia | omega)
      case eq2 => rw [fdiv_nat, fmod_nat, (dmp_step hb).2]
      have hq : (H % b * 2 ^ n + d) / b < 2 ^ 2000 := by
        refine Nat.lt_of_le_of_lt (Nat.div_le_self _ _) (Nat.lt_of_lt_of_le hx (Nat.pow_le_pow_right (by (first | lia | omega)) (by (first | lia | omega))))
      simp only [List.length_cons] at h3
      refine XS.cons (X1.meth1 (us := [.int (((H % b * 2 ^ n + d) / b : Nat) : Int)]) (by (repeat (first | exact EvL.nil | (apply EvL.cons; walk_at "ev"; case hst => rfl)))) (CalM.append (by simp [cap]; (first | lia | omega))) slot_list_append PySem.F.type_list_append (Seq.next (XS.nil (Turn.nx ⟨(H * 2 ^ n + d, qs ++ [(H % b * 2 ^ n + d) / b]), by (repeat (first | with_reducible exact Wk.nil | with_reducible apply Wk.keep | with_reducible apply Wk.drop | (apply Wk.keepE (by rfl)))), by simp, rest, rfl, ?_, ?_, by simp; (first | lia | omega), fun d hd => h4 d (.tail _ hd), ?_⟩))))
      · simp only [List.reverse_cons, List.length_cons, dval_append, List.length_reverse] at h1
        rw [Nat.mul_add, Nat.mul_one, Nat.add_comm, Nat.pow_add] at h1
        simp only [dval, List.foldr_cons, List.foldr_nil, Nat.zero_mul, Nat.add_zero] at h1
        rw [← h1]
        show dval n rest.reverse + (H * 2 ^ n + d) * 2 ^ (n * rest.length) = _
        rw [Nat.add_mul]
        simp only [dval]
        rw [show H * 2 ^ n * 2 ^ (n * rest.length) = H * (2 ^ (n * rest.length) * 2 ^ n) by rw [Nat.mul_assoc, Nat.mul_comm (2 ^ n)]]
        (first | lia | omega)
      · simp only [List.reverse_append, List.reverse_cons, List.reverse_nil, List.nil_append, List.singleton_append]
        show (H % b * 2 ^ n + d) / b + dval n qs.reverse * 2 ^ n = _
        rw [h2]
        exact (dmp_step hb).1
      · intro d' hd'
        rcases List.mem_append.mp hd' with h | h
        · exact h5 d' h
        · rw [List.mem_singleton] at h; rw [h]; exact hq
  case fin =>
    rintro ⟨H, qs⟩ ⟨rest, hr, h1, h2, h3, h4, h5⟩
    have hrest : rest = [] := by
      cases rest with
      | nil => rfl
      | cons => simp at hr
    subst hrest
    have hH : H = a := by simpa [dval] using h1
    subst hH
    simp only [List.length_nil, Nat.add_zero] at h3
    refine XS.nil (Seq.next ?_)
    refine XS.cons (X1.meth0 (CalM.reverse) PySem.F.slot_list_reverse PySem.F.type_list_reverse (Seq.next ?_))
    refine XS.cons (X1.asg (v := .int ((H / b : Nat) : Int)) (EvT.cast (EvT.callF g_d2i (fd := fdOf 42) ⟨_, _, _, by rfl⟩ (vs := [.list (qs.reverse.map fun (d : Nat) => IV.int d), .int n]) (EvL.cons (EvT.cast (by walk_at "ev") (by rw [List.map_reverse])) (by (repeat (first | exact EvL.nil | (apply EvL.cons; walk_at "ev"; case hst => rfl)))) rfl) (d2i_spec hA' (by (first | lia | omega)) (by simp [cap]; (first | lia | omega)) (fun d hd => h5 d (List.mem_reverse.mp hd))) rfl) (by rw [h2])) (by (with_reducible (repeat (first | exact St.here' | exact St.hereC | apply St.there)))) Keepable.imm (by (first | exact offMu.no | (apply offMu.dif; rfl))) (Seq.next ?_) rfl)
    refine XS.cons (X1.ret (EvT.tup (vs := [.int ((H / b : Nat) : Int), .int ((H % b : Nat) : Int)]) (by (repeat (first | exact EvL.nil | (apply EvL.cons; walk_at "ev"; case hst => rfl)))) (by simp [cap])) (RetIs.ret rfl))
theorem fdiv_neg_lt {a b : Int} (ha : a < 0) (hb : 0 < b) : Builtin.bitNot ((((Builtin.bitNot a).toNat / b.toNat : Nat)) : Int) = a.fdiv b ∧ b + Builtin.bitNot ((((Builtin.bitNot a).toNat % b.toNat : Nat)) : Int) = a.fmod b := by
  unfold Builtin.bitNot
  have e1 : (((-a - 1).toNat / b.toNat : Nat) : Int) = (-a - 1) / b := by
    rw [Int.natCast_ediv, Int.toNat_of_nonneg (by (first | lia | omega)), Int.toNat_of_nonneg (by (first | lia | omega))]
  have e2 : (((-a - 1).toNat % b.toNat : Nat) : Int) = (-a - 1) % b := by
    rw [Int.natCast_emod, Int.toNat_of_nonneg (by (first | lia | omega)), Int.toNat_of_nonneg (by (first | lia | omega))]
  rw [e1, e2, Int.fdiv_eq_ediv_of_nonneg _ (by (first | lia | omega)), Int.fmod_eq_emod_of_nonneg _ (by (first | lia | omega))]
  have h1 := Int.mul_ediv_add_emod (-a - 1) b
  have h2 := Int.emod_nonneg (-a - 1) (show b ≠ 0 by (first | lia | omega))
  have h3 := Int.emod_lt_of_pos (-a - 1) hb
  have h4 := Int.mul_ediv_add_emod a b
  have h5 := Int.emod_nonneg a (show b ≠ 0 by (first | lia | omega))
  have h6 := Int.emod_lt_of_pos a hb
  generalize (-a - 1) / b = q1 at *
  generalize (-a - 1) % b = r1 at *
  generalize a / b = q2 at *
  generalize a % b = r2 at *
  have h7 : b * (q1 + q2 + 1) = b - 1 - r1 - r2 := by rw [Int.mul_add, Int.mul_add, Int.mul_one]; (first | lia | omega)
  have h8 : q1 + q2 + 1 = 0 := by
    rcases Int.lt_trichotomy (q1 + q2 + 1) 0 with h | h | h
    · have : b * (q1 + q2 + 1) ≤ b * (-1) := Int.mul_le_mul_of_nonneg_left (by (first | lia | omega)) (by (first | lia | omega))
      (first | lia | omega)
    · exact h
    · have : b * 1 ≤ b * (q1 + q2 + 1) := Int.mul_le_mul_of_nonneg_left (by (first | lia | omega)) (by (first | lia | omega))
      (first | lia | omega)
  rw [h8] at h7
  (first | lia | omega)
theorem idm_pos {A : Around} {a b : Int} (hA : OkA A 15 49) (hb : 0 < b) (ha5 : Builtin.Int.intBits a ≤ 499) (hb5 : Builtin.Int.intBits b ≤ 499) : CalV true A (.ref 56) [.int a, .int b] (.tup [.int (a.fdiv b), .int (a.fmod b)]) := by
  have nonneg : ∀ {A : Around} {a : Int}, OkA A 14 46 → 0 ≤ a → Builtin.Int.intBits a ≤ 500 → CalV true A (.ref 56) [.int a, .int b] (.tup [.int (a.fdiv b), .int (a.fmod b)]) := by
    intro A a hA ha ha5
    refine CalV.ofDef (fd := fdOf 56) (ps := [S "a", S "b"]) (σ := [(S "a", .local, some (.int a)), (S "b", .local, some (.int b)), (S "q", .local, none), (S "r", .local, none)])
      ⟨fun w => ⟨_, _, _, by rfl⟩, (by intro w h X; exact codeRec_35 (c := 55) X (by rfl) (by rfl)), by rfl, (len2 fun a b => rfl), by decide, by rfl, by rfl, by rfl, by rfl, by rfl, by rfl, by rfl, by rfl⟩ (by have := hA.dp; (first | lia | omega)) rfl (by rfl) (by rfl) (by rfl) ?_
    intro w mg mb s L
    have hA' := OkA.deeper (OkA.le hA (show 13 + 1 ≤ 14 by (first | lia | omega)) (show 43 + 3 ≤ 46 by (first | lia | omega))) (callEnv (fdOf 56) L 56)
    refine XS.cons (X1.ite (by (first | (apply EvC.cmp; walk_at "ev"; walk_at "ev"; walk_at "cmp"; with_unfolding_all rfl) | (apply EvC.plain; walk_at "ev"; (first | exact TruV.int | exact TruV.bool | exact TruV.str | exact TruV.list); rfl) | (apply EvC.not; first | (apply EvC.cmp; walk_at "ev"; walk_at "ev"; walk_at "cmp"; with_unfolding_all rfl) | (apply EvC.plain; walk_at "ev"; (first | exact TruV.int | exact TruV.bool | exact TruV.str | exact TruV.list); rfl)))) (fun h => by simp at h; (first | lia | omega)) (fun _ => ?_))
    refine XS.cons (X1.ite (by (first | (apply EvC.cmp; walk_at "ev"; walk_at "ev"; walk_at "cmp"; with_unfolding_all rfl) | (apply EvC.plain; walk_at "ev"; (first | exact TruV.int | exact TruV.bool | exact TruV.str | exact TruV.list); rfl) | (apply EvC.not; first | (apply EvC.cmp; walk_at "ev"; walk_at "ev"; walk_at "cmp"; with_unfolding_all rfl) | (apply EvC.plain; walk_at "ev"; (first | exact TruV.int | exact TruV.bool | exact TruV.str | exact TruV.list); rfl)))) (fun h => by simp at h; (first | lia | omega)) (fun _ => ?_))
    refine XS.cons (X1.ite (by (first | (apply EvC.cmp; walk_at "ev"; walk_at "ev"; walk_at "cmp"; with_unfolding_all rfl) | (apply EvC.plain; walk_at "ev"; (first | exact TruV.int | exact TruV.bool | exact TruV.str | exact TruV.list); rfl) | (apply EvC.not; first | (apply EvC.cmp; walk_at "ev"; walk_at "ev"; walk_at "cmp"; with_unfolding_all rfl) | (apply EvC.plain; walk_at "ev"; (first | exact TruV.int | exact TruV.bool | exact TruV.str | exact TruV.list); rfl)))) (fun h => by simp at h; (first | lia | omega)) (fun _ => ?_))
    obtain ⟨x, rfl⟩ := Int.eq_ofNat_of_zero_le ha
    obtain ⟨y, rfl⟩ := Int.eq_ofNat_of_zero_le (Int.le_of_lt hb)
    refine XS.cons (X1.ret (EvT.cast (EvT.callF g_dmp (fd := fdOf 49) ⟨_, _, _, by rfl⟩ (vs := [.int x, .int y]) (by (repeat (first | exact EvL.nil | (apply EvL.cons; walk_at "ev"; case hst => rfl)))) (dmp_spec hA' (by (first | lia | omega)) ha5 (by (first | lia | omega))) rfl) ?eq) (RetIs.ret rfl))
    case eq => rw [fdiv_nat, fmod_nat]
  by_cases ha : 0 ≤ a
  · exact nonneg (OkA.le hA (by (first | lia | omega)) (by (first | lia | omega))) ha (by (first | lia | omega))
  · refine CalV.ofDef (fd := fdOf 56) (ps := [S "a", S "b"]) (σ := [(S "a", .local, some (.int a)), (S "b", .local, some (.int b)), (S "q", .local, none), (S "r", .local, none)])
      ⟨fun w => ⟨_, _, _, by rfl⟩, (by intro w h X; exact codeRec_35 (c := 55) X (by rfl) (by rfl)), by rfl, (len2 fun a b => rfl), by decide, by rfl, by rfl, by rfl, by rfl, by rfl, by rfl, by rfl, by rfl⟩ (by have := hA.dp; (first | lia | omega)) rfl (by rfl) (by rfl) (by rfl) ?_
    intro w mg mb s L
    have hh : (A.deeper (callEnv (fdOf 56) L 56)).handled = none := hA.hd
    have hA' := OkA.deeper (OkA.le hA (show 14 + 1 ≤ 15 by (first | lia | omega)) (show 46 + 3 ≤ 49 by (first | lia | omega))) (callEnv (fdOf 56) L 56)
    refine XS.cons (X1.ite (by (first | (apply EvC.cmp; walk_at "ev"; walk_at "ev"; walk_at "cmp"; with_unfolding_all rfl) | (apply EvC.plain; walk_at "ev"; (first | exact TruV.int | exact TruV.bool | exact TruV.str | exact TruV.list); rfl) | (apply EvC.not; first | (apply EvC.cmp; walk_at "ev"; walk_at "ev"; walk_at "cmp"; with_unfolding_all rfl) | (apply EvC.plain; walk_at "ev"; (first | exact TruV.int | exact TruV.bool | exact TruV.str | exact TruV.list); rfl)))) (fun h => by simp at h; (first | lia | omega)) (fun _ => ?_))
    refine XS.cons (X1.ite (by (first | (apply EvC.cmp; walk_at "ev"; walk_at "ev"; walk_at "cmp"; with_unfolding_all rfl) | (apply EvC.plain; walk_at "ev"; (first | exact TruV.int | exact TruV.bool | exact TruV.str | exact TruV.list); rfl) | (apply EvC.not; first | (apply EvC.cmp; walk_at "ev"; walk_at "ev"; walk_at "cmp"; with_unfolding_all rfl) | (apply EvC.plain; walk_at "ev"; (first | exact TruV.int | exact TruV.bool | exact TruV.str | exact TruV.list); rfl)))) (fun h => by simp at h; (first | lia | omega)) (fun _ => ?_))
    refine XS.cons (X1.ite (by (first | (apply EvC.cmp; walk_at "ev"; walk_at "ev"; walk_at "cmp"; with_unfolding_all rfl) | (apply EvC.plain; walk_at "ev"; (first | exact TruV.int | exact TruV.bool | exact TruV.str | exact TruV.list); rfl) | (apply EvC.not; first | (apply EvC.cmp; walk_at "ev"; walk_at "ev"; walk_at "cmp"; with_unfolding_all rfl) | (apply EvC.plain; walk_at "ev"; (first | exact TruV.int | exact TruV.bool | exact TruV.str | exact TruV.list); rfl)))) (fun _ => ?_) (fun h => by simp at h; (first | lia | omega)))
    have h1 := fdiv_neg_lt (a := a) (b := b) (by (first | lia | omega)) hb
    have hn0 : 0 ≤ Builtin.bitNot a := by unfold Builtin.bitNot; (first | lia | omega)
    have hnb : Builtin.Int.intBits (Builtin.bitNot a) ≤ 500 := by
      unfold Builtin.bitNot
      have := intBits_sub_le (x := -a) (y := 1) (m := 499) (n := 1) (intBits_neg_le ha5) (by decide)
      simpa using this
    refine XS.cons (X1.asgT (a := .int ((Builtin.bitNot a).fdiv b)) (b := .int ((Builtin.bitNot a).fmod b)) hh (EvT.callF g_idm (fd := fdOf 56) ⟨_, _, _, by rfl⟩ (vs := [.int (Builtin.bitNot a), .int b]) (EvL.cons (EvT.un (by walk_at "ev") UnV.inv) (by (repeat (first | exact EvL.nil | (apply EvL.cons; walk_at "ev"; case hst => rfl)))) rfl) (nonneg hA' hn0 hnb) rfl) (by (with_reducible (repeat (first | exact St.here' | exact St.hereC | apply St.there)))) (by (with_reducible (repeat (first | exact St.here' | exact St.hereC | apply St.there)))) (by (first | exact offMu.no | (apply offMu.dif; rfl))) (by (first | exact offMu.no | (apply offMu.dif; rfl))) (Seq.next ?_))
    refine XS.cons (X1.ret (EvT.tup (vs := [.int (a.fdiv b), .int (a.fmod b)]) (EvL.cons (EvT.cast (EvT.un (by walk_at "ev") UnV.inv) ?e1) (EvL.cons (EvT.cast (EvT.bin (by walk_at "ev") (EvT.un (by walk_at "ev") UnV.inv) BinV.add) ?e2) EvL.nil rfl) rfl) (by simp [cap])) (RetIs.ret rfl))
    case e1 =>
      rw [← h1.1, ← fdiv_nat, Int.toNat_of_nonneg hn0, Int.toNat_of_nonneg (by (first | lia | omega))]
    case e2 =>
      rw [← h1.2, ← fmod_nat, Int.toNat_of_nonneg hn0, Int.toNat_of_nonneg (by (first | lia | omega))]
theorem idm_neg {A : Around} {a b : Int} (hA : OkA A 16 52) (hb : b < 0) (ha5 : Builtin.Int.intBits a ≤ 499) (hb5 : Builtin.Int.intBits b ≤ 499) : CalV true A (.ref 56) [.int a, .int b] (.tup [.int ((-a).fdiv (-b)), .int (-((-a).fmod (-b)))]) := by
  refine CalV.ofDef (fd := fdOf 56) (ps := [S "a", S "b"]) (σ := [(S "a", .local, some (.int a)), (S "b", .local, some (.int b)), (S "q", .local, none), (S "r", .local, none)])
    ⟨fun w => ⟨_, _, _, by rfl⟩, (by intro w h X; exact codeRec_35 (c := 55) X (by rfl) (by rfl)), by rfl, (len2 fun a b => rfl), by decide, by rfl, by rfl, by rfl, by rfl, by rfl, by rfl, by rfl, by rfl⟩ (by have := hA.dp; (first | lia | omega)) rfl (by rfl) (by rfl) (by rfl) ?_
  intro w mg mb s L
  have hh : (A.deeper (callEnv (fdOf 56) L 56)).handled = none := hA.hd
  have hA' := OkA.deeper (OkA.le hA (show 15 + 1 ≤ 16 by (first | lia | omega)) (show 49 + 3 ≤ 52 by (first | lia | omega))) (callEnv (fdOf 56) L 56)
  refine XS.cons (X1.ite (by (first | (apply EvC.cmp; walk_at "ev"; walk_at "ev"; walk_at "cmp"; with_unfolding_all rfl) | (apply EvC.plain; walk_at "ev"; (first | exact TruV.int | exact TruV.bool | exact TruV.str | exact TruV.list); rfl) | (apply EvC.not; first | (apply EvC.cmp; walk_at "ev"; walk_at "ev"; walk_at "cmp"; with_unfolding_all rfl) | (apply EvC.plain; walk_at "ev"; (first | exact TruV.int | exact TruV.bool | exact TruV.str | exact TruV.list); rfl)))) (fun h => by simp at h; (first | lia | omega)) (fun _ => ?_))
  refine XS.cons (X1.ite (by (first | (apply EvC.cmp; walk_at "ev"; walk_at "ev"; walk_at "cmp"; with_unfolding_all rfl) | (apply EvC.plain; walk_at "ev"; (first | exact TruV.int | exact TruV.bool | exact TruV.str | exact TruV.list); rfl) | (apply EvC.not; first | (apply EvC.cmp; walk_at "ev"; walk_at "ev"; walk_at "cmp"; with_unfolding_all rfl) | (apply EvC.plain; walk_at "ev"; (first | exact TruV.int | exact TruV.bool | exact TruV.str | exact TruV.list); rfl)))) (fun _ => ?_) (fun h => by simp at h; (first | lia | omega)))
  refine XS.cons (X1.asgT (a := .int ((-a).fdiv (-b))) (b := .int ((-a).fmod (-b))) hh (EvT.callF g_idm (fd := fdOf 56) ⟨_, _, _, by rfl⟩ (vs := [.int (-a), .int (-b)]) (EvL.cons (EvT.un (by walk_at "ev") UnV.neg) (EvL.cons (EvT.un (by walk_at "ev") UnV.neg) EvL.nil rfl) rfl) (idm_pos hA' (by (first | lia | omega)) (intBits_neg_le ha5) (intBits_neg_le hb5)) rfl) (by (with_reducible (repeat (first | exact St.here' | exact St.hereC | apply St.there)))) (by (with_reducible (repeat (first | exact St.here' | exact St.hereC | apply St.there)))) (by (first | exact offMu.no | (apply offMu.dif; rfl))) (by (first | exact offMu.no | (apply offMu.dif; rfl))) (Seq.next ?_))
  exact XS.cons (X1.ret (EvT.tup (vs := [.int ((-a).fdiv (-b)), .int (-((-a).fmod (-b)))]) (EvL.cons (by walk_at "ev") (EvL.cons (EvT.un (by walk_at "ev") UnV.neg) EvL.nil rfl) rfl) (by simp [cap])) (RetIs.ret rfl))
-- part Mstr
open PySem PySem.W PyProof.Rows PySem.Calls
set_option maxHeartbeats 1000000
noncomputable def ltr (i : Nat) (b : Bool) : Nat := if b then 65 + i else 97 + i
noncomputable def chr (c : Nat) : Str := ⟨#[c]⟩
theorem lower_ltr : ∀ i < 5, ∀ b : Bool, Txt.lower (chr (ltr i b)) = chr (97 + i) := by decide +kernel
theorem str_ext {x y : Str} (h : x.cps.toList = y.cps.toList) : x = y := by
  obtain ⟨a⟩ := x; obtain ⟨b⟩ := y
  congr 1
  exact Array.ext' h
theorem str_beq {x y : Str} (h : (x == y) = true) : x = y := by simpa using h
theorem slice_drop {x : Str} {k : Int} (h0 : 0 ≤ k) (h1 : k ≤ x.length) : Txt.slice x (some k) none = ⟨(x.cps.toList.drop k.toNat).toArray⟩ := by
  rw [slice_from_eq h0 h1 rfl]
  congr 2
  refine List.take_of_length_le ?_
  rw [List.length_drop]
  show x.cps.toList.length - k.toNat ≤ ((x.length : Int) - k).toNat
  have : x.cps.toList.length = x.length := by simp [Str.length]
  (first | lia | omega)
theorem slice_take {x : Str} {k : Int} (h0 : 0 ≤ k) (h1 : k ≤ x.length) : Txt.slice x none (some k) = ⟨(x.cps.toList.take k.toNat).toArray⟩ := by
  have h := str_beq (slice_closes_toL h0 h1)
  rw [h]; simp
theorem slice_neg {x : Str} {k : Int} (h0 : 0 < k) (h1 : k ≤ x.length) : Txt.slice x none (some (-k)) = Txt.slice x none (some (x.length - k)) := by
  have e : Builtin.Str.strSliceIndices none (some (-k)) 1 x.length = Builtin.Str.strSliceIndices none (some ((x.length : Int) - k)) 1 x.length := by
    unfold Builtin.Str.strSliceIndices
    have h2 : ¬ ((x.length : Int) - k < 0) := by (first | lia | omega)
    have h3 : -k < 0 := by (first | lia | omega)
    have h4 : -k + (x.length : Int) = x.length - k := by (first | lia | omega)
    simp only [h2, h3, if_true, if_false, h4]
  unfold Txt.slice
  rw [e]
theorem slice_all {x : Str} : Txt.slice x none none = x := by
  have e : Builtin.Str.strSliceIndices none none 1 x.length = Builtin.Str.strSliceIndices none (some (x.length : Int)) 1 x.length := by
    unfold Builtin.Str.strSliceIndices
    have h2 : ¬ ((x.length : Int) < 0) := by (first | lia | omega)
    simp only [h2, if_false]
    congr 1
    have : max 0 (min (x.length : Int) x.length) = x.length := by (first | lia | omega)
    simp
  have h : Txt.slice x none none = Txt.slice x none (some (x.length : Int)) := by unfold Txt.slice; rw [e]
  rw [h, slice_take (by (first | lia | omega)) (Int.le_refl _)]
  apply str_ext
  show x.cps.toList.take ((x.length : Int)).toNat = x.cps.toList
  exact List.take_of_length_le (by simp [Str.length])
noncomputable def wd (f : Nat → Bool) (p e : Nat) : Str := ⟨((List.range' p (e - p)).map fun i => ltr i (f i)).toArray⟩
theorem wd_length (f : Nat → Bool) (p e : Nat) : (wd f p e).length = e - p := by simp [wd, Str.length]
theorem wd_drop {f : Nat → Bool} {p e k : Nat} (h : p + k ≤ e) : Txt.slice (wd f p e) (some (k : Int)) none = wd f (p + k) e := by
  rw [slice_drop (by (first | lia | omega)) (by rw [wd_length]; (first | lia | omega))]
  apply str_ext
  simp only [wd, Int.toNat_natCast]
  rw [← List.map_drop]
  congr 1
  apply List.ext_getElem
  · simp; (first | lia | omega)
  · intro i h1 h2
    simp
theorem wd_take {f : Nat → Bool} {p e k : Nat} (h : p + k ≤ e) : Txt.slice (wd f p e) none (some (k : Int)) = wd f p (p + k) := by
  rw [slice_take (by (first | lia | omega)) (by rw [wd_length]; (first | lia | omega))]
  apply str_ext
  simp only [wd, Int.toNat_natCast]
  rw [← List.map_take]
  congr 1
  apply List.ext_getElem
  · simp; (first | lia | omega)
  · intro i h1 h2
    simp
theorem wd_takeNeg {f : Nat → Bool} {p e k : Nat} (h0 : 0 < k) (h : p + k ≤ e) : Txt.slice (wd f p e) none (some (-(k : Int))) = wd f p (e - k) := by
  rw [slice_neg (by (first | lia | omega)) (by rw [wd_length]; (first | lia | omega)), wd_length]
  have e1 : (((e - p : Nat) : Int) - k) = ((e - p - k : Nat) : Int) := by (first | lia | omega)
  rw [e1, wd_take (by (first | lia | omega))]
  congr 1; (first | lia | omega)
theorem wd_get {f : Nat → Bool} {p e i : Nat} (h : p + i < e) : (wd f p e).cps[i]? = some (ltr (p + i) (f (p + i))) := by
  simp [wd, List.getElem?_map, List.getElem?_range' (show i < e - p by (first | lia | omega))]
theorem wd_item {f : Nat → Bool} {p e i : Nat} (h : p + i < e) : Txt.item (wd f p e) (i : Int) = chr (ltr (p + i) (f (p + i))) := by
  unfold Txt.item Txt.charAt chr
  have : seqIndex? (i : Int) (wd f p e).length = some i := by
    rw [wd_length]
    unfold seqIndex?
    have h1 : ¬ ((i : Int) < 0) := by (first | lia | omega)
    simp [h1]; (first | lia | omega)
  rw [this, Option.bind_some, wd_get h]; rfl
theorem wd_itemNeg {f : Nat → Bool} {p e k : Nat} (h0 : 0 < k) (h : p + k ≤ e) : Txt.item (wd f p e) (-(k : Int)) = chr (ltr (e - k) (f (e - k))) := by
  unfold Txt.item Txt.charAt chr
  have : seqIndex? (-(k : Int)) (wd f p e).length = some (e - p - k) := by
    rw [wd_length]
    unfold seqIndex?
    have h1 : -(k : Int) < 0 := by (first | lia | omega)
    simp [h1]; (first | lia | omega)
  rw [this, Option.bind_some, wd_get (by (first | lia | omega))]
  have e1 : p + (e - p - k) = e - k := by (first | lia | omega)
  rw [e1]; rfl
theorem ltr_inj {i : Nat} {a b : Bool} (h : ltr i a = ltr i b) : a = b := by
  cases a <;> cases b <;> simp [ltr] at h ⊢ <;> (first | lia | omega)
theorem chr_inj {a b : Nat} (h : chr a = chr b) : a = b := by
  have := congrArg Str.cps h
  simpa [chr] using this
theorem wd_eq {f g : Nat → Bool} {p e : Nat} : wd f p e = wd g p e ↔ ∀ i, p ≤ i → i < e → f i = g i := by
  constructor
  · intro h i h1 h2
    have h3 := wd_get (f := f) (p := p) (e := e) (i := i - p) (by (first | lia | omega))
    have h4 := wd_get (f := g) (p := p) (e := e) (i := i - p) (by (first | lia | omega))
    rw [h, h4] at h3
    have e1 : p + (i - p) = i := by (first | lia | omega)
    rw [e1] at h3
    exact (ltr_inj (Option.some.inj h3)).symm
  · intro h
    apply str_ext
    simp only [wd]
    apply List.map_congr_left
    intro i hi
    rw [List.mem_range'_1] at hi
    rw [h i hi.1 (by (first | lia | omega))]
-- part L23
open PySem PySem.W PyProof.Rows PySem.Calls PySem.SeqAt
set_option maxHeartbeats 1000000
theorem irels_of {P : Nat → Value → Prop} (f : Nat → IV) : ∀ (n : Nat) (vs : List Value), vs.length = n → (∀ (j : Nat) (v : Value), vs[j]? = some v → IRel (f j) v) → IRels ((List.range n).map f) vs
  | n, vs, hl, h => by
    have key : ∀ (vs : List Value) (k : Nat), (∀ (j : Nat) (v : Value), vs[j]? = some v → IRel (f (k + j)) v) → IRels ((List.range' k vs.length).map f) vs := by
      intro vs
      induction vs with
      | nil => intro k _; trivial
      | cons v vs ih =>
        intro k h
        refine ⟨by simpa using h 0 v rfl, ih (k + 1) fun j u hj => ?_⟩
        have := h (j + 1) u (by simpa using hj)
        rwa [show k + (j + 1) = k + 1 + j by (first | lia | omega)] at this
    have := key vs 0 (by simpa using h)
    rw [hl] at this
    rwa [List.range_eq_range']
section
variable {w : World} {mg mb : Str → Option Value} {t : Bool} {A : Around} {P : SP w mg mb t}
theorem EvF.listRange3 {pl pr pos pos2 : Pos} {ea eb ec : PySem.Expr} {a b c : Int} {n : Nat} (hh : A.handled = Option.none) (hl : EvL A P [ea, eb, ec] [.int a, .int b, .int c]) (hc : c ≠ 0) (hb : (b - a).natAbs < 1073741824 ∧ c.natAbs < 1073741824) (hs : Builtin.Range.small a b c = true) (hn : Builtin.Range.rangeSize a b c = n) (hlen : n ≤ cap)
    (hkl : P.env.kindOf (Str.ofString "list") = some .globalImplicit := by rfl) (hkr : P.env.kindOf (Str.ofString "range") = some .globalImplicit := by rfl)
    (he : starEach [PySem.Expr.Call (.Name (Str.ofString "range") pr) [ea, eb, ec] [] pos2] P.env = (false, eval (.Call (.Name (Str.ofString "range") pr) [ea, eb, ec] [] pos2) P.env) :: starEach [] P.env := by rfl)
    (he2 : starEach [ea, eb, ec] P.env = (false, eval ea P.env) :: starEach [eb, ec] P.env := by rfl) (hp2 : (backTo pos2 (starEach [eb, ec] P.env)).any (·.1) = false := by rfl) :
    EvF A P (.Call (.Name (Str.ofString "list") pl) [.Call (.Name (Str.ofString "range") pr) [ea, eb, ec] [] pos2] [] pos) ((List.range n).map fun (i : Nat) => IV.int (a + i * c)) := ⟨fun s Q E hs' h => by
  refine wpAny_Call_NameR (evBuiltin hkl n_list b_list hs' (callWith_type1 (spliced_more (wpAny_Call_NameR (evBuiltin hkr n_range b_range hs' (callWith_type1 (hl.run pos2 s _ _ hs' fun xs s₁ g₁ r₁ => ?_) he2 hp2) (by decide) (by decide))) he) he rfl) (by decide) (by decide))
  obtain ⟨u1, u2, u3, rfl, r1, r2, r3⟩ := mrels3 r₁
  obtain ⟨t1, rfl⟩ := IRel.int r1
  obtain ⟨t2, rfl⟩ := IRel.int r2
  obtain ⟨t3, rfl⟩ := IRel.int r3
  refine call_range_3 hc ?_ (.inl (PyProof.noPylong_small hb.2))
  refine spliced_none ?_
  have g₂ := g₁.trans (Go.push (tk := s₁.toks) g₁.base { cls := .type "range", data := .fields #[.int a t1, .int b t2, .int c t3] })
  have hr : IsRange (s₁.heap.push { cls := .type "range", data := .fields #[.int a t1, .int b t2, .int c t3] }) s₁.heap.objs.size a b c t1 t2 t3 := IsRange.new ..
  have hlen' := hlen
  simp only [cap] at hlen'
  refine call_list_range (n := n) hh hr hs hn (by (first | lia | omega)) fun h' tk acc' c' hk hS hI => ?_
  have g₃ := g₂.trans (Go.keep (tk := tk) g₂.base hk)
  have e : acc' = List.toArray acc'.toList := by simp
  rw [e] at hS
  refine h _ acc'.toList _ g₃ (g₂.none (Heap.get?_none_of_le (Nat.le_refl _))) ⟨c', hS⟩ (irels_of (P := fun _ _ => True) _ n _ (by simpa using hI.1) fun j v hv => ?_) (by simpa using hlen)
  obtain ⟨t, rfl⟩ := hI.2 j v (by simpa using hv)
  exact IRel.ofInt _ _⟩
end
theorem X1.forRange {C : Cx} {σ : List Ent} {mu : Mu} {Φ : Fl → Prop} {α : Type} {x : Str} {px pos : Pos} {iter : PySem.Expr} {body orelse : List Stmt} {n : Nat} (he : EvI C.A (C.P σ mu) (muX mu) iter ((List.range n).map fun (i : Nat) => IV.int i)) (σf : Nat → α → List Ent) (muf : Nat → α → Mu) (hX : ∀ i a, muX (muf i a) = muX mu) (Inv : Nat → α → Prop) (a₀ : α) (h0 : Wk σ (σf 0 a₀)) (hm : mu = muf 0 a₀) (hi : Inv 0 a₀)
    (turn : ∀ i a, i < n → Inv i a → ∃ σ₁, Mine.St (σf i a) x (.int i) σ₁ ∧ offMu (muf i a) x ∧ ∀ pr, XS (C.wp pr) σ₁ (muf i a) body (Turn (fun σ' mu' => ∃ a', Wk σ' (σf (i + 1) a') ∧ mu' = muf (i + 1) a' ∧ Inv (i + 1) a') Φ))
    (fin : ∀ a, Inv n a → XS C (σf n a) (muf n a) orelse Φ) (hs : ∀ y, foldedSetIterable iter C.env y = pure y := by intro _; rfl) : X1 C σ mu (.For (.Name x px) iter body orelse pos) Φ := by
  refine X1.for (α := Nat × α) he (fun r a => σf a.1 a.2) (fun a => muf a.1 a.2) (fun a => hX a.1 a.2) (fun r a => a.1 ≤ n ∧ r = ((List.range n).drop a.1).map (fun (i : Nat) => IV.int i) ∧ Inv a.1 a.2) (0, a₀) h0 hm ⟨Nat.zero_le _, by simp, hi⟩ ?_ ?_ hs
  · rintro v r ⟨i, a⟩ ⟨hle, hr, hinv⟩
    have hlt : i < n := by
      refine Nat.lt_of_le_of_ne hle fun e => ?_
      rw [show (i, a).1 = n from e, List.drop_eq_nil_of_le (by simp)] at hr
      simp at hr
    have hd : (List.range n).drop i = i :: (List.range n).drop (i + 1) := by
      rw [List.drop_eq_getElem_cons (by simpa using hlt)]; simp
    simp only [hd, List.map_cons, List.cons.injEq] at hr
    obtain ⟨rfl, rfl⟩ := hr
    obtain ⟨σ₁, h1, h2, h3⟩ := turn i a hlt hinv
    refine ⟨σ₁, h1, h2, fun pr => (h3 pr).mono fun fl hf => ?_⟩
    cases fl with
    | next σ' mu' => obtain ⟨a', e1, e2, e3⟩ := hf; exact ⟨(i + 1, a'), e1, e2, hlt, rfl, e3⟩
    | cont σ' mu' => obtain ⟨a', e1, e2, e3⟩ := hf; exact ⟨(i + 1, a'), e1, e2, hlt, rfl, e3⟩
    | brk σ' mu' => exact hf
    | ret v mu' => exact hf
  · rintro ⟨i, a⟩ ⟨hle, hr, hinv⟩
    have hi : i = n := by
      refine Nat.le_antisymm hle (Nat.le_of_not_lt fun hlt => ?_)
      have hd : (List.range n).drop i = i :: (List.range n).drop (i + 1) := by
        rw [List.drop_eq_getElem_cons (by simpa using hlt)]; simp
      simp only [hd] at hr
      cases hr
    subst hi
    exact fin a hinv
section
variable {C : Cx} {σ σ' : List Ent} {Φ : Fl → Prop} {x : Str} {px pos : Pos} {e : PySem.Expr} {a b c : Int}
theorem X1.addI (hx : Has σ x (.int a)) (he : EvT C.A (C.P σ none) e (.int b)) (hc : a + b = c) (hst : Mine.St σ x (.int c) σ') (h : Φ (.next σ' none)) (h1 : (x == Str.ofString "__classdict__") = false := by decide) : X1 C σ none (.AugAssign (.Name x px) .Add e pos) Φ := by
  subst hc
  refine X1.aug (mu := none) hx he ?_ hst trivial trivial h h1
  intro w mg mb s x y Q E B r1 r2 h
  obtain ⟨t1, rfl⟩ := IRel.int r1; obtain ⟨t2, rfl⟩ := IRel.int r2
  with_reducible exact PyProof.Rows.iadd_int (h _ _ (Go.tok B) (MRel.ofInt _ _))
theorem X1.subI (hx : Has σ x (.int a)) (he : EvT C.A (C.P σ none) e (.int b)) (hc : a - b = c) (hst : Mine.St σ x (.int c) σ') (h : Φ (.next σ' none)) (h1 : (x == Str.ofString "__classdict__") = false := by decide) : X1 C σ none (.AugAssign (.Name x px) .Sub e pos) Φ := by
  subst hc
  refine X1.aug (mu := none) hx he ?_ hst trivial trivial h h1
  intro w mg mb s x y Q E B r1 r2 h
  obtain ⟨t1, rfl⟩ := IRel.int r1; obtain ⟨t2, rfl⟩ := IRel.int r2
  with_reducible exact PyProof.Rows.isub_int (h _ _ (Go.tok B) (MRel.ofInt _ _))
end
-- part Mlev
open PySem PySem.W PyProof.Rows PySem.Calls
set_option maxHeartbeats 1000000
section
variable (f g : Nat → Bool) (p : Nat)
noncomputable def dl (i : Nat) : Nat := if f i = g i then 0 else 1
noncomputable def HH : Nat → Nat
  | 0 => 0
  | j + 1 => HH j + dl f g (p + j)
noncomputable def DD (i j : Nat) : Nat := 2 * (i - j) + 2 * (j - i) + HH f g p (min i j)
theorem dl_le (i : Nat) : dl f g i ≤ 1 := by unfold dl; split <;> (first | lia | omega)
theorem HH_step (j : Nat) : HH f g p j ≤ HH f g p (j + 1) ∧ HH f g p (j + 1) ≤ HH f g p j + 1 := by
  have := dl_le f g (p + j)
  show HH f g p j ≤ HH f g p j + dl f g (p + j) ∧ HH f g p j + dl f g (p + j) ≤ HH f g p j + 1
  (first | lia | omega)
theorem HH_mono {i j : Nat} (h : i ≤ j) : HH f g p i ≤ HH f g p j := by
  induction h with
  | refl => exact Nat.le_refl _
  | step _ ih => exact Nat.le_trans ih (HH_step f g p _).1
theorem DD_le {i j : Nat} (h : i ≤ j) : DD f g p i j = 2 * (j - i) + HH f g p i := by
  unfold DD; rw [Nat.min_eq_left h, Nat.sub_eq_zero_of_le h, Nat.mul_zero, Nat.zero_add]
theorem DD_ge {i j : Nat} (h : j ≤ i) : DD f g p i j = 2 * (i - j) + HH f g p j := by
  unfold DD; rw [Nat.min_eq_right h, Nat.sub_eq_zero_of_le h, Nat.mul_zero, Nat.add_zero]
theorem DD_up (i d : Nat) : DD f g p i (i + d) = 2 * d + HH f g p i := by rw [DD_le f g p (Nat.le_add_right i d), Nat.add_sub_cancel_left]
theorem DD_dn (j d : Nat) : DD f g p (j + d) j = 2 * d + HH f g p j := by rw [DD_ge f g p (Nat.le_add_right j d), Nat.add_sub_cancel_left]
theorem min_up {H K d : Nat} (h1 : H ≤ K) (h2 : K ≤ H + 1) : 2 * (d + 1) + K = min (min (2 * d + K) (2 * (d + 2) + H) + 2) (2 * (d + 1) + H + 2) := by (first | lia | omega)
theorem min_dn {H K d : Nat} (h1 : H ≤ K) (h2 : K ≤ H + 1) : 2 * (d + 1) + K = min (min (2 * (d + 2) + H) (2 * d + K) + 2) (2 * (d + 1) + H + 2) := by (first | lia | omega)
theorem min_eq {H e : Nat} (h : e ≤ 1) : 2 * 0 + (H + e) = min (min (2 * 1 + H) (2 * 1 + H) + 2) (2 * 0 + H + e) := by (first | lia | omega)
theorem min_z0 {e : Nat} (h : e ≤ 1) : 2 * 0 + (0 + e) = min (min (2 * 0) (2 * 1 + 0) + 2) (2 * 0 + 0 + e) := by (first | lia | omega)
theorem min_z {K i : Nat} (h : K ≤ 1) : 2 * (i + 1) + K = min (min (2 * (i + 1)) (2 * i + K) + 2) (2 * (i + 1) + 0 + 2) := by (first | lia | omega)
theorem HH_one : HH f g p 1 ≤ 1 := (HH_step f g p 0).2
theorem DD_rec (i j : Nat) : DD f g p (i + 1) (j + 1) = min (min (if j = 0 then 2 * i else DD f g p (i + 1) j) (DD f g p i (j + 1)) + 2) (DD f g p i j + if i = j then dl f g (p + i) else 2) := by
  have h3 := dl_le f g (p + i)
  have hone := HH_one f g p
  by_cases hj : j = 0
  · subst hj
    rw [if_pos rfl]
    cases i with
    | zero =>
      rw [if_pos rfl]
      show DD f g p (1 + 0) 1 = min (min (2 * 0) (DD f g p 0 (0 + 1)) + 2) (DD f g p (0 + 0) 0 + dl f g (p + 0))
      rw [DD_dn, DD_up, DD_dn]
      exact min_z0 h3
    | succ i =>
      rw [if_neg (Nat.succ_ne_zero i)]
      show DD f g p (i + 1 + 1) 1 = min (min (2 * (i + 1)) (DD f g p (i + 1) 1) + 2) (DD f g p (i + 1) 0 + 2)
      rw [show DD f g p (i + 1 + 1) 1 = 2 * (i + 1) + HH f g p 1 by rw [← DD_dn f g p 1 (i + 1), Nat.add_comm 1], show DD f g p (i + 1) 1 = 2 * i + HH f g p 1 by rw [← DD_dn f g p 1 i, Nat.add_comm 1], show DD f g p (i + 1) 0 = 2 * (i + 1) + 0 by have := DD_dn f g p 0 (i + 1); rwa [Nat.zero_add] at this]
      exact min_z hone
  · rw [if_neg hj]
    rcases Nat.lt_trichotomy i j with h | h | h
    · obtain ⟨d, rfl⟩ := Nat.exists_eq_add_of_le h
      have h1 := HH_step f g p i
      rw [if_neg (Nat.ne_of_lt h)]
      show DD f g p (i + 1) ((i + 1) + (d + 1)) = min (min (DD f g p (i + 1) ((i + 1) + d)) (DD f g p i (i + 1 + d + 1)) + 2) (DD f g p i (i + 1 + d) + 2)
      rw [show i + 1 + d = i + (d + 1) by rw [Nat.add_assoc, Nat.add_comm 1], DD_up]
      show _ = min (min (DD f g p (i + 1) (i + (d + 1))) (DD f g p i (i + (d + 2))) + 2) (DD f g p i (i + (d + 1)) + 2)
      rw [DD_up, DD_up, show i + (d + 1) = (i + 1) + d by rw [Nat.add_assoc, Nat.add_comm 1], DD_up]
      exact min_up h1.1 h1.2
    · subst h
      rw [if_pos rfl]
      show DD f g p (i + 1 + 0) (i + 1) = min (min (DD f g p (i + 1) i) (DD f g p i (i + 1)) + 2) (DD f g p (i + 0) i + dl f g (p + i))
      rw [DD_dn, DD_dn, DD_up, DD_dn]
      exact min_eq h3
    · obtain ⟨d, rfl⟩ := Nat.exists_eq_add_of_le h
      have h1 := HH_step f g p j
      rw [if_neg (Nat.ne_of_gt h)]
      show DD f g p ((j + 1) + (d + 1)) (j + 1) = min (min (DD f g p (j + 1 + d + 1) j) (DD f g p ((j + 1) + d) (j + 1)) + 2) (DD f g p (j + 1 + d) j + 2)
      rw [DD_dn, DD_dn, show j + 1 + d = j + (d + 1) by rw [Nat.add_assoc, Nat.add_comm 1]]
      show _ = min (min (DD f g p (j + (d + 2)) j) _ + 2) _
      rw [DD_dn, DD_dn]
      exact min_dn h1.1 h1.2
/-- the least of a row so far -/
noncomputable def MM (i j : Nat) : Nat := if j = 0 then 9223372036854775807 else DD f g p (i + 1) (min j (i + 1))
theorem HH_le (j : Nat) : HH f g p j ≤ j := by
  induction j with
  | zero => exact Nat.le_refl _
  | succ j ih => have := (HH_step f g p j).2; (first | lia | omega)
theorem MM_rec {i j : Nat} (hi : i < 100) (hj : j < 100) : MM f g p i (j + 1) = if DD f g p (i + 1) (j + 1) < MM f g p i j then DD f g p (i + 1) (j + 1) else MM f g p i j := by
  unfold MM
  rw [if_neg (by (first | lia | omega))]
  have h2 := HH_step f g p j
  have hH := HH_le f g p (i + 1)
  have hH2 := HH_le f g p (j + 1)
  by_cases h : j + 1 ≤ i + 1
  · rw [Nat.min_eq_left h, DD_ge f g p h]
    by_cases hj0 : j = 0
    · rw [if_pos hj0, if_pos (by (first | lia | omega))]
    · rw [if_neg hj0, Nat.min_eq_left (by (first | lia | omega)), DD_ge f g p (show j ≤ i + 1 by (first | lia | omega)), if_pos (by (first | lia | omega))]
  · rw [Nat.min_eq_right (by (first | lia | omega)), if_neg (by (first | lia | omega) : ¬ j = 0), Nat.min_eq_right (by (first | lia | omega)), DD_le f g p (Nat.le_refl (i + 1)), DD_le f g p (show i + 1 ≤ j + 1 by (first | lia | omega)), if_neg (by (first | lia | omega))]
theorem MM_end {i n : Nat} (h : i + 1 ≤ n) : MM f g p i n = HH f g p (i + 1) := by
  unfold MM
  rw [if_neg (by (first | lia | omega)), Nat.min_eq_right h, DD_le f g p (Nat.le_refl _)]; (first | lia | omega)
end
theorem sub_ltr {i j : Nat} (hi : i < 5) (hj : j < 5) (a b : Bool) : subCost (chr (ltr i a)) (chr (ltr j b)) = ((if i = j then (if a = b then 0 else 1) else 2 : Nat) : Int) := by
  unfold subCost
  rw [lower_ltr i hi, lower_ltr j hj]
  by_cases h : i = j
  · subst h
    by_cases hab : a = b
    · subst hab; simp
    · have hne : chr (ltr i a) ≠ chr (ltr i b) := fun e => hab (ltr_inj (chr_inj e))
      simp [hne, hab]
  · have hne : chr (ltr i a) ≠ chr (ltr j b) := fun e => by
      have := chr_inj e
      unfold ltr at this
      split at this <;> split at this <;> (first | lia | omega)
    have hne2 : chr (97 + i) ≠ chr (97 + j) := fun e => by have := chr_inj e; (first | lia | omega)
    simp [hne, hne2, h]
-- part Glev
open PySem PySem.W PyProof.Rows PySem.Calls
set_option maxHeartbeats 2000000
/-- what the distance, bound by m, is told to be -/
noncomputable def levV (f g : Nat → Bool) (m : Int) : Int := if wd f 0 5 = wd g 0 5 then 0 else if ((HH f g 0 5 : Nat) : Int) ≤ m then ((HH f g 0 5 : Nat) : Int) else m + 1
theorem HH_off (f g : Nat → Bool) (p : Nat) : ∀ (n : Nat), HH f g 0 (p + n) = HH f g 0 p + HH f g p n
  | 0 => by simp [HH]
  | n + 1 => by
    show HH f g 0 (p + n) + dl f g (0 + (p + n)) = _
    rw [HH_off f g p n]
    simp only [HH, Nat.zero_add]; (first | lia | omega)
theorem HH_zero (f g : Nat → Bool) (p : Nat) : ∀ (n : Nat), (∀ i, p ≤ i → i < p + n → f i = g i) → HH f g p n = 0
  | 0, _ => rfl
  | n + 1, h => by
    show HH f g p n + dl f g (p + n) = 0
    rw [HH_zero f g p n fun i h1 h2 => h i h1 (by (first | lia | omega))]
    simp [dl, h (p + n) (by (first | lia | omega)) (by (first | lia | omega))]
/-- the first and the last place where the words part -/
theorem ends (f g : Nat → Bool) (h : wd f 0 5 ≠ wd g 0 5) : ∃ p e, p < e ∧ e ≤ 5 ∧ (∀ i, i < p → f i = g i) ∧ f p ≠ g p ∧ (∀ i, e ≤ i → i < 5 → f i = g i) ∧ f (e - 1) ≠ g (e - 1) := by
  have hex : ∃ i, i < 5 ∧ f i ≠ g i := by
    apply Classical.byContradiction
    intro hn
    refine h (wd_eq.mpr fun i _ hi => ?_)
    apply Classical.byContradiction
    intro hne
    exact hn ⟨i, hi, hne⟩
  obtain ⟨i, hi, hne⟩ := hex
  have first : ∀ n, (∀ i, i < n → f i = g i) ∨ ∃ p, p < n ∧ (∀ i, i < p → f i = g i) ∧ f p ≠ g p := by
    intro n
    induction n with
    | zero => exact .inl fun i hi => absurd hi (Nat.not_lt_zero _)
    | succ n ih =>
      rcases ih with ih | ⟨p, h1, h2, h3⟩
      · by_cases hn : f n = g n
        · exact .inl fun i hi => (Nat.lt_succ_iff_lt_or_eq.mp hi).elim (ih i) fun e => e ▸ hn
        · exact .inr ⟨n, Nat.lt_succ_self _, ih, hn⟩
      · exact .inr ⟨p, Nat.lt_succ_of_lt h1, h2, h3⟩
  have last : ∀ k, k ≤ 5 → (∀ i, 5 - k ≤ i → i < 5 → f i = g i) ∨ ∃ e, 5 - k < e ∧ e ≤ 5 ∧ (∀ i, e ≤ i → i < 5 → f i = g i) ∧ f (e - 1) ≠ g (e - 1) := by
    intro k
    induction k with
    | zero => intro _; exact .inl fun i h1 h2 => absurd h2 (by (first | lia | omega))
    | succ k ih =>
      intro hk
      rcases ih (by (first | lia | omega)) with ih | ⟨e, h1, h2, h3, h4⟩
      · by_cases hn : f (5 - (k + 1)) = g (5 - (k + 1))
        · refine .inl fun i h1 h2 => ?_
          by_cases hi : i = 5 - (k + 1)
          · rw [hi]; exact hn
          · exact ih i (by (first | lia | omega)) h2
        · refine .inr ⟨5 - k, by (first | lia | omega), by (first | lia | omega), ih, ?_⟩
          rw [show 5 - k - 1 = 5 - (k + 1) by (first | lia | omega)]; exact hn
      · exact .inr ⟨e, by (first | lia | omega), h2, h3, h4⟩
  rcases first 5 with h1 | ⟨p, hp, h2, h3⟩
  · exact absurd (h1 i hi) hne
  · rcases last 5 (Nat.le_refl _) with h1 | ⟨e, _, he, h4, h5⟩
    · exact absurd (h1 i (by (first | lia | omega)) hi) hne
    · refine ⟨p, e, ?_, he, h2, h3, h4, h5⟩
      apply Classical.byContradiction
      intro hle
      exact h5 (h2 (e - 1) (by
        have : 0 < e := by
          apply Classical.byContradiction
          intro h0
          have h0 : e = 0 := by (first | lia | omega)
          subst h0
          exact hne (h4 i (by (first | lia | omega)) hi)
        (first | lia | omega)))
theorem orNone {w : World} {mg mb : Str → Option Value} {t : Bool} {A : Around} {P : SP w mg mb t} {ex : PySem.Expr} {j k : Nat} {p1 p2 : Pos} (hx : EvT A P ex (.int (-(j : Int)))) : EvP A P (some (.BoolOp .Or [ex, .Constant .none k p1] p2)) (if j = 0 then none else some (-(j : Int))) := by
  by_cases h : j = 0
  · subst h
    rw [if_pos rfl]
    exact EvP.some (EvT.or2 (v := .none) hx TruV.int (fun q => by simp at q) fun _ => EvT.none) .none
  · rw [if_neg h]
    exact EvP.some (EvT.or2 (v := .int (-(j : Int))) hx TruV.int (fun _ => rfl) fun q => by simp at q; (first | lia | omega)) .int
theorem wd_orNone {f : Nat → Bool} {p e j : Nat} (h : p + j ≤ e) : Txt.slice (wd f p e) none (if j = 0 then none else some (-(j : Int))) = wd f p (e - j) := by
  by_cases hj : j = 0
  · subst hj; rw [if_pos rfl, slice_all]; rfl
  · rw [if_neg hj, wd_takeNeg (by (first | lia | omega)) h]
noncomputable abbrev levS (a b : Str) (m : Int) (pre post : Option MV) (result bindex bchar distance minimum index sub ins : Option MV) : List Ent :=
  [(S "a", .local, some (.str a)), (S "b", .local, some (.str b)), (S "max_cost", .local, some (.int m)), (S "pre", .local, pre), (S "post", .local, post), (S "row", .local, none), (S "result", .local, result), (S "bindex", .local, bindex), (S "bchar", .local, bchar), (S "distance", .local, distance), (S "minimum", .local, minimum), (S "index", .local, index), (S "substitute", .local, sub), (S "insert_delete", .local, ins)]
noncomputable def rowAt (f g : Nat → Bool) (k n i j : Nat) : List IV := (List.range n).map fun c => IV.int ((if c < j then DD f g k (i + 1) (c + 1) else DD f g k i (c + 1) : Nat) : Int)
theorem rowAt_len (f g : Nat → Bool) (k n i j : Nat) : (rowAt f g k n i j).length = n := by simp [rowAt]
theorem rowAt_get (f g : Nat → Bool) {k n i j c : Nat} (h : c < n) : (rowAt f g k n i j)[c]? = some (IV.int ((if c < j then DD f g k (i + 1) (c + 1) else DD f g k i (c + 1) : Nat) : Int)) := by
  simp [rowAt, h]
theorem rowAt_set (f g : Nat → Bool) {k n i j : Nat} (h : j < n) : (rowAt f g k n i j).set j (.int ((DD f g k (i + 1) (j + 1) : Nat) : Int)) = rowAt f g k n i (j + 1) := by
  apply List.ext_getElem?
  intro c
  by_cases hc : c < n
  · rw [List.getElem?_set, rowAt_get f g hc, rowAt_len]
    by_cases hj : j = c
    · subst hj
      rw [if_pos rfl, if_pos h, rowAt_get f g hc, if_pos (by (first | lia | omega))]
    · rw [if_neg hj, rowAt_get f g hc]
      by_cases h2 : c < j
      · rw [if_pos h2, if_pos (by (first | lia | omega))]
      · rw [if_neg h2, if_neg (by (first | lia | omega))]
  · rw [List.getElem?_eq_none (by simp [rowAt_len]; (first | lia | omega)), List.getElem?_eq_none (by simp [rowAt_len]; (first | lia | omega))]
theorem rowAt_next (f g : Nat → Bool) (k n i : Nat) : rowAt f g k n i n = rowAt f g k n (i + 1) 0 := by
  apply List.map_congr_left
  intro c hc
  rw [List.mem_range] at hc
  rw [if_pos hc, if_neg (by (first | lia | omega))]
theorem rowAt_zero (f g : Nat → Bool) (k n : Nat) : ((List.range n).map fun (i : Nat) => IV.int (2 + i * 2)) = rowAt f g k n 0 0 := by
  apply List.map_congr_left
  intro c hc
  rw [if_neg (by (first | lia | omega)), DD_le f g k (Nat.zero_le _)]
  have : HH f g k 0 = 0 := rfl
  rw [this]
  congr 1; (first | lia | omega)
theorem small5 : ∀ n < 6, Builtin.Range.small 2 (2 * ((n : Nat) + 1 : Int)) 2 = true := by decide
theorem size5 : ∀ n < 6, Builtin.Range.rangeSize 2 (2 * ((n : Nat) + 1 : Int)) 2 = n := by decide
theorem lev_spec {t : Bool} {A : Around} {f g : Nat → Bool} {m : Int} (hA : OkA A 1 3) : CalV t A (.ref 104) [.str (wd f 0 5), .str (wd g 0 5), .int m] (.int (levV f g m)) := by
  refine CalV.ofDef (fd := fdOf 104) (ps := [S "a", S "b", S "max_cost"]) (σ := levS (wd f 0 5) (wd g 0 5) m none none none none none none none none none none)
    ⟨fun w => ⟨_, _, _, by rfl⟩, (by intro w h X; exact codeRec_35 (c := 103) X (by rfl) (by rfl)), by rfl, (len3 fun a b c => rfl), by decide, by rfl, by rfl, by rfl, by rfl, by rfl, by rfl, by rfl, by rfl⟩ (by have := hA.dp; (first | lia | omega)) rfl (by rfl) (by rfl) (by rfl) ?_
  intro w mg mb s L
  have hh : (A.deeper (callEnv (fdOf 104) L 104)).handled = none := hA.hd
  have hA' := OkA.deeper hA (callEnv (fdOf 104) L 104)
  refine XS.cons (X1.ite (by (first | (apply EvC.cmp; walk_at "ev"; walk_at "ev"; walk_at "cmp"; with_unfolding_all rfl) | (apply EvC.plain; walk_at "ev"; (first | exact TruV.int | exact TruV.bool | exact TruV.str | exact TruV.list); rfl) | (apply EvC.not; first | (apply EvC.cmp; walk_at "ev"; walk_at "ev"; walk_at "cmp"; with_unfolding_all rfl) | (apply EvC.plain; walk_at "ev"; (first | exact TruV.int | exact TruV.bool | exact TruV.str | exact TruV.list); rfl)))) (fun hb => ?_) (fun hb => ?_))
  · have e : wd f 0 5 = wd g 0 5 := by simpa using hb
    refine XS.cons (X1.ret EvT.int (RetIs.ret ?_))
    rw [levV, if_pos e]
  have hne : wd f 0 5 ≠ wd g 0 5 := by simpa using hb
  obtain ⟨p, e, hpe, he5, hf1, hf2, hl1, hl2⟩ := ends f g hne
  refine XS.nil (Seq.next ?_)
  refine XS.cons (X1.asg EvT.int (by (with_reducible (repeat (first | exact St.here' | exact St.hereC | apply St.there)))) trivial trivial (Seq.next ?_) rfl)
  -- the equal letters ahead
  refine XS.cons (X1.whl (α := Nat) (fun k => levS (wd f 0 5) (wd g 0 5) m (some (.int k)) none none none none none none none none none) (fun _ => none) (fun k => p - k) (fun k => k ≤ p) 0 (by (repeat (first | with_reducible exact Wk.nil | with_reducible apply Wk.keep | with_reducible apply Wk.drop | (apply Wk.keepE (by rfl))))) rfl (Nat.zero_le _) ?w1)
  case w1 =>
    intro k hk
    have i1 := wd_item (f := f) (p := 0) (e := 5) (i := k) (by (first | lia | omega))
    have i2 := wd_item (f := g) (p := 0) (e := 5) (i := k) (by (first | lia | omega))
    refine ⟨_, EvC.boolop (EvA.and_cons (EvC.plain (EvT.strSlice (by walk_at "ev") (EvP.some (by walk_at "ev") .int) EvP.none) TruV.str) fun _ => EvA.and_cons (EvC.plain (EvT.strSlice (by walk_at "ev") (EvP.some (by walk_at "ev") .int) EvP.none) TruV.str) fun _ => EvA.and_cons (EvC.cmp (EvT.sub (by walk_at "ev") (by walk_at "ev") (GetV.str (by (first | lia | omega)) (by rw [wd_length]; (first | lia | omega)))) (EvT.sub (by walk_at "ev") (by walk_at "ev") (GetV.str (by (first | lia | omega)) (by rw [wd_length]; (first | lia | omega)))) CmpV.eqS) fun _ => EvA.and_nil), fun hb => ?_, fun hb => ?_⟩
    · rw [i1, i2] at hb
      have hkp : k ≠ p := fun q => by
        subst q
        simp only [Bool.and_eq_true, beq_iff_eq] at hb
        exact hf2 (by have := ltr_inj (chr_inj hb.2.2.1); simpa using this)
      refine XS.cons (X1.addI (c := ((k + 1 : Nat) : Int)) (by walk_at "has") EvT.int (by (first | lia | omega)) (by (with_reducible (repeat (first | exact St.here' | exact St.hereC | apply St.there)))) (Seq.next (XS.nil (Turn.nx ⟨k + 1, by (repeat (first | with_reducible exact Wk.nil | with_reducible apply Wk.keep | with_reducible apply Wk.drop | (apply Wk.keepE (by rfl)))), rfl, by (first | lia | omega), by (first | lia | omega)⟩))))
    · rw [i1, i2] at hb
      have hkp : k = p := by
        apply Classical.byContradiction
        intro hn
        have hkp : k < p := by (first | lia | omega)
        have l1 : (Txt.slice (wd f 0 5) (some (k : Int)) none).length = 5 - k := by rw [wd_drop (by (first | lia | omega)), wd_length]; (first | lia | omega)
        have l2 : (Txt.slice (wd g 0 5) (some (k : Int)) none).length = 5 - k := by rw [wd_drop (by (first | lia | omega)), wd_length]; (first | lia | omega)
        rw [l1, l2, Nat.zero_add, hf1 k hkp] at hb
        have h5 : (((5 - k : Nat) : Int) != 0) = true := by simp; (first | lia | omega)
        rw [h5] at hb
        simp at hb
      subst hkp
      refine XS.nil (Seq.next ?_)
      refine XS.cons (X1.asg (v := .str (wd f k 5)) (EvT.cast (EvT.strSlice (by walk_at "ev") (EvP.some (by walk_at "ev") .int) EvP.none) (by rw [wd_drop (by (first | lia | omega)), Nat.zero_add])) (by (with_reducible (repeat (first | exact St.here' | exact St.hereC | apply St.there)))) trivial trivial (Seq.next ?_) rfl)
      refine XS.cons (X1.asg (v := .str (wd g k 5)) (EvT.cast (EvT.strSlice (by walk_at "ev") (EvP.some (by walk_at "ev") .int) EvP.none) (by rw [wd_drop (by (first | lia | omega)), Nat.zero_add])) (by (with_reducible (repeat (first | exact St.here' | exact St.hereC | apply St.there)))) trivial trivial (Seq.next ?_) rfl)
      refine XS.cons (X1.asg EvT.int (by (with_reducible (repeat (first | exact St.here' | exact St.hereC | apply St.there)))) trivial trivial (Seq.next ?_) rfl)
      -- the equal letters behind
      refine XS.cons (X1.whl (α := Nat) (fun j => levS (wd f k 5) (wd g k 5) m (some (.int k)) (some (.int (-(j : Int)))) none none none none none none none none) (fun _ => none) (fun j => 5 - e - j) (fun j => j ≤ 5 - e) 0 (by (repeat (first | with_reducible exact Wk.nil | with_reducible apply Wk.keep | with_reducible apply Wk.drop | (apply Wk.keepE (by rfl))))) rfl (Nat.zero_le _) ?w2)
      case w2 =>
        intro j hj
        have i1 := wd_itemNeg (f := f) (p := k) (e := 5) (k := j + 1) (by (first | lia | omega)) (by (first | lia | omega))
        have i2 := wd_itemNeg (f := g) (p := k) (e := 5) (k := j + 1) (by (first | lia | omega)) (by (first | lia | omega))
        have ej : (-(j : Int)) - 1 = -((j + 1 : Nat) : Int) := by (first | lia | omega)
        refine ⟨_, EvC.boolop (EvA.and_cons (EvC.plain (EvT.strSlice (by walk_at "ev") EvP.none (orNone (by walk_at "ev"))) TruV.str) fun _ => EvA.and_cons (EvC.plain (EvT.strSlice (by walk_at "ev") EvP.none (orNone (by walk_at "ev"))) TruV.str) fun _ => EvA.and_cons (EvC.cmp (EvT.sub (by walk_at "ev") (EvT.cast (by walk_at "ev") (by rw [ej])) (GetV.str (by rw [wd_length]; (first | lia | omega)) (by (first | lia | omega)))) (EvT.sub (by walk_at "ev") (EvT.cast (by walk_at "ev") (by rw [ej])) (GetV.str (by rw [wd_length]; (first | lia | omega)) (by (first | lia | omega)))) CmpV.eqS) fun _ => EvA.and_nil), fun hb => ?_, fun hb => ?_⟩
        · rw [i1, i2] at hb
          have hje : j ≠ 5 - e := fun q => by
            simp only [Bool.and_eq_true, beq_iff_eq] at hb
            have := ltr_inj (chr_inj hb.2.2.1)
            rw [show 5 - (j + 1) = e - 1 by rw [q, Nat.sub_add_eq, Nat.sub_sub_self he5]] at this
            exact hl2 this
          refine XS.cons (X1.subI (c := -((j + 1 : Nat) : Int)) (by walk_at "has") EvT.int (by (first | lia | omega)) (by (with_reducible (repeat (first | exact St.here' | exact St.hereC | apply St.there)))) (Seq.next (XS.nil (Turn.nx ⟨j + 1, by (repeat (first | with_reducible exact Wk.nil | with_reducible apply Wk.keep | with_reducible apply Wk.drop | (apply Wk.keepE (by rfl)))), rfl, by (first | lia | omega), by (first | lia | omega)⟩))))
        · rw [i1, i2, wd_orNone (by (first | lia | omega)), wd_orNone (by (first | lia | omega)), wd_length, wd_length] at hb
          have hje : j = 5 - e := by
            apply Classical.byContradiction
            intro hn
            have hj2 : j < 5 - e := by (first | lia | omega)
            rw [hl1 (5 - (j + 1)) (by (first | lia | omega)) (by (first | lia | omega))] at hb
            have h5 : (((5 - j - k : Nat) : Int) != 0) = true := by simp; (first | lia | omega)
            rw [h5] at hb
            simp at hb
          have he : 5 - j = e := by rw [hje, Nat.sub_sub_self he5]
          refine XS.nil (Seq.next ?_)
          refine XS.cons (X1.asg (v := .str (wd f k e)) (EvT.cast (EvT.strSlice (by walk_at "ev") EvP.none (orNone (by walk_at "ev"))) (by rw [wd_orNone (by (first | lia | omega)), he])) (by (with_reducible (repeat (first | exact St.here' | exact St.hereC | apply St.there)))) trivial trivial (Seq.next ?_) rfl)
          refine XS.cons (X1.asg (v := .str (wd g k e)) (EvT.cast (EvT.strSlice (by walk_at "ev") EvP.none (orNone (by walk_at "ev"))) (by rw [wd_orNone (by (first | lia | omega)), he])) (by (with_reducible (repeat (first | exact St.here' | exact St.hereC | apply St.there)))) trivial trivial (Seq.next ?_) rfl)
          obtain ⟨n, hn⟩ : ∃ n, n = e - k := ⟨_, rfl⟩
          have hkn : k + n = e := by rw [hn]; exact Nat.add_sub_of_le (Nat.le_of_lt hpe)
          have hn1 : 1 ≤ n := by rw [hn]; exact Nat.sub_pos_of_lt hpe
          have hkn5 : k + n ≤ 5 := hkn ▸ he5
          have hn5 : n ≤ 5 := Nat.le_trans (Nat.le_add_left n k) hkn5
          have lf : (wd f k e).length = n := by rw [wd_length]; (first | lia | omega)
          have lg : (wd g k e).length = n := by rw [wd_length]; (first | lia | omega)
          have nz : (((n : Nat) : Int) != 0) = true := by simp; (first | lia | omega)
          refine XS.cons (X1.ite (EvC.boolop (EvA.or_cons (EvC.not (EvC.plain (by walk_at "ev") TruV.str)) fun _ => EvA.or_cons (EvC.not (EvC.plain (by walk_at "ev") TruV.str)) fun _ => EvA.or_nil)) (fun hb => by rw [lf, lg, nz] at hb; simp at hb) fun _ => XS.nil (Seq.next ?_))
          refine XS.cons (X1.ite (EvC.boolop (EvA.or_cons (EvC.cmp (EvT.callB n_len b_len (by (repeat (first | exact EvL.nil | (apply EvL.cons; walk_at "ev"; case hst => rfl)))) CalV.lenS rfl) (by walk_at "ev") CmpV.gtI) fun _ => EvA.or_cons (EvC.cmp (EvT.callB n_len b_len (by (repeat (first | exact EvL.nil | (apply EvL.cons; walk_at "ev"; case hst => rfl)))) CalV.lenS rfl) (by walk_at "ev") CmpV.gtI) fun _ => EvA.or_nil)) (fun hb => by rw [lf, lg] at hb; simp at hb; (first | lia | omega)) fun _ => XS.nil (Seq.next ?_))
          refine XS.cons (X1.ite (EvC.cmp (EvT.callB n_len b_len (by (repeat (first | exact EvL.nil | (apply EvL.cons; walk_at "ev"; case hst => rfl)))) CalV.lenS rfl) (EvT.callB n_len b_len (by (repeat (first | exact EvL.nil | (apply EvL.cons; walk_at "ev"; case hst => rfl)))) CalV.lenS rfl) CmpV.ltI) (fun hb => by rw [lf, lg] at hb; simp at hb) fun _ => XS.nil (Seq.next ?_))
          have hH : HH f g 0 5 = HH f g k n := by
            have h1 := HH_off f g k (5 - k)
            rw [Nat.add_sub_of_le (Nat.le_trans (Nat.le_add_right k n) hkn5)] at h1
            have h2 : HH f g 0 k = 0 := HH_zero f g 0 k fun i _ hi => hf1 i (by (first | lia | omega))
            have h3 : HH f g k (5 - k) = HH f g k n := by
              have : ∀ q, HH f g k (n + q) = HH f g k n ∨ 5 - k < n + q := by
                intro q
                induction q with
                | zero => exact .inl rfl
                | succ q ih =>
                  rcases ih with ih | ih
                  · by_cases hq : 5 - k < n + (q + 1)
                    · exact .inr hq
                    · left
                      show HH f g k (n + q) + dl f g (k + (n + q)) = _
                      rw [ih, dl, if_pos (hl1 _ (by (first | lia | omega)) (by (first | lia | omega)))]; rfl
                  · exact .inr (by (first | lia | omega))
              have h4 := this (5 - k - n)
              rw [Nat.add_sub_of_le (Nat.le_sub_of_add_le' hkn5)] at h4
              exact h4.resolve_right (by (first | lia | omega))
            (first | lia | omega)
          have hpos : 1 ≤ HH f g k n := by
            have h1 := HH_mono f g k hn1
            have h2 : HH f g k 1 = 1 := by show 0 + dl f g (k + 0) = 1; rw [dl, if_neg (by simpa using hf2)]
            (first | lia | omega)
          have hval : levV f g m = if ((HH f g k n : Nat) : Int) ≤ m then ((HH f g k n : Nat) : Int) else m + 1 := by rw [levV, if_neg hne, hH]
          refine XS.cons (X1.ite (EvC.cmp (EvT.bin (EvT.bin (EvT.callB n_len b_len (by (repeat (first | exact EvL.nil | (apply EvL.cons; walk_at "ev"; case hst => rfl)))) CalV.lenS rfl) (EvT.callB n_len b_len (by (repeat (first | exact EvL.nil | (apply EvL.cons; walk_at "ev"; case hst => rfl)))) CalV.lenS rfl) BinV.sub) (by walk_at "ev") (BinV.mul (IntMulOk.of_right (by decide)))) (by walk_at "ev") CmpV.gtI) (fun hb => ?_) (fun hb => XS.nil (Seq.next ?_)))
          · rw [lf, lg] at hb
            simp at hb
            refine XS.cons (X1.ret (by walk_at "ev") (RetIs.ret ?_))
            rw [hval, if_neg (by (first | lia | omega))]
          rw [lf, lg] at hb
          have hm0 : 0 ≤ m := by simp at hb; (first | lia | omega)
          clear hb
          refine XS.cons (X1.asgMu (vs := rowAt f g k n 0 0) (EvF.cast (EvF.listRange3 (a := 2) (b := 2 * ((n : Int) + 1)) (c := 2) (n := n) hh (EvL.cons (by walk_at "ev") (EvL.cons (EvT.cast (EvT.bin (by walk_at "ev") (EvT.bin (EvT.callB n_len b_len (by (repeat (first | exact EvL.nil | (apply EvL.cons; walk_at "ev"; case hst => rfl)))) CalV.lenS rfl) (by walk_at "ev") BinV.add) (BinV.mul (IntMulOk.of_left (by decide)))) (by rw [lf])) (EvL.cons (by walk_at "ev") EvL.nil rfl) rfl) rfl) (by decide) (by (first | lia | omega)) ?small ?size (by simp [cap]; (first | lia | omega))) (by rw [rowAt_zero f g k n])) (by (with_reducible (repeat (first | exact St.here' | exact St.hereC | apply St.there)))) (by (with_reducible (repeat (first | exact Uns.here | apply Uns.there)))) (fun l => Seq.next ?_) rfl)
          case small => exact small5 n (Nat.lt_succ_of_le hn5)
          case size => exact size5 n (Nat.lt_succ_of_le hn5)
          refine XS.cons (X1.asg EvT.int (by (with_reducible (repeat (first | exact St.here' | exact St.hereC | apply St.there)))) Keepable.imm (by (first | exact offMu.no | (apply offMu.dif; rfl))) (Seq.next ?_) rfl)
          refine XS.cons (X1.forRange (α := Unit) (n := n) (EvI.cast (EvI.rangeN (mu := some (S "row", l, rowAt f g k n 0 0)) (n := n) hh (EvT.cast (EvT.callB n_len b_len (by (repeat (first | exact EvL.nil | (apply EvL.cons; walk_at "ev"; case hst => rfl)))) CalV.lenS rfl) (by rw [lg])) (by (first | lia | omega)) (by (first | lia | omega))) (by simp))
            (fun i _ => levS (wd f k e) (wd g k e) m (some (.int k)) (some (.int (-(j : Int)))) (some (.int ((if i = 0 then 0 else DD f g k i n : Nat) : Int))) none none none none none none none)
            (fun i _ => some (S "row", l, rowAt f g k n i 0)) (fun _ _ => rfl) (fun i _ => ∀ q, q < i → ((HH f g k (q + 1) : Nat) : Int) ≤ m) () (by (repeat (first | with_reducible exact Wk.nil | with_reducible apply Wk.keep | with_reducible apply Wk.drop | (apply Wk.keepE (by rfl))))) rfl (fun q hq => absurd hq (Nat.not_lt_zero q)) ?outer ?done (fun _ => rfl))
          case done =>
            intro _ hinv
            refine XS.nil (Seq.next ?_)
            refine XS.cons (X1.ret (by walk_at "ev") (RetIs.ret ?_))
            have h1 := hinv (n - 1) (Nat.sub_lt hn1 Nat.one_pos)
            rw [Nat.sub_add_cancel hn1] at h1
            rw [if_neg (by (first | lia | omega)), hval, if_pos h1, DD_le f g k (Nat.le_refl n)]
            simp
          case outer =>
            intro i _ hi hinv
            refine ⟨_, by (with_reducible (repeat (first | exact St.here' | exact St.hereC | apply St.there))), by (first | exact offMu.no | (apply offMu.dif; rfl)), fun pr => ?_⟩
            have hib := wd_item (f := g) (p := k) (e := e) (i := i) (Nat.lt_of_lt_of_eq (Nat.add_lt_add_left hi k) hkn)
            refine XS.cons (X1.asg (v := .str (chr (ltr (k + i) (g (k + i))))) (EvT.cast (EvT.sub (by walk_at "ev") (by walk_at "ev") (GetV.str (by (first | lia | omega)) (by rw [lg]; (first | lia | omega)))) (by rw [hib])) (by (with_reducible (repeat (first | exact St.here' | exact St.hereC | apply St.there)))) Keepable.imm (by (first | exact offMu.no | (apply offMu.dif; rfl))) (Seq.next ?_) rfl)
            refine XS.cons (X1.asg2 (v := .int ((2 * i : Nat) : Int)) (EvT.cast (EvT.bin (by walk_at "ev") (by walk_at "ev") (BinV.mul (IntMulOk.of_right (by decide)))) ?e1) (by (with_reducible (repeat (first | exact St.here' | exact St.hereC | apply St.there)))) (by (with_reducible (repeat (first | exact St.here' | exact St.hereC | apply St.there)))) Keepable.imm (by (first | exact offMu.no | (apply offMu.dif; rfl))) (by (first | exact offMu.no | (apply offMu.dif; rfl))) (Seq.next ?_))
            case e1 => congr 1; push_cast; (first | lia | omega)
            refine XS.cons (X1.asg EvT.int (by (with_reducible (repeat (first | exact St.here' | exact St.hereC | apply St.there)))) Keepable.imm (by (first | exact offMu.no | (apply offMu.dif; rfl))) (Seq.next ?_) rfl)
            have d0 : DD f g k i 0 = 2 * i := by rw [DD_ge f g k (Nat.zero_le _)]; rfl
            refine XS.cons (X1.forRange (α := Unit) (n := n) (EvI.cast (EvI.rangeN (mu := some (S "row", l, rowAt f g k n i 0)) (n := n) hh (EvT.cast (EvT.callB n_len b_len (by (repeat (first | exact EvL.nil | (apply EvL.cons; walk_at "ev"; case hst => rfl)))) CalV.lenS rfl) (by rw [lf])) (by (first | lia | omega)) (by (first | lia | omega))) (by simp))
              (fun c _ => levS (wd f k e) (wd g k e) m (some (.int k)) (some (.int (-(j : Int)))) (some (.int ((if c = 0 then 2 * i else DD f g k (i + 1) c : Nat) : Int))) (some (.int i)) (some (.str (chr (ltr (k + i) (g (k + i)))))) (some (.int ((DD f g k i c : Nat) : Int))) (some (.int ((MM f g k i c : Nat) : Int))) none none none)
              (fun c _ => some (S "row", l, rowAt f g k n i c)) (fun _ _ => rfl) (fun _ _ => True) () ?wk0 rfl trivial ?inner ?idone (fun _ => rfl))
            case wk0 =>
              have e0 : (MV.int ((2 * i : Nat) : Int)) = MV.int ((DD f g k i 0 : Nat) : Int) := by rw [d0]
              exact .keep (.keep (.keep (.keep (.keep (.keep (.keepE (by simp) (.keep (.keep (.keepE (congrArg some e0) (.keepE (by simp [MM]) (.drop (.drop (.drop .nil)))))))))))))
            case idone =>
              intro _ _
              refine XS.nil (Seq.next ?_)
              refine XS.cons (X1.ite (by (first | (apply EvC.cmp; walk_at "ev"; walk_at "ev"; walk_at "cmp"; with_unfolding_all rfl) | (apply EvC.plain; walk_at "ev"; (first | exact TruV.int | exact TruV.bool | exact TruV.str | exact TruV.list); rfl) | (apply EvC.not; first | (apply EvC.cmp; walk_at "ev"; walk_at "ev"; walk_at "cmp"; with_unfolding_all rfl) | (apply EvC.plain; walk_at "ev"; (first | exact TruV.int | exact TruV.bool | exact TruV.str | exact TruV.list); rfl)))) (fun hb => ?_) (fun hb => ?_))
              · rw [MM_end f g k (show i + 1 ≤ n from hi)] at hb
                simp at hb
                refine XS.cons (X1.ret (by walk_at "ev") (RetIs.ret ?_))
                have := HH_mono f g k (show i + 1 ≤ n from hi)
                rw [hval, if_neg (by (first | lia | omega))]
              · rw [MM_end f g k (show i + 1 ≤ n from hi)] at hb
                simp at hb
                refine XS.nil (Seq.next (XS.nil (Turn.nx ⟨(), ?_, by rw [rowAt_next], fun q hq => ?_⟩)))
                · refine .keep (.keep (.keep (.keep (.keep (.keep (.keepE ?_ (.drop (.drop (.drop (.drop (.drop (.drop (.drop .nil)))))))))))))
                  rw [if_neg (by (first | lia | omega)), if_neg (by (first | lia | omega))]
                · by_cases hqi : q = i
                  · rw [hqi]; exact hb
                  · exact hinv q (by (first | lia | omega))
            case inner =>
              intro c _ hc _
              refine ⟨_, by (with_reducible (repeat (first | exact St.here' | exact St.hereC | apply St.there))), by (first | exact offMu.no | (apply offMu.dif; rfl)), fun pr => ?_⟩
              have hja := wd_item (f := f) (p := k) (e := e) (i := c) (Nat.lt_of_lt_of_eq (Nat.add_lt_add_left hc k) hkn)
              have hla := lower_ltr (k + i) (Nat.lt_of_lt_of_le (Nat.add_lt_add_left hi k) hkn5) (g (k + i))
              have hlb := lower_ltr (k + c) (Nat.lt_of_lt_of_le (Nat.add_lt_add_left hc k) hkn5) (f (k + c))
              have hcost : subCost (chr (ltr (k + i) (g (k + i)))) (chr (ltr (k + c) (f (k + c)))) = ((if i = c then dl f g (k + i) else 2 : Nat) : Int) := by
                rw [sub_ltr (Nat.lt_of_lt_of_le (Nat.add_lt_add_left hi k) hkn5) (Nat.lt_of_lt_of_le (Nat.add_lt_add_left hc k) hkn5)]
                by_cases h : i = c
                · subst h
                  rw [if_pos rfl, if_pos rfl, dl]
                  by_cases hfg : f (k + i) = g (k + i)
                  · rw [if_pos hfg.symm, if_pos hfg]
                  · rw [if_neg (fun q => hfg q.symm), if_neg hfg]
                · rw [if_neg (by (first | lia | omega)), if_neg h]
              have hrec := DD_rec f g k i c
              refine XS.cons (X1.asg (v := .int ((DD f g k i c + (if i = c then dl f g (k + i) else 2) : Nat) : Int)) (EvT.cast (EvT.bin (by walk_at "ev") (EvT.callF g_sub (fd := fdOf 97) ⟨_, _, _, by rfl⟩ (vs := [.str (chr (ltr (k + i) (g (k + i)))), .str (chr (ltr (k + c) (f (k + c))))]) (EvL.cons (by walk_at "ev") (EvL.cons (EvT.cast (EvT.sub (by walk_at "ev") (by walk_at "ev") (GetV.str (by (first | lia | omega)) (by rw [lf]; (first | lia | omega)))) (by rw [hja])) EvL.nil rfl) rfl) (sub_spec hA' (by rw [hla]; simp [chr, Str.length, cap]) (by rw [hlb]; simp [chr, Str.length, cap])) rfl) BinV.add) (by rw [hcost, Int.natCast_add])) (by (with_reducible (repeat (first | exact St.here' | exact St.hereC | apply St.there)))) Keepable.imm (by (first | exact offMu.no | (apply offMu.dif; rfl))) (Seq.next ?_) rfl)
              have hg := rowAt_get f g (k := k) (n := n) (i := i) (j := c) hc
              rw [if_neg (Nat.lt_irrefl c)] at hg
              refine XS.cons (X1.asg (v := .int ((DD f g k i (c + 1) : Nat) : Int)) (EvT.sub (by walk_at "ev") (by walk_at "ev") (GetV.list (by (first | lia | omega)) (by simpa using hg))) (by (with_reducible (repeat (first | exact St.here' | exact St.hereC | apply St.there)))) Keepable.imm (by (first | exact offMu.no | (apply offMu.dif; rfl))) (Seq.next ?_) rfl)
              refine XS.cons (X1.asg (v := .int ((min (if c = 0 then 2 * i else DD f g k (i + 1) c) (DD f g k i (c + 1)) + 2 : Nat) : Int)) (EvT.cast (EvT.bin (EvT.callB n_min b_min (by (repeat (first | exact EvL.nil | (apply EvL.cons; walk_at "ev"; case hst => rfl)))) (CalV.min2 hh) rfl) (by walk_at "ev") BinV.add) ?e2) (by (with_reducible (repeat (first | exact St.here' | exact St.hereC | apply St.there)))) Keepable.imm (by (first | exact offMu.no | (apply offMu.dif; rfl))) (Seq.next ?_) rfl)
              case e2 => congr 1; push_cast; (first | lia | omega)
              refine XS.cons (X1.asg (v := .int ((DD f g k (i + 1) (c + 1) : Nat) : Int)) (EvT.cast (EvT.callB n_min b_min (by (repeat (first | exact EvL.nil | (apply EvL.cons; walk_at "ev"; case hst => rfl)))) (CalV.min2 hh) rfl) ?e3) (by (with_reducible (repeat (first | exact St.here' | exact St.hereC | apply St.there)))) Keepable.imm (by (first | exact offMu.no | (apply offMu.dif; rfl))) (Seq.next ?_) rfl)
              case e3 => rw [hrec]; congr 1; (first | lia | omega)
              refine XS.cons (X1.setItem (k := c) (v := .int ((DD f g k (i + 1) (c + 1) : Nat) : Int)) (by walk_at "ev") (by walk_at "ev") (by (first | lia | omega)) (by rw [rowAt_len]; (first | lia | omega)) (Seq.next ?_))
              have hset : (rowAt f g k n i c).set ((c : Int)).toNat (.int ((DD f g k (i + 1) (c + 1) : Nat) : Int)) = rowAt f g k n i (c + 1) := by rw [Int.toNat_natCast, rowAt_set f g hc]
              rw [hset]
              have hMM := MM_rec f g k (Nat.lt_of_lt_of_le hi (Nat.le_trans hn5 (by decide))) (Nat.lt_of_lt_of_le hc (Nat.le_trans hn5 (by decide)))
              refine XS.cons (X1.ite (by (first | (apply EvC.cmp; walk_at "ev"; walk_at "ev"; walk_at "cmp"; with_unfolding_all rfl) | (apply EvC.plain; walk_at "ev"; (first | exact TruV.int | exact TruV.bool | exact TruV.str | exact TruV.list); rfl) | (apply EvC.not; first | (apply EvC.cmp; walk_at "ev"; walk_at "ev"; walk_at "cmp"; with_unfolding_all rfl) | (apply EvC.plain; walk_at "ev"; (first | exact TruV.int | exact TruV.bool | exact TruV.str | exact TruV.list); rfl)))) (fun hb => ?_) (fun hb => ?_))
              · simp at hb
                refine XS.cons (X1.asg (by walk_at "ev") (by (with_reducible (repeat (first | exact St.here' | exact St.hereC | apply St.there)))) Keepable.imm (by (first | exact offMu.no | (apply offMu.dif; rfl))) (Seq.next (XS.nil (Seq.next (XS.nil (Turn.nx ⟨(), ?_, rfl, trivial⟩))))) rfl)
                rw [hMM, if_pos hb]
                refine .keep (.keep (.keep (.keep (.keep (.keep (.keepE ?_ (.keep (.keep (.keep (.keep (.drop (.drop (.drop .nil)))))))))))))
                rw [if_neg (by (first | lia | omega))]
              · simp at hb
                refine XS.nil (Seq.next (XS.nil (Turn.nx ⟨(), ?_, rfl, trivial⟩)))
                rw [show MM f g k i (c + 1) = MM f g k i c from hMM.trans (if_neg (by (first | lia | omega)))]
                refine .keep (.keep (.keep (.keep (.keep (.keep (.keepE ?_ (.keep (.keep (.keep (.keep (.drop (.drop (.drop .nil)))))))))))))
                rw [if_neg (by (first | lia | omega))]
-- part L24
open PySem PySem.W PyProof.Rows PySem.Calls PySem.SeqAt
set_option maxHeartbeats 1000000
open Builtin.Str in
noncomputable def find4 (x y : Str) (i j : Nat) : Option Nat := (occurrences x y i j 1).head?
noncomputable def optI : Option Nat → Int
  | some k => k
  | none => -1
open Builtin.Str in
theorem gives_find4 (x y : Str) (i j : Nat) (hj : j ≤ x.length) (t u v z : Tok) : Gives (Builtin.«str.find» ⟨[.str x t, .str y u, .int i v, .int j z], []⟩) (.int (optI (find4 x y i j))) := by
  have e1 : (max 0 (if (i : Int) < 0 then (i : Int) + x.length else i)).toNat = i := by rw [if_neg (by (first | lia | omega))]; (first | lia | omega)
  have e2 : min (max 0 (if (j : Int) < 0 then (j : Int) + x.length else j)).toNat x.length = j := by rw [if_neg (by (first | lia | omega))]; (first | lia | omega)
  show Gives (match occurrences x y (max 0 (if (i : Int) < 0 then (i : Int) + x.length else i)).toNat (min (max 0 (if (j : Int) < 0 then (j : Int) + x.length else j)).toNat x.length) 1 with | k :: _ => retInt k | [] => (do PySem.rule "str.find.not-found"; retInt (-1))) _
  rw [e1, e2]
  unfold find4
  cases occurrences x y i j 1 with
  | nil => exact .rule (.of_eq rfl)
  | cons k _ => exact .of_eq rfl
section
variable {w : World} {mg mb : Str → Option Value} {t : Bool} {A : Around} {P : SP w mg mb t}
theorem CalV.find4 {x y : Str} {i j : Nat} (hj : j ≤ x.length) : CalV t A (.builtin "str.find") [.str x, .str y, .int i, .int j] (.int (optI (Mine.find4 x y i j))) := by
  constructor; intro w mg mb s xs Q E B r h
  cases xs with
  | nil => exact r.elim
  | cons u xs =>
    obtain ⟨u2, u3, u4, rfl, r2, r3, r4⟩ := mrels3 r.2
    obtain ⟨t1, rfl⟩ := IRel.str r.1
    obtain ⟨t2, rfl⟩ := IRel.str r2
    obtain ⟨t3, rfl⟩ := IRel.int r3
    obtain ⟨t4, rfl⟩ := IRel.int r4
    exact call_gives PySem.F.slot_str_find (typeIs_str _ _ _) PySem.F.entry_str_find (PySem.F.args_str_find_4 _ _ _ _) (gives_find4 x y i j hj t1 t2 t3 t4) (h _ _ (Go.tok B) (MRel.ofInt _ _))
theorem CalV.startswith {x y : Str} : CalV t A (.builtin "str.startswith") [.str x, .str y] (.bool (Txt.startswith x y)) := by
  constructor; intro w mg mb s xs Q E B r h
  obtain ⟨u, v, rfl, r1, r2⟩ := mrels2 r
  obtain ⟨t1, rfl⟩ := IRel.str r1
  obtain ⟨t2, rfl⟩ := IRel.str r2
  exact SC.startswith (h _ _ (Go.refl B) (MRel.ofBool _))
theorem CalV.endswith {x y : Str} : CalV t A (.builtin "str.endswith") [.str x, .str y] (.bool (Txt.endswith x y)) := by
  constructor; intro w mg mb s xs Q E B r h
  obtain ⟨u, v, rfl, r1, r2⟩ := mrels2 r
  obtain ⟨t1, rfl⟩ := IRel.str r1
  obtain ⟨t2, rfl⟩ := IRel.str r2
  exact SC.endswith (h _ _ (Go.refl B) (MRel.ofBool _))
theorem strs_are : ∀ {ss : List Str} {vs : List Value}, IRels (ss.map IV.str) vs → ∃ l : List (Str × Tok), strValues l = vs ∧ l.map (·.1) = ss
  | [], [], _ => ⟨[], rfl, rfl⟩
  | a :: ss, v :: vs, r => by
    obtain ⟨t, rfl⟩ := r.1.str
    obtain ⟨l, h1, h2⟩ := strs_are r.2
    exact ⟨(a, t) :: l, by simp only [strValues, List.map_cons] at h1 ⊢; rw [h1], by simp [h2]⟩
  | [], _ :: _, r => r.elim
  | _ :: _, [], r => r.elim
theorem CalV.join {x : Str} {ss : List Str} (hok : JoinOk x ss = true) (hl : (Txt.join x ss).length ≤ cap) : CalV t A (.builtin "str.join") [.str x, .list (ss.map IV.str)] (.str (Txt.join x ss)) := by
  constructor; intro w mg mb s xs Q E B r h
  obtain ⟨u, v, rfl, r1, r2⟩ := mrels2 r
  obtain ⟨t1, rfl⟩ := IRel.str r1
  obtain ⟨a, vs, rfl, -, hp, hr, -⟩ := r2
  obtain ⟨l, rfl, hss⟩ := strs_are hr
  exact SC.join hp.isList hss hok fun t' k => h _ _ (Go.tok B) (MRel.ofStr _ _ hl)
theorem CmpV.notInS {x y : Str} : CmpV A .NotIn (.str y) (.str x) (!Txt.contains x y) := by
  constructor; intro w mg mb s u v Q E B r1 r2 h
  obtain ⟨t, rfl⟩ := IRel.str r1; obtain ⟨t', rfl⟩ := IRel.str r2
  exact notIn_str (h _ (Go.refl B))
theorem numbered_irels : ∀ (ss : List Str) (n : Nat), (∀ x ∈ ss, x.length ≤ cap) → IRels (ss.map IV.str) (strValues (numbered n ss))
  | [], _, _ => trivial
  | a :: ss, n, h => ⟨IRel.ofStr _ _ (h a (.head _)), numbered_irels ss (n + 1) fun x hx => h x (.tail _ hx)⟩
end
theorem X1.assert {C : Cx} {σ : List Ent} {mu : Mu} {Φ : Fl → Prop} {test : PySem.Expr} {msg : Option PySem.Expr} {pos : Pos} {b : Bool} (ht : EvC C.A (C.P σ mu) test b) (hb : b = true) (h : Φ (.next σ mu)) : X1 C σ mu (.Assert test msg pos) Φ := ⟨fun sg s Q E F hq =>
  wpAny_Assert_holds (ht.run s _ _ F fun s₁ g => ⟨hb, hq .next s₁ ⟨_, _, sg, FS.goes F g, h⟩⟩)⟩
theorem EvF.split {w : World} {mg mb : Str → Option Value} {t : Bool} {A : Around} {P : SP w mg mb t} {o e : PySem.Expr} {apos pos : Pos} {x y : Str} (ho : EvT A P o (.str x)) (hl : EvL A P [e] [.str y]) (h1 : (decide (x.length < y.length) || decide (Builtin.Str.strKind x < Builtin.Str.strKind y)) = false) (hy : (y.length == 0) = false) (hf : (Builtin.Str.occurrences x y 0 x.length (x.length + 1)).isEmpty = false)
    (hp : ∀ z ∈ Txt.split x y, z.length ≤ cap) (hn : (Txt.split x y).length ≤ cap)
    (hb : attributeBase o (Str.ofString "split") P.env (eval o P.env) = eval o P.env := by rfl) (hq : ((((backTo pos (starEach [e] P.env)).all fun x => !x.1) && (backToKw pos (keywordEach [] P.env)).all fun x => x.1.isSome) && decide (([e].length + ([] : List Keyword).length + if ([] : List Keyword).isEmpty = true then 0 else 1) < 30)) = true := by rfl)
    (hln : (apos.endLine == pos.line) = true := by rfl) (he : starEach [e] P.env = (false, eval e P.env) :: starEach [] P.env := by rfl) (hpl : (backTo pos (starEach [] P.env)).any (·.1) = false := by rfl) : EvF A P (.Call (.Attribute o (Str.ofString "split") apos) [e] [] pos) ((Txt.split x y).map IV.str) := ⟨fun s Q E hs h =>
  wpAny_Call_method hb hq hln PySem.F.plainAttrs_str PySem.F.slot_str_split PySem.F.type_str_split (ho.run s _ _ hs fun xv s₁ g₁ r₁ => ⟨str_type _ xv r₁ s₁ rfl, fun b e => absurd e (im_ref _ xv r₁ b), callWith_method1 (hl.run pos s₁ _ _ (P.go hs g₁) fun xs s₂ g₂ r₂ => by
    obtain ⟨u, rfl, ru⟩ := mrels1 r₂
    have lx := r₁.2
    simp only [smallIV, cap] at lx
    obtain ⟨t1, rfl⟩ := IRel.str r₁
    obtain ⟨t2, rfl⟩ := IRel.str ru
    have hs1 : Txt.split x y = Builtin.Str.partsBetween x (Builtin.Str.occurrences x y 0 x.length (x.length + 1)) y.length := (if_neg (ne_true_of_eq_false h1)).trans (if_neg (ne_true_of_eq_false hf))
    rw [hs1] at hp hn h
    have hn' := hn
    simp only [cap] at hn'
    refine call_meets PySem.F.slot_str_split (typeIs_str _ _ _) PySem.F.entry_str_split (PySem.F.args_str_split_2 _ _) (meets_str_split_sep x y t1 t2 h1 hy hf (by rw [sizeLine_eq]; (first | lia | omega)) (by rw [sizeLine_eq]; (first | lia | omega))) ?_
    rw [strsFrom_eq]
    have g12 := g₁.trans g₂
    exact h _ _ _ (g12.trans (Go.push g12.base _)) (g12.none (Heap.get?_none_of_le (Nat.le_refl _))) ⟨0, Heap.get?_push_size _ rfl⟩ (numbered_irels _ _ hp) (by simpa using hn)) he hpl⟩)⟩
theorem X1.subM {C : Cx} {σ σ' : List Ent} {Φ : Fl → Prop} {x y : Str} {l : Addr} {us : List IV} {px pos : Pos} {e : PySem.Expr} {a b c : Int} (hx : Has σ x (.int a)) (he : EvT C.A (C.P σ (some (y, l, us))) e (.int b)) (hc : a - b = c) (hst : Mine.St σ x (.int c) σ') (ho : offMu (some (y, l, us)) x) (h : Φ (.next σ' (some (y, l, us)))) (h1 : (x == Str.ofString "__classdict__") = false := by decide) : X1 C σ (some (y, l, us)) (.AugAssign (.Name x px) .Sub e pos) Φ := by
  subst hc
  refine X1.aug (mu := some (y, l, us)) (.there hx) he ?_ hst Keepable.imm ho h h1
  intro w mg mb s x y Q E B r1 r2 h
  obtain ⟨t1, rfl⟩ := IRel.int r1; obtain ⟨t2, rfl⟩ := IRel.int r2
  with_reducible exact PyProof.Rows.isub_int (h _ _ (Go.tok B) (MRel.ofInt _ _))
-- part Gell
open PySem PySem.W PyProof.Rows PySem.Calls
set_option maxHeartbeats 2000000
noncomputable abbrev dots : Str := Str.ofString "..."
noncomputable def fa (got : Str) (e : Nat) : List Str → Nat → Bool
  | [], _ => true
  | w :: ws, st => match find4 got w st e with | some k => fa got e ws (k + w.length) | none => false
/-- behind the two ends -/
noncomputable def ell2 (got : Str) (ws : List Str) (st : Nat) : Bool :=
  let w1 := ws.getLastD ⟨#[]⟩
  if w1.length ≠ 0 then (if Txt.endswith got w1 then (if st > got.length - w1.length then false else fa got (got.length - w1.length) ws.dropLast st) else false)
  else (if st > got.length then false else fa got got.length ws st)
noncomputable def ell1 (got : Str) (ws : List Str) : Bool :=
  let w0 := ws.headD ⟨#[]⟩
  if w0.length ≠ 0 then (if Txt.startswith got w0 then ell2 got ws.tail w0.length else false) else ell2 got ws 0
theorem ell1_cons (got w0 : Str) (r : List Str) : ell1 got (w0 :: r) = if w0.length ≠ 0 then (if Txt.startswith got w0 then ell2 got r w0.length else false) else ell2 got (w0 :: r) 0 := rfl
noncomputable def ellB (want got : Str) : Bool := if Txt.contains want dots then ell1 got (Txt.split want dots) else want == got
/-- what the text's own asserts and calls ask of want -/
structure WantOk (want : Str) : Prop where
  len : want.length ≤ 100
  kind : (decide (want.length < dots.length) || decide (Builtin.Str.strKind want < Builtin.Str.strKind dots)) = false
  occ : (Builtin.Str.occurrences want dots 0 want.length (want.length + 1)).isEmpty = false
  two : 2 ≤ (Txt.split want dots).length
  few : (Txt.split want dots).length ≤ cap
  short : ∀ z ∈ Txt.split want dots, z.length ≤ cap
theorem ell_spec {t : Bool} {A : Around} {want got : Str} (hA : OkA A 0 0) (hw : Txt.contains want dots = true → WantOk want) (hg : got.length ≤ 100) : CalV t A (.ref 90) [.str want, .str got] (.bool (ellB want got)) := by
  refine CalV.ofDef (fd := fdOf 90) (ps := [S "want", S "got"]) (σ := [(S "want", .local, some (.str want)), (S "got", .local, some (.str got)), (S "ws", .local, none), (S "startpos", .local, none), (S "endpos", .local, none), (S "w", .local, none)])
    ⟨fun w => ⟨_, _, _, by rfl⟩, (by intro w h X; exact codeRec_35 (c := 89) X (by rfl) (by rfl)), by rfl, (len2 fun a b => rfl), by decide, by rfl, by rfl, by rfl, by rfl, by rfl, by rfl, by rfl, by rfl⟩ (by have := hA.dp; (first | lia | omega)) rfl (by rfl) (by rfl) (by rfl) ?_
  intro w mg mb s L
  have hh : (A.deeper (callEnv (fdOf 90) L 90)).handled = none := hA.hd
  refine XS.cons (X1.ite (EvC.cmp (by walk_at "ev") (by walk_at "ev") CmpV.notInS) (fun hb => ?_) (fun hb => ?_))
  · refine XS.cons (X1.ret (by walk_at "ev") (RetIs.ret ?_))
    have hc : Txt.contains want dots = false := by simpa using hb
    rw [ellB, if_neg (by rw [hc]; simp)]
  have hc : Txt.contains want dots = true := by simpa using hb
  have W := hw hc
  have hval : ellB want got = ell1 got (Txt.split want dots) := by rw [ellB, if_pos hc]
  rw [hval]
  generalize hws : Txt.split want dots = ws at *
  have w2 : 2 ≤ ws.length := by rw [← hws]; exact W.two
  have w3 : ws.length ≤ cap := by rw [← hws]; exact W.few
  refine XS.nil (Seq.next ?_)
  refine XS.cons (X1.asgMu (vs := ws.map IV.str) (EvF.cast (EvF.split (by walk_at "ev") (by (repeat (first | exact EvL.nil | (apply EvL.cons; walk_at "ev"; case hst => rfl)))) W.kind (by decide) W.occ W.short W.few) (by rw [hws])) (by (with_reducible (repeat (first | exact St.here' | exact St.hereC | apply St.there)))) (by (with_reducible (repeat (first | exact Uns.here | apply Uns.there)))) (fun l => Seq.next ?_) rfl)
  refine XS.cons (X1.assert (EvC.cmp (EvT.callB n_len b_len (by (repeat (first | exact EvL.nil | (apply EvL.cons; walk_at "ev"; case hst => rfl)))) CalV.lenL rfl) (by walk_at "ev") CmpV.geI) (by simp; (first | lia | omega)) (Seq.next ?_))
  have st0 : EnvStat (callEnv (fdOf 90) L 90) := ⟨rfl, rfl, rfl, List.Pairwise.nil⟩
  -- behind the two ends
  have third : ∀ (us : List Str) (st en : Nat) (wv : Str), us.length ≤ cap → en ≤ got.length → (∀ z ∈ us, z.length ≤ cap) → XS ⟨w, mg, mb, t, A.deeper (callEnv (fdOf 90) L 90), s, [], callEnv (fdOf 90) L 90, st0⟩ [(S "want", .local, some (.str want)), (S "got", .local, some (.str got)), (S "ws", .local, none), (S "startpos", .local, some (.int st)), (S "endpos", .local, some (.int en)), (S "w", .local, some (.str wv))] (some (S "ws", l, us.map IV.str)) ((bodyOf 90).drop 8) (RetIs (.bool (if st > en then false else fa got en us st))) := by
    intro us st en wv hul hen hz
    refine XS.cons (X1.ite (by (first | (apply EvC.cmp; walk_at "ev"; walk_at "ev"; walk_at "cmp"; with_unfolding_all rfl) | (apply EvC.plain; walk_at "ev"; (first | exact TruV.int | exact TruV.bool | exact TruV.str | exact TruV.list); rfl) | (apply EvC.not; first | (apply EvC.cmp; walk_at "ev"; walk_at "ev"; walk_at "cmp"; with_unfolding_all rfl) | (apply EvC.plain; walk_at "ev"; (first | exact TruV.int | exact TruV.bool | exact TruV.str | exact TruV.list); rfl)))) (fun hb => ?_) (fun hb => ?_))
    · have hb : en < st := by simpa using hb
      refine XS.cons (X1.ret EvT.bool (RetIs.ret ?_))
      rw [if_pos hb]
    have hb : ¬ (st > en) := by simpa using hb
    rw [if_neg hb]
    refine XS.nil (Seq.next ?_)
    refine XS.unmu (σ' := [(S "want", .local, some (.str want)), (S "got", .local, some (.str got)), (S "ws", .local, some (.list (us.map IV.str))), (S "startpos", .local, some (.int st)), (S "endpos", .local, some (.int en)), (S "w", .local, some (.str wv))]) (by (with_reducible (repeat (first | exact St.here' | exact St.hereC | apply St.there)))) ?_
    refine XS.cons (X1.for (α := Nat × Str) (EvI.list hh (by walk_at "ev")) (fun r a => [(S "want", .local, some (.str want)), (S "got", .local, some (.str got)), (S "ws", .local, some (.list (us.map IV.str))), (S "startpos", .local, some (.int a.1)), (S "endpos", .local, some (.int en)), (S "w", .local, some (.str a.2))]) (fun _ => none) (fun _ => rfl) (fun r a => ∃ rest : List Str, r = rest.map IV.str ∧ fa got en rest a.1 = fa got en us st) (st, wv) (by (repeat (first | with_reducible exact Wk.nil | with_reducible apply Wk.keep | with_reducible apply Wk.drop | (apply Wk.keepE (by rfl))))) rfl ⟨us, rfl, rfl⟩ ?turn ?fin (fun _ => rfl))
    case fin =>
      rintro ⟨q, wv⟩ ⟨rest, hr, hf⟩
      have : rest = [] := by
        cases rest with
        | nil => rfl
        | cons => simp at hr
      subst this
      refine XS.nil (Seq.next ?_)
      refine XS.cons (X1.ret EvT.bool (RetIs.ret ?_))
      rw [← hf]; rfl
    case turn =>
      rintro v r ⟨q, wv⟩ ⟨rest, hr, hf⟩
      cases rest with
      | nil => simp at hr
      | cons z rest =>
        simp only [List.map_cons, List.cons.injEq] at hr
        obtain ⟨rfl, rfl⟩ := hr
        refine ⟨_, by (with_reducible (repeat (first | exact St.here' | exact St.hereC | apply St.there))), trivial, fun pr => ?_⟩
        refine XS.cons (X1.asg (EvT.meth1 (vs := [.str z, .int q, .int en]) (by walk_at "ev") str_type im_ref PySem.F.plainAttrs_str PySem.F.slot_str_find (by (repeat (first | exact EvL.nil | (apply EvL.cons; walk_at "ev"; case hst => rfl)))) (CalV.find4 hen) rfl rfl rfl PySem.F.type_str_find rfl rfl) (by (with_reducible (repeat (first | exact St.here' | exact St.hereC | apply St.there)))) trivial trivial (Seq.next ?_) rfl)
        refine XS.cons (X1.ite (by (first | (apply EvC.cmp; walk_at "ev"; walk_at "ev"; walk_at "cmp"; with_unfolding_all rfl) | (apply EvC.plain; walk_at "ev"; (first | exact TruV.int | exact TruV.bool | exact TruV.str | exact TruV.list); rfl) | (apply EvC.not; first | (apply EvC.cmp; walk_at "ev"; walk_at "ev"; walk_at "cmp"; with_unfolding_all rfl) | (apply EvC.plain; walk_at "ev"; (first | exact TruV.int | exact TruV.bool | exact TruV.str | exact TruV.list); rfl)))) (fun hb => ?_) (fun hb => XS.nil (Seq.next ?_)))
        · refine XS.cons (X1.ret EvT.bool ?_)
          show MV.bool false = _
          rw [← hf, fa]
          cases hfd : find4 got z q en with
          | none => rfl
          | some k => exfalso; rw [hfd] at hb; have hb := of_decide_eq_true hb; simp only [optI] at hb; (first | lia | omega)
        · cases hfd : find4 got z q en with
          | none => rw [hfd] at hb; simp [optI] at hb
          | some k =>
            refine XS.cons (X1.addI (c := ((k + z.length : Nat) : Int)) (by walk_at "has") (EvT.callB n_len b_len (by (repeat (first | exact EvL.nil | (apply EvL.cons; walk_at "ev"; case hst => rfl)))) CalV.lenS rfl) (by simp [optI]) (by (with_reducible (repeat (first | exact St.here' | exact St.hereC | apply St.there)))) (Seq.next (XS.nil (Turn.nx ⟨(k + z.length, z), by (repeat (first | with_reducible exact Wk.nil | with_reducible apply Wk.keep | with_reducible apply Wk.drop | (apply Wk.keepE (by rfl)))), rfl, rest, rfl, ?_⟩))))
            rw [← hf, fa, hfd]
  have second : ∀ (us : List Str) (st : Nat) (wv : Str), us ≠ [] → us.length ≤ cap → (∀ z ∈ us, z.length ≤ cap) → XS ⟨w, mg, mb, t, A.deeper (callEnv (fdOf 90) L 90), s, [], callEnv (fdOf 90) L 90, st0⟩ [(S "want", .local, some (.str want)), (S "got", .local, some (.str got)), (S "ws", .local, none), (S "startpos", .local, some (.int st)), (S "endpos", .local, some (.int got.length)), (S "w", .local, some (.str wv))] (some (S "ws", l, us.map IV.str)) ((bodyOf 90).drop 6) (RetIs (.bool (ell2 got us st))) := by
    intro us st wv hne hul hz
    obtain ⟨w1, hw1⟩ : ∃ w1, us.getLast? = some w1 := by
      cases h : us.getLast? with
      | none => rw [List.getLast?_eq_none_iff] at h; exact absurd h hne
      | some x => exact ⟨x, rfl⟩
    have hlast : us.getLastD ⟨#[]⟩ = w1 := by rw [List.getLastD_eq_getLast?, hw1]; rfl
    have hpos : 0 < us.length := List.length_pos_iff.mpr hne
    have hmem : w1 ∈ us := List.mem_of_getLast? hw1
    have hget : us[us.length - 1]? = some w1 := by rw [← List.getLast?_eq_getElem?]; exact hw1
    refine XS.cons (X1.asg (v := .str w1) (EvT.sub (by walk_at "ev") (EvT.un EvT.int UnV.neg) (GetV.listNeg (by decide) (by simp; (first | lia | omega)) (by rw [List.length_map, show (-1 + (us.length : Int)).toNat = us.length - 1 by (first | lia | omega), List.getElem?_map, hget]; rfl))) (by (with_reducible (repeat (first | exact St.here' | exact St.hereC | apply St.there)))) Keepable.imm (by (first | exact offMu.no | (apply offMu.dif; rfl))) (Seq.next ?_) rfl)
    unfold ell2
    rw [hlast]
    refine XS.cons (X1.ite (by (first | (apply EvC.cmp; walk_at "ev"; walk_at "ev"; walk_at "cmp"; with_unfolding_all rfl) | (apply EvC.plain; walk_at "ev"; (first | exact TruV.int | exact TruV.bool | exact TruV.str | exact TruV.list); rfl) | (apply EvC.not; first | (apply EvC.cmp; walk_at "ev"; walk_at "ev"; walk_at "cmp"; with_unfolding_all rfl) | (apply EvC.plain; walk_at "ev"; (first | exact TruV.int | exact TruV.bool | exact TruV.str | exact TruV.list); rfl)))) (fun hb => ?_) (fun hb => ?_))
    · have hb : w1.length ≠ 0 := by simpa using hb
      rw [if_pos hb]
      refine XS.cons (X1.ite (EvC.plain (EvT.meth1 (vs := [.str w1]) (by walk_at "ev") str_type im_ref PySem.F.plainAttrs_str PySem.F.slot_str_endswith (by (repeat (first | exact EvL.nil | (apply EvL.cons; walk_at "ev"; case hst => rfl)))) CalV.endswith rfl rfl rfl PySem.F.type_str_endswith rfl rfl) TruV.bool) (fun hb2 => ?_) (fun hb2 => ?_))
      · rw [if_pos hb2]
        have hle : w1.length ≤ got.length := by
          have := hb2
          unfold Txt.endswith at this
          rw [Bool.and_eq_true] at this
          have := of_decide_eq_true this.1
          (first | lia | omega)
        have e1 : ((got.length : Int) - w1.length) = ((got.length - w1.length : Nat) : Int) := by (first | lia | omega)
        refine XS.cons (X1.subM (c := ((got.length - w1.length : Nat) : Int)) (by walk_at "has") (EvT.callB n_len b_len (by (repeat (first | exact EvL.nil | (apply EvL.cons; walk_at "ev"; case hst => rfl)))) CalV.lenS rfl) e1 (by (with_reducible (repeat (first | exact St.here' | exact St.hereC | apply St.there)))) (by (first | exact offMu.no | (apply offMu.dif; rfl))) (Seq.next ?_))
        refine XS.cons (X1.del (pi := ⟨0, 0, 0, 0⟩) (k := -1) (j := us.length - 1) (EvT.un EvT.int UnV.neg) (by decide) (by rw [List.length_map]; exact seqIndex?_neg_one hpos) (Seq.next (XS.nil (Seq.next (XS.nil (Seq.next ?_))))))
        have e2 : (us.map IV.str).eraseIdx (us.length - 1) = us.dropLast.map IV.str := by
          rw [List.eraseIdx_eq_take_drop_succ, List.drop_eq_nil_of_le (by rw [List.length_map]; (first | lia | omega)), List.append_nil, List.dropLast_eq_take, List.map_take]
        rw [e2]
        exact third us.dropLast st (got.length - w1.length) w1 (by simp; (first | lia | omega)) (by (first | lia | omega)) (fun z hz' => hz z (by rw [List.dropLast_eq_take] at hz'; exact List.mem_of_mem_take hz'))
      · refine XS.cons (X1.ret EvT.bool (RetIs.ret ?_))
        rw [if_neg (by rw [hb2]; simp)]
    · have hb : w1.length = 0 := by simpa using hb
      rw [if_neg (by (first | lia | omega))]
      refine XS.nil (Seq.next ?_)
      exact third us st got.length w1 hul (Nat.le_refl _) hz
  obtain ⟨w0, r, rfl⟩ : ∃ w0 r, ws = w0 :: r := by
    cases ws with
    | nil => simp at w2
    | cons a r => exact ⟨a, r, rfl⟩
  have hshort : ∀ z ∈ w0 :: r, z.length ≤ cap := by rw [← hws]; exact W.short
  refine XS.cons (X1.asgSw (a := .int (0 : Nat)) (b := .int got.length) hh (EvT.tup (vs := [.int (0 : Nat), .int got.length]) (EvL.cons EvT.int (EvL.cons (EvT.callB n_len b_len (by (repeat (first | exact EvL.nil | (apply EvL.cons; walk_at "ev"; case hst => rfl)))) CalV.lenS rfl) EvL.nil rfl) rfl) (by simp [cap])) (by (with_reducible (repeat (first | exact St.here' | exact St.hereC | apply St.there)))) (by (with_reducible (repeat (first | exact St.here' | exact St.hereC | apply St.there)))) (by (first | exact offMu.no | (apply offMu.dif; rfl))) (by (first | exact offMu.no | (apply offMu.dif; rfl))) (Seq.next ?_))
  refine XS.cons (X1.asg (v := .str w0) (EvT.sub (by walk_at "ev") EvT.int (GetV.list (by decide) (by simp))) (by (with_reducible (repeat (first | exact St.here' | exact St.hereC | apply St.there)))) Keepable.imm (by (first | exact offMu.no | (apply offMu.dif; rfl))) (Seq.next ?_) rfl)
  rw [ell1_cons]
  refine XS.cons (X1.ite (by (first | (apply EvC.cmp; walk_at "ev"; walk_at "ev"; walk_at "cmp"; with_unfolding_all rfl) | (apply EvC.plain; walk_at "ev"; (first | exact TruV.int | exact TruV.bool | exact TruV.str | exact TruV.list); rfl) | (apply EvC.not; first | (apply EvC.cmp; walk_at "ev"; walk_at "ev"; walk_at "cmp"; with_unfolding_all rfl) | (apply EvC.plain; walk_at "ev"; (first | exact TruV.int | exact TruV.bool | exact TruV.str | exact TruV.list); rfl)))) (fun hb => ?_) (fun hb => ?_))
  · have hb : w0.length ≠ 0 := by simpa using hb
    rw [if_pos hb]
    refine XS.cons (X1.ite (EvC.plain (EvT.meth1 (vs := [.str w0]) (by walk_at "ev") str_type im_ref PySem.F.plainAttrs_str PySem.F.slot_str_startswith (by (repeat (first | exact EvL.nil | (apply EvL.cons; walk_at "ev"; case hst => rfl)))) CalV.startswith rfl rfl rfl PySem.F.type_str_startswith rfl rfl) TruV.bool) (fun hb2 => ?_) (fun hb2 => ?_))
    · rw [if_pos hb2]
      refine XS.cons (X1.asg (EvT.callB n_len b_len (by (repeat (first | exact EvL.nil | (apply EvL.cons; walk_at "ev"; case hst => rfl)))) CalV.lenS rfl) (by (with_reducible (repeat (first | exact St.here' | exact St.hereC | apply St.there)))) Keepable.imm (by (first | exact offMu.no | (apply offMu.dif; rfl))) (Seq.next ?_) rfl)
      refine XS.cons (X1.del (pi := ⟨0, 0, 0, 0⟩) (k := 0) (j := 0) EvT.int (by decide) (by simp [seqIndex?]) (Seq.next (XS.nil (Seq.next (XS.nil (Seq.next ?_))))))
      refine second r w0.length w0 ?_ (by simp at w3; (first | lia | omega)) (fun z hz => hshort z (.tail _ hz))
      intro q; subst q; simp at w2
    · refine XS.cons (X1.ret EvT.bool (RetIs.ret ?_))
      rw [if_neg (by rw [hb2]; simp)]
  · have hb : w0.length = 0 := by simpa using hb
    rw [if_neg (by (first | lia | omega))]
    refine XS.nil (Seq.next ?_)
    exact second (w0 :: r) 0 w0 (by simp) w3 hshort
-- part L25
open PySem PySem.W PyProof.Rows PySem.Calls PySem.SeqAt
set_option maxHeartbeats 2000000
noncomputable abbrev StrIt (h : Heap) (i : Addr) (x : Str) (t : Tok) (k : Nat) : Prop := h.IsStrIter i "str_ascii_iterator" x t k
structure ZipPl (z TI TO i1 i2 : Addr) : Prop where
  a : TI ≠ z
  b : TO ≠ z
  c : i1 ≠ z
  d : i2 ≠ z
  e : TI ≠ TO
  f : TI ≠ i1
  g : TI ≠ i2
  h : TO ≠ i1
  i : TO ≠ i2
  j : i1 ≠ i2
section
variable {prog : Program} {w : World} {A : Around} {E : Value → Shared → Prop} {s : Shared} {z TI TO i1 i2 : Addr} {x1 x2 : Str} {t1 t2 : Tok} {k c d : Nat} {u v : Value}
theorem strIt_but {h h' : Heap} {b i : Addr} {x : Str} {t : Tok} {k : Nat} (y : StrIt h i x t k) (hs : Heap.SameBut b h h') (n : i ≠ b) : StrIt h' i x t k := y.extBut hs.extBut n
theorem zipS_item {Q : Value → Shared → Prop} (D : ZipPl z TI TO i1 i2) (hz : IsZip s.heap z TI TO .none) (hTI : IsPair s.heap TI (.ref i1) (.ref i2)) (hTO : IsPair s.heap TO u v) (h1 : StrIt s.heap i1 x1 t1 k) (h2 : StrIt s.heap i2 x2 t2 k) (hc : x1.cps[k]? = some c) (hd : x2.cps[k]? = some d)
    (hQ : ∀ h' tk p q, IsZip h' z TI TO (rawInt s.heap.objs.size) → IsPair h' TO (.str ⟨#[c]⟩ p) (.str ⟨#[d]⟩ q) → StrIt h' i1 x1 t1 (k + 1) → StrIt h' i2 x2 t2 (k + 1) → IsPair h' s.heap.objs.size (.str ⟨#[c]⟩ p) (.str ⟨#[d]⟩ q) →
      (∀ b o, b ≠ z → b ≠ TO → b ≠ i1 → b ≠ i2 → s.heap.get? b = some o → h'.get? b = some o) → Q (.ref s.heap.objs.size) { s with heap := h', toks := tk }) :
    wpAny (model prog w) A (Builtin.«zip.__next__» ⟨[.ref z], []⟩) (fun fin s' => ∃ v, fin = .done (.ret v) ∧ Q v s') E s := by
  show wpAny _ _ (field (.ref z) 2 >>= _) _ _ _
  refine wpAny_bind (wpAny_field hz rfl (x := .bool false) rfl ?_)
  show wpAny _ _ (field (.ref z) 3 >>= _) _ _ _
  refine wpAny_bind (wpAny_field hz rfl (x := .ref TI) rfl ?_)
  refine wpAny_bind (wpAny_seqItems hTI rfl ?_)
  show wpAny _ _ (Builtin.SmallTypes.ownedTupleIsFree (.ref z) >>= _) _ _ _
  refine wpAny_bind ?_
  unfold Builtin.SmallTypes.ownedTupleIsFree
  refine wpAny_bind (wpAny_field hz rfl (x := .none) rfl (wpAny_pure ?_))
  simp only [if_true]
  refine wpAny_bind (wpAny_rule ?_)
  refine wpAny_bind (wpAny_field hz rfl (x := .ref TO) rfl ?_)
  refine wpAny_bind (wpAny_setField_rec hz (by simp) fun hA zA sA => ?_)
  replace zA : IsZip hA z TI TO .ellipsis := zA
  refine wpAny_bind ?_
  simp only [List.zipIdx_cons, List.zipIdx_nil, List.forIn_cons, List.forIn_nil]
  refine wpAny_bind (wpAny_bind (wpAny_onRaise ?_))
  show wpAny _ _ (Builtin.SmallTypes.nextOf (.ref i1) >>= _) _ _ _
  refine wpAny_bind (wpAny_nextOf_ascii_item (strIt_but h1 sA D.c) hc fun hB iB sB => wpAny_pure ?_)
  have oB : IsPair hB TO u v := (sB.2 _ D.h).trans ((sA.2 _ D.b).trans hTO)
  refine wpAny_bind (wpAny_seqItems oB rfl ?_)
  refine wpAny_bind (wpAny_updateSeq_pair oB fun hC oC sC => ?_)
  replace oC : IsPair hC TO (.str ⟨#[c]⟩ s.toks) v := oC
  refine wpAny_bind (wpAny_letGo (wpAny_pure ?_))
  refine wpAny_bind (wpAny_bind (wpAny_onRaise ?_))
  show wpAny _ _ (Builtin.SmallTypes.nextOf (.ref i2) >>= _) _ _ _
  refine wpAny_bind (wpAny_nextOf_ascii_item (strIt_but (strIt_but (strIt_but h2 sA D.d) sB D.j.symm) sC D.i.symm) hd fun hD iD sD => wpAny_pure ?_)
  have oD : IsPair hD TO (.str ⟨#[c]⟩ s.toks) v := (sD.2 _ D.i).trans oC
  refine wpAny_bind (wpAny_seqItems oD rfl ?_)
  refine wpAny_bind (wpAny_updateSeq_pair oD fun hE oE sE => ?_)
  replace oE : IsPair hE TO (.str ⟨#[c]⟩ s.toks) (.str ⟨#[d]⟩ (s.toks + 1)) := oE
  refine wpAny_bind (wpAny_letGo (wpAny_pure (wpAny_pure ?_)))
  refine wpAny_bind (wpAny_seqItems oE rfl ?_)
  refine wpAny_bind (wpAny_newTuple ?_)
  have size : hE.objs.size = s.heap.objs.size := by rw [sE.1, sD.1, sC.1, sB.1, sA.1]
  have kE : ∀ b, b ≠ TO → b ≠ i1 → b ≠ i2 → hE.get? b = hA.get? b := fun b n1 n2 n3 => (sE.2 b n1).trans ((sD.2 b n3).trans ((sC.2 b n1).trans (sB.2 b n2)))
  have zE : IsZip hE z TI TO .ellipsis := (kE _ D.b.symm D.c.symm D.d.symm).trans zA
  have iE1 : StrIt hE i1 x1 t1 (k + 1) := strIt_but (strIt_but (strIt_but iB sC D.h.symm) sD D.j) sE D.h.symm
  have iE2 : StrIt hE i2 x2 t2 (k + 1) := strIt_but iD sE D.i.symm
  have zlt : z < hE.objs.size := Heap.lt_size zE
  show wpAny _ _ (Builtin.SmallTypes.ownedTupleHandOut (.ref z) (.ref hE.objs.size) >>= _) _ _ _
  refine wpAny_bind ?_
  unfold Builtin.SmallTypes.ownedTupleHandOut
  have zF : IsZip (hE.push { cls := .type "tuple", data := .seq #[.str ⟨#[c]⟩ s.toks, .str ⟨#[d]⟩ (s.toks + 1)] }) z TI TO .ellipsis := Heap.get?_push_of_some _ zE
  refine wpAny_bind (wpAny_setField_rec zF (by simp) fun hG zG sG => ?_)
  replace zG : IsZip hG z TI TO (rawInt hE.objs.size) := zG
  refine wpAny_setField_rec zG (by simp) fun hH zH sH => ?_
  replace zH : IsZip hH z TI TO (rawInt hE.objs.size) := zH
  have up : ∀ b o, b ≠ z → hE.get? b = some o → hH.get? b = some o := fun b o n e => (sH.2 b n).trans ((sG.2 b n).trans (Heap.get?_push_of_some _ e))
  have tH : IsPair hH hE.objs.size (.str ⟨#[c]⟩ s.toks) (.str ⟨#[d]⟩ (s.toks + 1)) := (sH.2 _ (Nat.ne_of_gt zlt)).trans ((sG.2 _ (Nat.ne_of_gt zlt)).trans (Heap.get?_push_size _ rfl))
  rw [size] at zH tH
  refine wpAny_pure ⟨_, rfl, ?_⟩
  show Q (.ref hE.objs.size) _
  rw [size]
  exact hQ hH _ _ _ zH (up _ _ D.b oE) (let ⟨o, e, r⟩ := iE1; ⟨o, up _ o D.c e, r⟩) (let ⟨o, e, r⟩ := iE2; ⟨o, up _ o D.d e, r⟩) tH fun b o n1 n2 n3 n4 e => up b o n1 ((kE b n2 n3 n4).trans ((sA.2 b n1).trans e))
theorem zipS_end {Q : Fin → Shared → Prop} (hh : A.handled = none) (D : ZipPl z TI TO i1 i2) (hz : IsZip s.heap z TI TO .none) (hTI : IsPair s.heap TI (.ref i1) (.ref i2)) (h1 : StrIt s.heap i1 x1 t1 k) (hc : x1.cps[k]? = none)
    (hE : ∀ h' e, (∀ b o, b ≠ z → b ≠ TO → b ≠ i1 → b ≠ i2 → s.heap.get? b = some o → h'.get? b = some o) → (∃ o, h'.get? e = some o ∧ o.cls = .type "StopIteration") → E (.ref e) { s with heap := h' }) :
    wpAny (model prog w) A (Builtin.«zip.__next__» ⟨[.ref z], []⟩) Q E s := by
  show wpAny _ _ (field (.ref z) 2 >>= _) _ _ _
  refine wpAny_bind (wpAny_field hz rfl (x := .bool false) rfl ?_)
  show wpAny _ _ (field (.ref z) 3 >>= _) _ _ _
  refine wpAny_bind (wpAny_field hz rfl (x := .ref TI) rfl ?_)
  refine wpAny_bind (wpAny_seqItems hTI rfl ?_)
  show wpAny _ _ (Builtin.SmallTypes.ownedTupleIsFree (.ref z) >>= _) _ _ _
  refine wpAny_bind ?_
  unfold Builtin.SmallTypes.ownedTupleIsFree
  refine wpAny_bind (wpAny_field hz rfl (x := .none) rfl (wpAny_pure ?_))
  simp only [if_true]
  refine wpAny_bind (wpAny_rule ?_)
  refine wpAny_bind (wpAny_field hz rfl (x := .ref TO) rfl ?_)
  refine wpAny_bind (wpAny_setField_rec hz (by simp) fun hA zA sA => ?_)
  replace zA : IsZip hA z TI TO .ellipsis := zA
  refine wpAny_bind ?_
  simp only [List.zipIdx_cons, List.zipIdx_nil, List.forIn_cons, List.forIn_nil]
  refine wpAny_bind (wpAny_bind (wpAny_onRaise ?_))
  show wpAny _ _ (Builtin.SmallTypes.nextOf (.ref i1) >>= _) _ _ _
  refine wpAny_bind (wpAny_nextOf_ascii_end hh (strIt_but h1 sA D.c) hc fun hB e sB he => ?_)
  obtain ⟨oe, hoe, hce⟩ := he
  have zB : IsZip hB z TI TO .ellipsis := sB _ _ D.c.symm zA
  have hez : e ≠ z := fun q => by subst q; rw [zB] at hoe; cases hoe; simp at hce
  exact wpAny_setField_rec zB (by simp) fun hC _ sC => hE hC e (fun b o n1 _ n3 _ e' => (sC.2 b n1).trans (sB _ _ n3 ((sA.2 b n1).trans e'))) ⟨oe, (sC.2 _ hez).trans hoe, hce⟩
end
noncomputable abbrev sIt (x : Str) (t : Tok) : Obj := { cls := .type (strIterType x), data := .fields #[.str x t, .int 0 0] }
noncomputable abbrev zS2 (h : Heap) (x1 x2 : Str) (t1 t2 : Tok) : Heap := (h.push (sIt x1 t1)).push (sIt x2 t2)
noncomputable abbrev zS3 (h : Heap) (x1 x2 : Str) (t1 t2 : Tok) : Heap := (zS2 h x1 x2 t1 t2).push { cls := .type "tuple", data := .seq #[.ref h.objs.size, .ref (h.push (sIt x1 t1)).objs.size] }
noncomputable abbrev zS4 (h : Heap) (x1 x2 : Str) (t1 t2 : Tok) : Heap := (zS3 h x1 x2 t1 t2).push { cls := .type "tuple", data := .seq #[.none, .none] }
noncomputable abbrev zS5 (h : Heap) (x1 x2 : Str) (t1 t2 : Tok) : Heap := (zS4 h x1 x2 t1 t2).push { cls := .type "zip", data := .fields #[.none, .bool false, .bool false, .ref (zS2 h x1 x2 t1 t2).objs.size, .ref (zS3 h x1 x2 t1 t2).objs.size] }
theorem meets_zipS (x1 x2 : Str) (t1 t2 : Tok) : Meets (Builtin.«zip.__new__» ⟨[.type "zip", .str x1 t1, .str x2 t2], []⟩) (fun _ R s => R (.ok (.ret (.ref (zS4 s.heap x1 x2 t1 t2).objs.size))) { s with heap := zS5 s.heap x1 x2 t1 t2 }) :=
  .of_wp fun prog w A R s h => by
    obtain ⟨hp, g, d, tk, os⟩ := s
    have hsub := sub_zip
    wp_walk using wpAny_pyIter_strU, wpAny_pyIter_strU
    exact ⟨_, rfl, h⟩
theorem call_zipS {prog : Program} {w : World} {A : Around} {E : Value → Shared → Prop} {s : Shared} {x1 x2 : Str} {t1 t2 : Tok} {Q : Value → Shared → Prop} (ha1 : x1.cps.all (· < 128) = true) (ha2 : x2.cps.all (· < 128) = true)
    (h : ∀ h', IsZip h' (s.heap.objs.size + 4) (s.heap.objs.size + 2) (s.heap.objs.size + 3) .none → IsPair h' (s.heap.objs.size + 2) (.ref s.heap.objs.size) (.ref (s.heap.objs.size + 1)) → IsPair h' (s.heap.objs.size + 3) .none .none →
      StrIt h' s.heap.objs.size x1 t1 0 → StrIt h' (s.heap.objs.size + 1) x2 t2 0 → (∀ b o, s.heap.get? b = some o → h'.get? b = some o) → Q (.ref (s.heap.objs.size + 4)) { s with heap := h' }) :
    wpAny (model prog w) A (call (.type "zip") [.str x1 t1, .str x2 t2]) Q E s := by
  refine callType_new F.called_zip (by decide) (F.typeCall_zip_2 _ _) (F.newCall_zip_2 _ _) (fun obj => F.args_object_init_3 obj _ _) F.entry_zip_new (meets_zipS x1 x2 t1 t2) ?_
  have z1 : (s.heap.push (sIt x1 t1)).objs.size = s.heap.objs.size + 1 := Heap.size_push ..
  have z2 : (zS2 s.heap x1 x2 t1 t2).objs.size = s.heap.objs.size + 2 := by rw [Heap.size_push, z1]
  have z3 : (zS3 s.heap x1 x2 t1 t2).objs.size = s.heap.objs.size + 3 := by rw [Heap.size_push, z2]
  have z4 : (zS4 s.heap x1 x2 t1 t2).objs.size = s.heap.objs.size + 4 := by rw [Heap.size_push, z3]
  have g5 : (zS5 s.heap x1 x2 t1 t2).get? (zS4 s.heap x1 x2 t1 t2).objs.size = some _ := Heap.get?_push_size _ rfl
  have g4 : (zS5 s.heap x1 x2 t1 t2).get? (zS3 s.heap x1 x2 t1 t2).objs.size = some _ := Heap.get?_push_of_some _ (Heap.get?_push_size _ rfl)
  have g3 : (zS5 s.heap x1 x2 t1 t2).get? (zS2 s.heap x1 x2 t1 t2).objs.size = some _ := Heap.get?_push_of_some _ (Heap.get?_push_of_some _ (Heap.get?_push_size _ rfl))
  have g2 : (zS5 s.heap x1 x2 t1 t2).get? (s.heap.push (sIt x1 t1)).objs.size = some (sIt x2 t2) := Heap.get?_push_of_some _ (Heap.get?_push_of_some _ (Heap.get?_push_of_some _ (Heap.get?_push_size _ rfl)))
  have g1 : (zS5 s.heap x1 x2 t1 t2).get? s.heap.objs.size = some (sIt x1 t1) := Heap.get?_push_of_some _ (Heap.get?_push_of_some _ (Heap.get?_push_of_some _ (Heap.get?_push_of_some _ (Heap.get?_push_size _ rfl))))
  show _ ∧ _
  rw [z2, z3, z4] at g5
  rw [z1, z2] at g3
  rw [z3] at g4
  rw [z1] at g2
  rw [z4]
  have e1 : strIterType x1 = "str_ascii_iterator" := by simp [strIterType, ha1]
  have e2 : strIterType x2 = "str_ascii_iterator" := by simp [strIterType, ha2]
  exact ⟨⟨_, g5, rfl⟩, h _ g5 g3 g4 ⟨_, g1, by show Value.type (strIterType x1) = _; rw [e1], rfl⟩ ⟨_, g2, by show Value.type (strIterType x2) = _; rw [e2], rfl⟩ fun c o x =>
    Heap.get?_push_of_some _ (Heap.get?_push_of_some _ (Heap.get?_push_of_some _ (Heap.get?_push_of_some _ (Heap.get?_push_of_some _ x))))⟩
theorem zipPl_new (n : Nat) : ZipPl (n + 4) (n + 2) (n + 3) n (n + 1) := ⟨by simp, by simp, by simp, by simp, by simp, by simp, by simp, by simp, by simp, by simp⟩
noncomputable def noTup (σ : List Ent) : Bool := σ.all fun p => match p.2.2 with | some (.tup _) => false | _ => true
theorem noTup.out {σ : List Ent} (h : noTup σ = true) {x : Str} {l : List IV} (hx : Has σ x (.tup l)) : False := by
  obtain ⟨k, hm⟩ := has_mem hx
  have := List.all_eq_true.mp h _ hm
  simp at this
theorem Base.extMany {w : World} {mg mb : Str → Option Value} {h₀ h h' : Heap} {W : List Addr} (B₀ : Base w mg mb h₀) (B : Base w mg mb h) (hs : ∀ b o, b ∉ W → h.get? b = some o → h'.get? b = some o) (ha : ∀ a ∈ W, h₀.get? a = none)
    (nc : ∀ a ∈ W, NotCode h a) : Base w mg mb h' := by
  have ne : ∀ {b o}, h₀.get? b = some o → b ∉ W := fun e q => by rw [ha _ q] at e; cases e
  have nsne : ∀ {b m}, h₀.Ns b m → b ∉ W := fun n => let ⟨_, _, _, e, _⟩ := n; ne e
  have tab : ∀ {c P q pos}, TabOk h₀ c P q pos → TabOk h c P q pos → TabOk h' c P q pos := fun T₀ T => by
    obtain ⟨⟨_, e1⟩, ⟨_, e2⟩⟩ := T₀.there
    obtain ⟨⟨o, vs, file, tf, flags, tg, inF, text, tt, e, r⟩, ps, e2', r2, u⟩ := T
    refine ⟨⟨o, vs, file, tf, flags, tg, inF, text, tt, hs _ _ (ne e1) e, r⟩, ps, hs _ _ (ne e2) e2', r2, fun cv hc => ?_⟩
    obtain ⟨c, o, vs, t, x1, x2, x3, x4, x5⟩ := u cv hc
    refine ⟨c, o, vs, t, x1, hs _ _ (fun q => ?_) x2, x3, x4, x5⟩
    rcases nc _ q o x2 with n | n
    · exact n x3
    · exact n _ x4
  refine ⟨fun b o e => hs _ _ (ne (B₀.K b o e)) (B.K b o e), B.g.at' fun o e => hs _ _ (nsne B₀.g) e, B.b.at' fun o e => hs _ _ (nsne B₀.b) e, ?_, B.bi, tab B₀.t30 B.t30, tab B₀.t37 B.t37, ?_⟩
  · obtain ⟨mc, n, _⟩ := B₀.lim
    exact Heap.NoLimit.at B.lim fun o e => hs _ _ (nsne n) e
  · obtain ⟨bm, ob, e1, e2, e3, r⟩ := B.bm
    obtain ⟨bm', ob', e1', e2', e3', r'⟩ := B₀.bm
    rw [e1] at e1'; cases e1'
    exact ⟨bm, ob, e1, e2, hs _ _ (ne e3') e3, r⟩
theorem FS.extMany {w : World} {mg mb : Str → Option Value} {t : Bool} {s₀ : Shared} {pr pr' : Pr} {env : Env} {σ : List Ent} {s : Shared} (F : FS w mg mb t s₀ pr env σ none s) (nt : noTup σ = true) {h' : Heap} {tk : Nat} (W : List Addr) (hs : ∀ b o, b ∉ W → s.heap.get? b = some o → h'.get? b = some o) (ha : ∀ a ∈ W, s₀.heap.get? a = none)
    (hd : ∀ a ∈ W, ∀ o, s.heap.get? a = some o → ((∃ vs, o.data = .fields vs) ∧ o.cls ≠ .type "code") ∨ (o.cls = .type "tuple" ∧ ∃ xs n, o.data = .seq xs n)) (hp : ∀ p ∈ pr', PrOk [] h' p) : FS w mg mb t s₀ pr' env σ none { s with heap := h', toks := tk } := by
  have nf : ∀ {b o}, s.heap.get? b = some o → (∀ vs, o.data ≠ .fields vs) → (∀ xs n, o.data ≠ .seq xs n) → b ∉ W := fun e h1 h2 q => by
    rcases hd _ q _ e with ⟨⟨vs, d⟩, _⟩ | ⟨_, xs, n, d⟩
    · exact h1 _ d
    · exact h2 _ _ d
  have nl : ∀ {b v}, s.heap.PlainList b v → b ∉ W := fun ⟨n, e⟩ q => by
    rcases hd _ q _ e with ⟨⟨vs, d⟩, _⟩ | ⟨c, _⟩
    · cases d
    · simp at c
  have nc : ∀ a ∈ W, NotCode s.heap a := fun a q o e => by
    rcases hd _ q _ e with ⟨_, c⟩ | ⟨c, _⟩
    · exact .inl c
    · exact .inl (by rw [c]; simp)
  have hns : ∀ {b m}, s.heap.Ns b m → h'.Ns b m := fun ⟨o, es, ep, e, d, r⟩ => ⟨o, es, ep, hs _ _ (nf e (by rw [d]; intro vs q; cases q) (by rw [d]; intro _ _ q; cases q)) e, d, r⟩
  have hcl : ∀ {b v}, s.heap.IsCell b v → h'.IsCell b v := fun ⟨o, e, d⟩ => ⟨o, hs _ _ (nf e (by rw [d]; intro vs q; cases q) (by rw [d]; intro _ _ q; cases q)) e, d⟩
  have hho : ∀ {x y}, HoldsAt env s.heap x y → HoldsAt env h' x y := fun h => by
    rcases h with ⟨k, m, n, e⟩ | ⟨k, c, n, e⟩
    · exact .inl ⟨k, m, hns n, e⟩
    · exact .inr ⟨k, c, n, hcl e⟩
  refine ⟨F.b0, ⟨fun b o hb e => hs _ _ (fun q => by rw [ha _ q] at e; cases e) (F.go.ext b o hb e), Base.extMany F.b0 F.go.base hs ha nc, F.go.gens, F.go.drawn, F.go.os⟩, let ⟨m, n⟩ := F.ns; ⟨m, hns n⟩,
    fun x v hx => ?_, trivial, F.fresh, fun x c hc => let ⟨v, e⟩ := F.cells x c hc; ⟨v, hcl e⟩, F.own, hp⟩
  obtain ⟨y, r, q⟩ := F.vars x v hx
  refine ⟨y, ?_, hho q⟩
  cases v with
  | im a => exact r
  | fn a => exact r
  | list l =>
    obtain ⟨b, vs, e, hx', ho, r⟩ := r
    have := nl ho
    obtain ⟨n, ho⟩ := ho
    exact ⟨b, vs, e, hx', ⟨n, hs _ _ this ho⟩, r⟩
  | tup l => exact (noTup.out nt hx).elim
-- part L26
open PySem PySem.W PyProof.Rows PySem.Calls PySem.SeqAt
set_option maxHeartbeats 2000000
section
variable {prog : Program} {w : World} {A : Around} {E : Value → Shared → Prop} {s : Shared} {z TI TO i1 i2 : Addr} {x1 x2 : Str} {t1 t2 : Tok} {k c d : Nat} {u v : Value}
theorem nextZipS_item {Q : Option Value → Shared → Prop} (D : ZipPl z TI TO i1 i2) (hz : IsZip s.heap z TI TO .none) (hTI : IsPair s.heap TI (.ref i1) (.ref i2)) (hTO : IsPair s.heap TO u v) (h1 : StrIt s.heap i1 x1 t1 k) (h2 : StrIt s.heap i2 x2 t2 k) (hc : x1.cps[k]? = some c) (hd : x2.cps[k]? = some d)
    (hQ : ∀ h' tk p q, IsZip h' z TI TO (rawInt s.heap.objs.size) → IsPair h' TO (.str ⟨#[c]⟩ p) (.str ⟨#[d]⟩ q) → StrIt h' i1 x1 t1 (k + 1) → StrIt h' i2 x2 t2 (k + 1) → IsPair h' s.heap.objs.size (.str ⟨#[c]⟩ p) (.str ⟨#[d]⟩ q) →
      (∀ b o, b ≠ z → b ≠ TO → b ≠ i1 → b ≠ i2 → s.heap.get? b = some o → h'.get? b = some o) → Q (some (.ref s.heap.objs.size)) { s with heap := h', toks := tk }) :
    wpAny (model prog w) A (pyNext (.ref z)) Q E s := by
  have hT : s.TypeIs (.ref z) "zip" := ⟨_, hz, rfl⟩
  unfold pyNext
  exact wpAny_bind (wpAny_attempt (wpAny_callSpecial?_slot (name := Str.ofString "__next__") hT F.slot_zip_next
    (wpAny_call_entry F.slot_zip_next hT F.entry_zip_next
      (zipS_item (Q := fun v s' => wpAny (model prog w) A (pure (some v)) Q E s') D hz hTI hTO h1 h2 hc hd fun h' tk p q a1 a2 a3 a4 a5 a6 => wpAny_pure (hQ h' tk p q a1 a2 a3 a4 a5 a6)) (F.args_zip_next_1 _))))
theorem nextZipS_end {Q : Option Value → Shared → Prop} (hh : A.handled = none) (D : ZipPl z TI TO i1 i2) (hz : IsZip s.heap z TI TO .none) (hTI : IsPair s.heap TI (.ref i1) (.ref i2)) (h1 : StrIt s.heap i1 x1 t1 k) (hc : x1.cps[k]? = none)
    (hQ : ∀ h', (∀ b o, b ≠ z → b ≠ TO → b ≠ i1 → b ≠ i2 → s.heap.get? b = some o → h'.get? b = some o) → Q none { s with heap := h' }) : wpAny (model prog w) A (pyNext (.ref z)) Q E s := by
  have hT : s.TypeIs (.ref z) "zip" := ⟨_, hz, rfl⟩
  unfold pyNext
  refine wpAny_bind (wpAny_attempt (wpAny_callSpecial?_slot (name := Str.ofString "__next__") hT F.slot_zip_next
    (wpAny_call_entry F.slot_zip_next hT F.entry_zip_next (zipS_end hh D hz hTI h1 hc fun h' e hk he => ?_) (F.args_zip_next_1 _))))
  obtain ⟨o, ho, hc⟩ := he
  refine wpAny_bind (wpAny_isInstance (T := "StopIteration") (b := true) ⟨o, ho, hc⟩ isSubtype_stop ?_)
  exact wpAny_pure (hQ _ hk)
end
/-- the state of the zip -/
noncomputable def ZipSt (z TI TO i1 i2 : Addr) (x1 x2 : Str) (t1 t2 : Tok) (k : Nat) (h : Heap) : Prop := IsZip h z TI TO .none ∧ IsPair h TI (.ref i1) (.ref i2) ∧ (∃ u v, IsPair h TO u v) ∧ StrIt h i1 x1 t1 k ∧ StrIt h i2 x2 t2 k
theorem zipData {z TI TO i1 i2 : Addr} {x1 x2 : Str} {t1 t2 : Tok} {h : Heap} {f0 : Value} {k : Nat} (a1 : IsZip h z TI TO f0) (a2 : ∃ u v, IsPair h TO u v) (a3 : StrIt h i1 x1 t1 k) (a4 : StrIt h i2 x2 t2 k) :
    ∀ a ∈ [z, TO, i1, i2], ∀ o, h.get? a = some o → ((∃ vs, o.data = .fields vs) ∧ o.cls ≠ .type "code") ∨ (o.cls = .type "tuple" ∧ ∃ xs n, o.data = .seq xs n) :=
  List.forall_mem_cons.mpr ⟨fun o e => by rw [a1] at e; cases e; exact .inl ⟨⟨_, rfl⟩, by simp⟩, List.forall_mem_cons.mpr ⟨fun o e => by obtain ⟨u, v, a2⟩ := a2; rw [a2] at e; cases e; exact .inr ⟨rfl, _, _, rfl⟩,
    List.forall_mem_cons.mpr ⟨fun o e => by obtain ⟨o', e', c, d⟩ := a3; rw [e'] at e; cases e; exact .inl ⟨⟨_, d⟩, by rw [c]; simp⟩, List.forall_mem_cons.mpr ⟨fun o e => by obtain ⟨o', e', c, d⟩ := a4; rw [e'] at e; cases e; exact .inl ⟨⟨_, d⟩, by rw [c]; simp⟩, fun _ h => nomatch h⟩⟩⟩⟩
noncomputable def zipGd (z TI TO i1 i2 : Addr) (a b : Value) (o1 o2 : Obj) : Pr := [(z, { cls := .type "zip", data := .fields #[.none, .bool false, .bool false, .ref TI, .ref TO] }), (TI, { cls := .type "tuple", data := .seq #[.ref i1, .ref i2] }), (TO, { cls := .type "tuple", data := .seq #[a, b] }), (i1, o1), (i2, o2)]
theorem zipPr {z TI TO i1 i2 : Addr} {x1 x2 : Str} {t1 t2 : Tok} {h : Heap} {k : Nat} {a b : Value} {o1 o2 : Obj} (cz : IsZip h z TI TO .none) (cTI : IsPair h TI (.ref i1) (.ref i2)) (cTO : IsPair h TO a b) (e1 : h.get? i1 = some o1) (k1 : o1.cls = .type "str_ascii_iterator") (d1 : o1.data = .fields #[.str x1 t1, .int k 0]) (e2 : h.get? i2 = some o2) (k2 : o2.cls = .type "str_ascii_iterator") (d2 : o2.data = .fields #[.str x2 t2, .int k 0]) :
    ∀ p ∈ zipGd z TI TO i1 i2 a b o1 o2, PrOk [] h p :=
  List.forall_mem_cons.mpr ⟨⟨cz, by simp, by simp, by simp, by simp⟩, List.forall_mem_cons.mpr ⟨⟨cTI, by simp, by simp, by simp, by simp⟩, List.forall_mem_cons.mpr ⟨⟨cTO, by simp, by simp, by simp, by simp⟩,
    List.forall_mem_cons.mpr ⟨⟨e1, by rw [d1]; simp, by rw [d1]; simp, by rw [k1]; simp, by simp⟩, List.forall_mem_cons.mpr ⟨⟨e2, by rw [d2]; simp, by rw [d2]; simp, by rw [k2]; simp, by simp⟩, fun _ h => nomatch h⟩⟩⟩⟩⟩
theorem zipBack {z TI TO i1 i2 : Addr} {x1 x2 : Str} {t1 t2 : Tok} {h : Heap} {k : Nat} {a b : Value} {o1 o2 : Obj} (k1 : o1.cls = .type "str_ascii_iterator") (d1 : o1.data = .fields #[.str x1 t1, .int k 0]) (k2 : o2.cls = .type "str_ascii_iterator") (d2 : o2.data = .fields #[.str x2 t2, .int k 0])
    (H : ∀ p ∈ zipGd z TI TO i1 i2 a b o1 o2, PrOk [] h p) : ZipSt z TI TO i1 i2 x1 x2 t1 t2 k h := by
  unfold zipGd at H
  have H1 := List.forall_mem_cons.mp H
  have H2 := List.forall_mem_cons.mp H1.2
  have H3 := List.forall_mem_cons.mp H2.2
  have H4 := List.forall_mem_cons.mp H3.2
  have H5 := List.forall_mem_cons.mp H4.2
  exact ⟨H1.1.get, H2.1.get, ⟨_, _, H3.1.get⟩, ⟨o1, H4.1.get, k1, d1⟩, ⟨o2, H5.1.get, k2, d2⟩⟩
theorem mem4 {a b c d e : Addr} (h : e ∉ [a, b, c, d]) : e ≠ a ∧ e ≠ b ∧ e ≠ c ∧ e ≠ d := by simpa using h
section
variable {C : Cx} {σ : List Ent} {Φ : Fl → Prop}
theorem X1.forZip {n1 n2 : Str} {pt pos p q1 q2 pc pp1 pp2 : Pos} {kk k1 k2 : Nat} {x1 x2 : Str} {body : List Stmt} (hh : C.A.handled = Option.none) (σf : Nat → List Ent) (nt : ∀ i, noTup (σf i) = true) (h0 : Wk σ (σf 0))
    (hlen : x1.cps.size = x2.cps.size) (hc1 : x1.length ≤ cap) (hc2 : x2.length ≤ cap) (ha1 : x1.cps.all (· < 128) = true) (ha2 : x2.cps.all (· < 128) = true)
    (turn : ∀ i c d, x1.cps[i]? = some c → x2.cps[i]? = some d → ∃ σ₁ σ₂, Mine.St (σf i) n1 (.str ⟨#[c]⟩) σ₁ ∧ Mine.St σ₁ n2 (.str ⟨#[d]⟩) σ₂ ∧ ∀ pr, XS (C.wp pr) σ₂ none body (Turn (fun σ' mu' => Wk σ' (σf (i + 1)) ∧ mu' = none) Φ))
    (fin : Φ (.next (σf x1.cps.size) none))
    (hk : C.env.kindOf (Str.ofString "zip") = some .globalImplicit := by rfl)
    (he1 : starEach [PySem.Expr.Constant (.str x1) k1 q1, PySem.Expr.Constant (.str x2) k2 q2] C.env = (false, eval (PySem.Expr.Constant (.str x1) k1 q1) C.env) :: starEach [PySem.Expr.Constant (.str x2) k2 q2] C.env := by rfl)
    (he2 : starEach [PySem.Expr.Constant (.str x2) k2 q2] C.env = (false, eval (PySem.Expr.Constant (.str x2) k2 q2) C.env) :: starEach [] C.env := by rfl)
    (hp : (backTo pc (starEach [PySem.Expr.Constant (.str x2) k2 q2] C.env)).any (·.1) = false := by rfl)
    (h1 : (assignEach [PySem.Expr.Name n1 pp1, PySem.Expr.Name n2 pp2] C.env).map (·.2) = [assign (PySem.Expr.Name n1 pp1) C.env, assign (PySem.Expr.Name n2 pp2) C.env] := by rfl) (h3 : (assignEach [PySem.Expr.Name n1 pp1, PySem.Expr.Name n2 pp2] C.env).findIdx? (·.1) = Option.none := by rfl)
    (hs : ∀ y, foldedSetIterable (.Call (.Name (Str.ofString "zip") p) [PySem.Expr.Constant (.str x1) k1 q1, PySem.Expr.Constant (.str x2) k2 q2] [] pc) C.env y = pure y := by intro _; rfl) :
    X1 C σ none (.For (.Tuple [.Name n1 pp1, .Name n2 pp2] kk pt) (.Call (.Name (Str.ofString "zip") p) [PySem.Expr.Constant (.str x1) k1 q1, PySem.Expr.Constant (.str x2) k2 q2] [] pc) body [] pos) Φ := ⟨fun sg s Q E F hq => by
  refine wpAny_For (wpAny_Call_NameR (evBuiltin (P := C.P σ none) hk n_zip b_zip F (callWith_type1 ((EvL.cons (P := C.P σ none) (EvT.str hc1) (EvL.cons (P := C.P σ none) (EvT.str hc2) EvL.nil he2) he1).run pc s _ _ F fun xs s₁ g r => ?_) he1 hp) (by decide) (by decide))) hs
  obtain ⟨u1, u2, rfl, r1, r2⟩ := mrels2 r
  obtain ⟨t1, rfl⟩ := IRel.str r1
  obtain ⟨t2, rfl⟩ := IRel.str r2
  refine call_zipS ha1 ha2 fun h₂ hz hTI hTO hi1 hi2 hk₂ => ?_
  refine wpAny_pyIter_zip hz ?_
  have D := zipPl_new s₁.heap.objs.size
  have nw : ∀ n, C.s₀.heap.get? (s₁.heap.objs.size + n) = none := fun n => F.go.none (g.none (Heap.get?_none_of_le (Nat.le_add_right ..)))
  have ns : ∀ n, s.heap.get? (s₁.heap.objs.size + n) = none := fun n => g.none (Heap.get?_none_of_le (Nat.le_add_right ..))
  have nw0 := nw 0; have nw1 := nw 1; have nw2 := nw 2; have nw3 := nw 3; have nw4 := nw 4
  have ns0 := ns 0; have ns1 := ns 1; have ns2 := ns 2; have ns3 := ns 3; have ns4 := ns 4
  simp only [Nat.add_zero] at nw0 ns0
  have g₂ : Go C.w C.mg C.mb C.t s { s₁ with heap := h₂ } := g.trans (Go.keep (tk := s₁.toks) g.base hk₂)
  generalize s₁.heap.objs.size + 4 = z at hz D nw4 ns4
  generalize s₁.heap.objs.size + 3 = TO at hz hTO D nw3 ns3
  generalize s₁.heap.objs.size + 2 = TI at hz hTI D nw2 ns2
  generalize s₁.heap.objs.size + 1 = i2 at hTI hi2 D nw1 ns1
  generalize s₁.heap.objs.size = i1 at hTI hi1 D nw0 ns0
  have hW : ∀ a ∈ [z, TO, i1, i2], C.s₀.heap.get? a = none := List.forall_mem_cons.mpr ⟨nw4, List.forall_mem_cons.mpr ⟨nw3, List.forall_mem_cons.mpr ⟨nw0, List.forall_mem_cons.mpr ⟨nw1, fun _ h => nomatch h⟩⟩⟩⟩
  have hprs : ∀ p ∈ C.pr, p.1 ≠ z ∧ p.1 ≠ TO ∧ p.1 ≠ i1 ∧ p.1 ≠ i2 := fun p hp => by
    have e := (F.prs p hp).get
    exact ⟨fun q => (by rw [q, ns4] at e; cases e), fun q => (by rw [q, ns3] at e; cases e), fun q => (by rw [q, ns0] at e; cases e), fun q => (by rw [q, ns1] at e; cases e)⟩
  refine codeAny_forLoop_any (fun k s' => ∃ i, i ≤ x1.cps.size ∧ k = x1.cps.size + 1 - i ∧ ZipSt z TI TO i1 i2 x1 x2 t1 t2 i s'.heap ∧ SigOk C.env (σf i) ∧ C.FS (σf i) none s') ?_ _
    ⟨0, Nat.zero_le _, rfl, ⟨hz, hTI, ⟨_, _, hTO⟩, hi1, hi2⟩, sg.wk h0, (FSx.wk F h0).goes g₂⟩
  rintro k s₂ ⟨i, hile, rfl, ⟨az, aTI, aTO, a1, a2⟩, sg₂, F₂⟩
  by_cases hlt : i < x1.cps.size
  · have hlt2 : i < x2.cps.size := hlen ▸ hlt
    obtain ⟨u, v, aTO⟩ := aTO
    refine nextZipS_item D az aTI aTO a1 a2 (Array.getElem?_eq_getElem hlt) (Array.getElem?_eq_getElem hlt2) fun h₃ tk₃ p q b1 b2 b3 b4 b5 bk => ?_
    have ltT : ∀ {c o}, s₂.heap.get? c = some o → s₂.heap.objs.size ≠ c := fun e => Nat.ne_of_gt (Heap.lt_size e)
    have hTz : s₂.heap.objs.size ≠ z := ltT az
    generalize s₂.heap.objs.size = T at b1 b5 hTz
    refine wpAny_letOwnedTupleGo_zip b1 fun h₄ cz s4 => ?_
    have cTI : IsPair h₄ TI (.ref i1) (.ref i2) := (s4.2 _ D.a).trans (bk _ _ D.a D.e D.f D.g aTI)
    have cTO : IsPair h₄ TO _ _ := (s4.2 _ D.b).trans b2
    have c1 : StrIt h₄ i1 x1 t1 (i + 1) := strIt_but b3 s4 D.c
    have c2 : StrIt h₄ i2 x2 t2 (i + 1) := strIt_but b4 s4 D.d
    have cT : IsPair h₄ T _ _ := (s4.2 _ hTz).trans b5
    have kp : ∀ b o, b ∉ [z, TO, i1, i2] → s₂.heap.get? b = some o → h₄.get? b = some o := fun b o hb e => by
      obtain ⟨n1, n2, n3, n4⟩ := mem4 hb
      exact (s4.2 _ n1).trans (bk b o n1 n2 n3 n4 e)
    obtain ⟨σ₁, σ₂, st1, st2, hbody⟩ := turn i _ _ (Array.getElem?_eq_getElem hlt) (Array.getElem?_eq_getElem hlt2)
    obtain ⟨o1, e1, k1', d1⟩ := c1
    obtain ⟨o2, e2, k2', d2⟩ := c2
    have F₄ : FS C.w C.mg C.mb C.t C.s₀ (zipGd z TI TO i1 i2 (.str ⟨#[x1.cps[i]]⟩ p) (.str ⟨#[x2.cps[i]]⟩ q) o1 o2 ++ C.pr) C.env (σf i) none { s₂ with heap := h₄, toks := tk₃ } :=
      F₂.extMany (nt i) [z, TO, i1, i2] kp hW (zipData az ⟨_, _, aTO⟩ a1 a2) (List.forall_mem_append.mpr ⟨zipPr cz cTI cTO e1 k1' d1 e2 k2' d2, fun p hp =>
        have P := F₂.prs p hp
        have n := hprs p hp
        ⟨kp _ _ (by simp [n.1, n.2.1, n.2.2.1, n.2.2.2]) P.get, P.dict, P.cell, P.cls, by simp⟩⟩)
    have bk2 : ∀ {h : Heap}, (∀ p' ∈ zipGd z TI TO i1 i2 (.str ⟨#[x1.cps[i]]⟩ p) (.str ⟨#[x2.cps[i]]⟩ q) o1 o2, PrOk [] h p') → ZipSt z TI TO i1 i2 x1 x2 t1 t2 (i + 1) h := zipBack k1' d1 k2' d2
    generalize zipGd z TI TO i1 i2 (.str ⟨#[x1.cps[i]]⟩ p) (.str ⟨#[x2.cps[i]]⟩ q) o1 o2 = gd at F₄ bk2
    refine assignTX (C := C.wp (gd ++ C.pr)) hh sg₂ F₄ st1 st2 ⟨T, [_, _], rfl, by simp, ⟨_, cT, rfl, _, rfl⟩, ⟨IRel.ofStr _ _ (by simp [Str.length, cap]), IRel.ofStr _ _ (by simp [Str.length, cap]), trivial⟩, by simp [cap]⟩ offMu.no offMu.no (fun s₅ sg₅ F₅ => ?_) h1 h3
    refine (hbody (gd ++ C.pr)).run sg₅ s₅ _ _ F₅ fun f s₆ hf => ?_
    have back : ∀ {σ'}, FS C.w C.mg C.mb C.t C.s₀ (gd ++ C.pr) C.env σ' none s₆ → C.FS σ' none s₆ ∧ ZipSt z TI TO i1 i2 x1 x2 t1 t2 (i + 1) s₆.heap := fun F₆ =>
      ⟨F₆.setPr fun p hp => F₆.prs p (List.mem_append_right _ hp), bk2 fun p hp => F₆.prs p (List.mem_append_left _ hp)⟩
    cases f with
    | next =>
      obtain ⟨σ', mu', sg', F', hw, rfl⟩ := hf
      obtain ⟨F6, st6⟩ := back F'
      exact ⟨_, by (first | lia | omega), i + 1, hlt, rfl, st6, sg'.wk hw, FSx.wk F6 hw⟩
    | cont =>
      obtain ⟨σ', mu', sg', F', hw, rfl⟩ := hf
      obtain ⟨F6, st6⟩ := back F'
      exact ⟨_, by (first | lia | omega), i + 1, hlt, rfl, st6, sg'.wk hw, FSx.wk F6 hw⟩
    | brk =>
      obtain ⟨σ', mu', sg', F', h⟩ := hf
      exact hq .next s₆ ⟨σ', mu', sg', F'.setPr fun p hp => F'.prs p (List.mem_append_right _ hp), h⟩
    | ret y =>
      obtain ⟨v, mu', r, g, p, m, h⟩ := hf
      exact hq (.ret y) s₆ ⟨v, mu', r, g, fun q hq => p q (List.mem_append_right _ hq), m, h⟩
  · have hie : i = x1.cps.size := by (first | lia | omega)
    subst hie
    refine nextZipS_end hh D az aTI a1 (Array.getElem?_eq_none (Nat.le_refl _)) fun h₃ bk => ?_
    have kp : ∀ b o, b ∉ [z, TO, i1, i2] → s₂.heap.get? b = some o → h₃.get? b = some o := fun b o hb e => by
      obtain ⟨n1, n2, n3, n4⟩ := mem4 hb
      exact bk b o n1 n2 n3 n4 e
    have F₄ : C.FS (σf x1.cps.size) none { s₂ with heap := h₃, toks := s₂.toks } := F₂.extMany (nt _) [z, TO, i1, i2] kp hW (zipData az aTO a1 a2) fun p hp => by
      have P := F₂.prs p hp
      obtain ⟨n1, n2, n3, n4⟩ := hprs p hp
      exact ⟨kp _ _ (by simp [n1, n2, n3, n4]) P.get, P.dict, P.cell, P.cls, by simp⟩
    exact wpAny_execs_nil (hq .next _ ⟨_, _, sg₂, F₄, fin⟩)⟩
end
-- part Gwords
open PySem PySem.W PyProof.Rows PySem.Calls PySem.SeqAt
set_option maxHeartbeats 2000000
noncomputable def wordsAt (i : Nat) : List IV := (List.range (2 ^ i)).map fun r => IV.str (wd r.testBit 0 i)
theorem wd_succ (f : Nat → Bool) (i : Nat) : wd f 0 (i + 1) = wd f 0 i ++ chr (ltr i (f i)) := by
  apply str_ext
  show _ = ((wd f 0 i).cps ++ (chr (ltr i (f i))).cps).toList
  simp only [wd, chr, Nat.sub_zero, Array.toList_append]
  rw [List.range'_concat]
  simp
theorem wd_congr {f g : Nat → Bool} {e : Nat} (h : ∀ i < e, f i = g i) : wd f 0 e = wd g 0 e := by
  apply str_ext
  simp only [wd]
  refine List.map_congr_left fun i hi => ?_
  rw [List.mem_range'_1] at hi
  rw [h i (by (first | lia | omega))]
theorem wordsAt_succ (i : Nat) : wordsAt (i + 1) = ((wordsAt i).map fun v => match v with | .str x => IV.str (x ++ chr (ltr i false)) | v => v) ++ ((wordsAt i).map fun v => match v with | .str x => IV.str (x ++ chr (ltr i true)) | v => v) := by
  have e : 2 ^ (i + 1) = 2 ^ i + 2 ^ i := by rw [Nat.pow_succ]; (first | lia | omega)
  rw [wordsAt, e, List.range_add, List.map_append]
  simp only [wordsAt, List.map_map]
  congr 1
  · refine List.map_congr_left fun r hr => ?_
    have hr := List.mem_range.mp hr
    show IV.str _ = IV.str _
    rw [wd_succ, Nat.testBit_lt_two_pow hr]
  · refine List.map_congr_left fun r hr => ?_
    have hr := List.mem_range.mp hr
    show IV.str (wd (2 ^ i + r).testBit 0 (i + 1)) = IV.str _
    rw [wd_succ]
    have h1 : (2 ^ i + r).testBit i = true := by
      rw [Nat.testBit_two_pow_add_eq, Nat.testBit_lt_two_pow hr]; rfl
    have h2 : wd (2 ^ i + r).testBit 0 i = wd r.testBit 0 i := wd_congr fun j hj => by
      rw [Nat.testBit_two_pow_add_gt hj]
    rw [h1, h2]
theorem wordsAt_mem {i : Nat} {v : IV} (h : v ∈ wordsAt i) : ∃ f : Nat → Bool, v = .str (wd f 0 i) := by
  obtain ⟨r, _, rfl⟩ := List.mem_map.mp h
  exact ⟨_, rfl⟩
theorem abcde_at : ∀ i < 5, (S "abcde").cps[i]? = some (ltr i false) ∧ (S "ABCDE").cps[i]? = some (ltr i true) := by decide
theorem abc_small : (S "abcde").cps.all (· < 128) = true := by decide +kernel
theorem abc_great : (S "ABCDE").cps.all (· < 128) = true := by decide +kernel
theorem words_spec {t : Bool} {A : Around} (hA : OkA A 0 0) : CalV t A (.ref 109) [] (.list (wordsAt 5)) := by
  have D : DefOkC 109 (fdOf 109) (bodyOf 109) [] := ⟨fun w => ⟨_, _, _, by rfl⟩, (by intro w h X; exact codeRec_35 (c := 108) X (by rfl) (by rfl)), by rfl, (len0 rfl), by decide, by rfl, by intro n; rfl, by rfl, by rfl, by rfl, by rfl, by rfl⟩
  refine CalV.ofDefC (σ := [(S "words", .local, none), (S "small", .cell, none), (S "great", .cell, none)]) D (by have := hA.dp; (first | lia | omega)) rfl (by rfl) (by rfl) (by intro n; rfl) ?_
  intro w mg mb s L hap
  have hh : (A.deeper (callEnvC (fdOf 109) L 109)).handled = none := hA.hd
  refine XS.cons (X1.asg (EvF.disp (vs := [.str (S "")]) (by (repeat (first | exact EvL.nil | (apply EvL.cons; walk_at "ev"; case hst => rfl)))) (by decide)).t (by (with_reducible (repeat (first | exact St.here' | exact St.hereC | apply St.there)))) trivial trivial (Seq.next ?_) rfl)
  refine XS.cons (X1.forZip hh (fun i => [(S "words", .local, some (.list (wordsAt i))), (S "small", .cell, none), (S "great", .cell, none)]) (fun i => by rfl) ?w0 (by rfl) (by decide) (by decide) abc_small abc_great ?turn ?fin)
  case w0 => exact Wk.refl _
  case fin => exact Seq.next (XS.cons (X1.ret (v := .list (wordsAt (S "abcde").cps.size)) (by walk_at "ev") (RetIs.ret rfl)))
  case turn =>
    intro i c d h1 h2
    have hi : i < 5 := (Array.getElem?_eq_some_iff.mp h1).1
    obtain ⟨e1, e2⟩ := abcde_at i hi
    rw [e1] at h1; rw [e2] at h2
    cases h1; cases h2
    have hi2 : (wordsAt i).length ≤ 16 := by
      simp only [wordsAt, List.length_map, List.length_range]
      have : 2 ^ i ≤ 2 ^ 4 := Nat.pow_le_pow_right (by (first | lia | omega)) (by (first | lia | omega))
      (first | lia | omega)
    have one : ∀ (b : Bool), (Str.mk #[ltr i b]).length = 1 := fun b => rfl
    refine ⟨_, _, by (with_reducible (repeat (first | exact St.here' | exact St.hereC | apply St.there))), by (with_reducible (repeat (first | exact St.here' | exact St.hereC | apply St.there))), fun pr => ?_⟩
    refine XS.cons (X1.asg (v := .list (wordsAt (i + 1))) (EvT.cast (EvT.bin
      (EvF.compN (xs := wordsAt i) (fun _ => true) (fun v => match v with | .str x => IV.str (x ++ chr (ltr i false)) | v => v) [S "small"] (EvI.list hh (by walk_at "ev")) (by simp only [cap]; (first | lia | omega)) (by rfl) (by rfl) (by rfl) (fun C => .inl rfl) (fun C => by (repeat (first | exact Frees.nil | (apply Frees.cons; walk_at "has"; (first | exact Or.inl rfl | exact Or.inr rfl); (first | exact Or.inl rfl | exact Or.inr rfl); rfl)))) (fun v hv C => EvIfs.nil) (fun v hv _ C => ?elt1)).t
      (EvF.compN (xs := wordsAt i) (fun _ => true) (fun v => match v with | .str x => IV.str (x ++ chr (ltr i true)) | v => v) [S "great"] (EvI.list hh (by walk_at "ev")) (by simp only [cap]; (first | lia | omega)) (by rfl) (by rfl) (by rfl) (fun C => .inl rfl) (fun C => by (repeat (first | exact Frees.nil | (apply Frees.cons; walk_at "has"; (first | exact Or.inl rfl | exact Or.inr rfl); (first | exact Or.inl rfl | exact Or.inr rfl); rfl)))) (fun v hv C => EvIfs.nil) (fun v hv _ C => ?elt2)).t (BinV.catL ?cat)) ?eq) (by (with_reducible (repeat (first | exact St.here' | exact St.hereC | apply St.there)))) trivial trivial (Seq.next (XS.nil (Turn.nx ⟨?wk, rfl⟩))) rfl)
    case elt1 =>
      obtain ⟨f, rfl⟩ := wordsAt_mem hv
      refine EvT.bin (by walk_at "ev") (EvT.cast (v := .str ⟨#[ltr i false]⟩) (by walk_at "ev") rfl) (BinV.cat ?_)
      have := wd_length f 0 i
      have h2 := one false
      simp only [Str.length] at this h2
      show (wd f 0 i ++ chr (ltr i false)).length ≤ cap
      show ((wd f 0 i).cps ++ (chr (ltr i false)).cps).size ≤ cap
      rw [Array.size_append, this]; simp only [cap, chr, List.size_toArray, List.length_cons, List.length_nil]; (first | lia | omega)
    case elt2 =>
      obtain ⟨f, rfl⟩ := wordsAt_mem hv
      refine EvT.bin (by walk_at "ev") (EvT.cast (v := .str ⟨#[ltr i true]⟩) (by walk_at "ev") rfl) (BinV.cat ?_)
      have := wd_length f 0 i
      simp only [Str.length] at this
      show ((wd f 0 i).cps ++ (chr (ltr i true)).cps).size ≤ cap
      rw [Array.size_append, this]; simp only [cap, chr, List.size_toArray, List.length_cons, List.length_nil]; (first | lia | omega)
    case cat => rw [filterT]; simp [cap]; (first | lia | omega)
    case eq => rw [filterT, wordsAt_succ]
    case wk => (repeat (first | with_reducible exact Wk.nil | with_reducible apply Wk.keep | with_reducible apply Wk.drop | (apply Wk.keepE (by rfl))))
-- part Gent
open PySem PySem.W PyProof.Rows PySem.Calls PySem.SeqAt
set_option maxHeartbeats 2000000
theorem g_law {w : World} {mg mb : Str → Option Value} {h : Heap} (B : Base w mg mb h) : mg (Str.ofString "law") = some (.ref 124) := mg_of B.K B.g (by kernel_rfl)
theorem D124 : DefOkC 124 (fdOf 124) (bodyOf 124) [S "script"] := ⟨fun w => ⟨_, _, _, by rfl⟩, (by intro w h X; exact codeRec_35 (c := 123) X (by rfl) (by rfl)), by rfl, (len1 fun a => rfl), by decide, by rfl, by intro n; rfl, by rfl, by rfl, by rfl, by rfl, by rfl⟩
noncomputable def lawS (a : Addr) : List Ent := [(S "script", .local, some (.fn a)), (S "numbers", .local, none), (S "words", .cell, none), (S "ones", .cell, none), (S "place", .local, none), (S "code", .cell, none), (S "mates", .cell, none), (S "asking", .cell, none), (S "signs", .cell, none), (S "apart", .cell, none), (S "k", .local, none), (S "due", .local, none), (S "far", .local, none), (S "firsts", .cell, none), (S "counts", .local, none), (S "width", .local, none), (S "base", .cell, none), (S "quotient", .local, none), (S "rest", .local, none), (S "evens", .local, none), (S "lifted", .local, none), (S "back", .local, none), (S "spread", .local, none), (S "places", .cell, none), (S "size", .local, none), (S "want", .cell, none), (S "taken", .local, none), (S "within", .local, none)]
theorem law_run {w : World} {mg mb : Str → Option Value} {s : Shared} {a : Addr} {R : Result → Shared → Prop} (B : Base w mg mb s.heap)
    (hb : ∀ (L : Addr) (hap : (callEnvC (fdOf 124) L 124).cells.Pairwise fun x y => x.2 ≠ y.2), XS ⟨w, mg, mb, true, callerA.deeper (callEnvC (fdOf 124) L 124), s, [], callEnvC (fdOf 124) L 124, D124.st L hap⟩ (lawS a) none (bodyOf 124) (RetIs (.bool true)))
    (hR : ∀ s', Go w mg mb true s s' → R (.ok (.ret (.bool true))) s') : codeAny (model PG w) callerA (.call (.ref 124) ⟨[.ref a], []⟩) R s := by
  obtain ⟨oc, od, sl, hf⟩ := D124.fn w
  have hloc : ∀ x ∈ [S "script"], (fdOf 124).scope.names.lookup x = some .local ∨ ((fdOf 124).scope.names.lookup x = some .cell ∧ ((cellsFrom (s.heap.objs.size + 1) (fdOf 124).scope.names []).lookup x).isSome = true) := fun x hx => by
    have := List.all_eq_true.mp (D124.loc s.heap.objs.size) x hx
    simpa only [Bool.or_eq_true, Bool.and_eq_true, beq_iff_eq] using this
  refine codeAny_call_cells (by decide) (B.K _ _ hf) rfl B.lim (D124.code w _ B.K) D124.body (D124.bind [.ref a] rfl) D124.clo (fun x hx => hloc _ (List.of_mem_zip hx).1) (fun s₁ X => ?_) D124.co D124.gen D124.kind
  have F := FS.startC (w := w) (mg := mg) (mb := mb) (t := true) (vs := [.fn a]) (xs := [.ref a]) B D124.nd rfl ⟨rfl, trivial⟩ (σ := lawS a) (fun x v hx => initS_has (names := (fdOf 124).scope.names.filter fun p => p.2 == .local || p.2 == .cell) hx) hloc X
  have sg : SigOk (callEnvC (fdOf 124) s.heap.objs.size 124) (lawS a) := SigOk.of (by rfl) (by rfl)
  refine (hb s.heap.objs.size X.apart).run sg _ _ _ F fun fl s' hf => ?_
  cases fl with
  | next =>
    obtain ⟨σ', mu', _, F', e⟩ := hf
    cases e
  | ret y =>
    obtain ⟨v, _, rv, g, _, _, e⟩ := hf
    have e' : v = .bool true := e
    subst e'
    cases IRel.bool rv
    exact hR s' g
  | brk => obtain ⟨_, _, _, _, e⟩ := hf; exact e.elim
  | cont => obtain ⟨_, _, _, _, e⟩ := hf; exact e.elim
-- part L27
open PySem PySem.W PyProof.Rows PySem.Calls PySem.SeqAt
set_option maxHeartbeats 2000000
section
variable {w : World} {mg mb : Str → Option Value} {t : Bool} {A : Around} {P : SP w mg mb t}
/-- a slice of a list that was given (its object may carry more) -/
theorem EvT.givenSlice {value : PySem.Expr} {lower upper : Option PySem.Expr} {p pos : Pos} {a : Addr} {vs : List Value} {ys : List IV} {l u : Option Int} (hv : EvT A P value (.fn a)) (hS : ∀ s, P.p s → s.heap.IsList a vs.toArray) (hcap : vs.length ≤ cap) (hl : EvP A P lower l) (hu : EvP A P upper u) (hy : IRels ys (slicePick vs.toArray l u Option.none).toList) : EvT A P (.Subscript value (.Slice lower upper Option.none p) pos) (.list ys) := ⟨fun s Q E hs h =>
  sliceList (hv.run s _ _ hs fun xv s₁ g₁ r₁ => hl.run s₁ _ _ (P.go hs g₁) fun pl s₂ g₂ => by
    by_cases hpl : pl.map (·.1) = l
    · left
      refine hu.run s₂ _ _ (P.go (P.go hs g₁) g₂) fun pu s₃ g₃ => ?_
      by_cases hpu : pu.map (·.1) = u
      · left
        have e : xv = .ref a := r₁
        subst hpl hpu e
        have hle : ys.length ≤ vs.length := by
          have e1 := hy.length
          have e2 := slicePick_size_le vs.toArray (pl.map (·.1)) (pu.map (·.1)) Option.none
          simp only [Array.length_toList, List.size_toArray] at e1 e2
          (first | lia | omega)
        refine ⟨a, vs.toArray, _, _, rfl, hS _ (P.go (P.go (P.go hs g₁) g₂) g₃), ?_, part_is pl, part_is pu, ?_⟩
        · rw [List.size_toArray, sizeLine_eq]; simp only [cap] at hcap; (first | lia | omega)
        · have g4 := g₃.trans (Go.push (t := t) (tk := s₃.toks) g₃.base { cls := .type "slice", data := .fields #[partValue pl, partValue pu, .none] })
          have g5 := g4.trans (Go.push (t := t) (tk := s₃.toks) g4.base { cls := .type "list", data := .seq (slicePick vs.toArray (pl.map (·.1)) (pu.map (·.1)) Option.none) })
          refine h _ _ (g₁.trans (g₂.trans g5)) ⟨_, (slicePick vs.toArray (pl.map (·.1)) (pu.map (·.1)) Option.none).toList, rfl, by simp, ⟨0, ?_⟩, hy, Nat.le_trans hle hcap⟩
          rw [Array.toArray_toList]
          have e : s₃.heap.objs.size + 1 = (s₃.heap.push { cls := .type "slice", data := .fields #[partValue pl, partValue pu, .none] }).objs.size := (Heap.size_push ..).symm
          rw [e]
          exact Heap.get?_push_size _ rfl
      · right; exact hpu
    · right; exact hpl)⟩
/-- a builtin's call, its arguments looked at together with the state -/
theorem EvT.callBS {x : Str} {p pos : Pos} {e : PySem.Expr} {es : List PySem.Expr} {vs : List MV} {c : MV} {id : String} (hn : ∀ {h : Heap}, Base w mg mb h → mg x = Option.none) (hb : bootBuiltins x = some (.builtin id)) (hl : EvL A P (e :: es) vs)
    (hc : ∀ (s : Shared) (xs : List Value) (Q E : Value → Shared → Prop), P.p s → MRels [] s.heap vs xs → (∀ z s', Go w mg mb t s s' → MRel [] s'.heap c z → Q z s') → wpAny (model PG w) A (call (.builtin id) xs) Q E s)
    (hk : P.env.kindOf x = some .globalImplicit := by rfl) (h1 : (x == Str.ofString "__debug__") = false := by decide) (h2 : x ≠ Str.ofString "__name__" := by decide)
    (he : starEach (e :: es) P.env = (false, eval e P.env) :: starEach es P.env := by rfl) (hp : (backTo pos (starEach es P.env)).any (·.1) = false := by rfl) : EvT A P (.Call (.Name x p) (e :: es) [] pos) c := ⟨fun s Q E hs h =>
  wpAny_Call_NameR (evBuiltin hk hn hb hs (callWith_builtin1 (hl.run pos s _ _ hs fun xs s₁ g₁ r₁ => hc s₁ xs _ _ (P.go hs g₁) r₁ fun z s₂ g₂ r₂ => h z s₂ (g₁.trans g₂) r₂) he hp) h1 h2)⟩
theorem givenLen {a : Addr} {vs : List Value} {n : Nat} (hS : ∀ s, P.p s → s.heap.IsList a vs.toArray) (hcap : vs.length ≤ cap) (hn : vs.length = n) : ∀ (s : Shared) (xs : List Value) (Q E : Value → Shared → Prop), P.p s → MRels [] s.heap [.fn a] xs → (∀ z s', Go w mg mb t s s' → MRel [] s'.heap (.int n) z → Q z s') → wpAny (model PG w) A (call (.builtin "len") xs) Q E s := by
  intro s xs Q E hs r h
  obtain ⟨u, rfl, ru⟩ := mrels1 r
  have e : u = .ref a := ru
  subst e
  refine PyProof.Rows.len_list (hS s hs) (by rw [List.size_toArray]; simp only [cap] at hcap; (first | lia | omega)) ?_
  rw [List.size_toArray, hn]
  exact h _ _ (Go.tok (P.base hs)) (MRel.ofInt _ _)
theorem givenSum {a : Addr} {vs : List Value} {ns : List Int} (hh : A.handled = Option.none) (hS : ∀ s, P.p s → s.heap.IsList a vs.toArray) (hi : IntsAre vs ns) : ∀ (s : Shared) (xs : List Value) (Q E : Value → Shared → Prop), P.p s → MRels [] s.heap [.fn a] xs → (∀ z s', Go w mg mb t s s' → MRel [] s'.heap (.int ns.sum) z → Q z s') → wpAny (model PG w) A (call (.builtin "sum") xs) Q E s := by
  intro s xs Q E hs r h
  obtain ⟨u, rfl, ru⟩ := mrels1 r
  have e : u = .ref a := ru
  subst e
  obtain ⟨xs, e, e2⟩ := ints_items hi
  have hl := hS s hs
  rw [e] at hl
  refine sum_intListG hh hl fun h' tk t' hk => ?_
  have e3 : preSum (numAt xs) xs.size = ns.sum := by
    have := nums_intItems xs
    rw [preSum_eq, List.take_of_length_le (by simp), ← e2]
  rw [e3]
  exact h _ _ (Go.keep (P.base hs) hk) (MRel.ofInt _ _)
end
section
variable {A : Around}
theorem int_eqs {s : Shared} {vs : List Value} {ns : List Int} (a : IntsAre vs ns) : ∀ {ws : List Value} {ms : List Int}, IntsAre ws ms → ∀ j (h1 : j < vs.toArray.size) (h2 : j < ws.toArray.size), EqAt A s vs.toArray[j] ws.toArray[j] (ns.getD j 0 == ms.getD j 0) := by
  induction a with
  | nil => intro ws ms b j h1; simp at h1
  | cons n t a ih =>
    intro ws ms b j h1 h2
    cases b with
    | nil => simp at h2
    | cons m u b =>
      cases j with
      | zero => exact EqAt.int_int n t m u
      | succ j => exact ih b j (Nat.lt_of_succ_lt_succ h1) (Nat.lt_of_succ_lt_succ h2)
theorem CmpV.neLsame {l : List Int} (hu : A.units < cLine) : CmpV A .NotEq (.list (l.map IV.int)) (.list (l.map IV.int)) false := by
  constructor; intro w mg mb s u v Q E B r1 r2 h
  obtain ⟨a, ys, rfl, -, hp, hr, -⟩ := r1
  obtain ⟨b, zs, rfl, -, hp2, hr2, -⟩ := r2
  have e1 := hr.length; have e2 := hr2.length
  refine RcNeAt.lists hp.isList hp2.isList (by rw [List.size_toArray, List.size_toArray, ← e1, ← e2]) hu (int_eqs (ints_are hr) (ints_are hr2)) PG w E Q ?_
  have : (!(List.range ys.toArray.size).all fun j => l.getD j 0 == l.getD j 0) = false := by simp
  rw [this]
  exact h s (Go.refl B)
theorem CmpV.neTsame {l : List Int} (hu : A.units < cLine) : CmpV A .NotEq (.tup (l.map IV.int)) (.tup (l.map IV.int)) false := by
  constructor; intro w mg mb s u v Q E B r1 r2 h
  obtain ⟨a, ys, rfl, -, hp, hr, -⟩ := r1
  obtain ⟨b, zs, rfl, -, hp2, hr2, -⟩ := r2
  have e1 := hr.length; have e2 := hr2.length
  refine RcNeAt.tuples hp hp2 hu (int_eqs (ints_are hr) (ints_are hr2)) PG w E Q ?_
  have : (!((List.range (min ys.toArray.size zs.toArray.size)).all (fun j => l.getD j 0 == l.getD j 0) && ys.toArray.size == zs.toArray.size)) = false := by
    have : ys.toArray.size = zs.toArray.size := by rw [List.size_toArray, List.size_toArray, ← e1, ← e2]
    simp [this]
  rw [this]
  exact h s (Go.refl B)
theorem CmpV.eqLnil {l : List IV} (hu : A.units < cLine) : CmpV A .Eq (.list l) (.list []) l.isEmpty := by
  constructor; intro w mg mb s u v Q E B r1 r2 h
  obtain ⟨a, ys, rfl, -, hp, hr, -⟩ := r1
  obtain ⟨b, zs, rfl, -, hp2, hr2, -⟩ := r2
  have e1 := hr.length; have e2 := hr2.length
  cases l with
  | nil =>
    refine eq_listAt (e := fun _ => true) hp.isList hp2.isList (by rw [List.size_toArray, List.size_toArray, ← e1, ← e2]) hu (fun j h1 _ => by rw [List.size_toArray, ← e1] at h1; simp at h1) ?_
    have : ((List.range ys.toArray.size).all fun _ => true) = true := by simp
    rw [this]
    exact h s (Go.refl B)
  | cons x l =>
    refine eq_list_lengthsAt hp.isList hp2.isList ?_ hu (h s (Go.refl B))
    rw [List.size_toArray, List.size_toArray, ← e1, ← e2]; simp
end
-- part M1
open PySem
set_option maxHeartbeats 1000000
noncomputable def pc (r : Nat) : Nat := r % 2 + r / 2 % 2 + r / 4 % 2 + r / 8 % 2 + r / 16 % 2
noncomputable def par (r y : Nat) : Nat := pc (r &&& y) % 2
noncomputable def allB (n : Nat) (p : Nat → Bool) : Bool := (List.range n).all p
theorem allB_out {n : Nat} {p : Nat → Bool} (h : allB n p = true) {i : Nat} (hi : i < n) : p i = true := List.all_eq_true.mp h i (List.mem_range.mpr hi)
theorem pc_xor_all : (allB 32 fun x => allB 32 fun y => pc (x ^^^ y) % 2 == (pc x + pc y) % 2) = true := by decide +kernel
noncomputable def sg (r y : Nat) : Int := 1 - 2 * (par r y : Nat)
noncomputable def sm (l : List Nat) (f : Nat → Int) : Int := (l.map f).sum
theorem orth_all : (allB 32 fun z => sm (List.range 32) (fun r => sg r z) == if z == 0 then 32 else 0) = true := by decide +kernel
theorem sub_all : (allB 32 fun P => allB 32 fun z => sm ((List.range 32).filter fun r => r ||| P == P) (fun r => sg r z) == if z &&& P == 0 then 2 ^ pc P else 0) = true := by decide +kernel
theorem poly_all : (allB 7 fun i => allB 32 fun z => (1 - (2 ^ (6 + i) : Int)) ^ pc z * (1 + (2 ^ (6 + i) : Int)) ^ (5 - pc z) == sm (List.range 32) (fun r => sg r z * (2 ^ (6 + i) : Int) ^ pc r)) = true := by decide +kernel
theorem pc_le : ∀ r < 32, pc r ≤ 5 := by decide
theorem pc_lt (r : Nat) : pc r < 6 := by unfold pc; (first | lia | omega)
theorem xor_lt {x y : Nat} (hx : x < 32) (hy : y < 32) : x ^^^ y < 32 := Nat.xor_lt_two_pow (n := 5) hx hy
theorem and_lt {x y : Nat} (hx : x < 32) : x &&& y < 32 := Nat.lt_of_le_of_lt Nat.and_le_left hx
theorem par_xor {r x y : Nat} (hr : r < 32) : par r (x ^^^ y) = (par r x + par r y) % 2 := by
  unfold par
  rw [Nat.and_xor_distrib_left]
  have h := allB_out (allB_out pc_xor_all (i := r &&& x) (and_lt hr)) (i := r &&& y) (and_lt hr)
  simp only [beq_iff_eq] at h
  rw [h]; (first | lia | omega)
theorem par_le (r y : Nat) : par r y = 0 ∨ par r y = 1 := by unfold par; (first | lia | omega)
theorem sg_xor {r x y : Nat} (hr : r < 32) : sg r (x ^^^ y) = sg r x * sg r y := by
  unfold sg
  rw [par_xor hr]
  rcases par_le r x with h1 | h1 <;> rcases par_le r y with h2 | h2 <;> rw [h1, h2] <;> decide
theorem sg_comm (r y : Nat) : sg r y = sg y r := by unfold sg par; rw [Nat.and_comm]
theorem sg_sq (r y : Nat) : sg r y * sg r y = 1 := by
  unfold sg; rcases par_le r y with h | h <;> rw [h] <;> decide
/- sums -/
theorem sm_nil (f : Nat → Int) : sm [] f = 0 := rfl
theorem sm_cons (a : Nat) (l : List Nat) (f : Nat → Int) : sm (a :: l) f = f a + sm l f := by simp [sm]
theorem sm_append (a b : List Nat) (f : Nat → Int) : sm (a ++ b) f = sm a f + sm b f := by
  induction a with
  | nil => simp [sm_nil]
  | cons x a ih => rw [List.cons_append, sm_cons, sm_cons, ih]; (first | lia | omega)
theorem sm_map (g : Nat → Nat) (l : List Nat) (f : Nat → Int) : sm (l.map g) f = sm l (fun x => f (g x)) := by
  induction l with
  | nil => rfl
  | cons x a ih => rw [List.map_cons, sm_cons, sm_cons, ih]
theorem sm_congr {l : List Nat} {f g : Nat → Int} (h : ∀ x ∈ l, f x = g x) : sm l f = sm l g := by
  unfold sm; rw [List.map_congr_left h]
theorem sm_add (l : List Nat) (f g : Nat → Int) : sm l (fun x => f x + g x) = sm l f + sm l g := by
  induction l with
  | nil => rfl
  | cons x a ih => rw [sm_cons, sm_cons, sm_cons, ih]; (first | lia | omega)
theorem sm_mul (l : List Nat) (k : Int) (f : Nat → Int) : sm l (fun x => k * f x) = k * sm l f := by
  induction l with
  | nil => simp [sm_nil]
  | cons x a ih => rw [sm_cons, sm_cons, ih, Int.mul_add]
theorem sm_zero (l : List Nat) : sm l (fun _ => 0) = 0 := by
  induction l with
  | nil => rfl
  | cons x a ih => rw [sm_cons, ih]; rfl
theorem sm_const (l : List Nat) (k : Int) : sm l (fun _ => k) = l.length * k := by
  induction l with
  | nil => simp [sm_nil]
  | cons x a ih => rw [sm_cons, ih, List.length_cons]; push_cast; rw [Int.add_mul]; (first | lia | omega)
theorem sm_swap (l m : List Nat) (f : Nat → Nat → Int) : sm l (fun x => sm m (fun y => f x y)) = sm m (fun y => sm l (fun x => f x y)) := by
  induction l with
  | nil => simp only [sm_nil]; rw [sm_zero]
  | cons a l ih => rw [sm_cons, ih, ← sm_add]; refine sm_congr fun y _ => ?_; rw [sm_cons]
theorem sm_filter (l : List Nat) (p : Nat → Bool) (f : Nat → Int) : sm (l.filter p) f = sm l (fun x => if p x then f x else 0) := by
  induction l with
  | nil => rfl
  | cons a l ih =>
    rw [sm_cons, List.filter_cons]
    cases h : p a with
    | true => simp only [if_true]; rw [sm_cons, ih]
    | false => simp only [Bool.false_eq_true, if_false]; rw [ih]; (first | lia | omega)
theorem sm_eq (l : List Nat) (hnd : l.Nodup) (a : Nat) (ha : a ∈ l) (f : Nat → Int) : sm l (fun x => if x == a then f x else 0) = f a := by
  induction l with
  | nil => cases ha
  | cons b l ih =>
    rw [sm_cons]
    rw [List.nodup_cons] at hnd
    by_cases e : b = a
    · subst e
      simp only [beq_self_eq_true, if_true]
      have : sm l (fun x => if x == b then f x else 0) = sm l (fun _ => 0) := sm_congr fun x hx => by
        have : x ≠ b := fun e => hnd.1 (e ▸ hx)
        simp [this]
      rw [this, sm_zero]; (first | lia | omega)
    · have hb : (b == a) = false := by simpa using e
      rw [hb]
      simp only [Bool.false_eq_true, if_false]
      rw [ih hnd.2 (by rcases List.mem_cons.mp ha with h | h; exact absurd h.symm e; exact h)]; (first | lia | omega)
/-- what a code's list has -/
structure CodeOk (c : List Nat) : Prop where
  lt : ∀ v ∈ c, v < 32
  one : sm c (fun v => if v == 0 then 1 else 0) = 1
  ch : ∀ r < 32, sm c (sg r) = if c.all (fun v => par r v == 0) then (c.length : Int) else 0
  pos : 0 < c.length
noncomputable def stepN (c : List Nat) (x : Nat) : List Nat := if c.any (· == x) then c else c ++ c.map (· ^^^ x)
theorem xor_zero_iff {a b : Nat} (h : a ^^^ b = 0) : a = b := by
  have h2 : (a ^^^ b) ^^^ b = 0 ^^^ b := by rw [h]
  rw [Nat.xor_assoc, Nat.xor_self, Nat.xor_zero, Nat.zero_xor] at h2
  exact h2
theorem CodeOk.start : CodeOk [0] := ⟨by simp, by decide, fun r hr => by
  have : sg r 0 = 1 := by unfold sg par; rw [Nat.and_zero]; decide
  have h2 : par r 0 = 0 := by unfold par; rw [Nat.and_zero]; decide
  rw [sm_cons, sm_nil, this]; simp [h2], by decide⟩
theorem CodeOk.step {c : List Nat} (k : CodeOk c) {x : Nat} (hx : x < 32) : CodeOk (stepN c x) := by
  unfold stepN
  split
  · exact k
  · rename_i hn
    have hn : ∀ v ∈ c, v ≠ x := fun v hv e => hn (List.any_eq_true.mpr ⟨v, hv, by simpa using e⟩)
    refine ⟨fun v hv => ?_, ?_, fun r hr => ?_, by rw [List.length_append]; have := k.pos; (first | lia | omega)⟩
    · rcases List.mem_append.mp hv with h | h
      · exact k.lt v h
      · obtain ⟨u, hu, rfl⟩ := List.mem_map.mp h
        exact xor_lt (k.lt u hu) hx
    · rw [sm_append, sm_map, k.one]
      have : sm c (fun v => if (v ^^^ x) == 0 then (1 : Int) else 0) = sm c (fun _ => 0) := sm_congr fun v hv => by
        have : v ^^^ x ≠ 0 := fun e => hn v hv (xor_zero_iff e)
        simp [this]
      rw [this, sm_zero]; rfl
    · rw [sm_append, sm_map]
      have e1 : sm c (fun v => sg r (v ^^^ x)) = sg r x * sm c (sg r) := by
        rw [← sm_mul]
        exact sm_congr fun v _ => by rw [sg_xor hr, Int.mul_comm]
      rw [e1, k.ch r hr, List.all_append, List.length_append, List.length_map, List.all_map]
      cases hc : c.all (fun v => par r v == 0) with
      | false => simp
      | true =>
        simp only [if_true, Bool.true_and]
        have hp : ∀ v ∈ c, par r v = 0 := fun v hv => by simpa using List.all_eq_true.mp hc v hv
        rcases par_le r x with h | h
        · have : (c.all ((fun v => par r v == 0) ∘ fun v => v ^^^ x)) = true := List.all_eq_true.mpr fun v hv => by
            simp only [Function.comp_apply, beq_iff_eq]; rw [par_xor hr, hp v hv, h]
          rw [this]; simp only [if_true]
          have : sg r x = 1 := by unfold sg; rw [h]; rfl
          rw [this]; push_cast; (first | lia | omega)
        · have : (c.all ((fun v => par r v == 0) ∘ fun v => v ^^^ x)) = false := by
            obtain ⟨v, hv⟩ := List.exists_mem_of_length_pos k.pos
            refine List.all_eq_false.mpr ⟨v, hv, ?_⟩
            simp only [Function.comp_apply, beq_iff_eq]; rw [par_xor hr, hp v hv, h]; decide
          rw [this]; simp only [Bool.false_eq_true, if_false]
          have : sg r x = -1 := by unfold sg; rw [h]; rfl
          rw [this]; (first | lia | omega)
theorem CodeOk.fold : ∀ (xs : List Nat) {c : List Nat}, (∀ x ∈ xs, x < 32) → CodeOk c → CodeOk (xs.foldl stepN c)
  | [], _, _, k => k
  | x :: xs, _, h, k => CodeOk.fold xs (fun y hy => h y (.tail _ hy)) (k.step (h x (.head _)))
noncomputable def matesN (c : List Nat) : List Nat := (List.range 32).filter fun r => c.all fun v => par r v == 0
section
variable {c : List Nat} (k : CodeOk c)
include k
theorem mates_ind {r : Nat} (hr : r < 32) (y : Int) : (if (c.all fun v => par r v == 0) then (c.length : Int) * y else 0) = sm c (sg r) * y := by
  rw [k.ch r hr]; split <;> simp
theorem mates_lt {r : Nat} (h : r ∈ matesN c) : r < 32 := List.mem_range.mp (List.mem_filter.mp h).1
/-- |c| times a sum over the mates -/
theorem mates_sum (f : Nat → Int) : (c.length : Int) * sm (matesN c) f = sm c (fun v => sm (List.range 32) (fun r => sg r v * f r)) := by
  rw [← sm_swap, matesN, sm_filter, ← sm_mul]
  refine sm_congr fun r hr => ?_
  have hr := List.mem_range.mp hr
  have := mates_ind k hr (f r)
  rw [show (c.length : Int) * (if (c.all fun v => par r v == 0) = true then f r else 0) = if (c.all fun v => par r v == 0) = true then (c.length : Int) * f r else 0 by split <;> simp, this]
  rw [Int.mul_comm, ← sm_mul]
  exact sm_congr fun v _ => Int.mul_comm _ _
theorem poly_at {i : Nat} (hi : i < 7) {z : Nat} (hz : z < 32) : (1 - (2 ^ (6 + i) : Int)) ^ pc z * (1 + (2 ^ (6 + i) : Int)) ^ (5 - pc z) = sm (List.range 32) (fun r => sg r z * (2 ^ (6 + i) : Int) ^ pc r) := by
  have := allB_out (allB_out poly_all hi) hz
  simpa using this
/-- the first check -/
theorem check1 {i : Nat} (hi : i < 7) {y : Nat} (hy : y < 32) :
    sm c (fun v => (1 - (2 ^ (6 + i) : Int)) ^ pc (y ^^^ v) * (1 + (2 ^ (6 + i) : Int)) ^ (5 - pc (y ^^^ v))) = c.length * sm (matesN c) (fun r => sg r y * (2 ^ (6 + i) : Int) ^ pc r) := by
  rw [mates_sum k]
  refine sm_congr fun v hv => ?_
  rw [poly_at k hi (xor_lt hy (k.lt v hv))]
  refine sm_congr fun r hr => ?_
  rw [sg_xor (List.mem_range.mp hr), Int.mul_comm (sg r y), Int.mul_assoc]
theorem orth {z : Nat} (hz : z < 32) : sm (List.range 32) (fun r => sg r z) = if z == 0 then 32 else 0 := by
  have := allB_out orth_all hz
  simpa using this
/-- the dual of the mates -/
theorem dual {z : Nat} (hz : z < 32) : (c.length : Int) * sm (matesN c) (fun r => sg r z) = 32 * sm c (fun v => if v == z then 1 else 0) := by
  rw [mates_sum k, ← sm_mul]
  refine sm_congr fun v hv => ?_
  have e : sm (List.range 32) (fun r => sg r v * sg r z) = sm (List.range 32) (fun r => sg r (v ^^^ z)) := sm_congr fun r hr => (sg_xor (List.mem_range.mp hr)).symm
  rw [e, orth k (xor_lt (k.lt v hv) hz)]
  by_cases h : v = z
  · subst h; simp
  · have h1 : (v == z) = false := by simpa using h
    have h2 : (v ^^^ z == 0) = false := by simpa using fun e => h (xor_zero_iff e)
    rw [h1, h2]; simp
theorem mates_len : (c.length : Int) * (matesN c).length = 32 := by
  have h := dual k (z := 0) (by (first | lia | omega))
  have e : sm (matesN c) (fun r => sg r 0) = (matesN c).length := by
    rw [← Int.mul_one ((matesN c).length : Int), ← sm_const]
    exact sm_congr fun r _ => by unfold sg par; rw [Nat.and_zero]; rfl
  rw [e, k.one] at h; simpa using h
/-- the third check -/
theorem check3 {i : Nat} (hi : i < 7) {y : Nat} (hy : y < 32) :
    sm (matesN c) (fun r => sg r y * ((1 - (2 ^ (6 + i) : Int)) ^ pc r * (1 + (2 ^ (6 + i) : Int)) ^ (5 - pc r))) = (matesN c).length * sm c (fun v => (2 ^ (6 + i) : Int) ^ pc (y ^^^ v)) := by
  have hc : (c.length : Int) ≠ 0 := by have := k.pos; (first | lia | omega)
  refine Int.eq_of_mul_eq_mul_left hc ?_
  have e1 : sm (matesN c) (fun r => sg r y * ((1 - (2 ^ (6 + i) : Int)) ^ pc r * (1 + (2 ^ (6 + i) : Int)) ^ (5 - pc r))) = sm (List.range 32) (fun q => (2 ^ (6 + i) : Int) ^ pc q * sm (matesN c) (fun r => sg r (q ^^^ y))) := by
    have : ∀ r ∈ matesN c, sg r y * ((1 - (2 ^ (6 + i) : Int)) ^ pc r * (1 + (2 ^ (6 + i) : Int)) ^ (5 - pc r)) = sm (List.range 32) (fun q => (2 ^ (6 + i) : Int) ^ pc q * sg r (q ^^^ y)) := fun r hr => by
      have hr := mates_lt k hr
      rw [poly_at k hi hr, ← sm_mul]
      refine sm_congr fun q hq => ?_
      rw [sg_xor hr, sg_comm r q, ← Int.mul_assoc, Int.mul_comm, Int.mul_comm (sg r y)]
    rw [sm_congr this, sm_swap]
    exact sm_congr fun q _ => sm_mul ..
  rw [e1, ← sm_mul]
  have e2 : ∀ q ∈ List.range 32, (c.length : Int) * ((2 ^ (6 + i) : Int) ^ pc q * sm (matesN c) (fun r => sg r (q ^^^ y))) = sm c (fun v => 32 * (if q == y ^^^ v then (2 ^ (6 + i) : Int) ^ pc q else 0)) := fun q hq => by
    have hq := List.mem_range.mp hq
    rw [← Int.mul_assoc, Int.mul_comm (c.length : Int), Int.mul_assoc, dual k (xor_lt hq hy), ← Int.mul_assoc, ← sm_mul]
    refine sm_congr fun v hv => ?_
    by_cases h : v = q ^^^ y
    · subst h
      have : y ^^^ (q ^^^ y) = q := by rw [Nat.xor_comm q y, ← Nat.xor_assoc, Nat.xor_self, Nat.zero_xor]
      rw [this]; simp [Int.mul_comm]
    · have h1 : (v == q ^^^ y) = false := by simpa using h
      have h2 : (q == y ^^^ v) = false := by
        simp only [beq_eq_false_iff_ne, ne_eq]
        intro e; apply h; rw [e, Nat.xor_comm y v, Nat.xor_assoc, Nat.xor_self, Nat.xor_zero]
      rw [h1, h2]; simp
  rw [sm_congr e2, sm_swap, ← Int.mul_assoc, mates_len k, ← sm_mul]
  refine sm_congr fun v hv => ?_
  rw [sm_mul]
  congr 1
  exact sm_eq (List.range 32) List.nodup_range (y ^^^ v) (List.mem_range.mpr (xor_lt hy (k.lt v hv))) (fun q => (2 ^ (6 + i) : Int) ^ pc q)
/-- the fourth check -/
theorem check4 {P : Nat} (hP : P < 32) {y : Nat} (hy : y < 32) : ((c.filter fun v => (y ^^^ v) &&& P == 0).length : Int) * 2 ^ pc P = c.length * sm ((matesN c).filter fun r => r ||| P == P) (fun r => sg r y) := by
  rw [sm_filter, mates_sum k]
  have e : ∀ v ∈ c, sm (List.range 32) (fun r => sg r v * (if (r ||| P == P) = true then sg r y else 0)) = if ((y ^^^ v) &&& P == 0) = true then 2 ^ pc P else 0 := fun v hv => by
    have h := allB_out (allB_out sub_all hP) (xor_lt hy (k.lt v hv))
    simp only [beq_iff_eq] at h
    rw [sm_filter] at h
    rw [← show (if (y ^^^ v) &&& P = 0 then (2 : Int) ^ pc P else 0) = if ((y ^^^ v) &&& P == 0) = true then 2 ^ pc P else 0 by simp, ← h]
    refine sm_congr fun r hr => ?_
    have hr := List.mem_range.mp hr
    split
    · rw [sg_xor hr, Int.mul_comm]
    · simp
  rw [sm_congr e, ← sm_filter, sm_const]
end
-- part M2
open PySem
set_option maxHeartbeats 1000000
/-- sums sorted by a key -/
theorem by_key (l : List Nat) (g : Nat → Nat) (hg : ∀ v ∈ l, g v < 6) (h : Nat → Int) (F : Nat → Int) : sm (List.range 6) (fun k => sm (l.filter fun v => g v == k) h * F k) = sm l (fun v => h v * F (g v)) := by
  have e : ∀ k ∈ List.range 6, sm (l.filter fun v => g v == k) h * F k = sm l (fun v => if k == g v then h v * F k else 0) := fun k _ => by
    rw [sm_filter, Int.mul_comm, ← sm_mul]
    refine sm_congr fun v _ => ?_
    by_cases q : g v = k
    · subst q; simp [Int.mul_comm]
    · have q1 : (g v == k) = false := by simpa using q
      have q2 : (k == g v) = false := by simpa using fun e => q e.symm
      rw [q1, q2]; simp
  rw [sm_congr e, sm_swap]
  refine sm_congr fun v hv => ?_
  exact sm_eq (List.range 6) List.nodup_range (g v) (List.mem_range.mpr (hg v hv)) (fun k => h v * F k)
theorem sm_one (l : List Nat) : sm l (fun _ => 1) = l.length := by rw [sm_const]; (first | lia | omega)
noncomputable def cnt (c : List Nat) (y k : Nat) : Nat := (c.filter fun v => pc (y ^^^ v) == k).length
noncomputable def evn (c : List Nat) (y k : Nat) : Int := sm ((matesN c).filter fun r => pc r == k) (fun r => sg r y)
theorem by_cnt (c : List Nat) (y : Nat) (F : Nat → Int) : sm (List.range 6) (fun k => (cnt c y k : Int) * F k) = sm c (fun v => F (pc (y ^^^ v))) := by
  have := by_key c (fun v => pc (y ^^^ v)) (fun v _ => pc_lt _) (fun _ => 1) F
  simp only [Int.one_mul] at this
  rw [← this]
  exact sm_congr fun k _ => by rw [sm_one]; rfl
theorem by_evn (c : List Nat) (y : Nat) (F : Nat → Int) : sm (List.range 6) (fun k => evn c y k * F k) = sm (matesN c) (fun r => sg r y * F (pc r)) :=
  by_key (matesN c) pc (fun v _ => pc_lt _) (fun r => sg r y) F
theorem weighed_of (f : Nat → Int) (X : Int) : weighed ((List.range 6).map f) X = sm (List.range 6) (fun k => f k * ((1 - X) ^ k * (1 + X) ^ (5 - k))) := by
  unfold weighed sm
  congr 1
  refine List.map_congr_left fun k hk => ?_
  have hk := List.mem_range.mp hk
  unfold weiT
  rw [List.getD_eq_getElem?_getD, List.getElem?_map, List.getElem?_range hk]
  simp [Int.mul_assoc]
theorem dval_sum (n : Nat) (f : Nat → Nat) : ∀ m : Nat, (dval n ((List.range m).map f) : Int) = sm (List.range m) (fun k => (f k : Int) * (2 ^ n : Int) ^ k)
  | 0 => rfl
  | m + 1 => by
    rw [List.range_succ, List.map_append, dval_append, sm_append]
    push_cast
    rw [dval_sum n f m, List.map_cons, List.map_nil, sm_cons, sm_nil]
    have e : dval n [f m] = f m := by simp [dval]
    rw [e, List.length_map, List.length_range, Int.pow_mul]
    (first | lia | omega)
/-- digits of a value -/
theorem digs_of (n : Nat) : ∀ (ds : List Nat), (∀ d ∈ ds, d < 2 ^ n) → digs n (dval n ds) ds.length = ds
  | [], _ => rfl
  | d :: ds, h => by
    have hd := h d (.head _)
    have e : dval n (d :: ds) = d + dval n ds * 2 ^ n := rfl
    rw [List.length_cons, Nat.add_comm ds.length 1, digs_add, Nat.mul_one, e, Nat.add_mul_mod_self_right, Nat.mod_eq_of_lt hd, digs_one hd, Nat.add_mul_div_right _ _ (Nat.two_pow_pos n), Nat.div_eq_of_lt hd, Nat.zero_add, digs_of n ds fun x hx => h x (.tail _ hx)]
    rfl
theorem dval_lt' (n : Nat) : ∀ (ds : List Nat), (∀ d ∈ ds, d < 2 ^ n) → dval n ds < 2 ^ (n * ds.length)
  | [], _ => by simp [dval]
  | d :: ds, h => by
    have hd := h d (.head _)
    have h1 := dval_lt' n ds fun x hx => h x (.tail _ hx)
    have e : dval n (d :: ds) = d + dval n ds * 2 ^ n := rfl
    rw [e, List.length_cons, Nat.mul_add, Nat.mul_one, Nat.pow_add]
    have h2 : (dval n ds + 1) * 2 ^ n ≤ 2 ^ (n * ds.length) * 2 ^ n := Nat.mul_le_mul_right _ h1
    rw [Nat.add_mul] at h2; (first | lia | omega)
theorem nDig_of {n : Nat} (hn : 0 < n) {ds : List Nat} {d : Nat} (h : ∀ x ∈ ds, x < 2 ^ n) (hd : d < 2 ^ n) (h0 : 0 < d) : nDig n (dval n (ds ++ [d])) = ds.length + 1 := by
  have hlt := dval_lt' n (ds ++ [d]) fun x hx => by
    rcases List.mem_append.mp hx with q | q
    · exact h x q
    · rw [List.mem_singleton] at q; exact q ▸ hd
  have hge : 2 ^ (n * ds.length) ≤ dval n (ds ++ [d]) := by
    rw [dval_append]
    have : dval n [d] = d := by simp [dval]
    rw [this]
    have := Nat.mul_le_mul_right (2 ^ (n * ds.length)) h0
    (first | lia | omega)
  rw [List.length_append, List.length_singleton] at hlt
  have b1 : Builtin.Int.intBits (dval n (ds ++ [d]) : Int) ≤ n * (ds.length + 1) := bits_nat hlt
  have b2 : ¬ Builtin.Int.intBits (dval n (ds ++ [d]) : Int) ≤ n * ds.length := fun q => by
    rw [intBits_le_iff] at q
    simp at q; (first | lia | omega)
  unfold nDig
  rw [Nat.mul_add, Nat.mul_one] at b1
  have e1 : (ds.length + 1) * n ≤ Builtin.Int.intBits (dval n (ds ++ [d]) : Int) + n - 1 := by
    rw [Nat.add_mul, Nat.mul_comm ds.length]; (first | lia | omega)
  have e2 : Builtin.Int.intBits (dval n (ds ++ [d]) : Int) + n - 1 < (ds.length + 1 + 1) * n := by
    rw [Nat.add_mul, Nat.add_mul, Nat.mul_comm ds.length]; (first | lia | omega)
  exact Nat.div_eq_of_lt_le e1 e2
/-- bounds -/
theorem sg_abs (r y : Nat) : -1 ≤ sg r y ∧ sg r y ≤ 1 := by unfold sg; rcases par_le r y with h | h <;> rw [h] <;> decide
theorem sm_bound {l : List Nat} {f : Nat → Int} {B : Int} (h : ∀ x ∈ l, -B ≤ f x ∧ f x ≤ B) : -(l.length * B) ≤ sm l f ∧ sm l f ≤ l.length * B := by
  induction l with
  | nil => simp [sm_nil]
  | cons a l ih =>
    have h1 := ih fun x hx => h x (.tail _ hx)
    have h2 := h a (.head _)
    rw [sm_cons, List.length_cons]; push_cast; rw [Int.add_mul]; (first | lia | omega)
theorem binom_le : ∀ k < 6, ((List.range 32).filter fun r => pc r == k).length ≤ 10 := by decide
theorem evn_bound (c : List Nat) (y : Nat) {k : Nat} (hk : k < 6) : -10 ≤ evn c y k ∧ evn c y k ≤ 10 := by
  have h := sm_bound (l := (matesN c).filter fun r => pc r == k) (f := fun r => sg r y) (B := 1) fun x _ => sg_abs x y
  have h2 : ((matesN c).filter fun r => pc r == k).length ≤ 10 := by
    refine Nat.le_trans ?_ (binom_le k hk)
    unfold matesN
    rw [List.filter_filter]
    refine List.Sublist.length_le ?_
    have : ((List.range 32).filter fun a => (pc a == k) && c.all fun v => par a v == 0) = ((List.range 32).filter fun r => pc r == k).filter fun a => c.all fun v => par a v == 0 := by
      rw [List.filter_filter]; congr 1; funext a; exact Bool.and_comm ..
    rw [this]; exact List.filter_sublist
  unfold evn
  (first | lia | omega)
theorem pow_le_60 {i k : Nat} (hi : i < 7) (hk : k ≤ 5) : (2 ^ (6 + i) : Int) ^ k ≤ 2 ^ 60 := by
  rw [← Int.pow_mul]
  exact_mod_cast (Nat.pow_le_pow_right (by (first | lia | omega)) (by have : (6 + i) * k ≤ 12 * 5 := Nat.mul_le_mul (by (first | lia | omega)) hk; (first | lia | omega)) : 2 ^ ((6 + i) * k) ≤ 2 ^ 60)
theorem pow_nn (i k : Nat) : (0 : Int) ≤ (2 ^ (6 + i) : Int) ^ k := by
  rw [← Int.pow_mul]
  exact_mod_cast Nat.zero_le (2 ^ ((6 + i) * k))
-- part M3
open PySem
set_option maxHeartbeats 1000000
noncomputable def eVal (c : List Nat) (y n : Nat) : Int := sm (matesN c) (fun r => sg r y * (2 ^ n : Int) ^ pc r)
noncomputable def cntI (c : List Nat) (y : Nat) : List Int := (List.range 6).map fun k => (cnt c y k : Int)
noncomputable def cntN (c : List Nat) (y : Nat) : List Nat := (List.range 6).map (cnt c y)
noncomputable def evnI (c : List Nat) (y : Nat) : List Int := (List.range 6).map (evn c y)
noncomputable def evL (c : List Nat) (y n : Nat) : List Nat := (List.range 6).map fun k => (2 ^ n / 2 + evn c y k : Int).toNat
theorem bits_of {x : Int} (h1 : -(2 ^ 499) < x) (h2 : x < 2 ^ 499) : Builtin.Int.intBits x ≤ 499 := intBits_le_iff.mpr (by (first | lia | omega))
section
variable {c : List Nat} (k : CodeOk c) {i : Nat} (hi : i < 7) {y : Nat} (hy : y < 32)
include k hi hy
theorem wei_cnt : weighed (cntI c y) (2 ^ (6 + i)) = c.length * eVal c y (6 + i) := by
  rw [cntI, weighed_of, by_cnt c y (fun k => (1 - (2 ^ (6 + i) : Int)) ^ k * (1 + (2 ^ (6 + i) : Int)) ^ (5 - k)), check1 k hi hy]; rfl
theorem wei_evn : weighed (evnI c y) (2 ^ (6 + i)) = (matesN c).length * (dval (6 + i) (cntN c y) : Nat) := by
  rw [evnI, weighed_of, by_evn c y (fun k => (1 - (2 ^ (6 + i) : Int)) ^ k * (1 + (2 ^ (6 + i) : Int)) ^ (5 - k)), check3 k hi hy, cntN, dval_sum, by_cnt c y (fun k => (2 ^ (6 + i) : Int) ^ k)]
theorem mates_le : (matesN c).length ≤ 32 := by
  unfold matesN
  have := List.length_filter_le (fun r => c.all fun v => par r v == 0) (List.range 32)
  simpa using this
theorem code_le : c.length ≤ 32 := by
  have h := mates_len k
  have hm : 0 < (matesN c).length := by
    rcases Nat.eq_zero_or_pos (matesN c).length with q | q
    · rw [q] at h; simp at h
    · exact q
  have h2 : c.length * 1 ≤ c.length * (matesN c).length := Nat.mul_le_mul_left _ hm
  have h3 : c.length * (matesN c).length = 32 := by exact_mod_cast h
  (first | lia | omega)
theorem mates_pos : 0 < (matesN c).length := by
  have h := mates_len k
  rcases Nat.eq_zero_or_pos (matesN c).length with q | q
  · rw [q] at h; simp at h
  · exact q
theorem eVal_bound : -(2 ^ 65) ≤ eVal c y (6 + i) ∧ eVal c y (6 + i) ≤ 2 ^ 65 := by
  have h := sm_bound (l := matesN c) (f := fun r => sg r y * (2 ^ (6 + i) : Int) ^ pc r) (B := 2 ^ 60) fun r hr => by
    have h1 := sg_abs r y
    have h2 := pow_le_60 hi (pc_le r (mates_lt k hr))
    have h3 := pow_nn i (pc r)
    have : sg r y = -1 ∨ sg r y = 0 ∨ sg r y = 1 := by (first | lia | omega)
    rcases this with e | e | e <;> rw [e] <;> (first | lia | omega)
  have h2 := mates_le k hi hy
  have : ((matesN c).length : Int) * 2 ^ 60 ≤ 2 ^ 65 := by
    have : ((matesN c).length : Int) * 2 ^ 60 ≤ 32 * 2 ^ 60 := Int.mul_le_mul_of_nonneg_right (by (first | lia | omega)) (by decide)
    exact this
  unfold eVal
  (first | lia | omega)
theorem spread_bound : (dval (6 + i) (cntN c y) : Int) ≤ 2 ^ 65 := by
  have e : (dval (6 + i) (cntN c y) : Int) = sm c (fun v => (2 ^ (6 + i) : Int) ^ pc (y ^^^ v)) := by
    rw [cntN, dval_sum, by_cnt c y (fun k => (2 ^ (6 + i) : Int) ^ k)]
  have h := sm_bound (l := c) (f := fun v => (2 ^ (6 + i) : Int) ^ pc (y ^^^ v)) (B := 2 ^ 60) fun v hv => by
    have h2 := pow_le_60 hi (pc_le _ (xor_lt hy (k.lt v hv)))
    have h3 := pow_nn i (pc (y ^^^ v))
    (first | lia | omega)
  have h2 := code_le k hi hy
  have : (c.length : Int) * 2 ^ 60 ≤ 32 * 2 ^ 60 := Int.mul_le_mul_of_nonneg_right (by (first | lia | omega)) (by decide)
  rw [e]
  (first | lia | omega)
theorem spread_ge : (c.length : Int) ≤ dval (6 + i) (cntN c y) := by
  have e : (dval (6 + i) (cntN c y) : Int) = sm c (fun v => (2 ^ (6 + i) : Int) ^ pc (y ^^^ v)) := by
    rw [cntN, dval_sum, by_cnt c y (fun k => (2 ^ (6 + i) : Int) ^ k)]
  rw [e, ← sm_one]
  have h1 : ∀ (l : List Nat), sm l (fun _ => 1) ≤ sm l (fun v => (2 ^ (6 + i) : Int) ^ pc (y ^^^ v)) := fun l => by
    induction l with
    | nil => exact Int.le_refl _
    | cons a l ih =>
      rw [sm_cons, sm_cons]
      have : (1 : Int) ≤ (2 ^ (6 + i) : Int) ^ pc (y ^^^ a) := by
        rw [← Int.pow_mul]; exact_mod_cast Nat.one_le_two_pow
      (first | lia | omega)
  exact h1 c
theorem wei_bits : Builtin.Int.intBits (weighed (cntI c y) (2 ^ (6 + i)) - 1) ≤ 499 := by
  rw [wei_cnt k hi hy]
  have h := eVal_bound k hi hy
  have h2 := code_le k hi hy
  have h3 : (c.length : Int) * eVal c y (6 + i) ≤ c.length * 2 ^ 65 := Int.mul_le_mul_of_nonneg_left h.2 (by (first | lia | omega))
  have h4 : (c.length : Int) * -(2 ^ 65) ≤ c.length * eVal c y (6 + i) := Int.mul_le_mul_of_nonneg_left h.1 (by (first | lia | omega))
  exact bits_of (by (first | lia | omega)) (by (first | lia | omega))
theorem div1 : (weighed (cntI c y) (2 ^ (6 + i)) - 1).fdiv c.length = eVal c y (6 + i) - 1 := by
  rw [wei_cnt k hi hy]
  have := k.pos
  have e : (c.length : Int) * eVal c y (6 + i) - 1 = (c.length - 1 : Int) + c.length * (eVal c y (6 + i) - 1) := by rw [Int.mul_sub]; (first | lia | omega)
  rw [e, Int.fdiv_eq_ediv_of_nonneg _ (by (first | lia | omega)), Int.add_mul_ediv_left _ _ (by (first | lia | omega)), Int.ediv_eq_zero_of_lt (by (first | lia | omega)) (by (first | lia | omega))]
  (first | lia | omega)
theorem mod1 : (weighed (cntI c y) (2 ^ (6 + i)) - 1).fmod c.length = c.length - 1 := by
  rw [wei_cnt k hi hy]
  have := k.pos
  have e : (c.length : Int) * eVal c y (6 + i) - 1 = (c.length - 1 : Int) + c.length * (eVal c y (6 + i) - 1) := by rw [Int.mul_sub]; (first | lia | omega)
  rw [e, Int.fmod_eq_emod_of_nonneg _ (by (first | lia | omega)), Int.add_mul_emod_self_left, Int.emod_eq_of_lt (by (first | lia | omega)) (by (first | lia | omega))]
theorem half_ge : (32 : Int) ≤ 2 ^ (6 + i) / 2 ∧ (2 ^ (6 + i) / 2 : Int) * 2 = 2 ^ (6 + i) := by
  have e : (2 ^ (6 + i) : Int) = 2 ^ (5 + i) * 2 := by rw [← Int.pow_succ]; congr 1; (first | lia | omega)
  rw [e, Int.mul_ediv_cancel _ (by decide)]
  refine ⟨?_, rfl⟩
  exact_mod_cast (Nat.pow_le_pow_right (by (first | lia | omega)) (by (first | lia | omega)) : 2 ^ 5 ≤ 2 ^ (5 + i))
theorem evL_at {j : Nat} (hj : j < 6) : ((2 ^ (6 + i) / 2 + evn c y j : Int).toNat : Int) = 2 ^ (6 + i) / 2 + evn c y j ∧ 0 < (2 ^ (6 + i) / 2 + evn c y j : Int).toNat ∧ (2 ^ (6 + i) / 2 + evn c y j : Int).toNat < 2 ^ (6 + i) := by
  have h1 := half_ge k hi hy
  have h2 := evn_bound c y hj
  have h3 : ((2 ^ (6 + i) : Nat) : Int) = 2 ^ (6 + i) := by push_cast; rfl
  have h4 : (2 ^ (6 + i) / 2 + evn c y j : Int) < ((2 ^ (6 + i) : Nat) : Int) := by rw [h3]; (first | lia | omega)
  have h5 : (0 : Int) < 2 ^ (6 + i) / 2 + evn c y j := by (first | lia | omega)
  exact ⟨Int.toNat_of_nonneg (Int.le_of_lt h5), Int.lt_toNat.mpr h5, (Int.toNat_lt (Int.le_of_lt h5)).mpr h4⟩
theorem evL_val : (dval (6 + i) (evL c y (6 + i)) : Int) = eVal c y (6 + i) + dval (6 + i) (List.replicate 6 (2 ^ (6 + i) / 2)) := by
  have e1 : List.replicate 6 (2 ^ (6 + i) / 2) = (List.range 6).map fun _ => 2 ^ (6 + i) / 2 := by simp [List.map_const', List.length_range]
  have e0 : eVal c y (6 + i) = sm (List.range 6) (fun j => evn c y j * (2 ^ (6 + i) : Int) ^ j) := (by_evn c y (fun j => (2 ^ (6 + i) : Int) ^ j)).symm
  rw [e1, evL, dval_sum, dval_sum, e0, ← sm_add]
  refine sm_congr fun j hj => ?_
  rw [(evL_at k hi hy (List.mem_range.mp hj)).1, ← Int.add_mul]
  congr 1
  push_cast
  (first | lia | omega)
theorem evL_lt : ∀ d ∈ evL c y (6 + i), d < 2 ^ (6 + i) := fun d hd => by
  obtain ⟨j, hj, rfl⟩ := List.mem_map.mp hd
  exact (evL_at k hi hy (List.mem_range.mp hj)).2.2
theorem evL_nDig : nDig (6 + i) (dval (6 + i) (evL c y (6 + i))) = 6 := by
  have e : evL c y (6 + i) = ((List.range 5).map fun k => (2 ^ (6 + i) / 2 + evn c y k : Int).toNat) ++ [(2 ^ (6 + i) / 2 + evn c y 5 : Int).toNat] := by
    rw [evL, show (6 : Nat) = 5 + 1 from rfl, List.range_succ, List.map_append]; rfl
  rw [e, nDig_of (by (first | lia | omega)) (fun x hx => ?_) (evL_at k hi hy (j := 5) (by (first | lia | omega))).2.2 (evL_at k hi hy (j := 5) (by (first | lia | omega))).2.1]
  · simp
  · exact evL_lt k hi hy x (by rw [e]; exact List.mem_append_left _ hx)
theorem evL_digs : digs (6 + i) (dval (6 + i) (evL c y (6 + i))) 6 = evL c y (6 + i) := by
  have h := digs_of (6 + i) (evL c y (6 + i)) (evL_lt k hi hy)
  have e : (evL c y (6 + i)).length = 6 := by simp [evL]
  rw [e] at h; exact h
theorem evL_ints : (evL c y (6 + i)).map (fun (d : Nat) => IV.int d) = (evnI c y).map (fun e => IV.int (2 ^ (6 + i) / 2 + e)) := by
  rw [evL, evnI, List.map_map, List.map_map]
  refine List.map_congr_left fun j hj => ?_
  show IV.int _ = IV.int _
  rw [(evL_at k hi hy (List.mem_range.mp hj)).1]
/-- back -/
theorem back_bits {e : Int} (he : e = 1 ∨ e = -1) : Builtin.Int.intBits (e * weighed (evnI c y) (2 ^ (6 + i)) + e) ≤ 499 := by
  rw [wei_evn k hi hy]
  have h := spread_bound k hi hy
  have h2 := mates_le k hi hy
  have h3 : ((matesN c).length : Int) * (dval (6 + i) (cntN c y) : Nat) ≤ (matesN c).length * 2 ^ 65 := Int.mul_le_mul_of_nonneg_left h (by (first | lia | omega))
  have h4 : (0 : Int) ≤ ((matesN c).length : Int) * (dval (6 + i) (cntN c y) : Nat) := Int.mul_nonneg (by (first | lia | omega)) (by (first | lia | omega))
  rcases he with rfl | rfl
  · exact bits_of (by (first | lia | omega)) (by (first | lia | omega))
  · exact bits_of (by (first | lia | omega)) (by (first | lia | omega))
theorem spread_bits : Builtin.Int.intBits (-(dval (6 + i) (cntN c y) : Int)) ≤ 499 := by
  have h := spread_bound k hi hy
  exact bits_of (by (first | lia | omega)) (by (first | lia | omega))
theorem div3 (h2 : 2 ≤ c.length) : (weighed (evnI c y) (2 ^ (6 + i)) + 1).fdiv (dval (6 + i) (cntN c y) : Nat) = (matesN c).length ∧ (weighed (evnI c y) (2 ^ (6 + i)) + 1).fmod (dval (6 + i) (cntN c y) : Nat) = 1 := by
  rw [wei_evn k hi hy]
  have hs := spread_ge k hi hy
  generalize (dval (6 + i) (cntN c y) : Int) = S at *
  have hS : 0 < S := by (first | lia | omega)
  rw [Int.add_comm, Int.mul_comm]
  constructor
  · rw [Int.fdiv_eq_ediv_of_nonneg _ (by (first | lia | omega)), Int.add_mul_ediv_left _ _ (by (first | lia | omega)), Int.ediv_eq_zero_of_lt (by (first | lia | omega)) (by (first | lia | omega))]; (first | lia | omega)
  · rw [Int.fmod_eq_emod_of_nonneg _ (by (first | lia | omega)), Int.add_mul_emod_self_left, Int.emod_eq_of_lt (by (first | lia | omega)) (by (first | lia | omega))]
theorem div4 (h2 : 2 ≤ c.length) : (-(weighed (evnI c y) (2 ^ (6 + i)) + 1)).fdiv (dval (6 + i) (cntN c y) : Nat) = -(matesN c).length - 1 ∧ (-(weighed (evnI c y) (2 ^ (6 + i)) + 1)).fmod (dval (6 + i) (cntN c y) : Nat) = dval (6 + i) (cntN c y) - 1 := by
  rw [wei_evn k hi hy]
  have hs := spread_ge k hi hy
  generalize (dval (6 + i) (cntN c y) : Int) = S at *
  have hS : 0 < S := by (first | lia | omega)
  have e : -(((matesN c).length : Int) * S + 1) = (S - 1) + S * (-(matesN c).length - 1) := by
    rw [Int.mul_sub, Int.mul_neg, Int.mul_comm S]; (first | lia | omega)
  rw [e]
  constructor
  · rw [Int.fdiv_eq_ediv_of_nonneg _ (by (first | lia | omega)), Int.add_mul_ediv_left _ _ (by (first | lia | omega)), Int.ediv_eq_zero_of_lt (by (first | lia | omega)) (by (first | lia | omega))]; (first | lia | omega)
  · rw [Int.fmod_eq_emod_of_nonneg _ (by (first | lia | omega)), Int.add_mul_emod_self_left, Int.emod_eq_of_lt (by (first | lia | omega)) (by (first | lia | omega))]
end
-- part M4
open PySem
set_option maxHeartbeats 1000000
theorem bits_all : (allB 32 fun a => allB 32 fun b => Builtin.bitXor (a : Int) b == ((a ^^^ b : Nat) : Int) && Builtin.bitAnd (a : Int) b == ((a &&& b : Nat) : Int) && Builtin.bitOr (a : Int) b == ((a ||| b : Nat) : Int)) = true := by decide +kernel
theorem xor_n {a b : Nat} (ha : a < 32) (hb : b < 32) : Builtin.bitXor (a : Int) b = ((a ^^^ b : Nat) : Int) := by
  have := allB_out (allB_out bits_all ha) hb
  simp only [Bool.and_eq_true, beq_iff_eq] at this; exact this.1.1
theorem and_n {a b : Nat} (ha : a < 32) (hb : b < 32) : Builtin.bitAnd (a : Int) b = ((a &&& b : Nat) : Int) := by
  have := allB_out (allB_out bits_all ha) hb
  simp only [Bool.and_eq_true, beq_iff_eq] at this; exact this.1.2
theorem or_n {a b : Nat} (ha : a < 32) (hb : b < 32) : Builtin.bitOr (a : Int) b = ((a ||| b : Nat) : Int) := by
  have := allB_out (allB_out bits_all ha) hb
  simp only [Bool.and_eq_true, beq_iff_eq] at this; exact this.2
/- the code -/
noncomputable def xN (x : Int) : Nat := (x.fmod 31 + 1).toNat
theorem xN_int (x : Int) : x.fmod 31 + 1 = (xN x : Int) ∧ 1 ≤ xN x ∧ xN x < 32 := by
  have h1 := Int.fmod_nonneg_of_pos x (b := 31) (by decide)
  have h2 := Int.fmod_lt_of_pos x (b := 31) (by decide)
  unfold xN; (first | lia | omega)
noncomputable def codeN (ns : List Int) : List Nat := (ns.map xN).foldl stepN [0]
theorem codeStep_nat {c : List Nat} (k : CodeOk c) (x : Int) : codeStep (c.map fun (v : Nat) => (v : Int)) x = (stepN c (xN x)).map fun (v : Nat) => (v : Int) := by
  obtain ⟨e, h1, h2⟩ := xN_int x
  unfold codeStep stepN
  rw [e]
  have ea : ((c.map fun (v : Nat) => (v : Int)).any (· == (xN x : Int))) = c.any (· == xN x) := by
    rw [List.any_map]; congr 1; funext v
    show ((v : Int) == (xN x : Int)) = (v == xN x)
    rw [Bool.eq_iff_iff]; simp [Int.ofNat_inj]
  rw [ea]
  split
  · rfl
  · rw [List.map_append]
    congr 1
    rw [List.map_map, List.map_map]
    exact List.map_congr_left fun v hv => xor_n (k.lt v hv) h2
theorem lawCode_nat : ∀ (ns : List Int) {c : List Nat}, CodeOk c → ns.foldl codeStep (c.map fun (v : Nat) => (v : Int)) = ((ns.map xN).foldl stepN c).map fun (v : Nat) => (v : Int)
  | [], _, _ => rfl
  | x :: ns, c, k => by
    rw [List.foldl_cons, codeStep_nat k, List.map_cons, List.foldl_cons]
    exact lawCode_nat ns (k.step (xN_int x).2.2)
theorem lawCode_eq (ns : List Int) : lawCode ns = (codeN ns).map fun (v : Nat) => (v : Int) := lawCode_nat ns CodeOk.start
theorem codeN_ok (ns : List Int) : CodeOk (codeN ns) := CodeOk.fold _ (fun x hx => by obtain ⟨n, _, rfl⟩ := List.mem_map.mp hx; exact (xN_int n).2.2) CodeOk.start
theorem stepN_len (c : List Nat) (x : Nat) : c.length ≤ (stepN c x).length ∧ (stepN c x).length ≤ 2 * c.length := by
  unfold stepN; split
  · (first | lia | omega)
  · simp; (first | lia | omega)
theorem fold_len : ∀ (xs : List Nat) (c : List Nat), c.length ≤ (xs.foldl stepN c).length ∧ (xs.foldl stepN c).length ≤ 2 ^ xs.length * c.length
  | [], c => by simp
  | x :: xs, c => by
    have h1 := stepN_len c x
    have h2 := fold_len xs (stepN c x)
    rw [List.foldl_cons, List.length_cons, Nat.pow_succ]
    have h3 : 2 ^ xs.length * (stepN c x).length ≤ 2 ^ xs.length * (2 * c.length) := Nat.mul_le_mul_left _ h1.2
    rw [← Nat.mul_assoc] at h3
    (first | lia | omega)
theorem codeN_len {ns : List Int} (h : ns.length = 3) : 2 ≤ (codeN ns).length ∧ (codeN ns).length ≤ 8 := by
  match ns, h with
  | [a, b, c], _ =>
    have e : codeN [a, b, c] = [xN b, xN c].foldl stepN (stepN [0] (xN a)) := rfl
    have h1 : (stepN [0] (xN a)).length = 2 := by
      unfold stepN
      have := (xN_int a).2.1
      have : ([0].any (· == xN a)) = false := by simp; (first | lia | omega)
      rw [this]; rfl
    have h2 := fold_len [xN b, xN c] (stepN [0] (xN a))
    rw [h1] at h2
    rw [e]
    exact h2
/- the distance -/
theorem HH_all : (allB 32 fun y => allB 32 fun v => HH y.testBit v.testBit 0 5 == pc (y ^^^ v)) = true := by decide +kernel
theorem HH_pc {y v : Nat} (hy : y < 32) (hv : v < 32) : HH y.testBit v.testBit 0 5 = pc (y ^^^ v) := by
  have := allB_out (allB_out HH_all hy) hv
  simpa using this
theorem pc_zero : ∀ z < 32, pc z = 0 → z = 0 := by decide
theorem wd_zero {f g : Nat → Bool} (h : wd f 0 5 = wd g 0 5) : HH f g 0 5 = 0 := by
  have e : (wd f 0 5).cps.toList = (wd g 0 5).cps.toList := by rw [h]
  have e2 : ((List.range' 0 (5 - 0)).map fun i => ltr i (f i)) = ((List.range' 0 (5 - 0)).map fun i => ltr i (g i)) := e
  have h3 := List.map_inj_left.mp e2
  have hl : ∀ i : Nat, ∀ a b : Bool, ltr i a = ltr i b → a = b := by
    intro i a b; unfold ltr; cases a <;> cases b <;> simp
  have h4 : ∀ i < 5, f i = g i := fun i hi => hl i _ _ (h3 i (by rw [List.mem_range'_1]; (first | lia | omega)))
  simp only [HH, dl]
  rw [h4 (0 + 0) (by decide), h4 (0 + 1) (by decide), h4 (0 + 2) (by decide), h4 (0 + 3) (by decide), h4 (0 + 4) (by decide)]
  simp
theorem wd_ne {f g : Nat → Bool} (h : wd f 0 5 ≠ wd g 0 5) : HH f g 0 5 ≠ 0 := fun e => h (by
  simp only [HH, dl] at e
  have h4 : ∀ i < 5, f i = g i := fun i hi => by
    have : i = 0 ∨ i = 1 ∨ i = 2 ∨ i = 3 ∨ i = 4 := by (first | lia | omega)
    by_cases q : f i = g i
    · exact q
    · exfalso
      rcases this with rfl | rfl | rfl | rfl | rfl <;> simp [q] at e
  refine str_ext ?_
  show ((List.range' 0 (5 - 0)).map fun i => ltr i (f i)) = ((List.range' 0 (5 - 0)).map fun i => ltr i (g i))
  exact List.map_congr_left fun i hi => by rw [h4 i (by have := List.mem_range'_1.mp hi; (first | lia | omega))])
theorem lev_full {y v : Nat} (hy : y < 32) (hv : v < 32) {m : Int} (hm : m = pc (y ^^^ v) ∨ m = pc (y ^^^ v) - 1) : levV y.testBit v.testBit m = pc (y ^^^ v) := by
  unfold levV
  rw [← HH_pc hy hv] at *
  split
  · rename_i h; rw [wd_zero h]; rfl
  · split
    · rfl
    · (first | lia | omega)
theorem lev_short {y v : Nat} (hy : y < 32) (hv : v < 32) : levV v.testBit y.testBit (pc (y ^^^ v) - 2 : Int) = max ((pc (y ^^^ v) : Int) - 1) 0 := by
  unfold levV
  have e : pc (y ^^^ v) = HH v.testBit y.testBit 0 5 := by rw [HH_pc hv hy, Nat.xor_comm]
  rw [e]
  split
  · rename_i h; rw [wd_zero h]; rfl
  · rename_i h
    have := wd_ne h
    rw [if_neg (by (first | lia | omega))]; (first | lia | omega)
/- the row kept sorted -/
noncomputable def ins (x : Int) : List Int → List Int
  | [] => [x]
  | a :: l => if a < x then a :: ins x l else x :: a :: l
noncomputable def cp (x : Int) : List Int → Nat
  | [] => 0
  | a :: l => if a < x then cp x l + 1 else 0
theorem ins_eq (x : Int) : ∀ l : List Int, l.take (cp x l) ++ x :: l.drop (cp x l) = ins x l
  | [] => rfl
  | a :: l => by
    unfold cp ins
    split
    · rw [List.take_succ_cons, List.drop_succ_cons, List.cons_append, ins_eq x l]
    · rfl
noncomputable abbrev Srt (l : List Int) : Prop := l.Pairwise (· ≤ ·)
theorem ins_mem {x z : Int} : ∀ {l : List Int}, z ∈ ins x l → z = x ∨ z ∈ l
  | [], h => by simpa [ins] using h
  | a :: l, h => by
    unfold ins at h
    split at h
    · rcases List.mem_cons.mp h with rfl | h
      · exact .inr (.head _)
      · rcases ins_mem h with h | h
        · exact .inl h
        · exact .inr (.tail _ h)
    · rcases List.mem_cons.mp h with rfl | h
      · exact .inl rfl
      · exact .inr h
theorem ins_srt {x : Int} : ∀ {l : List Int}, Srt l → Srt (ins x l)
  | [], _ => by simp [ins]
  | a :: l, h => by
    have h1 := List.pairwise_cons.mp h
    unfold ins
    split
    · refine List.pairwise_cons.mpr ⟨fun z hz => ?_, ins_srt h1.2⟩
      rcases ins_mem hz with rfl | hz
      · (first | lia | omega)
      · exact h1.1 z hz
    · refine List.pairwise_cons.mpr ⟨fun z hz => ?_, h⟩
      rcases List.mem_cons.mp hz with rfl | hz
      · (first | lia | omega)
      · have := h1.1 z hz; (first | lia | omega)
theorem cut_of {x : Int} : ∀ {l : List Int}, Srt l → Cut l x (cp x l)
  | [], _ => ⟨Nat.le_refl _, fun i h => by simp at h, fun i h => by simp at h⟩
  | a :: l, h => by
    have h1 := List.pairwise_cons.mp h
    have c := cut_of (x := x) h1.2
    unfold cp
    split
    · refine ⟨by have := c.le; simp; (first | lia | omega), fun i hi hlt => ?_, fun i hi hge => ?_⟩
      · cases i with
        | zero => simpa
        | succ i => exact c.lt i (by simpa using hi) (by (first | lia | omega))
      · cases i with
        | zero => (first | lia | omega)
        | succ i => exact c.ge i (by simpa using hi) (by (first | lia | omega))
    · refine ⟨Nat.zero_le _, fun i hi hlt => by (first | lia | omega), fun i hi _ => ?_⟩
      cases i with
      | zero => show x ≤ a; (first | lia | omega)
      | succ i =>
        have hi' : i < l.length := by simpa using hi
        have := h1.1 l[i] (List.getElem_mem _)
        show x ≤ l[i]; (first | lia | omega)
noncomputable def cpR (x : Int) : List Int → Nat
  | [] => 0
  | a :: l => if a ≤ x then cpR x l + 1 else 0
theorem cutR_of {x : Int} : ∀ {l : List Int}, Srt l → CutR l x (cpR x l)
  | [], _ => ⟨Nat.le_refl _, fun i h => by simp at h, fun i h => by simp at h⟩
  | a :: l, h => by
    have h1 := List.pairwise_cons.mp h
    have c := cutR_of (x := x) h1.2
    unfold cpR
    split
    · refine ⟨by have := c.le; simp; (first | lia | omega), fun i hi hlt => ?_, fun i hi hge => ?_⟩
      · cases i with
        | zero => simpa
        | succ i => exact c.lt i (by simpa using hi) (by (first | lia | omega))
      · cases i with
        | zero => (first | lia | omega)
        | succ i => exact c.ge i (by simpa using hi) (by (first | lia | omega))
    · refine ⟨Nat.zero_le _, fun i hi hlt => by (first | lia | omega), fun i hi _ => ?_⟩
      cases i with
      | zero => show x < a; (first | lia | omega)
      | succ i =>
        have hi' : i < l.length := by simpa using hi
        have := h1.1 l[i] (List.getElem_mem _)
        show x < l[i]; (first | lia | omega)
theorem cp_cpR {x : Int} : ∀ {l : List Int}, Srt l → cpR x l = cp x l + (l.filter (· == x)).length
  | [], _ => rfl
  | a :: l, h => by
    have h1 := List.pairwise_cons.mp h
    have ih := cp_cpR (x := x) h1.2
    unfold cpR cp
    by_cases ha : a < x
    · have e : (a == x) = false := by simp; (first | lia | omega)
      rw [if_pos (by (first | lia | omega)), if_pos ha, List.filter_cons, e, ih]
      simp only [Bool.false_eq_true, if_false]; (first | lia | omega)
    · rw [if_neg ha]
      by_cases hb : a = x
      · subst hb
        rw [if_pos (Int.le_refl _), List.filter_cons]
        simp only [beq_self_eq_true, if_true, List.length_cons]
        have : cp a l = 0 := by
          cases l with
          | nil => rfl
          | cons b l => unfold cp; rw [if_neg]; have := h1.1 b (.head _); (first | lia | omega)
        (first | lia | omega)
      · have hn : ∀ z ∈ a :: l, ¬ z = x := fun z hz e => by
          rcases List.mem_cons.mp hz with q | q
          · exact hb (q.symm.trans e)
          · have := h1.1 z q; (first | lia | omega)
        have : (a :: l).filter (· == x) = [] := List.filter_eq_nil_iff.mpr fun z hz => by simpa using hn z hz
        rw [if_neg (by (first | lia | omega)), this]; rfl
theorem ins_filter {x : Int} {p : Int → Bool} : ∀ l : List Int, ((ins x l).filter p).length = (if p x then 1 else 0) + (l.filter p).length
  | [] => by simp only [ins, List.filter_cons]; split <;> simp
  | a :: l => by
    unfold ins
    split
    · rw [List.filter_cons, List.filter_cons]
      have ih := ins_filter (x := x) (p := p) l
      split
      · rw [List.length_cons, List.length_cons, ih]; (first | lia | omega)
      · exact ih
    · rw [List.filter_cons (x := x)]
      split
      · rw [List.length_cons]; (first | lia | omega)
      · (first | lia | omega)
noncomputable def sortL (l : List Int) : List Int := l.foldl (fun acc x => ins x acc) []
theorem sortL_snoc (l : List Int) (x : Int) : sortL (l ++ [x]) = ins x (sortL l) := by simp [sortL, List.foldl_append]
theorem ins_length (x : Int) : ∀ l : List Int, (ins x l).length = l.length + 1
  | [] => rfl
  | a :: l => by unfold ins; split <;> simp [ins_length x l]
theorem sortL_facts : ∀ (n : Nat) (l : List Int), l.length = n → Srt (sortL l) ∧ (sortL l).length = l.length ∧ ∀ p : Int → Bool, ((sortL l).filter p).length = (l.filter p).length
  | 0, l, h => by
    have : l = [] := List.length_eq_zero_iff.mp h
    subst this; exact ⟨List.Pairwise.nil, rfl, fun _ => rfl⟩
  | n + 1, l, h => by
    have hne : l ≠ [] := by intro e; subst e; simp at h
    obtain ⟨m, x, rfl⟩ : ∃ m x, l = m ++ [x] := ⟨l.dropLast, l.getLast hne, (List.dropLast_concat_getLast hne).symm⟩
    obtain ⟨h1, h2, h3⟩ := sortL_facts n m (by simpa using h)
    rw [sortL_snoc]
    refine ⟨ins_srt h1, by rw [ins_length, h2]; simp, fun p => ?_⟩
    rw [ins_filter, h3, List.filter_append, List.length_append]
    by_cases hp : p x = true <;> simp [hp] <;> (first | lia | omega)
/- the places -/
noncomputable def plcN (p s : Nat) : Nat → Nat
  | 0 => 0
  | i + 1 => plcN p s i ||| 2 ^ ((p + i * s) % 5)
theorem plc_all : (allB 5 fun p => allB 4 fun s => allB 6 fun i => pc (plcN p (s + 1) i) == i) = true := by decide +kernel
theorem plc_lt (p s : Nat) : ∀ i, plcN p s i < 32
  | 0 => by show 0 < 32; (first | lia | omega)
  | i + 1 => by
    have h1 := plc_lt p s i
    have h2 : 2 ^ ((p + i * s) % 5) < 2 ^ 5 := Nat.pow_lt_pow_right (by (first | lia | omega)) (Nat.mod_lt _ (by (first | lia | omega)))
    exact Nat.or_lt_two_pow (n := 5) h1 h2
theorem plc_pc {p s i : Nat} (hp : p < 5) (hs : s < 4) (hi : i < 6) : pc (plcN p (s + 1) i) = i := by
  have := allB_out (allB_out (allB_out plc_all hp) hs) hi
  simpa using this
-- part Mell
section
open PySem PySem.StrLaws PySem.Builtin.Str
set_option maxHeartbeats 1000000
theorem ltr_inj5 : ∀ i < 5, ∀ j < 5, ∀ a b : Bool, ltr i a = ltr j b → i = j ∧ a = b := by decide
noncomputable def ag (f g : Nat → Bool) (p e : Nat) : Bool := (List.range' p (e - p)).all fun i => f i == g i
theorem wd_list (f : Nat → Bool) (p e : Nat) : (wd f p e).cps.toList = (List.range' p (e - p)).map fun i => ltr i (f i) := rfl
theorem runs_eq {f g : Nat → Bool} {i p n : Nat} (hn : 0 < n) (h1 : i + n ≤ 5) (h2 : p + n ≤ 5) : ((List.range' i n).map fun j => ltr j (f j)) = ((List.range' p n).map fun j => ltr j (g j)) ↔ i = p ∧ ∀ j ∈ List.range' p n, f j = g j := by
  constructor
  · intro h
    have h0 : i = p := by
      obtain ⟨m, rfl⟩ : ∃ m, n = m + 1 := ⟨n - 1, by (first | lia | omega)⟩
      rw [List.range'_succ, List.range'_succ, List.map_cons, List.map_cons, List.cons.injEq] at h
      exact (ltr_inj5 i (by (first | lia | omega)) p (by (first | lia | omega)) _ _ h.1).1
    subst h0
    refine ⟨rfl, fun j hj => ?_⟩
    have := List.map_inj_left.mp h j hj
    have hj' := List.mem_range'_1.mp hj
    exact (ltr_inj5 j (by (first | lia | omega)) j (by (first | lia | omega)) _ _ this).2
  · rintro ⟨rfl, h⟩
    exact List.map_congr_left fun j hj => by rw [h j hj]
theorem sub_wd {f g : Nat → Bool} {i p e : Nat} (hp : p < e) (he : e ≤ 5) (hi : i + (e - p) ≤ 5) : subAt (wd f 0 5) (wd g p e) i = (i == p && ag f g p e) := by
  rw [subAt_eq, wd_length, wd_list, wd_list]
  have e1 : List.take (e - p) (List.drop i ((List.range' 0 (5 - 0)).map fun i => ltr i (f i))) = (List.range' i (e - p)).map fun j => ltr j (f j) := by
    apply List.ext_getElem
    · simp; (first | lia | omega)
    · intro j h1 h2; simp
  rw [e1, Bool.eq_iff_iff, beq_iff_eq, runs_eq (by (first | lia | omega)) hi (by (first | lia | omega)), Bool.and_eq_true, beq_iff_eq]
  simp [ag]
theorem sub_nil {x : Str} {i : Nat} (g : Nat → Bool) (p : Nat) : subAt x (wd g p p) i = true := by
  rw [subAt_eq, wd_length, wd_list]; simp
theorem find4_first (x y : Str) (lo hi : Nat) : (find4 x y lo hi = none ∧ ∀ i, lo ≤ i → i ≤ hi → ¬ At x y hi i) ∨ ∃ a, find4 x y lo hi = some a ∧ lo ≤ a ∧ At x y hi a ∧ ∀ k, lo ≤ k → k < a → ¬ At x y hi k := by
  unfold find4
  rw [occ_eq]
  rcases occ_first x y hi 1 (Nat.le_refl 1) (List.range' lo (hi + 1 - lo)) lo (fun i hi => by have := List.mem_range'_1.mp hi; (first | lia | omega)) with ⟨h0, hn⟩ | ⟨pre, a, post, e, h0, ha, hn⟩
  · refine .inl ⟨by rw [h0]; rfl, fun i hlo hi2 => hn i (by rw [List.mem_range'_1]; (first | lia | omega))⟩
  · have hs := range'_split_from e
    refine .inr ⟨a, ?_, hs.1, ha, fun k hk0 hk => hn k (hs.2 k hk0 hk)⟩
    rw [← h0, List.head?_eq_getElem?]
    simp
theorem find4_wd {f g : Nat → Bool} {p e st en : Nat} (hp : p ≤ e) (he : e ≤ 5) (hen : en ≤ 5) : find4 (wd f 0 5) (wd g p e) st en = if p = e then (if st ≤ en then some st else none) else if st ≤ p ∧ e ≤ en ∧ ag f g p e = true then some p else none := by
  have hl : (wd g p e).length = e - p := wd_length ..
  by_cases hpe : p = e
  · subst hpe
    rw [if_pos rfl]
    have hat : ∀ i, At (wd f 0 5) (wd g p p) en i ↔ i ≤ en := fun i => by
      unfold At; rw [hl]; simp [sub_nil]
    rcases find4_first (wd f 0 5) (wd g p p) st en with ⟨h0, hn⟩ | ⟨a, h0, ha, hat', hn⟩
    · rw [h0]; split
      · rename_i hle; exact absurd ((hat st).mpr hle) (hn st (Nat.le_refl _) hle)
      · rfl
    · rw [h0]
      have h1 := (hat a).mp hat'
      have : a = st := by
        rcases Nat.lt_or_ge st a with q | q
        · exact absurd ((hat st).mpr (by (first | lia | omega))) (hn st (Nat.le_refl _) q)
        · (first | lia | omega)
      rw [this, if_pos (by (first | lia | omega))]
  · rw [if_neg hpe]
    have hat : ∀ i, At (wd f 0 5) (wd g p e) en i ↔ i = p ∧ e ≤ en ∧ ag f g p e = true := fun i => by
      unfold At; rw [hl]
      constructor
      · rintro ⟨h1, h2⟩
        rw [sub_wd (by (first | lia | omega)) he (by (first | lia | omega)), Bool.and_eq_true, beq_iff_eq] at h2
        exact ⟨h2.1, by (first | lia | omega), h2.2⟩
      · rintro ⟨rfl, h1, h2⟩
        refine ⟨by (first | lia | omega), ?_⟩
        rw [sub_wd (by (first | lia | omega)) he (by (first | lia | omega)), h2]; simp
    rcases find4_first (wd f 0 5) (wd g p e) st en with ⟨h0, hn⟩ | ⟨a, h0, ha, hat', hn⟩
    · rw [h0, if_neg]
      rintro ⟨h1, h2, h3⟩
      exact hn p h1 (by (first | lia | omega)) ((hat p).mpr ⟨rfl, h2, h3⟩)
    · have h1 := (hat a).mp hat'
      rw [h0, if_pos ⟨by (first | lia | omega), h1.2⟩, h1.1]
theorem starts_wd {f g : Nat → Bool} {p e : Nat} (hp : p < e) (he : e ≤ 5) : Txt.startswith (wd f 0 5) (wd g p e) = (0 == p && ag f g p e) := by
  unfold Txt.startswith
  rw [wd_length, wd_length]
  rw [sub_wd hp he (by (first | lia | omega))]
  have : decide (0 + (e - p) ≤ 5 - 0) = true := by simp; (first | lia | omega)
  rw [this, Bool.true_and]
theorem ends_wd {f g : Nat → Bool} {p e : Nat} (hp : p < e) (he : e ≤ 5) : Txt.endswith (wd f 0 5) (wd g p e) = (5 - (e - p) == p && ag f g p e) := by
  unfold Txt.endswith
  rw [wd_length, wd_length]
  rw [sub_wd hp he (by (first | lia | omega))]
  have : decide (0 + (e - p) ≤ 5 - 0) = true := by simp; (first | lia | omega)
  rw [this, Bool.true_and]
/- the same on runs -/
noncomputable def faI (a : Nat → Nat → Bool) (en : Nat) : List (Nat × Nat) → Nat → Bool
  | [], _ => true
  | (p, e) :: r, st => if p = e then (if st ≤ en then faI a en r st else false) else if st ≤ p ∧ e ≤ en ∧ a p e = true then faI a en r e else false
noncomputable def ell2I (a : Nat → Nat → Bool) (ws : List (Nat × Nat)) (st : Nat) : Bool :=
  let w1 := ws.getLastD (0, 0)
  if w1.1 < w1.2 then (if (5 - (w1.2 - w1.1) == w1.1 && a w1.1 w1.2) then (if st > 5 - (w1.2 - w1.1) then false else faI a (5 - (w1.2 - w1.1)) ws.dropLast st) else false)
  else (if st > 5 then false else faI a 5 ws st)
noncomputable def ell1I (a : Nat → Nat → Bool) (ws : List (Nat × Nat)) : Bool :=
  let w0 := ws.headD (0, 0)
  if w0.1 < w0.2 then (if (0 == w0.1 && a w0.1 w0.2) then ell2I a ws.tail (w0.2 - w0.1) else false) else ell2I a ws 0
noncomputable def runsOk (ws : List (Nat × Nat)) : Prop := ∀ q ∈ ws, q.1 ≤ q.2 ∧ q.2 ≤ 5
noncomputable abbrev wdq (g : Nat → Bool) (q : Nat × Nat) : Str := wd g q.1 q.2
theorem fa_runs {f g : Nat → Bool} {en : Nat} (hen : en ≤ 5) : ∀ (ws : List (Nat × Nat)) (st : Nat), runsOk ws → fa (wd f 0 5) en (ws.map (wdq g)) st = faI (ag f g) en ws st
  | [], _, _ => rfl
  | (p, e) :: r, st, h => by
    have h1 := h (p, e) (.head _)
    have ih := fun st => fa_runs (f := f) (g := g) hen r st fun q hq => h q (.tail _ hq)
    rw [List.map_cons, fa, faI, find4_wd h1.1 h1.2 hen]
    have hl : (wdq g (p, e)).length = e - p := wd_length ..
    rw [hl]
    have h1' : p ≤ e := h1.1
    by_cases hpe : p = e
    · subst hpe
      rw [if_pos rfl, if_pos rfl]
      by_cases hle : st ≤ en
      · rw [if_pos hle, if_pos hle]
        show fa _ _ _ (st + (p - p)) = _
        rw [Nat.sub_self, Nat.add_zero]; exact ih st
      · rw [if_neg hle, if_neg hle]
    · rw [if_neg hpe, if_neg hpe]
      by_cases hc : st ≤ p ∧ e ≤ en ∧ ag f g p e = true
      · rw [if_pos hc, if_pos hc]
        show fa _ _ _ (p + (e - p)) = _
        rw [show p + (e - p) = e by (first | lia | omega)]; exact ih e
      · rw [if_neg hc, if_neg hc]
theorem getLastD_map {α β : Type} (φ : α → β) (d : α) (d' : β) : ∀ (l : List α), l ≠ [] → (l.map φ).getLastD d' = φ (l.getLastD d)
  | [], h => absurd rfl h
  | [a], _ => rfl
  | a :: b :: l, _ => by
    have := getLastD_map φ d d' (b :: l) (by simp)
    simpa using this
theorem ell2_runs {f g : Nat → Bool} {ws : List (Nat × Nat)} {st : Nat} (h : runsOk ws) (hne : ws ≠ []) : ell2 (wd f 0 5) (ws.map (wdq g)) st = ell2I (ag f g) ws st := by
  unfold ell2 ell2I
  rw [getLastD_map (wdq g) (0, 0) ⟨#[]⟩ ws hne]
  have hm : ws.getLastD (0, 0) ∈ ws := by
    rw [List.getLastD_eq_getLast?, List.getLast?_eq_some_getLast hne]; exact List.getLast_mem hne
  obtain ⟨h1, h2⟩ := h _ hm
  simp only [wdq, wd_length]
  by_cases hlt : (ws.getLastD (0, 0)).1 < (ws.getLastD (0, 0)).2
  · rw [if_pos hlt, if_pos (by (first | lia | omega)), ends_wd hlt h2]
    have e5 : 5 - 0 - ((ws.getLastD (0, 0)).2 - (ws.getLastD (0, 0)).1) = 5 - ((ws.getLastD (0, 0)).2 - (ws.getLastD (0, 0)).1) := by (first | lia | omega)
    rw [e5, ← List.map_dropLast]
    have := fun st => fa_runs (f := f) (g := g) (en := 5 - ((ws.getLastD (0, 0)).2 - (ws.getLastD (0, 0)).1)) (by (first | lia | omega)) ws.dropLast st fun q hq => h q (List.dropLast_subset _ hq)
    rw [this]
  · rw [if_neg hlt, if_neg (by (first | lia | omega))]
    have := fun st => fa_runs (f := f) (g := g) (en := 5) (by (first | lia | omega)) ws st h
    rw [show 5 - 0 = 5 from rfl, this]
theorem ell1_runs {f g : Nat → Bool} {ws : List (Nat × Nat)} (h : runsOk ws) (h2 : 2 ≤ ws.length) : ell1 (wd f 0 5) (ws.map (wdq g)) = ell1I (ag f g) ws := by
  match ws, h, h2 with
  | q :: r, h, h2 =>
    have hr : r ≠ [] := by intro e; subst e; simp at h2
    obtain ⟨k1, k2⟩ := h q (.head _)
    rw [List.map_cons, ell1_cons]
    have e0 : ell1I (ag f g) (q :: r) = if q.1 < q.2 then (if (0 == q.1 && ag f g q.1 q.2) then ell2I (ag f g) r (q.2 - q.1) else false) else ell2I (ag f g) (q :: r) 0 := rfl
    rw [e0]
    have hl : (wdq g q).length = q.2 - q.1 := wd_length ..
    rw [hl]
    by_cases hlt : q.1 < q.2
    · rw [if_pos hlt, if_pos (by (first | lia | omega)), show Txt.startswith (wd f 0 5) (wdq g q) = _ from starts_wd hlt k2, ell2_runs (fun p hp => h p (.tail _ hp)) hr]
    · rw [if_neg hlt, if_neg (by (first | lia | omega)), ← List.map_cons, ell2_runs h (by simp)]
/-- what is asked -/
noncomputable def wantP (y P : Nat) : List Str := (List.range 5).map fun k => if P.testBit k then chr (ltr k (y.testBit k)) else dots
noncomputable def wantS (y P : Nat) : Str := Txt.join ⟨#[]⟩ (wantP y P)
noncomputable def ivsGo (P : Nat) : Nat → Nat → Nat → List (Nat × Nat)
  | 0, p, _ => [(p, 5)]
  | m + 1, p, k => if P.testBit k then ivsGo P m p (k + 1) else (p, k) :: ivsGo P m (k + 1) (k + 1)
noncomputable def ivs (P : Nat) : List (Nat × Nat) := ivsGo P 5 0 0
noncomputable def ivsOkB (P : Nat) : Bool := (ivs P).all (fun q => decide (q.1 ≤ q.2) && decide (q.2 ≤ 5)) && decide (2 ≤ (ivs P).length) && decide ((ivs P).length ≤ 6)
theorem ivs_all : (allB 31 fun P => ivsOkB P && allB 32 fun d => ell1I (fun p e => (List.range' p (e - p)).all fun i => !d.testBit i) (ivs P) == (d &&& P == 0)) = true := by decide +kernel
/- where the dots stand -/
noncomputable def occGo : Nat → List Nat → Nat → List Nat
  | 0, _, _ => []
  | _ + 1, [], _ => []
  | n + 1, c :: r, i => if (c :: r).take 3 == [46, 46, 46] then i :: occGo n ((c :: r).drop 3) (i + 3) else occGo n r (i + 1)
theorem dots_list : dots.cps.toList = [46, 46, 46] := by decide
theorem dots_len : dots.length = 3 := by decide
theorem at_dots {x : Str} {i : Nat} : At x dots x.length i ↔ (x.cps.toList.drop i).take 3 = [46, 46, 46] := by
  unfold At
  rw [subAt_eq, dots_len, dots_list, beq_iff_eq]
  constructor
  · exact fun h => h.2
  · intro h
    refine ⟨?_, h⟩
    have e := congrArg List.length h
    rw [List.length_take, List.length_drop] at e
    have : x.cps.toList.length = x.length := by simp [Str.length]
    simp only [List.length_cons, List.length_nil] at e
    (first | lia | omega)
theorem not_at_end {x : Str} {i : Nat} (h : x.cps.toList.drop i = []) : ∀ k, i ≤ k → ¬ At x dots x.length k := fun k hk q => by
  rw [at_dots] at q
  have : x.cps.toList.drop k = [] := by rw [List.drop_eq_nil_iff] at h ⊢; (first | lia | omega)
  rw [this] at q; simp at q
theorem go_chain (x : Str) : ∀ (n : Nat) (l : List Nat) (i : Nat), l = x.cps.toList.drop i → l.length ≤ n → ∃ f, ChainG x dots x.length i (occGo n l i) f ∧ ∀ k, f ≤ k → ¬ At x dots x.length k
  | 0, l, i, h, hn => by
    have : l = [] := List.length_eq_zero_iff.mp (by (first | lia | omega))
    exact ⟨i, by rw [occGo]; exact rfl, not_at_end (h ▸ this)⟩
  | n + 1, [], i, h, hn => ⟨i, by rw [occGo]; exact rfl, not_at_end h.symm⟩
  | n + 1, c :: r, i, h, hn => by
    rw [occGo]
    by_cases q : (c :: r).take 3 = [46, 46, 46]
    · rw [if_pos (by rw [q]; rfl)]
      have hat : At x dots x.length i := at_dots.mpr (h ▸ q)
      obtain ⟨f, h1, h2⟩ := go_chain x n ((c :: r).drop 3) (i + 3) (by rw [h, List.drop_drop]) (by rw [List.length_drop]; (first | lia | omega))
      exact ⟨f, ⟨Nat.le_refl _, hat, fun k a b => by (first | lia | omega), by rw [dots_len]; exact h1⟩, h2⟩
    · rw [if_neg (by simpa using q)]
      have hat : ¬ At x dots x.length i := fun a => q (h ▸ at_dots.mp a)
      have hr : r = x.cps.toList.drop (i + 1) := by rw [← List.drop_drop, ← h]; rfl
      obtain ⟨f, h1, h2⟩ := go_chain x n r (i + 1) hr (by simpa using hn)
      generalize occGo n r (i + 1) = L at h1
      cases L with
      | nil =>
        have e : f = i + 1 := h1
        refine ⟨i, rfl, fun k hk => ?_⟩
        rcases Nat.eq_or_lt_of_le hk with e2 | e2
        · exact e2 ▸ hat
        · exact h2 k (by (first | lia | omega))
      | cons a L =>
        refine ⟨f, ⟨by have := h1.1; (first | lia | omega), h1.2.1, fun k a1 a2 => ?_, h1.2.2.2⟩, h2⟩
        rcases Nat.eq_or_lt_of_le a1 with e2 | e2
        · exact e2 ▸ hat
        · exact h1.2.2.1 k (by (first | lia | omega)) a2
theorem chain_one {x y : Str} {hi : Nat} : ∀ {L L' : List Nat} {a f f' : Nat}, ChainG x y hi a L f → (∀ k, f ≤ k → ¬ At x y hi k) → ChainG x y hi a L' f' → (∀ k, f' ≤ k → ¬ At x y hi k) → L = L'
  | [], [], _, _, _, _, _, _, _ => rfl
  | [], c :: r, a, f, f', h, hn, h', _ => by
    have e : f = a := h
    exact absurd h'.2.1 (hn c (e ▸ h'.1))
  | c :: r, [], a, f, f', h, _, h', hn' => by
    have e : f' = a := h'
    exact absurd h.2.1 (hn' c (e ▸ h.1))
  | c :: r, c' :: r', a, f, f', h, hn, h', hn' => by
    have e : c = c' := by
      rcases Nat.lt_trichotomy c c' with q | q | q
      · exact absurd h.2.1 (h'.2.2.1 c h.1 q)
      · exact q
      · exact absurd h'.2.1 (h.2.2.1 c' h'.1 q)
    subst e
    rw [chain_one h.2.2.2 hn h'.2.2.2 hn']
theorem occ_go {x : Str} {n : Nat} (hn : x.length ≤ n) : occurrences x dots 0 x.length (x.length + 1) = occGo n x.cps.toList 0 := by
  obtain ⟨f, h1, h2⟩ := occ_tight x dots (by rw [dots_len]; (first | lia | omega))
  obtain ⟨f', h1', h2'⟩ := go_chain x n x.cps.toList 0 rfl (by simpa [Str.length] using hn)
  exact chain_one h1 h2 h1' h2'
noncomputable def partsL (l : List Nat) : Nat → List Nat → List (List Nat)
  | a, [] => [l.drop a]
  | a, c :: r => ((l.drop a).take (c - a)) :: partsL l (c + 3) r
theorem parts_list (x : Str) : ∀ (cuts : List Nat) (a : Nat), (partsFrom x 3 a cuts).map (fun z => z.cps.toList) = partsL x.cps.toList a cuts
  | [], a => by
    show [(strSub x a x.length).cps.toList] = _
    rw [strSub_toList, List.take_of_length_le (by rw [List.length_drop]; simp [Str.length])]; rfl
  | c :: r, a => by
    show (strSub x a c).cps.toList :: (partsFrom x 3 (c + 3) r).map (fun z => z.cps.toList) = _
    rw [strSub_toList, parts_list x r (c + 3)]; rfl
theorem kind_dots (x : Str) : decide (strKind x < strKind dots) = false := by
  have e : strKind dots = 1 := by decide +kernel
  rw [e]
  unfold PySem.Builtin.Str.strKind
  split
  · rfl
  · split <;> rfl
theorem contains_of {x : Str} {n c : Nat} {r : List Nat} (hn : x.length ≤ n) (h : occGo n x.cps.toList 0 = c :: r) : Txt.contains x dots = true := by
  obtain ⟨f', h1', h2'⟩ := go_chain x n x.cps.toList 0 rfl (by simpa [Str.length] using hn)
  rw [h] at h1'
  have hat := h1'.2.1
  unfold Txt.contains
  rcases find4_first x dots 0 x.length with ⟨h0, hno⟩ | ⟨a, h0, _⟩
  · exact absurd hat (hno c (Nat.zero_le _) (by have := hat.1; (first | lia | omega)))
  · unfold find4 at h0
    cases q : occurrences x dots 0 x.length 1 with
    | nil => rw [q] at h0; cases h0
    | cons => rfl
/- the text that is asked, as a list -/
noncomputable def wantL (y P : Nat) : List Nat := (List.range 5).flatMap fun k => if P.testBit k then [ltr k (y.testBit k)] else [46, 46, 46]
theorem join_flat (parts : List Str) : (Txt.join ⟨#[]⟩ parts).cps.toList = parts.flatMap fun z => z.cps.toList := by
  have key : ∀ (l : List Str) (acc : Array Nat), (l.foldl (fun acc p => acc ++ (⟨#[]⟩ : Str).cps ++ p.cps) acc).toList = acc.toList ++ l.flatMap fun z => z.cps.toList := by
    intro l
    induction l with
    | nil => intro acc; simp
    | cons a l ih => intro acc; rw [List.foldl_cons, ih]; simp
  cases parts with
  | nil => rfl
  | cons a l =>
    show (l.foldl (fun acc p => acc ++ (⟨#[]⟩ : Str).cps ++ p.cps) a.cps).toList = _
    rw [key]; rfl
theorem want_list (y P : Nat) : (wantS y P).cps.toList = wantL y P := by
  unfold wantS wantP wantL
  rw [join_flat, List.flatMap_map]
  congr 1
  funext k
  by_cases h : P.testBit k = true
  · rw [if_pos h, if_pos h]; rfl
  · rw [if_neg h, if_neg h, dots_list]
theorem wantP_len (y P : Nat) : ∀ z ∈ wantP y P, z.length ≤ 3 := fun z hz => by
  obtain ⟨k, _, rfl⟩ := List.mem_map.mp hz
  split
  · show 1 ≤ 3; (first | lia | omega)
  · rw [dots_len]; exact Nat.le_refl _
theorem want_join (y P : Nat) : JoinOk ⟨#[]⟩ (wantP y P) = true ∧ (wantS y P).length ≤ 15 := by
  have hl : (wantP y P).length = 5 := by simp [wantP]
  refine ⟨?_, ?_⟩
  · unfold JoinOk
    have := joinFits (sep := ⟨#[]⟩) (wantP_len y P) (by rw [hl]; decide)
    rw [this]; rfl
  have h := sumLen_le (wantP y P) (wantP_len y P)
  have e : (wantS y P).length = ((wantP y P).map (·.length)).sum + ((wantP y P).length - 1) * (⟨#[]⟩ : Str).length := size_glued _ _
  have e0 : (⟨#[]⟩ : Str).length = 0 := rfl
  rw [e, e0, hl] at *
  (first | lia | omega)
noncomputable def wantB (y P : Nat) : Bool := match occGo 15 (wantL y P) 0 with
  | [] => false
  | c :: r => decide (3 ≤ (wantL y P).length) && partsL (wantL y P) 0 (c :: r) == (ivs P).map fun q => (List.range' q.1 (q.2 - q.1)).map fun i => ltr i (y.testBit i)
theorem want_all : (allB 31 fun P => allB 32 fun y => if y &&& P == y then wantB y P else true) = true := by decide +kernel
theorem want_31 : (allB 32 fun y => occGo 15 (wantL y 31) 0 == [] && wantL y 31 == (List.range' 0 (5 - 0)).map fun i => ltr i (y.testBit i)) = true := by decide +kernel
theorem all_31 : (allB 32 fun d => ((List.range' 0 (5 - 0)).all fun i => !d.testBit i) == (d &&& 31 == 0)) = true := by decide +kernel
theorem wantP_and (y P : Nat) : wantP y P = wantP (y &&& P) P := by
  unfold wantP
  refine List.map_congr_left fun k _ => ?_
  by_cases h : P.testBit k = true
  · rw [if_pos h, if_pos h, Nat.testBit_and, h, Bool.and_true]
  · rw [if_neg h, if_neg h]
theorem and_idem (y P : Nat) : (y &&& P) &&& P = y &&& P := by rw [Nat.and_assoc, Nat.and_self]
theorem ag_bits (y v : Nat) : ag v.testBit y.testBit = fun p e => (List.range' p (e - p)).all fun i => !(y ^^^ v).testBit i := by
  funext p e
  unfold ag
  congr 1
  funext i
  rw [Nat.testBit_xor]
  cases v.testBit i <;> cases y.testBit i <;> rfl
theorem want_facts {y P : Nat} (hy : y < 32) (hP : P < 31) : Txt.contains (wantS y P) dots = true ∧ (decide ((wantS y P).length < dots.length) || decide (strKind (wantS y P) < strKind dots)) = false ∧ (occurrences (wantS y P) dots 0 (wantS y P).length ((wantS y P).length + 1)).isEmpty = false ∧ Txt.split (wantS y P) dots = (ivs P).map (wdq (y &&& P).testBit) := by
  have hw : wantS y P = wantS (y &&& P) P := by unfold wantS; rw [wantP_and]
  rw [hw]
  have hy' : y &&& P < 32 := and_lt hy
  have e := and_idem y P
  have hb := allB_out (allB_out want_all hP) hy'
  rw [e] at hb
  simp only [beq_self_eq_true, if_true] at hb
  generalize y &&& P = z at hb
  have hlen := (want_join z P).2
  have hocc := occ_go (n := 15) hlen
  rw [want_list] at hocc
  unfold wantB at hb
  cases hL : occGo 15 (wantL z P) 0 with
  | nil => rw [hL] at hb; cases hb
  | cons c r =>
    rw [hL] at hb hocc
    simp only [Bool.and_eq_true, decide_eq_true_eq, beq_iff_eq] at hb
    have h3 : 3 ≤ (wantS z P).length := by
      have : (wantS z P).cps.toList.length = (wantS z P).length := by simp [Str.length]
      rw [want_list] at this; (first | lia | omega)
    have hk : (decide ((wantS z P).length < dots.length) || decide (strKind (wantS z P) < strKind dots)) = false := by
      rw [kind_dots, dots_len, Bool.or_false]; simp; (first | lia | omega)
    refine ⟨contains_of hlen (by rw [want_list]; exact hL), hk, by rw [hocc]; rfl, ?_⟩
    unfold Txt.split
    rw [hk, hocc, if_neg (by simp), if_neg (by simp), partsBetween_eq, dots_len]
    have hp := parts_list (wantS z P) (c :: r) 0
    rw [want_list, hb.2] at hp
    have inj : ∀ {as bs : List Str}, as.map (fun z => z.cps.toList) = bs.map (fun z => z.cps.toList) → as = bs := by
      intro as
      induction as with
      | nil => intro bs h; cases bs with
        | nil => rfl
        | cons => simp at h
      | cons a as ih => intro bs h; cases bs with
        | nil => simp at h
        | cons b bs =>
          rw [List.map_cons, List.map_cons, List.cons.injEq] at h
          rw [str_ext h.1, ih h.2]
    refine inj ?_
    rw [hp, List.map_map]
    rfl
theorem ivs_ok {P : Nat} (hP : P < 31) : runsOk (ivs P) ∧ 2 ≤ (ivs P).length ∧ (ivs P).length ≤ 6 := by
  have := allB_out ivs_all hP
  rw [Bool.and_eq_true] at this
  have h := this.1
  simp only [ivsOkB, Bool.and_eq_true, decide_eq_true_eq] at h
  refine ⟨fun q hq => ?_, h.1.2, h.2⟩
  have := List.all_eq_true.mp h.1.1 q hq
  simpa using this
theorem not_dots {y : Nat} (hy : y < 32) : Txt.contains (wantS y 31) dots = false ∧ wantS y 31 = wd y.testBit 0 5 := by
  have hb := allB_out want_31 hy
  simp only [Bool.and_eq_true, beq_iff_eq] at hb
  refine ⟨?_, str_ext (by rw [want_list, hb.2]; rfl)⟩
  obtain ⟨f', h1', h2'⟩ := go_chain (wantS y 31) 15 (wantS y 31).cps.toList 0 rfl (by have := (want_join y 31).2; simpa [Str.length] using this)
  rw [want_list, hb.1] at h1'
  have e : f' = 0 := h1'
  subst e
  unfold Txt.contains
  rcases find4_first (wantS y 31) dots 0 (wantS y 31).length with ⟨h0, _⟩ | ⟨a, _, _, ha, _⟩
  · unfold find4 at h0
    cases q : occurrences (wantS y 31) dots 0 (wantS y 31).length 1 with
    | nil => rfl
    | cons => rw [q] at h0; cases h0
  · exact absurd ha (h2' a (Nat.zero_le _))
theorem want_ok {y P : Nat} (hy : y < 32) (hP : P < 32) (hc : Txt.contains (wantS y P) dots = true) : WantOk (wantS y P) := by
  have hP' : P < 31 := by
    rcases Nat.lt_or_ge P 31 with h | h
    · exact h
    · have : P = 31 := by (first | lia | omega)
      subst this
      rw [(not_dots hy).1] at hc; cases hc
  obtain ⟨_, h1, h2, h3⟩ := want_facts hy hP'
  obtain ⟨k1, k2, k3⟩ := ivs_ok hP'
  have hl := (want_join y P).2
  refine ⟨by (first | lia | omega), h1, h2, by rw [h3, List.length_map]; exact k2, by rw [h3, List.length_map]; simp only [cap]; (first | lia | omega), fun z hz => ?_⟩
  rw [h3] at hz
  obtain ⟨q, hq, rfl⟩ := List.mem_map.mp hz
  have := k1 q hq
  rw [wd_length]; simp only [cap]; (first | lia | omega)
theorem ell_law {y v P : Nat} (hy : y < 32) (hv : v < 32) (hP : P < 32) : ellB (wantS y P) (wd v.testBit 0 5) = ((y ^^^ v) &&& P == 0) := by
  by_cases h : P = 31
  · subst h
    obtain ⟨h1, h2⟩ := not_dots hy
    rw [ellB, h1, if_neg (by simp), h2]
    have e : (wd y.testBit 0 5 == wd v.testBit 0 5) = ag v.testBit y.testBit 0 5 := by
      rw [Bool.eq_iff_iff, beq_iff_eq]
      have := runs_eq (f := y.testBit) (g := v.testBit) (i := 0) (p := 0) (n := 5) (by (first | lia | omega)) (by (first | lia | omega)) (by (first | lia | omega))
      constructor
      · intro e
        have e2 : (wd y.testBit 0 5).cps.toList = (wd v.testBit 0 5).cps.toList := by rw [e]
        rw [wd_list, wd_list] at e2
        have := (this.mp e2).2
        unfold ag
        exact List.all_eq_true.mpr fun i hi => by rw [this i hi]; simp
      · intro e
        refine str_ext ?_
        rw [wd_list, wd_list]
        refine this.mpr ⟨rfl, fun j hj => ?_⟩
        have := List.all_eq_true.mp e j hj
        simpa using (beq_iff_eq.mp this).symm
    rw [e, ag_bits]
    have := allB_out all_31 (xor_lt hy hv)
    simpa using this
  · have hP' : P < 31 := by (first | lia | omega)
    obtain ⟨h0, h1, h2, h3⟩ := want_facts hy hP'
    obtain ⟨k1, k2, k3⟩ := ivs_ok hP'
    rw [ellB, h0, if_pos rfl, h3, ell1_runs k1 k2, ag_bits]
    have := allB_out ivs_all hP'
    rw [Bool.and_eq_true] at this
    have := allB_out this.2 (xor_lt (and_lt (y := P) hy) hv)
    rw [beq_iff_eq] at this
    rw [this]
    have e : ((y &&& P) ^^^ v) &&& P = (y ^^^ v) &&& P := by
      apply Nat.eq_of_testBit_eq
      intro i
      rw [Nat.testBit_and, Nat.testBit_xor, Nat.testBit_and, Nat.testBit_and, Nat.testBit_xor]
      cases y.testBit i <;> cases P.testBit i <;> cases v.testBit i <;> rfl
    rw [e]
end
-- part Glaw
open PySem PySem.W PyProof.Rows PySem.Calls PySem.SeqAt
set_option maxHeartbeats 4000000
noncomputable abbrev lawA (L : Addr) : Around := callerA.deeper (callEnvC (fdOf 124) L 124)
noncomputable abbrev LC (w : World) (mg mb : Str → Option Value) (s : Shared) (L : Addr) (hap : (callEnvC (fdOf 124) L 124).cells.Pairwise fun x y => x.2 ≠ y.2) (pr : Pr) : Cx := ⟨w, mg, mb, true, lawA L, s, pr, callEnvC (fdOf 124) L 124, D124.st L hap⟩
theorem lawOk (L : Addr) : OkA (lawA L) 17 55 := (OkA.deeper (d := 17) (u := 55) ⟨rfl, by decide, by decide⟩ _)
noncomputable def wordsV : MV := .list (wordsAt 5)
noncomputable abbrev natsV (l : List Nat) : List IV := l.map fun (v : Nat) => IV.int v
noncomputable def onesI (i : Nat) : List IV := (List.range (2 ^ i)).map fun r => IV.int (pc r)
noncomputable def signsI (y : Nat) : List IV := (List.range 32).map fun r => IV.int (sg r y)
theorem onesI_succ : ∀ i < 5, onesI (i + 1) = onesI i ++ (onesI i).map (fun v => match v with | .int i => .int (i + 1) | v => v) := fun i hi => match i, hi with | 0, _ => rfl | 1, _ => rfl | 2, _ => rfl | 3, _ => rfl | 4, _ => rfl
theorem onesI_get {r : Nat} (h : r < 32) : (onesI 5)[r]? = some (IV.int (pc r)) := by
  unfold onesI; rw [List.getElem?_map, List.getElem?_range (show r < 2 ^ 5 from h)]; rfl
theorem signsI_get {y r : Nat} (h : r < 32) : (signsI y)[r]? = some (IV.int (sg r y)) := by
  unfold signsI; rw [List.getElem?_map, List.getElem?_range h]; rfl
theorem wordsAt_get {r : Nat} (h : r < 32) : (wordsAt 5)[r]? = some (IV.str (wd r.testBit 0 5)) := by
  unfold wordsAt; rw [List.getElem?_map, List.getElem?_range (show r < 2 ^ 5 from h)]; rfl
noncomputable abbrev LS1 (a : Addr) (numbers words ones place code mates asking signs : Option MV) : List Ent :=
  [(S "script", .local, some (.fn a)), (S "numbers", .local, numbers), (S "words", .cell, words), (S "ones", .cell, ones), (S "place", .local, place), (S "code", .cell, code), (S "mates", .cell, mates), (S "asking", .cell, asking), (S "signs", .cell, signs)]
noncomputable abbrev LS2 (a : Addr) (numbers words ones code mates asking signs apart k due far firsts counts : Option MV) : List Ent :=
  [(S "script", .local, some (.fn a)), (S "numbers", .local, numbers), (S "words", .cell, words), (S "ones", .cell, ones), (S "code", .cell, code), (S "mates", .cell, mates), (S "asking", .cell, asking), (S "signs", .cell, signs), (S "apart", .cell, apart), (S "k", .local, k), (S "due", .local, due), (S "far", .local, far), (S "firsts", .cell, firsts), (S "counts", .local, counts)]
noncomputable abbrev LS3 (a : Addr) (numbers words ones code mates asking signs counts width base quotient rest evens lifted back spread : Option MV) : List Ent :=
  [(S "script", .local, some (.fn a)), (S "numbers", .local, numbers), (S "words", .cell, words), (S "ones", .cell, ones), (S "code", .cell, code), (S "mates", .cell, mates), (S "asking", .cell, asking), (S "signs", .cell, signs), (S "counts", .local, counts), (S "width", .local, width), (S "base", .cell, base), (S "quotient", .local, quotient), (S "rest", .local, rest), (S "evens", .local, evens), (S "lifted", .local, lifted), (S "back", .local, back), (S "spread", .local, spread)]
noncomputable abbrev LS4 (a : Addr) (numbers words code mates asking signs places size want taken within : Option MV) : List Ent :=
  [(S "numbers", .local, numbers), (S "words", .cell, words), (S "code", .cell, code), (S "mates", .cell, mates), (S "asking", .cell, asking), (S "signs", .cell, signs), (S "places", .cell, places), (S "size", .local, size), (S "want", .cell, want), (S "taken", .local, taken), (S "within", .local, within)]
/-- a frame looked at through fewer names -/
inductive Inc (σ : List Ent) : List Ent → Prop
  | nil : Inc σ []
  | none {x k τ} : Inc σ τ → Inc σ ((x, k, Option.none) :: τ)
  | some {x k v τ} : Has σ x v → Inc σ τ → Inc σ ((x, k, Option.some v) :: τ)
theorem Inc.has {σ τ : List Ent} (h : Inc σ τ) : ∀ {x : Str} {v : MV}, Has τ x v → Has σ x v := by
  induction h with
  | nil => intro x v q; cases q
  | none h ih =>
    intro x v q
    rcases has_cons q with ⟨_, e⟩ | q
    · cases e
    · exact ih q
  | some h1 h ih =>
    intro x v q
    rcases has_cons q with ⟨rfl, e⟩ | q
    · cases e; exact h1
    · exact ih q
theorem XS.inc {C : Cx} {σ τ : List Ent} {Φ : Fl → Prop} {ss : List Stmt} (hs : SigOk C.env τ) (h : Inc σ τ) (x : XS C τ Option.none ss Φ) : XS C σ Option.none ss Φ := ⟨fun sg s Q E F hq =>
  x.run hs s Q E ⟨F.b0, F.go, F.ns, fun x v hx => F.vars x v (h.has hx), trivial, F.fresh, F.cells, F.own, F.prs⟩ hq⟩
theorem natsV_mem {l : List Nat} {v : IV} (h : v ∈ natsV l) : ∃ n ∈ l, v = .int n := by
  obtain ⟨n, hn, rfl⟩ := List.mem_map.mp h; exact ⟨n, hn, rfl⟩
theorem fltN (l : List Nat) (p : IV → Bool) (f : IV → IV) : ((natsV l).filter p).map f = (l.filter fun (n : Nat) => p (.int n)).map fun (n : Nat) => f (.int n) := by
  induction l with
  | nil => rfl
  | cons a l ih =>
    simp only [natsV, List.map_cons, List.filter_cons] at ih ⊢
    split <;> simp [ih]
theorem rngN (n : Nat) : ((List.range n).map fun (i : Nat) => IV.int i) = natsV (List.range n) := rfl
theorem int_toNat (n : Nat) : ((n : Int)).toNat = n := rfl
-- part Gl4
open PySem PySem.W PyProof.Rows PySem.Calls PySem.SeqAt
set_option maxHeartbeats 4000000
theorem bit_all : (allB 32 fun P => allB 5 fun k => (Builtin.bitAnd ((P : Int).fdiv (2 ^ k)) 1 != 0) == P.testBit k) = true := by decide +kernel
theorem bit_test {P k : Nat} (hP : P < 32) (hk : k < 5) : (Builtin.bitAnd ((P : Int).fdiv (2 ^ k)) 1 != 0) = P.testBit k := by
  have := allB_out (allB_out bit_all hP) hk
  simpa using this
theorem nums_get {nums : List Int} {j : Nat} (h : j < nums.length) : (nums.map IV.int)[j]? = some (IV.int (nums.getD j 0)) := by
  rw [List.getElem?_map, List.getElem?_eq_getElem h, List.getD_eq_getElem?_getD, List.getElem?_eq_getElem h]; rfl
theorem plc_next (n5 n4 : Int) (i : Nat) : Builtin.bitOr (plcN (n5.fmod 5).toNat ((n4.fmod 4).toNat + 1) i : Int) ((2 : Int) ^ ((n5 + (i : Int) * (n4.fmod 4 + 1)).fmod 5).toNat) = (plcN (n5.fmod 5).toNat ((n4.fmod 4).toNat + 1) (i + 1) : Int) := by
  have m1 := Int.fmod_nonneg_of_pos n4 (b := 4) (by decide)
  have m5 := Int.fmod_nonneg_of_pos n5 (b := 5) (by decide)
  have e : ((n5 + (i : Int) * (n4.fmod 4 + 1)).fmod 5).toNat = ((n5.fmod 5).toNat + i * ((n4.fmod 4).toNat + 1)) % 5 := by
    have e1 : ((i : Int) * (n4.fmod 4 + 1)) = ((i * ((n4.fmod 4).toNat + 1) : Nat) : Int) := by
      rw [Int.natCast_mul, Int.natCast_add, Int.toNat_of_nonneg m1]; rfl
    rw [e1]
    generalize i * ((n4.fmod 4).toNat + 1) = k
    rw [Int.fmod_eq_emod_of_nonneg n5 (by decide)] at *
    rw [Int.fmod_eq_emod_of_nonneg _ (by decide), ← Int.emod_add_emod]
    obtain ⟨r, hr⟩ := Int.eq_ofNat_of_zero_le m5
    rw [hr]
    exact (Int.toNat_natCast ((r + k) % 5))
  rw [e]
  have h2 : 2 ^ (((n5.fmod 5).toNat + i * ((n4.fmod 4).toNat + 1)) % 5) < 2 ^ 5 := Nat.pow_lt_pow_right (by (first | lia | omega)) (Nat.mod_lt _ (by (first | lia | omega)))
  have e2 : ((2 : Int) ^ (((n5.fmod 5).toNat + i * ((n4.fmod 4).toNat + 1)) % 5)) = ((2 ^ (((n5.fmod 5).toNat + i * ((n4.fmod 4).toNat + 1)) % 5) : Nat) : Int) := by push_cast; rfl
  rw [e2, or_n (plc_lt _ _ _) h2]
  rfl
theorem law4 {w : World} {mg mb : Str → Option Value} {s : Shared} (L : Addr) (hap : (callEnvC (fdOf 124) L 124).cells.Pairwise fun x y => x.2 ≠ y.2) {a : Addr} {nums : List Int} {c : List Nat} {y : Nat} (hn : nums.length = 6) (k : CodeOk c) (hc8 : c.length ≤ 8) (hy : y < 32) :
    XS (LC w mg mb s L hap []) (LS4 a (some (.list (nums.map IV.int))) (some (.list (wordsAt 5))) (some (.list (natsV c))) (some (.list (natsV (matesN c)))) (some (.int y)) (some (.list (signsI y))) none none none none none) none ((bodyOf 124).drop 24) (RetIs (.bool true)) := by
  have hA := lawOk L
  have hh : (lawA L).handled = none := hA.hd
  refine XS.cons (X1.asg (by walk_at "ev") (by (with_reducible (repeat (first | exact St.here' | exact St.hereC | apply St.there)))) trivial trivial (Seq.next ?_) rfl)
  refine XS.cons (X1.forRange (α := Unit) (n := 6) (EvI.rangeN (n := 6) hh (by walk_at "ev") (by decide) (by decide)) (fun i _ => LS4 a (some (.list (nums.map IV.int))) (some (.list (wordsAt 5))) (some (.list (natsV c))) (some (.list (natsV (matesN c)))) (some (.int y)) (some (.list (signsI y))) (some (.int (plcN ((nums.getD 5 0).fmod 5).toNat (((nums.getD 4 0).fmod 4).toNat + 1) i))) none none none none) (fun _ _ => none) (fun _ _ => rfl) (fun _ _ => True) () (by (repeat (first | with_reducible exact Wk.nil | with_reducible apply Wk.keep | with_reducible apply Wk.drop | (apply Wk.keepE (by rfl))))) rfl trivial ?turn ?fin (fun _ => rfl))
  case fin =>
    intro _ _
    exact XS.nil (Seq.next (XS.cons (X1.ret EvT.bool (RetIs.ret rfl))))
  case turn =>
    intro i _ hi _
    refine ⟨_, by (with_reducible (repeat (first | exact St.here' | exact St.hereC | apply St.there))), trivial, fun pr => ?_⟩
    have hP := plc_lt ((nums.getD 5 0).fmod 5).toNat (((nums.getD 4 0).fmod 4).toNat + 1) i
    have hpc : pc (plcN ((nums.getD 5 0).fmod 5).toNat (((nums.getD 4 0).fmod 4).toNat + 1) i) = i := by
      have h1 := Int.fmod_lt_of_pos (nums.getD 5 0) (b := 5) (by decide)
      have h2 := Int.fmod_lt_of_pos (nums.getD 4 0) (b := 4) (by decide)
      exact plc_pc (by (first | lia | omega)) (by (first | lia | omega)) hi
    have hnext : Builtin.bitOr (plcN ((nums.getD 5 0).fmod 5).toNat (((nums.getD 4 0).fmod 4).toNat + 1) i : Int) ((2 : Int) ^ ((nums.getD 5 0 + (i : Int) * ((nums.getD 4 0).fmod 4 + 1)).fmod 5).toNat) = (plcN ((nums.getD 5 0).fmod 5).toNat (((nums.getD 4 0).fmod 4).toNat + 1) (i + 1) : Int) := plc_next _ _ _
    generalize plcN ((nums.getD 5 0).fmod 5).toNat (((nums.getD 4 0).fmod 4).toNat + 1) i = P at *
    refine XS.cons (X1.asg (v := .str (wantS y P)) (EvT.meth1 (vs := [.list ((wantP y P).map IV.str)]) (EvT.str (by decide)) str_type im_ref PySem.F.plainAttrs_str PySem.F.slot_str_join
      (EvL.cons (EvT.cast (EvF.compN (xs := natsV (List.range 5)) (fun _ => true) (fun v => match v with | .int k => .str (if P.testBit k.toNat then chr (ltr k.toNat (y.testBit k.toNat)) else dots) | v => v) [S "asking", S "places", S "words"] (EvI.rangeN (n := 5) hh EvT.int (by decide) (by decide)) (by decide) (by rfl) (by rfl) (by rfl) (fun C => .inl rfl) (fun C => by (repeat (first | exact Frees.nil | (apply Frees.cons; walk_at "has"; (first | exact Or.inl rfl | exact Or.inr rfl); (first | exact Or.inl rfl | exact Or.inr rfl); rfl)))) (fun v hv C => EvIfs.nil) (fun v hv _ C => ?elt)).t ?eqw) EvL.nil rfl) (CalV.join (want_join y P).1 ?wl) rfl rfl rfl PySem.F.type_str_join rfl rfl) (by (with_reducible (repeat (first | exact St.here' | exact St.hereC | apply St.there)))) trivial trivial (Seq.next ?_) rfl)
    case wl => have := (want_join y P).2; simp only [cap]; exact Nat.le_trans this (by (first | lia | omega))
    case eqw => rw [fltN, wantP, List.map_map]; congr 1
    case elt =>
      obtain ⟨k, hk, rfl⟩ := natsV_mem hv
      have hk := List.mem_range.mp hk
      show EvT _ _ _ (.str (if P.testBit k = true then chr (ltr k (y.testBit k)) else dots))
      have hbit : (Builtin.bitAnd ((P : Int).fdiv (2 ^ ((k : Int)).toNat)) 1 != 0) = P.testBit k := bit_test hP hk
      refine EvT.ifexp (EvC.plain (EvT.bin (EvT.bin (by walk_at "ev") (by walk_at "ev") (BinV.shr (by (first | lia | omega)))) EvT.int BinV.and) TruV.int rfl) (fun hb => ?_) (fun hb => ?_)
      · rw [hbit] at hb
        rw [if_pos hb]
        refine EvT.cast (EvT.sub (EvT.sub (by walk_at "ev") (by walk_at "ev") (GetV.list (v := .str (wd y.testBit 0 5)) (Int.natCast_nonneg _) (wordsAt_get hy))) (by walk_at "ev") (GetV.str (by rw [wd_length]; (first | lia | omega)) (by rw [wd_length]; (first | lia | omega)))) ?_
        rw [wd_item (f := y.testBit) (p := 0) (e := 5) (i := k) (by (first | lia | omega)), Nat.zero_add]
      · rw [hbit] at hb
        rw [if_neg (by rw [hb]; simp)]
        exact EvT.str (by decide)
    refine XS.cons (X1.asgCompN (xs := natsV c) (l := natsV (c.filter fun v => (y ^^^ v) &&& P == 0)) (fun v => match v with | .int r => ((y ^^^ r.toNat) &&& P == 0) | _ => false) (fun v => v) [S "want", S "words"] (EvI.list hh (by walk_at "ev")) (by simp [cap]; (first | lia | omega)) (by rfl) (by rfl) (by rfl) (fun C => .inl rfl) (fun C => by (repeat (first | exact Frees.nil | (apply Frees.cons; walk_at "has"; (first | exact Or.inl rfl | exact Or.inr rfl); (first | exact Or.inl rfl | exact Or.inr rfl); rfl)))) (fun v hv C => ?test) (fun v hv _ C => by walk_at "ev") (by rw [fltN]; rfl) (by (with_reducible (repeat (first | exact St.here' | exact St.hereC | apply St.there)))) (Seq.next ?_) rfl)
    case test =>
      obtain ⟨v, hvm, rfl⟩ := natsV_mem hv
      have hv := k.lt v hvm
      show EvIfs _ _ _ ((y ^^^ v) &&& P == 0)
      rw [← ell_law hy hv hP]
      exact EvIfs.one (EvC.plain (EvT.callF g_em ⟨_, _, _, by rfl⟩ (EvL.cons (by walk_at "ev") (EvL.cons (EvT.sub (by walk_at "ev") (by walk_at "ev") (GetV.list (v := .str (wd v.testBit 0 5)) (Int.natCast_nonneg _) (wordsAt_get hv))) EvL.nil rfl) rfl) (ell_spec (hA.le (by decide) (by decide)) (want_ok hy hP) (by rw [wd_length]; (first | lia | omega)))) TruV.bool rfl)
    have hsw : sm ((matesN c).filter fun r => r ||| P == P) (fun r => sg r y) = (((matesN c).filter fun r => r ||| P == P).map fun r => sg r y).sum := rfl
    refine XS.cons (X1.asg (v := .int (sm ((matesN c).filter fun r => r ||| P == P) (fun r => sg r y))) (EvT.callB n_sum b_sum (EvL.cons (EvT.cast (v' := .list ((((matesN c).filter fun r => r ||| P == P).map fun r => sg r y).map IV.int)) (EvF.compN (xs := natsV (matesN c)) (fun v => match v with | .int r => (r.toNat ||| P == P) | _ => false) (fun v => match v with | .int r => .int (sg r.toNat y) | v => v) [S "places", S "signs"] (EvI.list hh (by walk_at "ev")) ?ml (by rfl) (by rfl) (by rfl) (fun C => .inl rfl) (fun C => by (repeat (first | exact Frees.nil | (apply Frees.cons; walk_at "has"; (first | exact Or.inl rfl | exact Or.inr rfl); (first | exact Or.inl rfl | exact Or.inr rfl); rfl)))) (fun v hv C => ?test2) (fun v hv _ C => ?elt2)).t ?eqs) EvL.nil rfl) (CalV.sum hh)) (by (with_reducible (repeat (first | exact St.here' | exact St.hereC | apply St.there)))) trivial trivial (Seq.next ?_) rfl)
    case ml => have := mates_le k (show 0 < 7 by (first | lia | omega)) hy; simp [cap]; (first | lia | omega)
    case eqs => rw [fltN, List.map_map]; rfl
    case test2 =>
      obtain ⟨r, hr, rfl⟩ := natsV_mem hv
      have hr := mates_lt k hr
      show EvIfs _ _ _ (r ||| P == P)
      have e : ((Builtin.bitOr (r : Int) (P : Int)) == (P : Int)) = (r ||| P == P) := by rw [or_n hr hP, Bool.eq_iff_iff]; simp [Int.ofNat_inj]
      rw [← e]
      exact EvIfs.one (by (first | (apply EvC.cmp; walk_at "ev"; walk_at "ev"; walk_at "cmp"; with_unfolding_all rfl) | (apply EvC.plain; walk_at "ev"; (first | exact TruV.int | exact TruV.bool | exact TruV.str | exact TruV.list); rfl) | (apply EvC.not; first | (apply EvC.cmp; walk_at "ev"; walk_at "ev"; walk_at "cmp"; with_unfolding_all rfl) | (apply EvC.plain; walk_at "ev"; (first | exact TruV.int | exact TruV.bool | exact TruV.str | exact TruV.list); rfl))))
    case elt2 =>
      obtain ⟨r, hr, rfl⟩ := natsV_mem hv
      have hr := mates_lt k hr
      show EvT _ _ _ (.im (.int (sg r y)))
      exact EvT.sub (b := .int (r : Int)) (by walk_at "ev") (by walk_at "ev") (GetV.list (l := signsI y) (k := (r : Int)) (v := .int (sg r y)) (Int.natCast_nonneg _) (signsI_get hr))
    have hm := mates_le k (show 0 < 7 by (first | lia | omega)) hy
    have hfl : (c.filter fun v => (y ^^^ v) &&& P == 0).length ≤ 8 := Nat.le_trans (List.length_filter_le _ _) hc8
    have hwb := sm_bound (l := (matesN c).filter fun r => r ||| P == P) (f := fun r => sg r y) (B := 1) fun x _ => sg_abs x y
    have hml : ((matesN c).filter fun r => r ||| P == P).length ≤ 32 := Nat.le_trans (List.length_filter_le _ _) hm
    have hck := check4 k hP hy
    rw [hpc] at hck
    have h2i : (2 : Int) ^ i ≤ 32 := by exact_mod_cast (Nat.pow_le_pow_right (by (first | lia | omega)) (by (first | lia | omega)) : 2 ^ i ≤ 2 ^ 5)
    have h2p : (0 : Int) ≤ 2 ^ i := by exact_mod_cast Nat.zero_le (2 ^ i)
    have hbb : ∀ x : Int, -64 ≤ x → x ≤ 64 → Builtin.Int.intBits x ≤ 64 := fun x h1 h2 => bits64 (by (first | lia | omega)) (by (first | lia | omega))
    refine XS.cons (X1.ite (EvC.cmp (EvT.bin (EvT.callB n_len b_len (EvL.cons (by walk_at "ev") EvL.nil rfl) CalV.lenL) (EvT.bin EvT.int (by walk_at "ev") (BinV.pow (by (first | lia | omega)) ?pw)) (BinV.mul (IntMulOk.of_le (hbb _ ?b1 ?b2) (hbb _ (by exact Int.le_trans (by decide) h2p) (by exact Int.le_trans h2i (by decide))) (by (first | lia | omega))))) (EvT.bin (EvT.callB n_len b_len (EvL.cons (by walk_at "ev") EvL.nil rfl) CalV.lenL) (by walk_at "ev") (BinV.mul (IntMulOk.of_le (hbb _ ?b3 ?b4) (hbb _ (by (first | lia | omega)) (by (first | lia | omega))) (by (first | lia | omega))))) CmpV.neI) (fun hb => ?_) (fun hb => ?_))
    case pw => have e : Builtin.Int.intBits 2 = 2 := by decide
               rw [e]; (first | lia | omega)
    case b1 => (first | lia | omega)
    case b2 => simp; (first | lia | omega)
    case b3 => (first | lia | omega)
    case b4 => simp; (first | lia | omega)
    · exfalso
      rw [bne_iff_ne] at hb
      apply hb
      rw [List.length_map, List.length_map]
      exact hck
    have h5 : (nums.map IV.int)[((5 : Int)).toNat]? = some (IV.int (nums.getD 5 0)) := nums_get (by (first | lia | omega))
    have h4 : (nums.map IV.int)[((4 : Int)).toNat]? = some (IV.int (nums.getD 4 0)) := nums_get (by (first | lia | omega))
    have m1 := Int.fmod_nonneg_of_pos (nums.getD 4 0) (b := 4) (by decide)
    have m2 := Int.fmod_lt_of_pos (nums.getD 4 0) (b := 4) (by decide)
    have m3 := Int.fmod_nonneg_of_pos (nums.getD 5 0 + (i : Int) * ((nums.getD 4 0).fmod 4 + 1)) (b := 5) (by decide)
    have m4 := Int.fmod_lt_of_pos (nums.getD 5 0 + (i : Int) * ((nums.getD 4 0).fmod 4 + 1)) (b := 5) (by decide)
    refine XS.nil (Seq.next ?_)
    refine XS.cons (X1.asg (v := .int (plcN ((nums.getD 5 0).fmod 5).toNat (((nums.getD 4 0).fmod 4).toNat + 1) (i + 1))) (EvT.cast (EvT.bin (by walk_at "ev") (EvT.bin EvT.int (EvT.bin (EvT.bin (EvT.sub (by walk_at "ev") EvT.int (GetV.list (by decide) h5)) (EvT.bin (by walk_at "ev") (EvT.bin (EvT.bin (EvT.sub (by walk_at "ev") EvT.int (GetV.list (by decide) h4)) EvT.int (BinV.mod (by decide))) EvT.int BinV.add) (BinV.mul (IntMulOk.of_le (hbb _ (by (first | lia | omega)) (by (first | lia | omega))) (hbb _ (by (first | lia | omega)) (by (first | lia | omega))) (by (first | lia | omega))))) BinV.add) EvT.int (BinV.mod (by decide))) (BinV.pow m3 ?pw2)) BinV.or) (by rw [hnext])) (by (with_reducible (repeat (first | exact St.here' | exact St.hereC | apply St.there)))) trivial trivial (Seq.next ?_) rfl)
    case pw2 => have e : Builtin.Int.intBits 2 = 2 := by decide
                rw [e]; (first | lia | omega)
    exact XS.nil (Turn.nx ⟨(), by (repeat (first | with_reducible exact Wk.nil | with_reducible apply Wk.keep | with_reducible apply Wk.drop | (apply Wk.keepE (by rfl)))), rfl, trivial⟩)
-- part Gl3
open PySem PySem.W PyProof.Rows PySem.Calls PySem.SeqAt
set_option maxHeartbeats 4000000
theorem cnt_ints (c : List Nat) (y : Nat) : (cntI c y).map IV.int = natsV (cntN c y) := by
  unfold cntI cntN natsV; rw [List.map_map, List.map_map]; rfl
theorem cnt_small (c : List Nat) (y : Nat) (hc : c.length ≤ 8) : ∀ d ∈ cntN c y, d ≤ 8 := fun d hd => by
  obtain ⟨k, _, rfl⟩ := List.mem_map.mp hd
  exact Nat.le_trans (List.length_filter_le _ _) hc
theorem cnt_smallI (c : List Nat) (y : Nat) (hc : c.length ≤ 8) : ∀ e ∈ cntI c y, -10 ≤ e ∧ e ≤ 10 := fun e he => by
  obtain ⟨j, hj, rfl⟩ := List.mem_map.mp he
  have := cnt_small c y hc (cnt c y j) (List.mem_map.mpr ⟨j, hj, rfl⟩)
  (first | lia | omega)
theorem evn_small (c : List Nat) (y : Nat) : ∀ e ∈ evnI c y, -10 ≤ e ∧ e ≤ 10 := fun e he => by
  obtain ⟨k, hk, rfl⟩ := List.mem_map.mp he
  exact evn_bound c y (List.mem_range.mp hk)
theorem wei_cs {cs : List Int} (h : ∀ c ∈ cs, -10 ≤ c ∧ c ≤ 10) : ∀ c ∈ cs, -(2 ^ 64) < c ∧ c < 2 ^ 64 := fun c hc => by
  have := h c hc
  have e : (2 : Int) ^ 64 = 18446744073709551616 := by decide
  (first | lia | omega)
theorem half_nat (i : Nat) : ((2 : Int) ^ (6 + i)).fdiv 2 = ((2 ^ (6 + i) / 2 : Nat) : Int) := by
  rw [Int.fdiv_eq_ediv_of_nonneg _ (by decide)]; push_cast; rfl
theorem base_le {i : Nat} (hi : i < 7) : (0 : Int) ≤ 2 ^ (6 + i) ∧ (2 : Int) ^ (6 + i) ≤ 4096 := by
  constructor
  · exact_mod_cast Nat.zero_le (2 ^ (6 + i))
  · exact_mod_cast (Nat.pow_le_pow_right (by (first | lia | omega)) (by (first | lia | omega)) : 2 ^ (6 + i) ≤ 2 ^ 12)
theorem half_lt {i : Nat} (hi : i < 7) : ∀ d ∈ List.replicate 6 (2 ^ (6 + i) / 2), d < 2 ^ 2000 := fun d hd => by
  rw [List.eq_of_mem_replicate hd]
  have h1 : 2 ^ (6 + i) ≤ 2 ^ 12 := Nat.pow_le_pow_right (by (first | lia | omega)) (by (first | lia | omega))
  have h2 : 2 ^ 12 < 2 ^ 2000 := Nat.pow_lt_pow_right (by decide) (by decide)
  exact Nat.lt_of_le_of_lt (Nat.div_le_self _ _) (Nat.lt_of_le_of_lt h1 h2)
theorem cnt_lt (c : List Nat) (y : Nat) (hc : c.length ≤ 8) : ∀ d ∈ cntN c y, d < 2 ^ 2000 := fun d hd => by
  have h2 : 2 ^ 4 < 2 ^ 2000 := Nat.pow_lt_pow_right (by decide) (by decide)
  exact Nat.lt_of_le_of_lt (cnt_small c y hc d hd) (Nat.lt_trans (by (first | lia | omega)) h2)
theorem mates8 {c : List Nat} (k : CodeOk c) : (natsV (matesN c)).length ≤ cap := by
  have := mates_le k (show 0 < 7 by (first | lia | omega)) (show 0 < 32 by (first | lia | omega))
  simp [cap]; (first | lia | omega)
theorem law3 {w : World} {mg mb : Str → Option Value} {s : Shared} (L : Addr) (hap : (callEnvC (fdOf 124) L 124).cells.Pairwise fun x y => x.2 ≠ y.2) {a : Addr} {vs : List Value} {ns nums : List Int} {c : List Nat} {y : Nat} (hS : s.heap.IsList a vs.toArray) (hI : IntsAre vs ns) (hn : nums.length = 6) (k : CodeOk c) (hc2 : 2 ≤ c.length) (hc8 : c.length ≤ 8) (hy : y < 32) :
    XS (LC w mg mb s L hap []) (LS3 a (some (.list (nums.map IV.int))) (some (.list (wordsAt 5))) (some (.list (onesI 5))) (some (.list (natsV c))) (some (.list (natsV (matesN c)))) (some (.int y)) (some (.list (signsI y))) (some (.list (natsV (cntN c y)))) none none none none none none none none) none ((bodyOf 124).drop 14) (RetIs (.bool true)) := by
  have hA := lawOk L
  have hh : (lawA L).handled = none := hA.hd
  have hu : (lawA L).units < cLine := by have := hA.un; (first | lia | omega)
  have hSP : ∀ σ s', (LC w mg mb s L hap []).FS σ none s' → s'.heap.IsList a vs.toArray := fun σ s' F => F.go.list F.b0 hS
  obtain ⟨i, hi7, hi⟩ : ∃ i : Nat, i < 7 ∧ ns.sum.fmod 7 = (i : Int) := ⟨(ns.sum.fmod 7).toNat, by have h1 := Int.fmod_nonneg_of_pos ns.sum (b := 7) (by decide); have h2 := Int.fmod_lt_of_pos ns.sum (b := 7) (by decide); (first | lia | omega), by have h1 := Int.fmod_nonneg_of_pos ns.sum (b := 7) (by decide); (first | lia | omega)⟩
  have hbe := base_le hi7
  have hdv := div1 k hi7 hy
  have hmd := mod1 k hi7 hy
  -- width, base
  refine XS.cons (X1.asg (v := .int ((6 + i : Nat) : Int)) (EvT.cast (EvT.bin EvT.int (EvT.bin (EvT.callBS n_sum b_sum (EvL.cons (by walk_at "ev") EvL.nil rfl) (givenSum (vs := vs) (ns := ns) hh (fun s' F => hSP _ s' F) hI)) EvT.int (BinV.mod (by decide))) BinV.add) (by rw [hi]; push_cast; rfl)) (by (with_reducible (repeat (first | exact St.here' | exact St.hereC | apply St.there)))) trivial trivial (Seq.next ?_) rfl)
  refine XS.cons (X1.asg (v := .int (2 ^ (6 + i))) (EvT.bin EvT.int (by walk_at "ev") (BinV.pow (a := 2) (b := ((6 + i : Nat) : Int)) (Int.natCast_nonneg _) ?pw)) (by (with_reducible (repeat (first | exact St.here' | exact St.hereC | apply St.there)))) trivial trivial (Seq.next ?_) rfl)
  case pw => have e : Builtin.Int.intBits 2 = 2 := by decide
             rw [e]; (first | lia | omega)
  -- the first division
  refine XS.cons (X1.asgT (a := .int (eVal c y (6 + i) - 1)) (b := .int (c.length - 1)) hh (EvT.cast (EvT.callF g_idm ⟨_, _, _, by rfl⟩ (EvL.cons (EvT.bin (EvT.callF g_lww ⟨_, _, _, by rfl⟩ (EvL.cons (EvT.cast (by walk_at "ev") (congrArg MV.list (cnt_ints c y).symm)) (EvL.cons (by walk_at "ev") EvL.nil rfl) rfl) (wei_spec (cs := cntI c y) (hA.le (by decide) (by decide)) (by simp [cntI]) ?wcs hbe.1 hbe.2)) EvT.int BinV.sub) (EvL.cons (EvT.callB n_len b_len (EvL.cons (by walk_at "ev") EvL.nil rfl) CalV.lenL) EvL.nil rfl) rfl) (idm_pos (a := weighed (cntI c y) (2 ^ (6 + i)) - 1) (hA.le (by decide) (by decide)) ?dpos (wei_bits k hi7 hy) ?dbt)) ?tq) (by (with_reducible (repeat (first | exact St.here' | exact St.hereC | apply St.there)))) (by (with_reducible (repeat (first | exact St.here' | exact St.hereC | apply St.there)))) trivial trivial (Seq.next ?_))
  case wcs => exact wei_cs (cnt_smallI c y hc8)
  case dpos => rw [List.length_map]; (first | lia | omega)
  case dbt => rw [List.length_map]; exact bits_of (by (first | lia | omega)) (by (first | lia | omega))
  case tq => rw [List.length_map, hdv, hmd]
  refine XS.cons (X1.ite (EvC.cmp (by walk_at "ev") (EvT.bin (EvT.callB n_len b_len (EvL.cons (by walk_at "ev") EvL.nil rfl) CalV.lenL) EvT.int BinV.sub) CmpV.neI) (fun hb => ?_) (fun hb => ?_))
  · exfalso; rw [List.length_map] at hb; simp at hb
  refine XS.nil (Seq.next ?_)
  -- evens
  refine XS.cons (X1.asgCompN (xs := natsV (List.range 6)) (l := (evnI c y).map IV.int) (fun _ => true) (fun v => match v with | .int j => .int (evn c y j.toNat) | v => v) [S "mates", S "ones", S "signs"] (EvI.rangeN (n := 6) hh EvT.int (by decide) (by decide)) (by decide) (by rfl) (by rfl) (by rfl) (fun C => .inr ⟨rfl, rfl, _, _, _, rfl⟩) (fun C => by (repeat (first | exact Frees.nil | (apply Frees.cons; walk_at "has"; (first | exact Or.inl rfl | exact Or.inr rfl); (first | exact Or.inl rfl | exact Or.inr rfl); rfl)))) (fun v hv C => EvIfs.nil) (fun v hv _ C => ?ev) ?evl (by (with_reducible (repeat (first | exact St.here' | exact St.hereC | apply St.there)))) (Seq.next ?_) rfl)
  case evl => rw [fltN, evnI, List.map_map]; congr 1
  case ev =>
    obtain ⟨j, hj, rfl⟩ := natsV_mem hv
    have hj := List.mem_range.mp hj
    show EvT _ _ _ (.int (evn c y j))
    have hsum : evn c y j = (((matesN c).filter fun r => pc r == j).map fun r => sg r y).sum := rfl
    rw [hsum]
    refine EvT.callB n_sum b_sum (EvL.cons (EvT.cast (v' := .list ((((matesN c).filter fun r => pc r == j).map fun r => sg r y).map IV.int)) (EvF.compC (xs := natsV (matesN c)) (fun v => match v with | .int r => (pc r.toNat == j) | _ => false) (fun v => match v with | .int r => .int (sg r.toNat y) | v => v) [S "k", S "ones", S "signs"] (EvI.list hh (by walk_at "ev")) (mates8 k) (by rfl) (by rfl) (by rfl) (fun C => .inl rfl) (fun C => by (repeat (first | exact Frees.nil | (apply Frees.cons; walk_at "has"; (first | exact Or.inl rfl | exact Or.inr rfl); (first | exact Or.inl rfl | exact Or.inr rfl); rfl)))) (fun v hv C => ?test) (fun v hv _ C => ?elt)).t ?eqs) EvL.nil rfl) (CalV.sum hh)
    case eqs => rw [fltN, List.map_map]; rfl
    case test =>
      obtain ⟨r, hr, rfl⟩ := natsV_mem hv
      have hr := mates_lt k hr
      show EvIfs _ _ _ (pc r == j)
      have e : ((pc r : Int) == (j : Int)) = (pc r == j) := by rw [Bool.eq_iff_iff]; simp [Int.ofNat_inj]
      rw [← e]
      exact EvIfs.one (EvC.cmp (EvT.sub (b := .int (r : Int)) (by walk_at "ev") (by walk_at "ev") (GetV.list (l := onesI 5) (k := (r : Int)) (v := .int (pc r)) (Int.natCast_nonneg _) (onesI_get hr))) (by walk_at "ev") CmpV.eqI)
    case elt =>
      obtain ⟨r, hr, rfl⟩ := natsV_mem hv
      have hr := mates_lt k hr
      show EvT _ _ _ (.im (.int (sg r y)))
      exact EvT.sub (b := .int (r : Int)) (by walk_at "ev") (by walk_at "ev") (GetV.list (l := signsI y) (k := (r : Int)) (v := .int (sg r y)) (Int.natCast_nonneg _) (signsI_get hr))
  -- lifted
  refine XS.cons (X1.asg (v := .int (dval (6 + i) (evL c y (6 + i)))) (EvT.cast (EvT.bin (EvT.bin (by walk_at "ev") EvT.int BinV.add) (EvT.callF g_d2i ⟨_, _, _, by rfl⟩ (EvL.cons (EvT.cast (v' := .list (natsV (List.replicate 6 (2 ^ (6 + i) / 2)))) (EvF.disp (vs := [(IV.int (((2 : Int) ^ (6 + i)).fdiv 2)), (IV.int (((2 : Int) ^ (6 + i)).fdiv 2)), (IV.int (((2 : Int) ^ (6 + i)).fdiv 2)), (IV.int (((2 : Int) ^ (6 + i)).fdiv 2)), (IV.int (((2 : Int) ^ (6 + i)).fdiv 2)), (IV.int (((2 : Int) ^ (6 + i)).fdiv 2))]) (EvL.cons (EvT.bin (by walk_at "ev") EvT.int (BinV.floordiv (by decide) (by decide))) (EvL.cons (EvT.bin (by walk_at "ev") EvT.int (BinV.floordiv (by decide) (by decide))) (EvL.cons (EvT.bin (by walk_at "ev") EvT.int (BinV.floordiv (by decide) (by decide))) (EvL.cons (EvT.bin (by walk_at "ev") EvT.int (BinV.floordiv (by decide) (by decide))) (EvL.cons (EvT.bin (by walk_at "ev") EvT.int (BinV.floordiv (by decide) (by decide))) (EvL.cons (EvT.bin (by walk_at "ev") EvT.int (BinV.floordiv (by decide) (by decide))) EvL.nil rfl) rfl) rfl) rfl) rfl) rfl) (by simp [cap])).t ?dq) (EvL.cons (by walk_at "ev") EvL.nil rfl) rfl) (d2i_spec (ds := List.replicate 6 (2 ^ (6 + i) / 2)) (n := 6 + i) (hA.le (by decide) (by decide)) (by (first | lia | omega)) (by simp [cap]) (half_lt hi7))) BinV.add) ?lq) (by (with_reducible (repeat (first | exact St.here' | exact St.hereC | apply St.there)))) trivial trivial (Seq.next ?_) rfl)
  case dq => rw [half_nat]; rfl
  case lq => rw [evL_val k hi7 hy]; congr 2; (first | lia | omega)
  -- the digits
  have hnd := evL_nDig k hi7 hy
  refine XS.cons (X1.ite (EvC.cmp (a := .list (((evL c y (6 + i)).map fun (d : Nat) => (d : Int)).map IV.int)) (b := .list (((evL c y (6 + i)).map fun (d : Nat) => (d : Int)).map IV.int)) (EvT.cast (EvT.callF g_i2d ⟨_, _, _, by rfl⟩ (EvL.cons (by walk_at "ev") (EvL.cons (by walk_at "ev") EvL.nil rfl) rfl) (i2d_spec (a := dval (6 + i) (evL c y (6 + i))) (n := 6 + i) (hA.le (by decide) (by decide)) (by (first | lia | omega)) (by (first | lia | omega)) (by rw [hnd]; simp [cap]))) ?iq) (EvT.cast (EvF.compN (xs := (evnI c y).map IV.int) (fun _ => true) (fun v => match v with | .int e => .int (((2 : Int) ^ (6 + i)).fdiv 2 + e) | v => v) [S "base"] (EvI.list hh (by walk_at "ev")) (by simp [evnI, cap]) (by rfl) (by rfl) (by rfl) (fun C => .inl rfl) (fun C => by (repeat (first | exact Frees.nil | (apply Frees.cons; walk_at "has"; (first | exact Or.inl rfl | exact Or.inr rfl); (first | exact Or.inl rfl | exact Or.inr rfl); rfl)))) (fun v hv C => EvIfs.nil) (fun v hv _ C => ?eel)).t ?eq2) (CmpV.neLsame hu)) (fun hb => absurd hb (by decide)) (fun _ => XS.nil (Seq.next ?_)))
  case iq => rw [hnd, evL_digs k hi7 hy, List.map_map]; rfl
  case eel =>
    obtain ⟨e, he, rfl⟩ := List.mem_map.mp hv
    exact EvT.bin (EvT.bin (by walk_at "ev") EvT.int (BinV.floordiv (by decide) (by decide))) (by walk_at "ev") BinV.add
  case eq2 =>
    rw [filterT, List.map_map, List.map_map]
    congr 1
    have := evL_ints k hi7 hy
    rw [show (List.map (IV.int ∘ fun (d : Nat) => (d : Int)) (evL c y (6 + i))) = (evL c y (6 + i)).map (fun (d : Nat) => IV.int d) from rfl, this]
    refine List.map_congr_left fun e _ => ?_
    show IV.int _ = IV.int _
    rw [half_nat]; push_cast; rfl
  -- and back
  refine XS.cons (X1.asg (v := .int (weighed (evnI c y) (2 ^ (6 + i)))) (EvT.callF g_lww ⟨_, _, _, by rfl⟩ (EvL.cons (by walk_at "ev") (EvL.cons (by walk_at "ev") EvL.nil rfl) rfl) (wei_spec (cs := evnI c y) (hA.le (by decide) (by decide)) (by simp [evnI]) (wei_cs (evn_small c y)) hbe.1 hbe.2)) (by (with_reducible (repeat (first | exact St.here' | exact St.hereC | apply St.there)))) trivial trivial (Seq.next ?_) rfl)
  refine XS.cons (X1.asg (v := .int (dval (6 + i) (cntN c y))) (EvT.callF g_d2i ⟨_, _, _, by rfl⟩ (EvL.cons (by walk_at "ev") (EvL.cons (by walk_at "ev") EvL.nil rfl) rfl) (d2i_spec (ds := cntN c y) (n := 6 + i) (hA.le (by decide) (by decide)) (by (first | lia | omega)) (by simp [cntN, cap]) (cnt_lt c y hc8))) (by (with_reducible (repeat (first | exact St.here' | exact St.hereC | apply St.there)))) trivial trivial (Seq.next ?_) rfl)
  have hS2 := spread_ge k hi7 hy
  have hb1 := back_bits k hi7 hy (.inl rfl)
  have hb2 := back_bits k hi7 hy (.inr rfl)
  have hsb := spread_bits k hi7 hy
  have hd3 := div3 k hi7 hy hc2
  have hd4 := div4 k hi7 hy hc2
  generalize weighed (evnI c y) (2 ^ (6 + i)) = W at hb1 hb2 hd3 hd4 ⊢
  generalize dval (6 + i) (cntN c y) = Sp at hS2 hsb hd3 hd4 ⊢
  have hb1' : Builtin.Int.intBits (W + 1) ≤ 499 := by rw [show W + 1 = 1 * W + 1 by (first | lia | omega)]; exact hb1
  have hb2' : Builtin.Int.intBits (-W - 1) ≤ 499 := by rw [show -W - 1 = -1 * W + -1 by (first | lia | omega)]; exact hb2
  refine XS.cons (X1.ite (EvC.boolop (EvA.or_cons
    (EvC.cmp (a := .tup (([((matesN c).length : Int), -1] : List Int).map IV.int)) (b := .tup (([((matesN c).length : Int), -1] : List Int).map IV.int)) (EvT.cast (EvT.callF g_idm ⟨_, _, _, by rfl⟩ (EvL.cons (EvT.bin (EvT.un (by walk_at "ev") UnV.neg) EvT.int BinV.sub) (EvL.cons (EvT.un (by walk_at "ev") UnV.neg) EvL.nil rfl) rfl) (idm_neg (a := -W - 1) (b := -(Sp : Int)) (hA.le (by decide) (by decide)) (by (first | lia | omega)) hb2' hsb)) ?q1)
      (EvT.cast (EvT.tup (vs := [.int (natsV (matesN c)).length, .int (-1)]) (EvL.cons (EvT.callB n_len b_len (EvL.cons (by walk_at "ev") EvL.nil rfl) CalV.lenL) (EvL.cons (EvT.un EvT.int UnV.neg) EvL.nil rfl) rfl) (by simp [cap])) ?q2) (CmpV.neTsame hu))
    (fun _ => EvA.or_cons
      (EvC.cmp (a := .tup (([-((matesN c).length : Int) - 1, 1 - (Sp : Int)] : List Int).map IV.int)) (b := .tup (([-((matesN c).length : Int) - 1, 1 - (Sp : Int)] : List Int).map IV.int)) (EvT.cast (EvT.callF g_idm ⟨_, _, _, by rfl⟩ (EvL.cons (EvT.bin (by walk_at "ev") EvT.int BinV.add) (EvL.cons (EvT.un (by walk_at "ev") UnV.neg) EvL.nil rfl) rfl) (idm_neg (a := W + 1) (b := -(Sp : Int)) (hA.le (by decide) (by decide)) (by (first | lia | omega)) hb1' hsb)) ?q3)
        (EvT.cast (EvT.tup (vs := [.int (-((natsV (matesN c)).length : Int) - 1), .int (1 - (Sp : Int))]) (EvL.cons (EvT.bin (EvT.un (EvT.callB n_len b_len (EvL.cons (by walk_at "ev") EvL.nil rfl) CalV.lenL) UnV.neg) EvT.int BinV.sub) (EvL.cons (EvT.bin EvT.int (by walk_at "ev") BinV.sub) EvL.nil rfl) rfl) (by simp [cap])) ?q4) (CmpV.neTsame hu))
      (fun _ => EvA.or_nil)))) (fun hb => absurd hb (by decide)) (fun _ => XS.nil (Seq.next ?_)))
  case q1 => rw [show -(-W - 1) = W + 1 by (first | lia | omega), Int.neg_neg, hd3.1, hd3.2]; rfl
  case q2 => rw [List.length_map]; rfl
  case q3 => rw [Int.neg_neg, hd4.1, hd4.2, show -((Sp : Int) - 1) = 1 - Sp by (first | lia | omega)]; rfl
  case q4 => rw [List.length_map]; rfl
  exact XS.inc (SigOk.of (by rfl) (by rfl)) (by repeat (first | with_reducible exact Inc.nil | with_reducible apply Inc.none | (with_reducible apply Inc.some; walk_at "has"))) (law4 (a := a) L hap hn k hc8 hy)
-- part Gl2
open PySem PySem.W PyProof.Rows PySem.Calls PySem.SeqAt
set_option maxHeartbeats 4000000
noncomputable def dist (c : List Nat) (y : Nat) : List Int := c.map fun v => (pc (y ^^^ v) : Int)
theorem dist_snoc {c : List Nat} {y i : Nat} (h : i < c.length) : (dist c y).take (i + 1) = (dist c y).take i ++ [((pc (y ^^^ c[i]) : Nat) : Int)] := by
  rw [List.take_add_one, dist, List.getElem?_map, List.getElem?_eq_getElem h]; rfl
theorem natsV_get {c : List Nat} {i : Nat} (h : i < c.length) : (natsV c)[i]? = some (IV.int (c[i] : Nat)) := by
  rw [natsV, List.getElem?_map, List.getElem?_eq_getElem h]; rfl
theorem dist_cnt (c : List Nat) (y k : Nat) : ((dist c y).filter (· == (k : Int))).length = cnt c y k := by
  unfold dist cnt
  rw [List.filter_map, List.length_map]
  congr 2
  funext v
  show ((pc (y ^^^ v) : Int) == (k : Int)) = (pc (y ^^^ v) == k)
  rw [Bool.eq_iff_iff]; simp [Int.ofNat_inj]
theorem law2 {w : World} {mg mb : Str → Option Value} {s : Shared} (L : Addr) (hap : (callEnvC (fdOf 124) L 124).cells.Pairwise fun x y => x.2 ≠ y.2) {a : Addr} {vs : List Value} {ns nums : List Int} {c : List Nat} {y : Nat} (hS : s.heap.IsList a vs.toArray) (hI : IntsAre vs ns) (hn : nums.length = 6) (k : CodeOk c) (hc2 : 2 ≤ c.length) (hc8 : c.length ≤ 8) (hy : y < 32) :
    XS (LC w mg mb s L hap []) (LS2 a (some (.list (nums.map IV.int))) (some (.list (wordsAt 5))) (some (.list (onesI 5))) (some (.list (natsV c))) (some (.list (natsV (matesN c)))) (some (.int y)) (some (.list (signsI y))) none none none none none none) none ((bodyOf 124).drop 8) (RetIs (.bool true)) := by
  have hA := lawOk L
  have hh : (lawA L).handled = none := hA.hd
  obtain ⟨hsrt, hslen, hsf⟩ := sortL_facts _ (dist c y) rfl
  refine XS.cons (X1.asgMu (EvF.disp (vs := []) EvL.nil (by decide)) (by (with_reducible (repeat (first | exact St.here' | exact St.hereC | apply St.there)))) (by (with_reducible (repeat (first | exact Uns.here | apply Uns.there)))) (fun l => Seq.next ?_) rfl)
  refine XS.cons (X1.forRange (α := Unit) (n := (natsV c).length) (EvI.rangeN (n := ((natsV c).length : Int)) hh (EvT.callB n_len b_len (EvL.cons (by walk_at "ev") EvL.nil rfl) CalV.lenL) (by (first | lia | omega)) (by rw [List.length_map]; (first | lia | omega))) (fun i _ => LS2 a (some (.list (nums.map IV.int))) (some (.list (wordsAt 5))) (some (.list (onesI 5))) (some (.list (natsV c))) (some (.list (natsV (matesN c)))) (some (.int y)) (some (.list (signsI y))) none none none none none none) (fun i _ => some (S "apart", l, (sortL ((dist c y).take i)).map IV.int)) (fun _ _ => rfl) (fun _ _ => True) () (by (repeat (first | with_reducible exact Wk.nil | with_reducible apply Wk.keep | with_reducible apply Wk.drop | (apply Wk.keepE (by rfl))))) rfl trivial ?turn ?fin (fun _ => rfl))
  case turn =>
    intro i _ hi _
    have hi : i < c.length := by simpa using hi
    have hv := k.lt c[i] (List.getElem_mem hi)
    have hcg := natsV_get hi
    have hsn := dist_snoc (y := y) hi
    generalize c[i] = v at hv hcg hsn
    have hx := xor_lt hy hv
    obtain ⟨hs1, hs2, _⟩ := sortL_facts _ ((dist c y).take i) rfl
    refine ⟨_, by (with_reducible (repeat (first | exact St.here' | exact St.hereC | apply St.there))), by (first | exact offMu.no | (apply offMu.dif; rfl)), fun pr => ?_⟩
    refine XS.cons (X1.asg (v := .int (pc (y ^^^ v))) (EvT.sub (b := .int ((y ^^^ v : Nat) : Int)) (by walk_at "ev") (EvT.cast (EvT.bin (by walk_at "ev") (EvT.sub (by walk_at "ev") (by walk_at "ev") (GetV.list (l := natsV c) (k := (i : Int)) (v := .int (v : Nat)) (Int.natCast_nonneg _) hcg)) BinV.xor) (congrArg MV.int (xor_n hy hv))) (GetV.list (l := onesI 5) (k := ((y ^^^ v : Nat) : Int)) (v := .int (pc (y ^^^ v))) (Int.natCast_nonneg _) (onesI_get hx))) (by (with_reducible (repeat (first | exact St.here' | exact St.hereC | apply St.there)))) Keepable.imm (by (first | exact offMu.no | (apply offMu.dif; rfl))) (Seq.next ?_) rfl)
    refine XS.cons (X1.callM (us := [.int (pc (y ^^^ v))]) (vs' := (sortL ((dist c y).take (i + 1))).map IV.int) g_il ⟨_, _, _, by rfl⟩ (EvL.cons (EvT.cast (EvT.callF g_lev ⟨_, _, _, by rfl⟩ (EvL.cons (EvT.sub (by walk_at "ev") (by walk_at "ev") (GetV.list (l := wordsAt 5) (k := (y : Int)) (v := .str (wd y.testBit 0 5)) (Int.natCast_nonneg _) (wordsAt_get hy))) (EvL.cons (EvT.sub (b := .int (v : Int)) (by walk_at "ev") (EvT.sub (by walk_at "ev") (by walk_at "ev") (GetV.list (l := natsV c) (k := (i : Int)) (v := .int (v : Nat)) (Int.natCast_nonneg _) hcg)) (GetV.list (l := wordsAt 5) (k := (v : Int)) (v := .str (wd v.testBit 0 5)) (Int.natCast_nonneg _) (wordsAt_get hv))) (EvL.cons (by walk_at "ev") EvL.nil rfl) rfl) rfl) (lev_spec (hA.le (by decide) (by decide)))) ?lq) EvL.nil rfl) ?cm (Seq.next ?_))
    case lq =>
      refine congrArg MV.int (lev_full hy hv ?_)
      have h1 := Int.fmod_nonneg_of_pos (i : Int) (b := 2) (by decide)
      have h2 := Int.fmod_lt_of_pos (i : Int) (b := 2) (by decide)
      (first | lia | omega)
    case cm =>
      rw [hsn, sortL_snoc, ← ins_eq]
      exact il_spec (hA.le (by decide) (by decide)) (cut_of hs1) (by rw [hs2, List.length_take]; simp only [cap]; (first | lia | omega))
    exact XS.nil (Turn.nx ⟨(), by (repeat (first | with_reducible exact Wk.nil | with_reducible apply Wk.keep | with_reducible apply Wk.drop | (apply Wk.keepE (by rfl)))), rfl, trivial⟩)
  case fin =>
    intro _ _
    have htk : (dist c y).take (natsV c).length = dist c y := List.take_of_length_le (by simp [dist])
    rw [htk]
    refine XS.nil (Seq.next (XS.unmu (σ' := LS2 a (some (.list (nums.map IV.int))) (some (.list (wordsAt 5))) (some (.list (onesI 5))) (some (.list (natsV c))) (some (.list (natsV (matesN c)))) (some (.int y)) (some (.list (signsI y))) (some (.list ((sortL (dist c y)).map IV.int))) none none none none none) (by (with_reducible (repeat (first | exact St.here' | exact St.hereC | apply St.there)))) ?_))
    have hl : c.length - 1 < c.length := by (first | lia | omega)
    have hv := k.lt c[c.length - 1] (List.getElem_mem hl)
    have hcg := natsV_get hl
    generalize c[c.length - 1] = v at hv hcg
    have hx := xor_lt hy hv
    have hneg : (natsV c)[((-1 : Int) + (natsV c).length).toNat]? = some (IV.int (v : Nat)) := by
      rw [show ((-1 : Int) + (natsV c).length).toNat = c.length - 1 by rw [List.length_map]; (first | lia | omega)]; exact hcg
    have hlen1 : -((natsV c).length : Int) ≤ -1 := by rw [List.length_map]; (first | lia | omega)
    refine XS.cons (X1.asg (v := .int (pc (y ^^^ v))) (EvT.sub (b := .int ((y ^^^ v : Nat) : Int)) (by walk_at "ev") (EvT.cast (EvT.bin (by walk_at "ev") (EvT.sub (by walk_at "ev") (EvT.un EvT.int UnV.neg) (GetV.listNeg (l := natsV c) (k := -1) (v := .int (v : Nat)) (by decide) hlen1 hneg)) BinV.xor) (congrArg MV.int (xor_n hy hv))) (GetV.list (l := onesI 5) (k := ((y ^^^ v : Nat) : Int)) (v := .int (pc (y ^^^ v))) (Int.natCast_nonneg _) (onesI_get hx))) (by (with_reducible (repeat (first | exact St.here' | exact St.hereC | apply St.there)))) trivial trivial (Seq.next ?_) rfl)
    refine XS.cons (X1.ite (EvC.cmp (EvT.cast (EvT.callF g_lev ⟨_, _, _, by rfl⟩ (EvL.cons (EvT.sub (b := .int (v : Int)) (by walk_at "ev") (EvT.sub (by walk_at "ev") (EvT.un EvT.int UnV.neg) (GetV.listNeg (l := natsV c) (k := -1) (v := .int (v : Nat)) (by decide) hlen1 hneg)) (GetV.list (l := wordsAt 5) (k := (v : Int)) (v := .str (wd v.testBit 0 5)) (Int.natCast_nonneg _) (wordsAt_get hv))) (EvL.cons (EvT.sub (by walk_at "ev") (by walk_at "ev") (GetV.list (l := wordsAt 5) (k := (y : Int)) (v := .str (wd y.testBit 0 5)) (Int.natCast_nonneg _) (wordsAt_get hy))) (EvL.cons (by walk_at "ev") EvL.nil rfl) rfl) rfl) (lev_spec (hA.le (by decide) (by decide)))) (congrArg MV.int (lev_short hy hv))) (EvT.callB n_max b_max (EvL.cons (by walk_at "ev") (EvL.cons EvT.int EvL.nil rfl) rfl) (CalV.max2 hh)) CmpV.neI) (fun hb => ?_) (fun _ => XS.nil (Seq.next ?_)))
    · exfalso; simp at hb
    refine XS.cons (X1.asg (v := .list ((List.range 6).map fun (j : Nat) => IV.int (cp (j : Int) (sortL (dist c y))))) (EvT.cast (EvF.compN (xs := natsV (List.range 6)) (fun _ => true) (fun v => match v with | .int j => .int (cp j (sortL (dist c y))) | v => v) [S "apart"] (EvI.rangeN (n := 6) hh EvT.int (by decide) (by decide)) (by decide) (by rfl) (by rfl) (by rfl) (fun C => .inl rfl) (fun C => by (repeat (first | exact Frees.nil | (apply Frees.cons; walk_at "has"; (first | exact Or.inl rfl | exact Or.inr rfl); (first | exact Or.inl rfl | exact Or.inr rfl); rfl)))) (fun v hv C => EvIfs.nil) (fun v hv _ C => ?el1)).t ?eq1) (by (with_reducible (repeat (first | exact St.here' | exact St.hereC | apply St.there)))) trivial trivial (Seq.next ?_) rfl)
    case eq1 => rw [fltN]; congr 2
    case el1 =>
      obtain ⟨j, hj, rfl⟩ := natsV_mem hv
      show EvT _ _ _ (.int (cp (j : Int) (sortL (dist c y))))
      exact EvT.callF g_bl ⟨_, _, _, by rfl⟩ (EvL.cons (by walk_at "ev") (EvL.cons (by walk_at "ev") EvL.nil rfl) rfl) (bl_spec (hA.le (by decide) (by decide)) (cut_of hsrt)).2
    refine XS.cons (X1.asgCompN (xs := natsV (List.range 6)) (l := natsV (cntN c y)) (fun _ => true) (fun v => match v with | .int j => .int (cnt c y j.toNat) | v => v) [S "apart", S "firsts"] (EvI.rangeN (n := 6) hh EvT.int (by decide) (by decide)) (by decide) (by rfl) (by rfl) (by rfl) (fun C => .inl rfl) (fun C => by (repeat (first | exact Frees.nil | (apply Frees.cons; walk_at "has"; (first | exact Or.inl rfl | exact Or.inr rfl); (first | exact Or.inl rfl | exact Or.inr rfl); rfl)))) (fun v hv C => EvIfs.nil) (fun v hv _ C => ?el2) ?eq2 (by (with_reducible (repeat (first | exact St.here' | exact St.hereC | apply St.there)))) (Seq.next ?_) rfl)
    case eq2 => rw [fltN, cntN, natsV, List.map_map]; congr 1
    case el2 =>
      obtain ⟨j, hj, rfl⟩ := natsV_mem hv
      have hj := List.mem_range.mp hj
      show EvT _ _ _ (.int (cnt c y j))
      have hcc := cp_cpR (x := (j : Int)) hsrt
      rw [hsf, dist_cnt] at hcc
      have hfg : ((List.range 6).map fun (j : Nat) => IV.int (cp (j : Int) (sortL (dist c y))))[j]? = some (IV.int (cp (j : Int) (sortL (dist c y)))) := by
        rw [List.getElem?_map, List.getElem?_range hj]; rfl
      have hle : cp (j : Int) (sortL (dist c y)) ≤ cpR (j : Int) (sortL (dist c y)) := by (first | lia | omega)
      have hcut := cutR_of (x := (j : Int)) hsrt
      have hval : ((cpR (j : Int) (sortL (dist c y)) : Nat) : Int) - (cp (j : Int) (sortL (dist c y)) : Nat) = (cnt c y j : Nat) := by (first | lia | omega)
      rw [← hval]
      exact EvT.bin (EvT.callF g_br ⟨_, _, _, by rfl⟩ (EvL.cons (by walk_at "ev") (EvL.cons (by walk_at "ev") (EvL.cons (EvT.sub (b := .int (j : Int)) (by walk_at "ev") (by walk_at "ev") (GetV.list (k := (j : Int)) (Int.natCast_nonneg _) hfg)) EvL.nil rfl) rfl) rfl) (br_spec (hA.le (by decide) (by decide)) hcut (by (first | lia | omega)) (by (first | lia | omega)))) (EvT.sub (b := .int (j : Int)) (by walk_at "ev") (by walk_at "ev") (GetV.list (k := (j : Int)) (Int.natCast_nonneg _) hfg)) BinV.sub
    exact XS.inc (SigOk.of (by rfl) (by rfl)) (by repeat (first | with_reducible exact Inc.nil | with_reducible apply Inc.none | (with_reducible apply Inc.some; walk_at "has"))) (law3 L hap hS hI hn k hc2 hc8 hy)
-- part Gl1
open PySem PySem.W PyProof.Rows PySem.Calls PySem.SeqAt
set_option maxHeartbeats 4000000
theorem irels_ints : ∀ {vs : List Value} {ns : List Int}, IntsAre vs ns → IRels (ns.map IV.int) vs
  | _, _, .nil => trivial
  | _, _, .cons n t r => ⟨IRel.ofInt n t, irels_ints r⟩
theorem ints_len : ∀ {vs : List Value} {ns : List Int}, IntsAre vs ns → vs.length = ns.length
  | _, _, .nil => rfl
  | _, _, .cons _ _ r => by simp [ints_len r]
noncomputable def numsOf (ns : List Int) : List Int := ns.take 6 ++ [6, 27, 26, 1, 1, 0].drop ns.length
theorem numsOf_len (ns : List Int) : (numsOf ns).length = 6 := by
  unfold numsOf; rw [List.length_append, List.length_take, List.length_drop]; simp; (first | lia | omega)
theorem pcI (z : Nat) : ((pc z : Int).fmod 2) = ((pc z % 2 : Nat) : Int) := by
  rw [Int.fmod_eq_emod_of_nonneg _ (by decide)]; (first | lia | omega)
theorem mates_test (c : List Nat) (r : Nat) : (natsV (c.filter fun v => ((pc (v &&& r) : Int).fmod 2 != 0))).isEmpty = c.all fun v => par r v == 0 := by
  rw [natsV, List.isEmpty_map]
  have e : ∀ v, ((pc (v &&& r) : Int).fmod 2 != 0) = !(par r v == 0) := fun v => by
    rw [pcI, Nat.and_comm]
    show (((par r v : Nat) : Int) != 0) = _
    rcases par_le r v with h | h <;> rw [h] <;> rfl
  induction c with
  | nil => rfl
  | cons v c ih =>
    rw [List.filter_cons, e, List.all_cons]
    cases par r v == 0 with
    | true => simpa using ih
    | false => rfl
theorem sg_of (r y : Nat) : 1 - 2 * (pc (r &&& y) : Int).fmod 2 = sg r y := by rw [pcI]; rfl
theorem law1 {w : World} {mg mb : Str → Option Value} {s : Shared} (L : Addr) (hap : (callEnvC (fdOf 124) L 124).cells.Pairwise fun x y => x.2 ≠ y.2) {a : Addr} {vs : List Value} {ns : List Int} (hS : s.heap.IsList a vs.toArray) (hI : IntsAre vs ns) (hns : ns.length ≤ 63) :
    XS (LC w mg mb s L hap []) (lawS a) none (bodyOf 124) (RetIs (.bool true)) := by
  have hA := lawOk L
  have hh : (lawA L).handled = none := hA.hd
  have hu : (lawA L).units < cLine := by have := hA.un; (first | lia | omega)
  have hSP : ∀ σ s', (LC w mg mb s L hap []).FS σ none s' → s'.heap.IsList a vs.toArray := fun σ s' F => F.go.list F.b0 hS
  have hvl := ints_len hI
  refine XS.inc (τ := LS1 a none none none none none none none none) (SigOk.of (by rfl) (by rfl)) (.some .here (by repeat (first | with_reducible exact Inc.nil | with_reducible apply Inc.none))) ?_
  have hvc : vs.length ≤ cap := by simp only [cap]; (first | lia | omega)
  have hn := numsOf_len ns
  refine XS.cons (X1.asg (v := .list ((numsOf ns).map IV.int)) (EvT.cast (EvT.bin
    (EvT.givenSlice (ys := (ns.take 6).map IV.int) (l := none) (u := some 6) (by walk_at "ev") (fun s' F => hSP _ s' F) hvc EvP.none (EvP.some EvT.int PartV.int) ?s1)
    (EvT.listSlice (xs := ([6, 27, 26, 1, 1, 0] : List Int).map IV.int) (ys := (([6, 27, 26, 1, 1, 0] : List Int).drop ns.length).map IV.int) (l := some (ns.length : Int)) (u := none) (EvF.disp (vs := ([6, 27, 26, 1, 1, 0] : List Int).map IV.int) (by (repeat (first | exact EvL.nil | (apply EvL.cons; walk_at "ev"; case hst => rfl)))) (by decide)).t (EvP.some (EvT.callBS n_len b_len (EvL.cons (by walk_at "ev") EvL.nil rfl) (givenLen (vs := vs) (n := ns.length) (fun s' F => hSP _ s' F) hvc hvl)) PartV.int) EvP.none ?s2) (BinV.catL ?cat)) ?nq) (by (with_reducible (repeat (first | exact St.here' | exact St.hereC | apply St.there)))) trivial trivial (Seq.next ?_) rfl)
  case s1 =>
    rw [show (some (6 : Int)) = some ((6 : Nat) : Int) from rfl, slicePick_upto', List.map_take]
    exact (irels_ints hI).take 6
  case s2 =>
    intro vs hr
    rw [slicePick_from', List.map_drop]
    exact hr.drop _
  case cat => simp [cap]; (first | lia | omega)
  case nq => rw [← List.map_append]; rfl
  generalize numsOf ns = nums at hn
  have h3 : (nums.take 3).length = 3 := by rw [List.length_take]; (first | lia | omega)
  obtain ⟨hc2, hc8⟩ := codeN_len h3
  have k := codeN_ok (nums.take 3)
  have hcode : (lawCode (nums.take 3)).map IV.int = natsV (codeN (nums.take 3)) := by rw [lawCode_eq, List.map_map]; rfl
  obtain ⟨y, hy, hyv⟩ : ∃ y : Nat, y < 32 ∧ (nums.getD 3 0).fmod 32 = (y : Int) := ⟨((nums.getD 3 0).fmod 32).toNat, by have h1 := Int.fmod_nonneg_of_pos (nums.getD 3 0) (b := 32) (by decide); have h2 := Int.fmod_lt_of_pos (nums.getD 3 0) (b := 32) (by decide); (first | lia | omega), by have h1 := Int.fmod_nonneg_of_pos (nums.getD 3 0) (b := 32) (by decide); (first | lia | omega)⟩
  refine XS.cons (X1.asg (v := .list (wordsAt 5)) (EvT.callF0 g_lw ⟨_, _, _, by rfl⟩ (words_spec (hA.le (by decide) (by decide)))) (by (with_reducible (repeat (first | exact St.here' | exact St.hereC | apply St.there)))) trivial trivial (Seq.next ?_) rfl)
  refine XS.cons (X1.asg (v := .list (onesI 0)) (EvT.cast (EvF.disp (vs := [.int 0]) (by (repeat (first | exact EvL.nil | (apply EvL.cons; walk_at "ev"; case hst => rfl)))) (by decide)).t rfl) (by (with_reducible (repeat (first | exact St.here' | exact St.hereC | apply St.there)))) trivial trivial (Seq.next ?_) rfl)
  refine XS.cons (X1.forRange (α := Unit) (n := 5) (EvI.rangeN (n := 5) hh EvT.int (by decide) (by decide)) (fun i _ => LS1 a (some (.list (nums.map IV.int))) (some (.list (wordsAt 5))) (some (.list (onesI i))) none none none none none) (fun _ _ => none) (fun _ _ => rfl) (fun _ _ => True) () (by (repeat (first | with_reducible exact Wk.nil | with_reducible apply Wk.keep | with_reducible apply Wk.drop | (apply Wk.keepE (by rfl))))) rfl trivial ?turn ?fin (fun _ => rfl))
  case turn =>
    intro i _ hi _
    refine ⟨_, by (with_reducible (repeat (first | exact St.here' | exact St.hereC | apply St.there))), trivial, fun pr => ?_⟩
    have ho : (onesI i).length ≤ 16 := by
      simp only [onesI, List.length_map, List.length_range]
      have : 2 ^ i ≤ 2 ^ 4 := Nat.pow_le_pow_right (by (first | lia | omega)) (by (first | lia | omega))
      (first | lia | omega)
    refine XS.cons (X1.asg (v := .list (onesI (i + 1))) (EvT.cast (EvT.bin (by walk_at "ev") (EvF.compN (xs := onesI i) (fun _ => true) (fun v => match v with | .int i => .int (i + 1) | v => v) [] (EvI.list hh (by walk_at "ev")) (by simp only [cap]; (first | lia | omega)) (by rfl) (by rfl) (by rfl) (fun C => .inl rfl) (fun C => by (repeat (first | exact Frees.nil | (apply Frees.cons; walk_at "has"; (first | exact Or.inl rfl | exact Or.inr rfl); (first | exact Or.inl rfl | exact Or.inr rfl); rfl)))) (fun v hv C => EvIfs.nil) (fun v hv _ C => ?elt)).t (BinV.catL ?cat)) ?eq) (by (with_reducible (repeat (first | exact St.here' | exact St.hereC | apply St.there)))) trivial trivial (Seq.next (XS.nil (Turn.nx ⟨(), ?wk, rfl, trivial⟩))) rfl)
    case elt =>
      obtain ⟨r, hr, rfl⟩ := List.mem_map.mp hv
      walk_at "ev"
    case cat => rw [filterT]; simp [cap]; (first | lia | omega)
    case eq => rw [filterT, onesI_succ i hi]; try rfl
    case wk => (repeat (first | with_reducible exact Wk.nil | with_reducible apply Wk.keep | with_reducible apply Wk.drop | (apply Wk.keepE (by rfl))))
  case fin =>
    intro _ _
    refine XS.nil (Seq.next ?_)
    refine XS.cons (X1.asg (v := .list (natsV (codeN (nums.take 3)))) (EvT.cast (EvT.callF g_lc ⟨_, _, _, by rfl⟩ (EvL.cons (EvT.listSlice (ys := (nums.take 3).map IV.int) (l := none) (u := some 3) (by walk_at "ev") EvP.none (EvP.some EvT.int PartV.int) ?s3) EvL.nil rfl) (code_spec (ns := nums.take 3) (hA.le (by decide) (by decide)) (by (first | lia | omega)))) (congrArg MV.list hcode)) (by (with_reducible (repeat (first | exact St.here' | exact St.hereC | apply St.there)))) trivial trivial (Seq.next ?_) rfl)
    case s3 =>
      intro vs hr
      rw [show (some (3 : Int)) = some ((3 : Nat) : Int) from rfl, slicePick_upto', List.map_take]
      exact hr.take 3
    generalize codeN (nums.take 3) = c at hc2 hc8 k
    refine XS.cons (X1.asg (v := .list (natsV (matesN c))) (EvT.cast (EvF.compN (xs := natsV (List.range 32)) (fun v => match v with | .int r => (c.all fun v => par r.toNat v == 0) | _ => false) (fun v => v) [S "code", S "ones"] (EvI.rangeN (n := 32) hh EvT.int (by decide) (by decide)) (by decide) (by rfl) (by rfl) (by rfl) (fun C => .inr ⟨rfl, rfl, _, _, _, rfl⟩) (fun C => by (repeat (first | exact Frees.nil | (apply Frees.cons; walk_at "has"; (first | exact Or.inl rfl | exact Or.inr rfl); (first | exact Or.inl rfl | exact Or.inr rfl); rfl)))) (fun v hv C => ?test) (fun v hv _ C => by walk_at "ev")).t ?eqm) (by (with_reducible (repeat (first | exact St.here' | exact St.hereC | apply St.there)))) trivial trivial (Seq.next ?_) rfl)
    case eqm => rw [fltN]; rfl
    case test =>
      obtain ⟨r, hr, rfl⟩ := natsV_mem hv
      have hr := List.mem_range.mp hr
      show EvIfs _ _ _ (c.all fun v => par r v == 0)
      rw [← mates_test]
      refine EvIfs.one (EvC.cmp (EvT.cast (v' := .list (natsV (c.filter fun v => ((pc (v &&& r) : Int).fmod 2 != 0)))) (EvF.compC (xs := natsV c) (fun v => match v with | .int v => ((pc (v.toNat &&& r) : Int).fmod 2 != 0) | _ => false) (fun v => v) [S "ones", S "row"] (EvI.list hh (by walk_at "ev")) (by simp [cap]; (first | lia | omega)) (by rfl) (by rfl) (by rfl) (fun C => .inl rfl) (fun C => by (repeat (first | exact Frees.nil | (apply Frees.cons; walk_at "has"; (first | exact Or.inl rfl | exact Or.inr rfl); (first | exact Or.inl rfl | exact Or.inr rfl); rfl)))) (fun v hv C => ?test2) (fun v hv _ C => by walk_at "ev")).t ?eqi) (EvF.disp (vs := []) EvL.nil (by decide)).t (CmpV.eqLnil hu))
      case eqi => rw [fltN]; rfl
      case test2 =>
        obtain ⟨v, hvm, rfl⟩ := natsV_mem hv
        have hv := k.lt v hvm
        show EvIfs _ _ _ ((pc (v &&& r) : Int).fmod 2 != 0)
        exact EvIfs.one (EvC.plain (EvT.bin (EvT.sub (b := .int ((v &&& r : Nat) : Int)) (by walk_at "ev") (EvT.cast (EvT.bin (by walk_at "ev") (by walk_at "ev") BinV.and) (congrArg MV.int (and_n hv hr))) (GetV.list (l := onesI 5) (k := ((v &&& r : Nat) : Int)) (v := .int (pc (v &&& r))) (Int.natCast_nonneg _) (onesI_get (and_lt hv)))) EvT.int (BinV.mod (by decide))) TruV.int rfl)
    refine XS.cons (X1.asg (v := .int (y : Nat)) (EvT.cast (EvT.bin (EvT.sub (by walk_at "ev") EvT.int (GetV.list (k := 3) (v := .int (nums.getD 3 0)) (by decide) (nums_get (by (first | lia | omega))))) EvT.int (BinV.mod (by decide))) (congrArg MV.int hyv)) (by (with_reducible (repeat (first | exact St.here' | exact St.hereC | apply St.there)))) trivial trivial (Seq.next ?_) rfl)
    refine XS.cons (X1.asg (v := .list (signsI y)) (EvT.cast (EvF.compN (xs := natsV (List.range 32)) (fun _ => true) (fun v => match v with | .int r => .int (sg r.toNat y) | v => v) [S "asking", S "ones"] (EvI.rangeN (n := 32) hh EvT.int (by decide) (by decide)) (by decide) (by rfl) (by rfl) (by rfl) (fun C => .inl rfl) (fun C => by (repeat (first | exact Frees.nil | (apply Frees.cons; walk_at "has"; (first | exact Or.inl rfl | exact Or.inr rfl); (first | exact Or.inl rfl | exact Or.inr rfl); rfl)))) (fun v hv C => EvIfs.nil) (fun v hv _ C => ?els)).t ?eqg) (by (with_reducible (repeat (first | exact St.here' | exact St.hereC | apply St.there)))) trivial trivial (Seq.next ?_) rfl)
    case eqg => rw [fltN]; congr 2
    case els =>
      obtain ⟨r, hr, rfl⟩ := natsV_mem hv
      have hr := List.mem_range.mp hr
      show EvT _ _ _ (.im (.int (sg r y)))
      rw [← sg_of]
      have hpz := pcI (r &&& y)
      exact EvT.bin EvT.int (EvT.bin EvT.int (EvT.bin (EvT.sub (b := .int ((r &&& y : Nat) : Int)) (by walk_at "ev") (EvT.cast (EvT.bin (by walk_at "ev") (by walk_at "ev") BinV.and) (congrArg MV.int (and_n hr hy))) (GetV.list (l := onesI 5) (k := ((r &&& y : Nat) : Int)) (v := .int (pc (r &&& y))) (Int.natCast_nonneg _) (onesI_get (and_lt hr)))) EvT.int (BinV.mod (by decide))) (BinV.mul (IntMulOk.of_le (m := 64) (n := 64) (bits64 (by decide) (by decide)) (bits64 (by (first | lia | omega)) (by (first | lia | omega))) (by (first | lia | omega))))) BinV.sub
    exact XS.inc (SigOk.of (by rfl) (by rfl)) (by repeat (first | with_reducible exact Inc.nil | with_reducible apply Inc.none | (with_reducible apply Inc.some; walk_at "has"))) (law2 L hap hS hI hn k hc2 hc8 hy)
-- part E1
set_option maxHeartbeats 8000000
theorem base_of {w : World} {mg mb : Str → Option Value} {h : Heap} {pv : Program} {lo : List Str} {me : ExcName → Option Value} (K : (kHp w.params).In h) (T : Top pv lo me mg mb h) (hT : TabsAt [(41, 37), (34, 30)] h) : Base w mg mb h where
  K := K
  g := T.g
  b := T.b
  lim := T.nolimit
  bi := T.builtins
  t30 := ⟨(hT (34, 30) (by simp)).1, #[], (hT (34, 30) (by simp)).2, trivial, fun cv e => by simp [codeAmong] at e⟩
  t37 := ⟨(hT (41, 37) (by simp)).1, #[], (hT (41, 37) (by simp)).2, trivial, fun cv e => by simp [codeAmong] at e⟩
  bm := T.bmain
theorem ghost_of {h : Heap} {tabs : List (Addr × Addr)} {b : Addr} {o : Obj} (e : (ghostOf h tabs).get? b = some o) : h.get? b = some o ∧ b ∉ tabs.map (·.2) := ⟨of_hideAll _ e, fun q => by rw [hideAll_none _ q] at e; cases e⟩
end Mine
theorem PySem.Challenge.cw_tx0030_01_holds : PySem.Challenge.rw_tx0030_01.Holds := by
  rw [Mine.rr_eq]
  w_on
  o_law
  o_head (kmHook Mine.kHp [3, 20, 21, 27, 28, 34, 35, 41, 42, 48, 49, 55, 56, 57, 58, 64, 65, 66, 67, 73, 74, 75, 76, 82, 83, 89, 90, 96, 97, 103, 104, 108, 109, 113, 114, 118, 119, 123, 124] (fun _ => by kernel_rfl) [37, 30])
  case hw => w_witness2
  k_fill
  intro w s₀ s₁ mg mb G Y fa o pm cd doc dV kV ho hd hcd hD hmg hg args vals as hpre hlay hrd hwl hlo
  have KX := km_in_of Y
  km_tabs Y
  refine Ground.open G ?_
  intro T B D TE TW
  try (refine guard_noD D (by decide +kernel) ?_; clear D)
  have hmg2 := hmg
  have hT9 : TabsAt [(41, 37), (34, 30)] s₁.heap := List.forall_mem_cons.mpr ⟨⟨codeHd_of_K (c := 41) (P := 37) KX (by kernel_rfl), hT8 37 (by simp)⟩, List.forall_mem_cons.mpr ⟨⟨codeHd_of_K (c := 34) (P := 30) KX (by kernel_rfl), hT8 30 (by simp)⟩, fun _ h => nomatch h⟩⟩
  have BB := Mine.base_of KX T hT9
  have hfa := Mine.g_law BB
  wrow_args hpre hlay hrd hwl hlo
  refine enter_call ?_
  kn_posts
  clear hd hD hcd hmg
  rename_i ns hs hlay0 hL1 hr1 hl2 w4 w3 a vs w0 hL ra w1 r0 hI hr hc hc2
  have e : fa = 124 := by
    have : mg (Str.ofString "law") = some (.ref fa) := hmg2
    rw [hfa] at this; cases this; rfl
  clear hmg2
  subst e
  refine Mine.law_run BB (fun L hap => Mine.law1 L hap hL hI (by (first | lia | omega))) fun s' g => ?_
  refine ⟨⟨.inl ⟨.bool true, .bool true, [], rfl, fun _ => rfl, ReadsW.bool _, postW_of (by wrow_shape) (by wtm_val) (by w_fin), fun _ => ⟨by simp, by simp⟩⟩, fun b o e => ?_, g.os, g.gens.trans hg⟩, ?_⟩
  · obtain ⟨e1, e2⟩ := Mine.ghost_of e
    refine g.ext b o ?_ e1
    simpa [Mine.tabs, or_comm] using e2
  · obtain ⟨p1, q1⟩ := g.base.tab_obj (.inl rfl)
    obtain ⟨p2, q2⟩ := g.base.tab_obj (.inr rfl)
    exact ⟨⟨_, q2⟩, ⟨_, q1⟩, trivial⟩
