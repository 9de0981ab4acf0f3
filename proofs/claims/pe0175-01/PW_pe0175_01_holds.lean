import PyProof.Rows.All
import Wide.All
import OpenK.AllK
import Wide.FinOn
import Lean
import PySem.Challenge.RW_pe0175_01
open PySem PySem.W PyProof.Rows
set_option Elab.async false
set_option autoImplicit false
set_option linter.all false
noncomputable section
namespace Mine
/-- the parts of a def -/
noncomputable def parts : Option Stmt → Arguments × List Stmt × Scope
  | some (.FunctionDef _ a b _ _ _ sc _ _ _) => (a, b, sc)
  | _ => (⟨[], [], none, [], [], none, []⟩, [], ⟨.module, [], false, false, []⟩)
/-- the def at a place of the text's top, of the class at place 5 -/
noncomputable def fp (i : Nat) : Arguments × List Stmt × Scope := parts (PySem.Challenge.pw_pe0175_01.main.body[i]?)
noncomputable def within : Option Stmt → List Stmt
  | some (.ClassDef _ _ _ b _ _ _ _ _ _ _) => b
  | _ => []
noncomputable def mp (j : Nat) : Arguments × List Stmt × Scope := parts ((within (PySem.Challenge.pw_pe0175_01.main.body[5]?))[j]?)
/-- things that lie in the heap behind the top's run -/
noncomputable def hd.heap_39 : Params → Frag := fun P =>
  (nat_lit 2, { cls := Value.none, data := Data.dict #[] }) ::
  (nat_lit 3, { cls := Value.type "dict", data := Data.dict #[{ hash := PyData.keyHash P (Str.ofString "__name__"), key := Value.str (Str.ofString "__name__") 165, val := Value.str (Str.ofString "law_pe0175_01") 309 }, { hash := PyData.keyHash P (Str.ofString "__doc__"), key := Value.str (Str.ofString "__doc__") 166, val := Value.none }, { hash := PyData.keyHash P (Str.ofString "__package__"), key := Value.str (Str.ofString "__package__") 167, val := Value.none }, { hash := PyData.keyHash P (Str.ofString "__loader__"), key := Value.str (Str.ofString "__loader__") 168, val := Value.builtin "__main__.__loader__#opaque" }, { hash := PyData.keyHash P (Str.ofString "__spec__"), key := Value.str (Str.ofString "__spec__") 169, val := Value.none }, { hash := PyData.keyHash P (Str.ofString "__annotations__"), key := Value.str (Str.ofString "__annotations__") 170, val := Value.ref 6 }, { hash := PyData.keyHash P (Str.ofString "__builtins__"), key := Value.str (Str.ofString "__builtins__") 171, val := Value.ref 4 }, { hash := PyData.keyHash P (Str.ofString "__file__"), key := Value.str (Str.ofString "__file__") 173, val := Value.str (Str.ofString "/claim/cut.py") 172 }, { hash := PyData.keyHash P (Str.ofString "__cached__"), key := Value.str (Str.ofString "__cached__") 174, val := Value.none }, { hash := PyData.keyHash P (Str.ofString "ELLIPSIS_MARKER"), key := Value.str (Str.ofString "ELLIPSIS_MARKER") 190, val := Value.str (Str.ofString "...") 189 }, { hash := PyData.keyHash P (Str.ofString "_ellipsis_match"), key := Value.str (Str.ofString "_ellipsis_match") 202, val := Value.ref 21 }, { hash := PyData.keyHash P (Str.ofString "_strip_exception_details"), key := Value.str (Str.ofString "_strip_exception_details") 212, val := Value.ref 28 }, { hash := PyData.keyHash P (Str.ofString "_netrclex"), key := Value.str (Str.ofString "_netrclex") 272, val := Value.ref 66 }, { hash := PyData.keyHash P (Str.ofString "_MAX_STRING_SIZE"), key := Value.str (Str.ofString "_MAX_STRING_SIZE") 276, val := Value.int 40 275 }, { hash := PyData.keyHash P (Str.ofString "_MOVE_COST"), key := Value.str (Str.ofString "_MOVE_COST") 278, val := Value.int 2 277 }, { hash := PyData.keyHash P (Str.ofString "_CASE_COST"), key := Value.str (Str.ofString "_CASE_COST") 280, val := Value.int 1 279 }, { hash := PyData.keyHash P (Str.ofString "_substitution_cost"), key := Value.str (Str.ofString "_substitution_cost") 288, val := Value.ref 77 }, { hash := PyData.keyHash P (Str.ofString "_levenshtein_distance"), key := Value.str (Str.ofString "_levenshtein_distance") 308, val := Value.ref 84 }, { hash := PyData.keyHash P (Str.ofString "_law_lexer"), key := Value.str (Str.ofString "_law_lexer") 320, val := Value.ref 91 }, { hash := PyData.keyHash P (Str.ofString "_law_spelled"), key := Value.str (Str.ofString "_law_spelled") 326, val := Value.ref 96 }, { hash := PyData.keyHash P (Str.ofString "_law_price"), key := Value.str (Str.ofString "_law_price") 332, val := Value.ref 101 }, { hash := PyData.keyHash P (Str.ofString "_law_draw"), key := Value.str (Str.ofString "_law_draw") 338, val := Value.ref 106 }, { hash := PyData.keyHash P (Str.ofString "_law_run"), key := Value.str (Str.ofString "_law_run") 351, val := Value.ref 113 }, { hash := PyData.keyHash P (Str.ofString "_law_needs"), key := Value.str (Str.ofString "_law_needs") 357, val := Value.ref 118 }, { hash := PyData.keyHash P (Str.ofString "_law_rows"), key := Value.str (Str.ofString "_law_rows") 363, val := Value.ref 123 }, { hash := PyData.keyHash P (Str.ofString "_law_judged"), key := Value.str (Str.ofString "_law_judged") 369, val := Value.ref 128 }, { hash := PyData.keyHash P (Str.ofString "law"), key := Value.str (Str.ofString "law") 375, val := Value.ref 133 }] 27 }) ::
  (nat_lit 6, { cls := Value.type "dict", data := Data.dict #[] }) ::
  (nat_lit 20, { cls := Value.type "code", data := Data.fields #[Value.str (Str.ofString "_ellipsis_match") 191, Value.str (Str.ofString "_ellipsis_match") 192, Value.str (Str.ofString "/claim/cut.py") 193, Value.int 3 0, Value.int 2 0, Value.int 0 0, Value.int 0 0, Value.int 3 0, Value.ref 15, Value.bool true, Value.int 181 0, Value.ref 16, Value.none, Value.ref 17, Value.ref 18, Value.ref 19, Value.int 200 0, Value.int 3 0, Value.str (Str.ofString "/claim/cut.py") 201] }) ::
  (nat_lit 21, { cls := Value.type "function", data := Data.func { name := Str.ofString "_ellipsis_match", qualname := Str.ofString "_ellipsis_match", params := (fp 2).1, body := FuncBody.stmts (fp 2).2.1, scope := (fp 2).2.2, globals := 3, closure := [], defaults := Value.none, kwdefaults := Value.none, pyModule := Value.str (Str.ofString "cpy313.doctest") 187, code := Value.ref 20 } }) ::
  (nat_lit 27, { cls := Value.type "code", data := Data.fields #[Value.str (Str.ofString "_strip_exception_details") 203, Value.str (Str.ofString "_strip_exception_details") 204, Value.str (Str.ofString "/claim/cut.py") 205, Value.int 31 0, Value.int 1 0, Value.int 0 0, Value.int 0 0, Value.int 3 0, Value.ref 22, Value.bool true, Value.int 181 0, Value.ref 23, Value.none, Value.ref 24, Value.ref 25, Value.ref 26, Value.int 210 0, Value.int 31 0, Value.str (Str.ofString "/claim/cut.py") 211] }) ::
  (nat_lit 28, { cls := Value.type "function", data := Data.func { name := Str.ofString "_strip_exception_details", qualname := Str.ofString "_strip_exception_details", params := (fp 3).1, body := FuncBody.stmts (fp 3).2.1, scope := (fp 3).2.2, globals := 3, closure := [], defaults := Value.none, kwdefaults := Value.none, pyModule := Value.str (Str.ofString "cpy313.doctest") 187, code := Value.ref 27 } }) ::
  (nat_lit 41, { cls := Value.type "code", data := Data.fields #[Value.str (Str.ofString "__init__") 227, Value.str (Str.ofString "_netrclex.__init__") 228, Value.str (Str.ofString "/claim/cut.py") 229, Value.int 46 0, Value.int 2 0, Value.int 0 0, Value.int 0 0, Value.int 3 0, Value.ref 36, Value.bool true, Value.int 181 0, Value.ref 37, Value.none, Value.ref 38, Value.ref 39, Value.ref 40, Value.int 232 0, Value.int 46 0, Value.str (Str.ofString "/claim/cut.py") 233] }) ::
  (nat_lit 42, { cls := Value.type "function", data := Data.func { name := Str.ofString "__init__", qualname := Str.ofString "_netrclex.__init__", params := (mp 0).1, body := FuncBody.stmts (mp 0).2.1, scope := (mp 0).2.2, globals := 3, closure := [], defaults := Value.none, kwdefaults := Value.none, pyModule := Value.str (Str.ofString "cpy313.netrc") 213, code := Value.ref 41 } }) ::
  (nat_lit 48, { cls := Value.type "code", data := Data.fields #[Value.str (Str.ofString "_read_char") 235, Value.str (Str.ofString "_netrclex._read_char") 236, Value.str (Str.ofString "/claim/cut.py") 237, Value.int 52 0, Value.int 1 0, Value.int 0 0, Value.int 0 0, Value.int 3 0, Value.ref 43, Value.bool true, Value.int 181 0, Value.ref 44, Value.none, Value.ref 45, Value.ref 46, Value.ref 47, Value.int 240 0, Value.int 52 0, Value.str (Str.ofString "/claim/cut.py") 241] }) ::
  (nat_lit 49, { cls := Value.type "function", data := Data.func { name := Str.ofString "_read_char", qualname := Str.ofString "_netrclex._read_char", params := (mp 1).1, body := FuncBody.stmts (mp 1).2.1, scope := (mp 1).2.2, globals := 3, closure := [], defaults := Value.none, kwdefaults := Value.none, pyModule := Value.str (Str.ofString "cpy313.netrc") 213, code := Value.ref 48 } }) ::
  (nat_lit 55, { cls := Value.type "code", data := Data.fields #[Value.str (Str.ofString "get_token") 243, Value.str (Str.ofString "_netrclex.get_token") 244, Value.str (Str.ofString "/claim/cut.py") 245, Value.int 58 0, Value.int 1 0, Value.int 0 0, Value.int 0 0, Value.int 3 0, Value.ref 50, Value.bool true, Value.int 181 0, Value.ref 51, Value.none, Value.ref 52, Value.ref 53, Value.ref 54, Value.int 250 0, Value.int 58 0, Value.str (Str.ofString "/claim/cut.py") 251] }) ::
  (nat_lit 56, { cls := Value.type "function", data := Data.func { name := Str.ofString "get_token", qualname := Str.ofString "_netrclex.get_token", params := (mp 2).1, body := FuncBody.stmts (mp 2).2.1, scope := (mp 2).2.2, globals := 3, closure := [], defaults := Value.none, kwdefaults := Value.none, pyModule := Value.str (Str.ofString "cpy313.netrc") 213, code := Value.ref 55 } }) ::
  (nat_lit 62, { cls := Value.type "code", data := Data.fields #[Value.str (Str.ofString "push_token") 253, Value.str (Str.ofString "_netrclex.push_token") 254, Value.str (Str.ofString "/claim/cut.py") 255, Value.int 85 0, Value.int 2 0, Value.int 0 0, Value.int 0 0, Value.int 3 0, Value.ref 57, Value.bool true, Value.int 181 0, Value.ref 58, Value.none, Value.ref 59, Value.ref 60, Value.ref 61, Value.int 258 0, Value.int 85 0, Value.str (Str.ofString "/claim/cut.py") 259] }) ::
  (nat_lit 63, { cls := Value.type "function", data := Data.func { name := Str.ofString "push_token", qualname := Str.ofString "_netrclex.push_token", params := (mp 3).1, body := FuncBody.stmts (mp 3).2.1, scope := (mp 3).2.2, globals := 3, closure := [], defaults := Value.none, kwdefaults := Value.none, pyModule := Value.str (Str.ofString "cpy313.netrc") 213, code := Value.ref 62 } }) ::
  (nat_lit 65, { cls := Value.type "dict", data := Data.dict #[{ hash := PyData.keyHash P (Str.ofString "__module__"), key := Value.str (Str.ofString "__module__") 222, val := Value.str (Str.ofString "cpy313.netrc") 213 }, { hash := PyData.keyHash P (Str.ofString "__firstlineno__"), key := Value.str (Str.ofString "__firstlineno__") 226, val := Value.int 44 225 }, { hash := PyData.keyHash P (Str.ofString "__init__"), key := Value.str (Str.ofString "__init__") 234, val := Value.ref 42 }, { hash := PyData.keyHash P (Str.ofString "_read_char"), key := Value.str (Str.ofString "_read_char") 242, val := Value.ref 49 }, { hash := PyData.keyHash P (Str.ofString "get_token"), key := Value.str (Str.ofString "get_token") 252, val := Value.ref 56 }, { hash := PyData.keyHash P (Str.ofString "push_token"), key := Value.str (Str.ofString "push_token") 260, val := Value.ref 63 }, { hash := PyData.keyHash P (Str.ofString "__static_attributes__"), key := Value.str (Str.ofString "__static_attributes__") 265, val := Value.ref 64 }, { hash := PyData.keyHash P (Str.ofString "__dict__"), key := Value.str (Str.ofString "__dict__") 267, val := Value.ref 67 }, { hash := PyData.keyHash P (Str.ofString "__weakref__"), key := Value.str (Str.ofString "__weakref__") 269, val := Value.ref 68 }, { hash := PyData.keyHash P (Str.ofString "__doc__"), key := Value.str (Str.ofString "__doc__") 270, val := Value.none }] 4 }) ::
  (nat_lit 66, { cls := Value.type "type", data := Data.cls { name := Str.ofString "_netrclex", bases := [Value.type "object"], mro := [Value.ref 66, Value.type "object"], ns := 65, qualname := Str.ofString "_netrclex" }, slots := #[none, none, some (Value.str (Str.ofString "_netrclex") 215), some (Value.str (Str.ofString "_netrclex") 223), some (Value.builtin "object.__new__"), some (Value.bool true)] }) ::
  (nat_lit 67, { cls := Value.type "getset_descriptor", data := Data.fields #[Value.str (Str.ofString "__dict__") 266, Value.ref 66, Value.builtin "function.__dict__", Value.builtin "function.__dict__#set"] }) ::
  (nat_lit 68, { cls := Value.type "getset_descriptor", data := Data.fields #[Value.str (Str.ofString "__weakref__") 268, Value.ref 66, Value.builtin "ExceptionGroup.__weakref__", Value.none] }) ::
  (nat_lit 76, { cls := Value.type "code", data := Data.fields #[Value.str (Str.ofString "_substitution_cost") 281, Value.str (Str.ofString "_substitution_cost") 282, Value.str (Str.ofString "/claim/cut.py") 283, Value.int 91 0, Value.int 2 0, Value.int 0 0, Value.int 0 0, Value.int 3 0, Value.ref 71, Value.bool true, Value.int 181 0, Value.ref 72, Value.none, Value.ref 73, Value.ref 74, Value.ref 75, Value.int 286 0, Value.int 91 0, Value.str (Str.ofString "/claim/cut.py") 287] }) ::
  (nat_lit 77, { cls := Value.type "function", data := Data.func { name := Str.ofString "_substitution_cost", qualname := Str.ofString "_substitution_cost", params := (fp 10).1, body := FuncBody.stmts (fp 10).2.1, scope := (fp 10).2.2, globals := 3, closure := [], defaults := Value.none, kwdefaults := Value.none, pyModule := Value.str (Str.ofString "cpy313.traceback") 273, code := Value.ref 76 } }) ::
  (nat_lit 83, { cls := Value.type "code", data := Data.fields #[Value.str (Str.ofString "_levenshtein_distance") 289, Value.str (Str.ofString "_levenshtein_distance") 290, Value.str (Str.ofString "/claim/cut.py") 291, Value.int 97 0, Value.int 3 0, Value.int 0 0, Value.int 0 0, Value.int 3 0, Value.ref 78, Value.bool true, Value.int 181 0, Value.ref 79, Value.none, Value.ref 80, Value.ref 81, Value.ref 82, Value.int 306 0, Value.int 97 0, Value.str (Str.ofString "/claim/cut.py") 307] }) ::
  (nat_lit 84, { cls := Value.type "function", data := Data.func { name := Str.ofString "_levenshtein_distance", qualname := Str.ofString "_levenshtein_distance", params := (fp 11).1, body := FuncBody.stmts (fp 11).2.1, scope := (fp 11).2.2, globals := 3, closure := [], defaults := Value.none, kwdefaults := Value.none, pyModule := Value.str (Str.ofString "cpy313.traceback") 273, code := Value.ref 83 } }) ::
  (nat_lit 90, { cls := Value.type "code", data := Data.fields #[Value.str (Str.ofString "_law_lexer") 311, Value.str (Str.ofString "_law_lexer") 312, Value.str (Str.ofString "/claim/cut.py") 313, Value.int 136 0, Value.int 1 0, Value.int 0 0, Value.int 0 0, Value.int 3 0, Value.ref 85, Value.bool true, Value.int 181 0, Value.ref 86, Value.none, Value.ref 87, Value.ref 88, Value.ref 89, Value.int 318 0, Value.int 136 0, Value.str (Str.ofString "/claim/cut.py") 319] }) ::
  (nat_lit 91, { cls := Value.type "function", data := Data.func { name := Str.ofString "_law_lexer", qualname := Str.ofString "_law_lexer", params := (fp 13).1, body := FuncBody.stmts (fp 13).2.1, scope := (fp 13).2.2, globals := 3, closure := [], defaults := Value.none, kwdefaults := Value.none, pyModule := Value.str (Str.ofString "law_pe0175_01") 309, code := Value.ref 90 } }) ::
  (nat_lit 95, { cls := Value.type "code", data := Data.fields #[Value.str (Str.ofString "_law_spelled") 321, Value.str (Str.ofString "_law_spelled") 322, Value.str (Str.ofString "/claim/cut.py") 323, Value.int 146 0, Value.int 2 0, Value.int 0 0, Value.int 0 0, Value.int 3 0, Value.ref 92, Value.bool true, Value.int 181 0, Value.ref 93, Value.none, Value.none, Value.none, Value.ref 94, Value.int 324 0, Value.int 146 0, Value.str (Str.ofString "/claim/cut.py") 325] }) ::
  (nat_lit 96, { cls := Value.type "function", data := Data.func { name := Str.ofString "_law_spelled", qualname := Str.ofString "_law_spelled", params := (fp 14).1, body := FuncBody.stmts (fp 14).2.1, scope := (fp 14).2.2, globals := 3, closure := [], defaults := Value.none, kwdefaults := Value.none, pyModule := Value.str (Str.ofString "law_pe0175_01") 309, code := Value.ref 95 } }) ::
  (nat_lit 100, { cls := Value.type "code", data := Data.fields #[Value.str (Str.ofString "_law_price") 327, Value.str (Str.ofString "_law_price") 328, Value.str (Str.ofString "/claim/cut.py") 329, Value.int 149 0, Value.int 2 0, Value.int 0 0, Value.int 0 0, Value.int 3 0, Value.ref 97, Value.bool true, Value.int 181 0, Value.ref 98, Value.none, Value.none, Value.none, Value.ref 99, Value.int 330 0, Value.int 149 0, Value.str (Str.ofString "/claim/cut.py") 331] }) ::
  (nat_lit 101, { cls := Value.type "function", data := Data.func { name := Str.ofString "_law_price", qualname := Str.ofString "_law_price", params := (fp 15).1, body := FuncBody.stmts (fp 15).2.1, scope := (fp 15).2.2, globals := 3, closure := [], defaults := Value.none, kwdefaults := Value.none, pyModule := Value.str (Str.ofString "law_pe0175_01") 309, code := Value.ref 100 } }) ::
  (nat_lit 105, { cls := Value.type "code", data := Data.fields #[Value.str (Str.ofString "_law_draw") 333, Value.str (Str.ofString "_law_draw") 334, Value.str (Str.ofString "/claim/cut.py") 335, Value.int 160 0, Value.int 1 0, Value.int 0 0, Value.int 0 0, Value.int 3 0, Value.ref 102, Value.bool true, Value.int 181 0, Value.ref 103, Value.none, Value.none, Value.none, Value.ref 104, Value.int 336 0, Value.int 160 0, Value.str (Str.ofString "/claim/cut.py") 337] }) ::
  (nat_lit 106, { cls := Value.type "function", data := Data.func { name := Str.ofString "_law_draw", qualname := Str.ofString "_law_draw", params := (fp 16).1, body := FuncBody.stmts (fp 16).2.1, scope := (fp 16).2.2, globals := 3, closure := [], defaults := Value.none, kwdefaults := Value.none, pyModule := Value.str (Str.ofString "law_pe0175_01") 309, code := Value.ref 105 } }) ::
  (nat_lit 112, { cls := Value.type "code", data := Data.fields #[Value.str (Str.ofString "_law_run") 339, Value.str (Str.ofString "_law_run") 340, Value.str (Str.ofString "/claim/cut.py") 341, Value.int 178 0, Value.int 1 0, Value.int 0 0, Value.int 0 0, Value.int 3 0, Value.ref 107, Value.bool true, Value.int 181 0, Value.ref 108, Value.none, Value.ref 109, Value.ref 110, Value.ref 111, Value.int 349 0, Value.int 178 0, Value.str (Str.ofString "/claim/cut.py") 350] }) ::
  (nat_lit 113, { cls := Value.type "function", data := Data.func { name := Str.ofString "_law_run", qualname := Str.ofString "_law_run", params := (fp 17).1, body := FuncBody.stmts (fp 17).2.1, scope := (fp 17).2.2, globals := 3, closure := [], defaults := Value.none, kwdefaults := Value.none, pyModule := Value.str (Str.ofString "law_pe0175_01") 309, code := Value.ref 112 } }) ::
  (nat_lit 117, { cls := Value.type "code", data := Data.fields #[Value.str (Str.ofString "_law_needs") 352, Value.str (Str.ofString "_law_needs") 353, Value.str (Str.ofString "/claim/cut.py") 354, Value.int 190 0, Value.int 2 0, Value.int 0 0, Value.int 0 0, Value.int 3 0, Value.ref 114, Value.bool true, Value.int 181 0, Value.ref 115, Value.none, Value.none, Value.none, Value.ref 116, Value.int 355 0, Value.int 190 0, Value.str (Str.ofString "/claim/cut.py") 356] }) ::
  (nat_lit 118, { cls := Value.type "function", data := Data.func { name := Str.ofString "_law_needs", qualname := Str.ofString "_law_needs", params := (fp 18).1, body := FuncBody.stmts (fp 18).2.1, scope := (fp 18).2.2, globals := 3, closure := [], defaults := Value.none, kwdefaults := Value.none, pyModule := Value.str (Str.ofString "law_pe0175_01") 309, code := Value.ref 117 } }) ::
  (nat_lit 122, { cls := Value.type "code", data := Data.fields #[Value.str (Str.ofString "_law_rows") 358, Value.str (Str.ofString "_law_rows") 359, Value.str (Str.ofString "/claim/cut.py") 360, Value.int 198 0, Value.int 2 0, Value.int 0 0, Value.int 0 0, Value.int 3 0, Value.ref 119, Value.bool true, Value.int 181 0, Value.ref 120, Value.none, Value.none, Value.none, Value.ref 121, Value.int 361 0, Value.int 198 0, Value.str (Str.ofString "/claim/cut.py") 362] }) ::
  (nat_lit 123, { cls := Value.type "function", data := Data.func { name := Str.ofString "_law_rows", qualname := Str.ofString "_law_rows", params := (fp 19).1, body := FuncBody.stmts (fp 19).2.1, scope := (fp 19).2.2, globals := 3, closure := [], defaults := Value.none, kwdefaults := Value.none, pyModule := Value.str (Str.ofString "law_pe0175_01") 309, code := Value.ref 122 } }) ::
  (nat_lit 127, { cls := Value.type "code", data := Data.fields #[Value.str (Str.ofString "_law_judged") 364, Value.str (Str.ofString "_law_judged") 365, Value.str (Str.ofString "/claim/cut.py") 366, Value.int 211 0, Value.int 3 0, Value.int 0 0, Value.int 0 0, Value.int 3 0, Value.ref 124, Value.bool true, Value.int 181 0, Value.ref 125, Value.none, Value.none, Value.none, Value.ref 126, Value.int 367 0, Value.int 211 0, Value.str (Str.ofString "/claim/cut.py") 368] }) ::
  (nat_lit 128, { cls := Value.type "function", data := Data.func { name := Str.ofString "_law_judged", qualname := Str.ofString "_law_judged", params := (fp 20).1, body := FuncBody.stmts (fp 20).2.1, scope := (fp 20).2.2, globals := 3, closure := [], defaults := Value.none, kwdefaults := Value.none, pyModule := Value.str (Str.ofString "law_pe0175_01") 309, code := Value.ref 127 } }) ::
  (nat_lit 132, { cls := Value.type "code", data := Data.fields #[Value.str (Str.ofString "law") 370, Value.str (Str.ofString "law") 371, Value.str (Str.ofString "/claim/cut.py") 372, Value.int 220 0, Value.int 1 0, Value.int 0 0, Value.int 0 0, Value.int 3 0, Value.ref 129, Value.bool true, Value.int 181 0, Value.ref 130, Value.none, Value.none, Value.none, Value.ref 131, Value.int 373 0, Value.int 220 0, Value.str (Str.ofString "/claim/cut.py") 374] }) ::
  (nat_lit 133, { cls := Value.type "function", data := Data.func { name := Str.ofString "law", qualname := Str.ofString "law", params := (fp 21).1, body := FuncBody.stmts (fp 21).2.1, scope := (fp 21).2.2, globals := 3, closure := [], defaults := Value.none, kwdefaults := Value.none, pyModule := Value.str (Str.ofString "law_pe0175_01") 309, code := Value.ref 132 } }) :: []
end Mine
end
noncomputable section
namespace Mine
open PySem.Calls
noncomputable abbrev MW (w : World) : Model := model PySem.Challenge.rw_pe0175_01.row.prog w
/-- plain values -/
inductive PV where
  | none | bool (b : Bool) | int (i : Int) | str (s : Str)
  | list (xs : List PV) | tup (xs : List PV) | range (a b c : Int)
  | type (n : String) | bi (id : String) | fn (a : Addr)
  deriving Inhabited
noncomputable def PlainTuple (h : Heap) (a : Addr) (vs : List Value) : Prop := h.get? a = some { cls := .type "tuple", data := .seq vs.toArray }
mutual
/-- the value v of the heap h stands for the plain value; no object of it lies in V -/
noncomputable def Rep (V : Addr → Prop) (h : Heap) : PV → Value → Prop
  | .none, v => v = .none
  | .bool b, v => v = .bool b
  | .int i, v => ∃ t, v = .int i t
  | .str x, v => ∃ t, v = .str x t
  | .type n, v => v = .type n
  | .bi n, v => v = .builtin n
  | .fn a, v => v = .ref a
  | .range a b c, v => ∃ r t u k, v = .ref r ∧ ¬ V r ∧ IsRange h r a b c t u k
  | .list xs, v => ∃ a vs, v = .ref a ∧ ¬ V a ∧ h.PlainList a (List.toArray vs) ∧ Reps V h xs vs
  | .tup xs, v => ∃ a vs, v = .ref a ∧ ¬ V a ∧ PlainTuple h a vs ∧ Reps V h xs vs
noncomputable def Reps (V : Addr → Prop) (h : Heap) : List PV → List Value → Prop
  | [], vs => vs = []
  | x :: xs, vs => ∃ v r, vs = v :: r ∧ Rep V h x v ∧ Reps V h xs r
end
mutual
theorem Rep.mono {V V' : Addr → Prop} {h h' : Heap} (hk : ∀ b o, ¬ V b → h.get? b = some o → ¬ V' b ∧ h'.get? b = some o) : ∀ {p : PV} {v : Value}, Rep V h p v → Rep V' h' p v
  | .none, _, r => by unfold Rep at *; exact r
  | .bool _, _, r => by unfold Rep at *; exact r
  | .int _, _, r => by unfold Rep at *; exact r
  | .str _, _, r => by unfold Rep at *; exact r
  | .type _, _, r => by unfold Rep at *; exact r
  | .bi _, _, r => by unfold Rep at *; exact r
  | .fn _, _, r => by unfold Rep at *; exact r
  | .range _ _ _, _, r => by
    unfold Rep at *
    obtain ⟨a, t, u, k, e, hn, hr⟩ := r
    exact ⟨a, t, u, k, e, (hk _ _ hn hr).1, (hk _ _ hn hr).2⟩
  | .list xs, _, r => by
    unfold Rep at *
    obtain ⟨a, vs, e, hn, ⟨n, hl⟩, hr⟩ := r
    exact ⟨a, vs, e, (hk _ _ hn hl).1, ⟨n, (hk _ _ hn hl).2⟩, Reps.mono hk hr⟩
  | .tup xs, _, r => by
    unfold Rep at *
    obtain ⟨a, vs, e, hn, hl, hr⟩ := r
    exact ⟨a, vs, e, (hk _ _ hn hl).1, (hk _ _ hn hl).2, Reps.mono hk hr⟩
theorem Reps.mono {V V' : Addr → Prop} {h h' : Heap} (hk : ∀ b o, ¬ V b → h.get? b = some o → ¬ V' b ∧ h'.get? b = some o) : ∀ {ps : List PV} {vs : List Value}, Reps V h ps vs → Reps V' h' ps vs
  | [], _, r => by unfold Reps at *; exact r
  | p :: ps, _, r => by
    unfold Reps at *
    obtain ⟨v, q, e, hv, hr⟩ := r
    exact ⟨v, q, e, Rep.mono hk hv, Reps.mono hk hr⟩
end
noncomputable def Stays (h h' : Heap) : Prop := ∀ b o, h.get? b = some o → h'.get? b = some o
theorem Stays.refl (h : Heap) : Stays h h := fun _ _ e => e
theorem Stays.trans {a b c : Heap} (x : Stays a b) (y : Stays b c) : Stays a c := fun _ _ e => y _ _ (x _ _ e)
theorem Stays.push (h : Heap) (o : Obj) : Stays h (h.push o) := fun _ _ e => Heap.get?_push_of_some _ e
theorem Rep.stays {V : Addr → Prop} {h h' : Heap} {p : PV} {v : Value} (r : Rep V h p v) (k : Stays h h') : Rep V h' p v := r.mono fun b o n e => ⟨n, k b o e⟩
theorem Reps.stays {V : Addr → Prop} {h h' : Heap} {p : List PV} {v : List Value} (r : Reps V h p v) (k : Stays h h') : Reps V h' p v := r.mono fun b o n e => ⟨n, k b o e⟩
theorem Reps.length {V : Addr → Prop} {h : Heap} : ∀ {ps : List PV} {vs : List Value}, Reps V h ps vs → vs.length = ps.length
  | [], _, r => by unfold Reps at r; subst r; rfl
  | p :: ps, _, r => by
    unfold Reps at r
    obtain ⟨v, q, rfl, _, hr⟩ := r
    simp [Reps.length hr]
theorem Reps.nil {V : Addr → Prop} {h : Heap} : Reps V h [] [] := by unfold Reps; rfl
theorem Reps.cons {V : Addr → Prop} {h : Heap} {p : PV} {ps : List PV} {v : Value} {vs : List Value} (a : Rep V h p v) (b : Reps V h ps vs) : Reps V h (p :: ps) (v :: vs) := by
  unfold Reps; exact ⟨v, vs, rfl, a, b⟩
theorem Reps.append {V : Addr → Prop} {h : Heap} : ∀ {ps qs : List PV} {vs us : List Value}, Reps V h ps vs → Reps V h qs us → Reps V h (ps ++ qs) (vs ++ us)
  | [], _, _, _, r, q => by unfold Reps at r; subst r; exact q
  | p :: ps, _, _, _, r, q => by
    unfold Reps at r
    obtain ⟨v, vs, rfl, hv, hr⟩ := r
    exact Reps.cons hv (Reps.append hr q)
theorem Reps.get {V : Addr → Prop} {h : Heap} : ∀ {ps : List PV} {vs : List Value} {i : Nat} {p : PV}, Reps V h ps vs → ps[i]? = some p → ∃ v, vs[i]? = some v ∧ Rep V h p v
  | [], _, _, _, _, e => by simp at e
  | q :: ps, _, 0, p, r, e => by
    unfold Reps at r
    obtain ⟨v, vs, rfl, hv, hr⟩ := r
    simp at e; subst e
    exact ⟨v, rfl, hv⟩
  | q :: ps, _, i + 1, p, r, e => by
    unfold Reps at r
    obtain ⟨v, vs, rfl, hv, hr⟩ := r
    simp only [List.getElem?_cons_succ] at e ⊢
    exact Reps.get hr e
theorem Reps.take {V : Addr → Prop} {h : Heap} : ∀ {ps : List PV} {vs : List Value} (n : Nat), Reps V h ps vs → Reps V h (ps.take n) (vs.take n)
  | [], _, n, r => by unfold Reps at r; subst r; simp; exact Reps.nil
  | p :: ps, _, 0, r => by simp; exact Reps.nil
  | p :: ps, _, n + 1, r => by
    unfold Reps at r
    obtain ⟨v, vs, rfl, hv, hr⟩ := r
    simp only [List.take_succ_cons]
    exact Reps.cons hv (Reps.take n hr)
theorem Reps.drop {V : Addr → Prop} {h : Heap} : ∀ {ps : List PV} {vs : List Value} (n : Nat), Reps V h ps vs → Reps V h (ps.drop n) (vs.drop n)
  | [], _, n, r => by unfold Reps at r; subst r; simp; exact Reps.nil
  | p :: ps, _, 0, r => by simpa using r
  | p :: ps, _, n + 1, r => by
    unfold Reps at r
    obtain ⟨v, vs, rfl, hv, hr⟩ := r
    simp only [List.drop_succ_cons]
    exact Reps.drop n hr
theorem Reps.set {V : Addr → Prop} {h : Heap} : ∀ {ps : List PV} {vs : List Value} (i : Nat) {p : PV} {v : Value}, Reps V h ps vs → Rep V h p v → Reps V h (ps.set i p) (vs.set i v)
  | [], _, n, _, _, r, _ => by unfold Reps at r; subst r; simp; exact Reps.nil
  | q :: ps, _, 0, p, v, r, hp => by
    unfold Reps at r
    obtain ⟨u, vs, rfl, hv, hr⟩ := r
    exact Reps.cons hp hr
  | q :: ps, _, n + 1, p, v, r, hp => by
    unfold Reps at r
    obtain ⟨u, vs, rfl, hv, hr⟩ := r
    exact Reps.cons hv (Reps.set n hr hp)
/-- what the text's top gives -/
noncomputable def Base (w : World) (h : Heap) : Prop := ∃ (c : Program × List Str × (ExcName → Option Value)) (mg mb : Str → Option Value), (hd.heap_39 w.params).In h ∧ Top c.1 c.2.1 c.2.2 mg mb h
theorem Base.stays {w : World} {h h' : Heap} (b : Base w h) (k : Stays h h') : Base w h' :=
  let ⟨mean, mg, mb, x, t⟩ := b; ⟨mean, mg, mb, x.keeps k, t.keeps k⟩
/-- a global name's value -/
noncomputable def GVal (w : World) (x : Str) (cv : Value) : Prop := (x == ("__debug__" : Str)) = false ∧ ∀ h, Base w h → ∃ mg mb, h.Ns mainGlobals mg ∧ h.Ns builtinsNs mb ∧ (mg x = some cv ∨ (mg x = none ∧ mb x = some cv))
theorem GVal.glob {w : World} {x : Str} {v : Value} (e : nsIn (hd.heap_39 w.params) mainGlobals x = some (some v)) (hd : (x == ("__debug__" : Str)) = false) : GVal w x v :=
  ⟨hd, fun _ ⟨_, mg, mb, X, T⟩ => ⟨mg, mb, T.g, T.b, .inl (mg_of X T.g e)⟩⟩
theorem GVal.blt {w : World} {x : Str} {v : Value} (e : nsIn (hd.heap_39 w.params) mainGlobals x = some none) (hv : bootBuiltins x = some v) (hn : x ≠ "__name__") (hd : (x == ("__debug__" : Str)) = false) : GVal w x v :=
  ⟨hd, fun _ ⟨_, mg, mb, X, T⟩ => ⟨mg, mb, T.g, T.b, .inr ⟨mg_none_of X T.g e, (T.builtins x hn).trans hv⟩⟩⟩
inductive Sl where
  | un | val (p : PV) | own (xs : List PV)
  deriving Inhabited
/-- the names of a block: (a name, is it kept in a cell); the names that are the module's -/
structure Cx where
  vars : List (Str × Bool)
  globs : List Str
noncomputable def Loads (env : Env) (h : Heap) (x : Str) (c : Bool) (cv : Value) : Prop :=
  if c then (env.kindOf x = some .cell ∨ env.kindOf x = some .free) ∧ ∃ a o, env.cells.lookup x = some a ∧ h.get? a = some o ∧ o.data = .cell (some cv)
  else env.kindOf x = some .local ∧ ∃ m, h.Ns env.locals m ∧ m x = some cv
theorem Loads.stays {env : Env} {h h' : Heap} {x : Str} {c : Bool} {cv : Value} (l : Loads env h x c cv) (k : Stays h h') : Loads env h' x c cv := by
  unfold Loads at *
  cases c with
  | true => obtain ⟨a, b, o, h1, h2, h3⟩ := l; exact ⟨a, b, o, h1, k _ _ h2, h3⟩
  | false => obtain ⟨a, m, h1, h2⟩ := l; exact ⟨a, m, h1.keeps k, h2⟩
structure EnvOK (w : World) (env : Env) (Γ : Cx) (vals : List Sl) (V : Addr → Prop) (h : Heap) : Prop where
  kind : env.scope.kind = .function
  glb : env.globals = mainGlobals
  bln : env.builtins = builtinsNs
  gk : ∀ x ∈ Γ.globs, env.kindOf x = some .globalImplicit
  base : Base w h
  al : ∀ b, V b → ∃ o, h.get? b = some o
  nm : ∀ x c, (x, c) ∈ Γ.vars → (x == ("__debug__" : Str)) = false ∧ (x == ("__classdict__" : Str)) = false
  cel : ∀ x, (x, true) ∈ Γ.vars → (env.kindOf x = some .cell ∨ env.kindOf x = some .free) ∧ ∃ a, env.cells.lookup x = some a
  slot : ∀ (i : Nat) (x : Str) (c : Bool) (p : PV), Γ.vars[i]? = some (x, c) → vals[i]? = some (Sl.val p) → ∃ cv, Loads env h x c cv ∧ Rep V h p cv
  owns : ∀ (i : Nat) (x : Str) (c : Bool) (xs : List PV), Γ.vars[i]? = some (x, c) → vals[i]? = some (Sl.own xs) → ∃ a vs, Loads env h x c (.ref a) ∧ h.PlainList a (List.toArray vs) ∧ Reps V h xs vs
theorem EnvOK.stays {w : World} {env : Env} {Γ : Cx} {vals : List Sl} {V : Addr → Prop} {h h' : Heap} (x : EnvOK w env Γ vals V h) (k : Stays h h') : EnvOK w env Γ vals V h' where
  kind := x.kind
  glb := x.glb
  bln := x.bln
  gk := x.gk
  base := x.base.stays k
  al := fun b hb => let ⟨o, e⟩ := x.al b hb; ⟨o, k _ _ e⟩
  nm := x.nm
  cel := x.cel
  slot := fun i y c p h1 h2 => let ⟨cv, h3, h4⟩ := x.slot i y c p h1 h2; ⟨cv, h3.stays k, h4.stays k⟩
  owns := fun i y c p h1 h2 => let ⟨a, vs, h3, h4, h5⟩ := x.owns i y c p h1 h2; ⟨a, vs, h3.stays k, h4.at fun o e => k _ _ e, h5.stays k⟩
structure Room (A : Around) (d : Nat) : Prop where
  hh : A.handled = none
  dep : A.depth + d < recursionLimit
  un : A.units + 20 * d + 100 < cLine
theorem Room.le {A : Around} {d e : Nat} (r : Room A d) (h : e ≤ d) : Room A e := ⟨r.hh, by have := r.dep; (first | lia | omega), by have := r.un; (first | lia | omega)⟩
noncomputable def Ev (w : World) (d : Nat) (Γ : Cx) (vals : List Sl) (e : Expr) (p : PV) : Prop :=
  ∀ (env : Env) (V : Addr → Prop) (A : Around) (s : Shared) (Q : Value → Shared → Prop) (E : Value → Shared → Prop),
    EnvOK w env Γ vals V s.heap → Room A d →
    (∀ cv h' tk, Stays s.heap h' → Rep V h' p cv → Q cv { s with heap := h', toks := tk }) → wpAny (MW w) A (eval e env) Q E s
/-- a new list -/
noncomputable def EvF (w : World) (d : Nat) (Γ : Cx) (vals : List Sl) (e : Expr) (xs : List PV) : Prop :=
  ∀ (env : Env) (V : Addr → Prop) (A : Around) (s : Shared) (Q : Value → Shared → Prop) (E : Value → Shared → Prop),
    EnvOK w env Γ vals V s.heap → Room A d →
    (∀ a vs h' tk, Stays s.heap h' → s.heap.get? a = none → h'.PlainList a (List.toArray vs) → Reps (fun b => V b ∨ b = a) h' xs vs → Q (.ref a) { s with heap := h', toks := tk }) → wpAny (MW w) A (eval e env) Q E s
noncomputable def EvL (w : World) (d : Nat) (Γ : Cx) (vals : List Sl) (es : List Expr) (ps : List PV) : Prop :=
  ∀ (pos : Pos) (env : Env) (V : Addr → Prop) (A : Around) (s : Shared) (Q : List Value → Shared → Prop) (E : Value → Shared → Prop),
    EnvOK w env Γ vals V s.heap → Room A d →
    (∀ cvs h' tk, Stays s.heap h' → Reps V h' ps cvs → Q cvs { s with heap := h', toks := tk }) → wpAny (MW w) A (spliced (backTo pos (starEach es env))) Q E s
/-- a test -/
noncomputable def Tr (w : World) (d : Nat) (Γ : Cx) (vals : List Sl) (e : Expr) (b : Bool) : Prop :=
  ∀ (env : Env) (V : Addr → Prop) (A : Around) (s : Shared) (Q : Bool → Shared → Prop) (E : Value → Shared → Prop),
    EnvOK w env Γ vals V s.heap → Room A d →
    (∀ h' tk, Stays s.heap h' → Q b { s with heap := h', toks := tk }) → wpAny (MW w) A (isTrue e env (eval e env)) Q E s
theorem EnvOK.new {w : World} {env : Env} {Γ : Cx} {vals : List Sl} {V : Addr → Prop} {h : Heap} (x : EnvOK w env Γ vals V h) {a : Addr} (hn : h.get? a = none) : ¬ V a := fun hv => by
  obtain ⟨o, e⟩ := x.al a hv
  rw [hn] at e
  cases e
theorem Reps.older {V : Addr → Prop} {h : Heap} {a : Addr} {xs : List PV} {vs : List Value} (r : Reps (fun b => V b ∨ b = a) h xs vs) : Reps V h xs vs := r.mono fun b o nb e => ⟨fun h => nb (.inl h), e⟩
theorem Reps.newer {V : Addr → Prop} {h h' : Heap} {a : Addr} {xs : List PV} {vs : List Value} (r : Reps V h xs vs) (hn : h.get? a = none) (k : Stays h h') : Reps (fun b => V b ∨ b = a) h' xs vs :=
  r.mono fun b o nb e => ⟨fun h => h.elim nb fun h => (by rw [h, hn] at e; cases e), k b o e⟩
theorem Rep.mkList {V : Addr → Prop} {h : Heap} {a : Addr} {xs : List PV} {vs : List Value} (hv : ¬ V a) (hl : h.PlainList a (List.toArray vs)) (hr : Reps V h xs vs) : Rep V h (.list xs) (.ref a) := by
  unfold Rep
  exact ⟨a, vs, rfl, hv, hl, hr⟩
theorem Rep.mkTup {V : Addr → Prop} {h : Heap} {a : Addr} {xs : List PV} {vs : List Value} (hv : ¬ V a) (hl : PlainTuple h a vs) (hr : Reps V h xs vs) : Rep V h (.tup xs) (.ref a) := by
  unfold Rep
  exact ⟨a, vs, rfl, hv, hl, hr⟩
section
variable {w : World} {d : Nat} {Γ : Cx} {vals : List Sl}
theorem EvF.ev {e : Expr} {xs : List PV} (h : EvF w d Γ vals e xs) : Ev w d Γ vals e (.list xs) := fun env V A s Q E ok rm k =>
  h env V A s Q E ok rm fun a vs h' tk st hn hl hr => k _ _ _ st (Rep.mkList (ok.new hn) hl hr.older)
theorem Ev.int {i : Int} {k : Nat} {pos : Pos} : Ev w d Γ vals (.Constant (.int i) k pos) (.int i) := fun env V A s Q E ok rm k =>
  wpAny_Constant_int (k _ s.heap _ (Stays.refl _) (by unfold Rep; exact ⟨_, rfl⟩))
theorem Ev.str {x : Str} {k : Nat} {pos : Pos} : Ev w d Γ vals (.Constant (.str x) k pos) (.str x) := fun env V A s Q E ok rm k =>
  wpAny_Constant_str (k _ s.heap _ (Stays.refl _) (by unfold Rep; exact ⟨_, rfl⟩))
theorem Ev.bool {b : Bool} {k : Nat} {pos : Pos} : Ev w d Γ vals (.Constant (.bool b) k pos) (.bool b) := fun env V A s Q E ok rm k =>
  wpAny_Constant_bool (k _ s.heap s.toks (Stays.refl _) (by unfold Rep; rfl))
theorem Ev.none {k : Nat} {pos : Pos} : Ev w d Γ vals (.Constant .none k pos) .none := fun env V A s Q E ok rm k =>
  wpAny_Constant_none (k _ s.heap s.toks (Stays.refl _) (by unfold Rep; rfl))
/-- the name x stands at a slot -/
inductive At : List (Str × Bool) → List Sl → Str → Sl → Prop
  | here {x c vs p ps} : At ((x, c) :: vs) (p :: ps) x p
  | there {x y vs p q ps} : At vs ps x q → At (y :: vs) (p :: ps) x q
theorem At.idx {vs : List (Str × Bool)} {ps : List Sl} {x : Str} {p : Sl} (a : At vs ps x p) : ∃ (i : Nat) (c : Bool), vs[i]? = some (x, c) ∧ ps[i]? = some p := by
  induction a with
  | here => exact ⟨0, _, rfl, rfl⟩
  | there _ ih => obtain ⟨i, c, h1, h2⟩ := ih; exact ⟨i + 1, c, by simpa using h1, by simpa using h2⟩
theorem loads_name {env : Env} {x : Str} {c : Bool} {cv : Value} {pos : Pos} {A : Around} {s : Shared} {Q : Value → Shared → Prop} {E : Value → Shared → Prop} (hk : env.scope.kind = .function)
    (hn : (x == ("__debug__" : Str)) = false ∧ (x == ("__classdict__" : Str)) = false) (l : Loads env s.heap x c cv) (h : Q cv s) : wpAny (MW w) A (eval (.Name x pos) env) Q E s := by
  refine wpAny_Name ?_ hn.1
  unfold Loads at l
  cases c with
  | true =>
    obtain ⟨k, a, o, h1, h2, h3⟩ := l
    rcases k with k | k
    · exact wpAny_loadName_cell hk k h1 ⟨o, h2, h3⟩ h
    · exact wpAny_loadName_free hk k h1 ⟨o, h2, h3⟩ h hn.2
  | false =>
    obtain ⟨k, m, h1, h2⟩ := l
    exact wpAny_loadName_local hk k h1 h2 h
theorem Ev.name {x : Str} {pos : Pos} {p : PV} (a : At Γ.vars vals x (.val p)) : Ev w d Γ vals (.Name x pos) p := fun env V A s Q E ok rm k => by
  obtain ⟨i, c, h1, h2⟩ := a.idx
  obtain ⟨cv, hl, hr⟩ := ok.slot i x c p h1 h2
  exact loads_name ok.kind (ok.nm x c (List.mem_of_getElem? h1)) hl (k cv s.heap s.toks (Stays.refl _) hr)
theorem Ev.glob {x : Str} {pos : Pos} {p : PV} {cv : Value} (g : x ∈ Γ.globs) (v : GVal w x cv) (r : ∀ V h, Rep V h p cv) : Ev w d Γ vals (.Name x pos) p := fun env V A s Q E ok rm k => by
  obtain ⟨hd, f⟩ := v
  obtain ⟨mg, mb, h1, h2, h3⟩ := f _ ok.base
  rcases h3 with h3 | ⟨h3, h4⟩
  · exact Name_function_global ok.kind (ok.gk x g) (loadGlobal_global (by rw [ok.glb]; exact h1) h3 (k _ s.heap s.toks (Stays.refl _) (r _ _))) hd
  · exact Name_function_global ok.kind (ok.gk x g) (loadGlobal_builtin (by rw [ok.glb]; exact h1) h3 (by rw [ok.bln]; exact h2) h4 (k _ s.heap s.toks (Stays.refl _) (r _ _))) hd
theorem EvL.nil : EvL w d Γ vals [] [] := fun pos env V A s Q E ok rm k => wpAny_items_nil (k _ s.heap s.toks (Stays.refl _) Reps.nil)
theorem EvL.cons {e : Expr} {es : List Expr} {p : PV} {ps : List PV} (h1 : Ev w d Γ vals e p) (h2 : EvL w d Γ vals es ps) (he : ∀ env, starEach (e :: es) env = (false, eval e env) :: starEach es env := by intro _; rfl) :
    EvL w d Γ vals (e :: es) (p :: ps) := fun pos env V A s Q E ok rm k =>
  wpAny_items_cons (h1 env V A s _ _ ok rm fun cv h' tk st r => h2 pos env V A _ _ _ (ok.stays st) rm fun cvs h'' tk' st' r' => k _ _ _ (st.trans st') (Reps.cons (r.stays st') r')) (he env)
theorem Tr.of_bool {e : Expr} {b : Bool} (h : Ev w d Γ vals e (.bool b)) (he : ∀ env whole, isTrue e env whole = (do let v ← whole; standAt e.pos; holding [v] (truthy v)) := by intro _ _; rfl) : Tr w d Γ vals e b := fun env V A s Q E ok rm k =>
  wpAny_isTrue_value (h env V A s _ _ ok rm fun cv h' tk st r => by unfold Rep at r; subst r; exact wpAny_truthy_bool (k _ _ st)) (he env _)
end
end Mine
end
noncomputable section
namespace Mine
open PySem.Calls
noncomputable abbrev Alive (V : Addr → Prop) (h : Heap) : Prop := ∀ b, V b → ∃ o, h.get? b = some o
theorem Alive.new {V : Addr → Prop} {h : Heap} (x : Alive V h) {a : Addr} (hn : h.get? a = none) : ¬ V a := fun hv => by
  obtain ⟨o, e⟩ := x a hv
  rw [hn] at e
  cases e
theorem size_new (h : Heap) : h.get? h.objs.size = none := by
  cases e : h.get? h.objs.size with
  | none => rfl
  | some o => exact absurd (Heap.lt_size e) (Nat.lt_irrefl _)
theorem Alive.size {V : Addr → Prop} {h : Heap} (x : Alive V h) : ¬ V h.objs.size := x.new (size_new h)
theorem rep_int {V : Addr → Prop} {h : Heap} {i : Int} {v : Value} (r : Rep V h (.int i) v) : ∃ t, v = .int i t := by unfold Rep at r; exact r
theorem rep_str {V : Addr → Prop} {h : Heap} {x : Str} {v : Value} (r : Rep V h (.str x) v) : ∃ t, v = .str x t := by unfold Rep at r; exact r
theorem rep_bool {V : Addr → Prop} {h : Heap} {b : Bool} {v : Value} (r : Rep V h (.bool b) v) : v = .bool b := by unfold Rep at r; exact r
theorem rep_none {V : Addr → Prop} {h : Heap} {v : Value} (r : Rep V h .none v) : v = .none := by unfold Rep at r; exact r
theorem rep_type {V : Addr → Prop} {h : Heap} {n : String} {v : Value} (r : Rep V h (.type n) v) : v = .type n := by unfold Rep at r; exact r
theorem rep_list {V : Addr → Prop} {h : Heap} {xs : List PV} {v : Value} (r : Rep V h (.list xs) v) : ∃ a vs, v = .ref a ∧ ¬ V a ∧ h.PlainList a (List.toArray vs) ∧ Reps V h xs vs := by unfold Rep at r; exact r
theorem rep_tup {V : Addr → Prop} {h : Heap} {xs : List PV} {v : Value} (r : Rep V h (.tup xs) v) : ∃ a vs, v = .ref a ∧ ¬ V a ∧ PlainTuple h a vs ∧ Reps V h xs vs := by unfold Rep at r; exact r
theorem rep_range {V : Addr → Prop} {h : Heap} {a b c : Int} {v : Value} (r : Rep V h (.range a b c) v) : ∃ r t u k, v = .ref r ∧ ¬ V r ∧ IsRange h r a b c t u k := by unfold Rep at r; exact r
theorem mk_int {V : Addr → Prop} {h : Heap} {i : Int} {t : Tok} : Rep V h (.int i) (.int i t) := by unfold Rep; exact ⟨_, rfl⟩
theorem mk_str {V : Addr → Prop} {h : Heap} {x : Str} {t : Tok} : Rep V h (.str x) (.str x t) := by unfold Rep; exact ⟨_, rfl⟩
theorem mk_bool {V : Addr → Prop} {h : Heap} {b : Bool} : Rep V h (.bool b) (.bool b) := by unfold Rep; rfl
theorem mk_none {V : Addr → Prop} {h : Heap} : Rep V h .none .none := by unfold Rep; rfl
theorem mk_type {V : Addr → Prop} {h : Heap} {n : String} : Rep V h (.type n) (.type n) := by unfold Rep; rfl
theorem mk_range {V : Addr → Prop} {h : Heap} {a b c : Int} {r : Addr} {t u k : Tok} (hv : ¬ V r) (hr : IsRange h r a b c t u k) : Rep V h (.range a b c) (.ref r) := by unfold Rep; exact ⟨r, t, u, k, rfl, hv, hr⟩
theorem PlainTuple.isTuple {h : Heap} {a : Addr} {vs : List Value} (x : PlainTuple h a vs) : h.IsTuple a vs.toArray := ⟨_, x, rfl, 0, rfl⟩
theorem reps_cons {V : Addr → Prop} {h : Heap} {p : PV} {ps : List PV} {vs : List Value} (r : Reps V h (p :: ps) vs) : ∃ v us, vs = v :: us ∧ Rep V h p v ∧ Reps V h ps us := by unfold Reps at r; exact r
theorem reps_nil {V : Addr → Prop} {h : Heap} {vs : List Value} (r : Reps V h [] vs) : vs = [] := by unfold Reps at r; exact r
theorem reps_one {V : Addr → Prop} {h : Heap} {p : PV} {vs : List Value} (r : Reps V h [p] vs) : ∃ v, vs = [v] ∧ Rep V h p v := by
  obtain ⟨v, us, rfl, h1, h2⟩ := reps_cons r
  obtain rfl := reps_nil h2
  exact ⟨v, rfl, h1⟩
theorem reps_two {V : Addr → Prop} {h : Heap} {p q : PV} {vs : List Value} (r : Reps V h [p, q] vs) : ∃ v u, vs = [v, u] ∧ Rep V h p v ∧ Rep V h q u := by
  obtain ⟨v, us, rfl, h1, h2⟩ := reps_cons r
  obtain ⟨u, rfl, h3⟩ := reps_one h2
  exact ⟨v, u, rfl, h1, h3⟩
theorem reps_three {V : Addr → Prop} {h : Heap} {p q k : PV} {vs : List Value} (r : Reps V h [p, q, k] vs) : ∃ v u x, vs = [v, u, x] ∧ Rep V h p v ∧ Rep V h q u ∧ Rep V h k x := by
  obtain ⟨v, us, rfl, h1, h2⟩ := reps_cons r
  obtain ⟨u, x, rfl, h3, h4⟩ := reps_two h2
  exact ⟨v, u, x, rfl, h1, h3, h4⟩
theorem reps_four {V : Addr → Prop} {h : Heap} {p q k l : PV} {vs : List Value} (r : Reps V h [p, q, k, l] vs) : ∃ v u x y, vs = [v, u, x, y] ∧ Rep V h p v ∧ Rep V h q u ∧ Rep V h k x ∧ Rep V h l y := by
  obtain ⟨v, us, rfl, h1, h2⟩ := reps_cons r
  obtain ⟨u, x, y, rfl, h3, h4, h5⟩ := reps_three h2
  exact ⟨v, u, x, y, rfl, h1, h3, h4, h5⟩
/-- two operands -/
noncomputable def Bo (w : World) (d : Nat) (op : Operator) (p q t : PV) : Prop :=
  ∀ (V : Addr → Prop) (A : Around) (s : Shared) (Q : Value → Shared → Prop) (E : Value → Shared → Prop) (a b : Value), Room A d → Alive V s.heap → Rep V s.heap p a → Rep V s.heap q b →
    (∀ cv h' tk, Stays s.heap h' → Rep V h' t cv → Q cv { s with heap := h', toks := tk }) → wpAny (MW w) A (binaryOp op a b) Q E s
noncomputable def Co (w : World) (d : Nat) (op : CmpOp) (p q : PV) (c : Bool) : Prop :=
  ∀ (V : Addr → Prop) (A : Around) (s : Shared) (Q : Value → Shared → Prop) (E : Value → Shared → Prop) (a b : Value), Room A d → Alive V s.heap → Rep V s.heap p a → Rep V s.heap q b →
    (∀ h' tk, Stays s.heap h' → Q (.bool c) { s with heap := h', toks := tk }) → wpAny (MW w) A (compareOp op a b) Q E s
/-- truth of a value -/
noncomputable def Th (w : World) (d : Nat) (p : PV) (c : Bool) : Prop :=
  ∀ (V : Addr → Prop) (A : Around) (s : Shared) (Q : Bool → Shared → Prop) (E : Value → Shared → Prop) (a : Value), Room A d → Rep V s.heap p a →
    (∀ h' tk, Stays s.heap h' → Q c { s with heap := h', toks := tk }) → wpAny (MW w) A (truthy a) Q E s
/-- a callee -/
noncomputable def Fc (w : World) (d : Nat) (f : Value) (ps : List PV) (p : PV) : Prop :=
  ∀ (V : Addr → Prop) (A : Around) (s : Shared) (Q : Value → Shared → Prop) (E : Value → Shared → Prop) (cvs : List Value), Base w s.heap → Room A d → Alive V s.heap → Reps V s.heap ps cvs →
    (∀ cv h' tk, Stays s.heap h' → Rep V h' p cv → Q cv { s with heap := h', toks := tk }) → wpAny (MW w) A (call f cvs) Q E s
/-- a callee that makes a new list -/
noncomputable def FcF (w : World) (d : Nat) (f : Value) (ps : List PV) (xs : List PV) : Prop :=
  ∀ (V : Addr → Prop) (A : Around) (s : Shared) (Q : Value → Shared → Prop) (E : Value → Shared → Prop) (cvs : List Value), Base w s.heap → Room A d → Alive V s.heap → Reps V s.heap ps cvs →
    (∀ a vs h' tk, Stays s.heap h' → s.heap.get? a = none → h'.PlainList a (List.toArray vs) → Reps (fun b => V b ∨ b = a) h' xs vs → Q (.ref a) { s with heap := h', toks := tk }) → wpAny (MW w) A (call f cvs) Q E s
section
variable {w : World} {d : Nat} {Γ : Cx} {vals : List Sl}
theorem Ev.bin {l r : Expr} {op : Operator} {pos : Pos} {p q t : PV} (h1 : Ev w d Γ vals l p) (h2 : Ev w d Γ vals r q) (h3 : Bo w d op p q t) : Ev w d Γ vals (.BinOp l op r pos) t := fun env V A s Q E ok rm k =>
  wpAny_BinOp (h1 env V A s _ _ ok rm fun a h' tk st ra => h2 env V A _ _ _ (ok.stays st) rm fun b h'' tk' st' rb =>
    h3 V A _ _ _ a b rm ((ok.stays st).stays st').al (ra.stays st') rb fun cv h3 tk3 st3 r3 => k _ _ _ ((st.trans st').trans st3) r3)
theorem Ev.cmp {l r : Expr} {op : CmpOp} {pos : Pos} {p q : PV} {c : Bool} (h1 : Ev w d Γ vals l p) (h2 : Ev w d Γ vals r q) (h3 : Co w d op p q c) (hm : behindInMarks op r = false := by with_unfolding_all rfl) :
    Ev w d Γ vals (.Compare l [op] [r] pos) (.bool c) := fun env V A s Q E ok rm k =>
  wpAny_Compare1 (h1 env V A s _ _ ok rm fun a h' tk st ra => h2 env V A _ _ _ (ok.stays st) rm fun b h'' tk' st' rb =>
    h3 V A _ _ _ a b rm ((ok.stays st).stays st').al (ra.stays st') rb fun h3 tk3 st3 => k _ _ _ ((st.trans st').trans st3) mk_bool) hm
theorem Tr.cmp {l r : Expr} {op : CmpOp} {pos : Pos} {p q : PV} {c : Bool} (h1 : Ev w d Γ vals l p) (h2 : Ev w d Γ vals r q) (h3 : Co w d op p q c) (hm : behindInMarks op r = false := by with_unfolding_all rfl) :
    Tr w d Γ vals (.Compare l [op] [r] pos) c := fun env V A s Q E ok rm k =>
  wpAny_isTrue_Compare1 (h1 env V A s _ _ ok rm fun a h' tk st ra => h2 env V A _ _ _ (ok.stays st) rm fun b h'' tk' st' rb =>
    h3 V A _ _ _ a b rm ((ok.stays st).stays st').al (ra.stays st') rb fun h3 tk3 st3 => wpAny_truthy_bool (k _ _ ((st.trans st').trans st3))) hm
theorem Tr.val {e : Expr} {p : PV} {c : Bool} (h : Ev w d Γ vals e p) (ht : Th w d p c) (he : ∀ env whole, isTrue e env whole = (do let v ← whole; standAt e.pos; holding [v] (truthy v)) := by intro _ _; rfl) : Tr w d Γ vals e c := fun env V A s Q E ok rm k =>
  wpAny_isTrue_value (h env V A s _ _ ok rm fun cv h' tk st r => ht V A _ _ _ cv rm r fun h2 tk2 st2 => k _ _ (st.trans st2)) (he env _)
theorem Tr.not {e : Expr} {pos : Pos} {c : Bool} (h : Tr w d Γ vals e c) : Tr w d Γ vals (.UnaryOp .Not e pos) (!c) := fun env V A s Q E ok rm k =>
  wpAny_isTrue_Not (h env V A s _ _ ok rm fun h' tk st => k _ _ st)
/-- and, or as a test -/
inductive Ands (w : World) (d : Nat) (Γ : Cx) (vals : List Sl) : List Expr → Bool → Prop
  | nil : Ands w d Γ vals [] true
  | ff {e es} : Tr w d Γ vals e false → Ands w d Γ vals (e :: es) false
  | tt {e es b} : Tr w d Γ vals e true → Ands w d Γ vals es b → Ands w d Γ vals (e :: es) b
inductive Ors (w : World) (d : Nat) (Γ : Cx) (vals : List Sl) : List Expr → Bool → Prop
  | nil : Ors w d Γ vals [] false
  | tt {e es} : Tr w d Γ vals e true → Ors w d Γ vals (e :: es) true
  | ff {e es b} : Tr w d Γ vals e false → Ors w d Γ vals es b → Ors w d Γ vals (e :: es) b
theorem Ands.wp {es : List Expr} {b : Bool} (x : Ands w d Γ vals es b) : ∀ (env : Env) (V : Addr → Prop) (A : Around) (s : Shared) (Q : Bool → Shared → Prop) (E : Value → Shared → Prop), EnvOK w env Γ vals V s.heap → Room A d →
    (∀ h' tk, Stays s.heap h' → Q b { s with heap := h', toks := tk }) → wpAny (MW w) A (allTrue .And es env) Q E s := by
  induction x with
  | nil => intro env V A s Q E ok rm k; exact wpAny_allTrue_And_nil (k s.heap s.toks (Stays.refl _))
  | ff h => intro env V A s Q E ok rm k; exact wpAny_allTrue_And_cons (h env V A s _ _ ok rm fun h' tk st => by simp only [Bool.false_eq_true, if_false]; exact k _ _ st)
  | tt h _ ih => intro env V A s Q E ok rm k; exact wpAny_allTrue_And_cons (h env V A s _ _ ok rm fun h' tk st => by simp only [if_true]; exact ih env V A _ _ _ (ok.stays st) rm fun h2 tk2 st2 => k _ _ (st.trans st2))
theorem Ors.wp {es : List Expr} {b : Bool} (x : Ors w d Γ vals es b) : ∀ (env : Env) (V : Addr → Prop) (A : Around) (s : Shared) (Q : Bool → Shared → Prop) (E : Value → Shared → Prop), EnvOK w env Γ vals V s.heap → Room A d →
    (∀ h' tk, Stays s.heap h' → Q b { s with heap := h', toks := tk }) → wpAny (MW w) A (allTrue .Or es env) Q E s := by
  induction x with
  | nil => intro env V A s Q E ok rm k; exact wpAny_allTrue_Or_nil (k s.heap s.toks (Stays.refl _))
  | tt h => intro env V A s Q E ok rm k; exact wpAny_allTrue_Or_cons (h env V A s _ _ ok rm fun h' tk st => by simp only [if_true]; exact k _ _ st)
  | ff h _ ih => intro env V A s Q E ok rm k; exact wpAny_allTrue_Or_cons (h env V A s _ _ ok rm fun h' tk st => by simp only [Bool.false_eq_true, if_false]; exact ih env V A _ _ _ (ok.stays st) rm fun h2 tk2 st2 => k _ _ (st.trans st2))
theorem Tr.and {es : List Expr} {pos : Pos} {b : Bool} (x : Ands w d Γ vals es b) : Tr w d Γ vals (.BoolOp .And es pos) b := fun env V A s Q E ok rm k => wpAny_isTrue_BoolOp (x.wp env V A s Q E ok rm k)
theorem Tr.or {es : List Expr} {pos : Pos} {b : Bool} (x : Ors w d Γ vals es b) : Tr w d Γ vals (.BoolOp .Or es pos) b := fun env V A s Q E ok rm k => wpAny_isTrue_BoolOp (x.wp env V A s Q E ok rm k)
theorem Ev.or2 {x y : Expr} {pos : Pos} {p q : PV} {c : Bool} (h1 : Ev w d Γ vals x p) (ht : Th w d p c) (h2 : c = false → Ev w d Γ vals y q) : Ev w d Γ vals (.BoolOp .Or [x, y] pos) (if c then p else q) := fun env V A s Q E ok rm k =>
  wpAny_Or2 (h1 env V A s _ _ ok rm fun cv h' tk st r => ht V A _ _ _ cv rm r fun h2' tk2 st2 => by
    cases c with
    | true => simp only [if_true]; exact k _ _ _ (st.trans st2) (r.stays st2)
    | false => simp only [Bool.false_eq_true, if_false] at k ⊢; exact h2 rfl env V A _ _ _ ((ok.stays st).stays st2) rm fun cv h3 tk3 st3 r3 => k _ _ _ ((st.trans st2).trans st3) r3)
theorem Ev.ite {t x y : Expr} {pos : Pos} {p : PV} {c : Bool} (h1 : Tr w d Γ vals t c) (h2 : c = true → Ev w d Γ vals x p) (h3 : c = false → Ev w d Γ vals y p) : Ev w d Γ vals (.IfExp t x y pos) p := fun env V A s Q E ok rm k =>
  wpAny_IfExp (h1 env V A s _ _ ok rm fun h' tk st => by
    cases c with
    | true => simp only [if_true]; exact h2 rfl env V A _ _ _ (ok.stays st) rm fun cv h3 tk3 st3 r3 => k _ _ _ (st.trans st3) r3
    | false => simp only [Bool.false_eq_true, if_false]; exact h3 rfl env V A _ _ _ (ok.stays st) rm fun cv h3 tk3 st3 r3 => k _ _ _ (st.trans st3) r3)
-- operators
theorem Bo.addI {a b : Int} : Bo w d .Add (.int a) (.int b) (.int (a + b)) := fun V A s Q E x y rm al ra rb k => by
  obtain ⟨t, rfl⟩ := rep_int ra; obtain ⟨u, rfl⟩ := rep_int rb
  exact PyProof.Rows.add_int (k _ s.heap _ (Stays.refl _) mk_int)
theorem Bo.subI {a b : Int} : Bo w d .Sub (.int a) (.int b) (.int (a - b)) := fun V A s Q E x y rm al ra rb k => by
  obtain ⟨t, rfl⟩ := rep_int ra; obtain ⟨u, rfl⟩ := rep_int rb
  exact PyProof.Rows.sub_int (k _ s.heap _ (Stays.refl _) mk_int)
theorem Bo.mulI {a b : Int} (hm : IntMulOk a b) : Bo w d .Mult (.int a) (.int b) (.int (a * b)) := fun V A s Q E x y rm al ra rb k => by
  obtain ⟨t, rfl⟩ := rep_int ra; obtain ⟨u, rfl⟩ := rep_int rb
  exact PyProof.Rows.mul_int (k _ s.heap _ (Stays.refl _) mk_int) hm
theorem Bo.modI {a b : Int} (hb : b ≠ 0) : Bo w d .Mod (.int a) (.int b) (.int (a.fmod b)) := fun V A s Q E x y rm al ra rb k => by
  obtain ⟨t, rfl⟩ := rep_int ra; obtain ⟨u, rfl⟩ := rep_int rb
  exact PyProof.Rows.mod_int hb (k _ s.heap _ (Stays.refl _) mk_int)
theorem Bo.divI {a b : Int} (hb : ¬ (b == 0) = true) (hp : ¬ (Builtin.divisionGoesByPylong a b) = true) : Bo w d .FloorDiv (.int a) (.int b) (.int (a.fdiv b)) := fun V A s Q E x y rm al ra rb k => by
  obtain ⟨t, rfl⟩ := rep_int ra; obtain ⟨u, rfl⟩ := rep_int rb
  exact AutoIntOps.floordiv_1 hb hp (k _ s.heap _ (Stays.refl _) mk_int)
theorem Bo.powI {a n : Int} (hn : 0 ≤ n) (hsz : (Builtin.Int.intBits a : Int) * n ≤ 2 ^ 27) : Bo w d .Pow (.int a) (.int n) (.int (a ^ n.toNat)) := fun V A s Q E x y rm al ra rb k => by
  obtain ⟨t, rfl⟩ := rep_int ra; obtain ⟨u, rfl⟩ := rep_int rb
  exact PyProof.Rows.pow_int hn hsz (k _ s.heap _ (Stays.refl _) mk_int)
theorem Bo.shrI {a n : Int} (hn : 0 ≤ n) : Bo w d .RShift (.int a) (.int n) (.int (a.fdiv (2 ^ n.toNat))) := fun V A s Q E x y rm al ra rb k => by
  obtain ⟨t, rfl⟩ := rep_int ra; obtain ⟨u, rfl⟩ := rep_int rb
  exact PyProof.Rows.rshift_int hn (k _ s.heap _ (Stays.refl _) mk_int)
theorem Bo.andI {a b : Int} : Bo w d .BitAnd (.int a) (.int b) (.int (Builtin.bitAnd a b)) := fun V A s Q E x y rm al ra rb k => by
  obtain ⟨t, rfl⟩ := rep_int ra; obtain ⟨u, rfl⟩ := rep_int rb
  exact PyProof.Rows.and_int (k _ s.heap _ (Stays.refl _) mk_int)
theorem Bo.addS {a b : Str} (hsz : a.length + b.length ≤ sizeLine) : Bo w d .Add (.str a) (.str b) (.str (a ++ b)) := fun V A s Q E x y rm al ra rb k => by
  obtain ⟨t, rfl⟩ := rep_str ra; obtain ⟨u, rfl⟩ := rep_str rb
  exact PyProof.Rows.add_str (fun t' tk => k _ s.heap _ (Stays.refl _) mk_str) hsz
theorem Co.eqI {a b : Int} : Co w d .Eq (.int a) (.int b) (a == b) := fun V A s Q E x y rm al ra rb k => by
  obtain ⟨t, rfl⟩ := rep_int ra; obtain ⟨u, rfl⟩ := rep_int rb
  exact PyProof.Rows.eq_int (k s.heap s.toks (Stays.refl _))
theorem Co.neI {a b : Int} : Co w d .NotEq (.int a) (.int b) (a != b) := fun V A s Q E x y rm al ra rb k => by
  obtain ⟨t, rfl⟩ := rep_int ra; obtain ⟨u, rfl⟩ := rep_int rb
  exact PyProof.Rows.ne_int (k s.heap s.toks (Stays.refl _))
theorem Co.ltI {a b : Int} : Co w d .Lt (.int a) (.int b) (decide (a < b)) := fun V A s Q E x y rm al ra rb k => by
  obtain ⟨t, rfl⟩ := rep_int ra; obtain ⟨u, rfl⟩ := rep_int rb
  exact PyProof.Rows.lt_int (k s.heap s.toks (Stays.refl _))
theorem Co.gtI {a b : Int} : Co w d .Gt (.int a) (.int b) (decide (b < a)) := fun V A s Q E x y rm al ra rb k => by
  obtain ⟨t, rfl⟩ := rep_int ra; obtain ⟨u, rfl⟩ := rep_int rb
  exact PyProof.Rows.gt_int (k s.heap s.toks (Stays.refl _))
theorem Co.geI {a b : Int} : Co w d .GtE (.int a) (.int b) (decide (b ≤ a)) := fun V A s Q E x y rm al ra rb k => by
  obtain ⟨t, rfl⟩ := rep_int ra; obtain ⟨u, rfl⟩ := rep_int rb
  exact PyProof.Rows.ge_int (k s.heap s.toks (Stays.refl _))
theorem Co.eqS {a b : Str} : Co w d .Eq (.str a) (.str b) (a == b) := fun V A s Q E x y rm al ra rb k => by
  obtain ⟨t, rfl⟩ := rep_str ra; obtain ⟨u, rfl⟩ := rep_str rb
  exact PyProof.Rows.eq_str (k s.heap s.toks (Stays.refl _))
theorem Co.neS {a b : Str} : Co w d .NotEq (.str a) (.str b) (a != b) := fun V A s Q E x y rm al ra rb k => by
  obtain ⟨t, rfl⟩ := rep_str ra; obtain ⟨u, rfl⟩ := rep_str rb
  exact PyProof.Rows.ne_str (k s.heap s.toks (Stays.refl _))
theorem Co.inS {a b : Str} : Co w d .In (.str b) (.str a) (Txt.contains a b) := fun V A s Q E x y rm al ra rb k => by
  obtain ⟨t, rfl⟩ := rep_str ra; obtain ⟨u, rfl⟩ := rep_str rb
  exact SB.contains (k s.heap s.toks (Stays.refl _))
theorem Co.notInS {a b : Str} : Co w d .NotIn (.str b) (.str a) (!Txt.contains a b) := fun V A s Q E x y rm al ra rb k => by
  obtain ⟨t, rfl⟩ := rep_str ra; obtain ⟨u, rfl⟩ := rep_str rb
  exact SB.notContains (k s.heap s.toks (Stays.refl _))
theorem Co.isNotT {X Y : String} : Co w d .IsNot (.type X) (.type Y) (!(Value.type X == Value.type Y)) := fun V A s Q E x y rm al ra rb k => by
  obtain rfl := rep_type ra; obtain rfl := rep_type rb
  exact isnot_type (k s.heap s.toks (Stays.refl _))
theorem Co.eqB {a b : Bool} : Co w d .Eq (.bool a) (.bool b) (a == b) := fun V A s Q E x y rm al ra rb k => by
  obtain rfl := rep_bool ra; obtain rfl := rep_bool rb
  exact PyProof.Rows.eq_bool (k s.heap s.toks (Stays.refl _))
-- as data
mutual
noncomputable def PV.py : PV → Option PyData
  | .none => some .none
  | .bool b => some (.bool b)
  | .int i => some (.int i)
  | .str x => some (.str x)
  | .list xs => (PV.pys xs).map .list
  | .tup xs => (PV.pys xs).map .tuple
  | .range _ _ _ => Option.none
  | .type _ => Option.none
  | .bi _ => Option.none
  | .fn _ => Option.none
noncomputable def PV.pys : List PV → Option (List PyData)
  | [] => some []
  | x :: xs => match PV.py x, PV.pys xs with
    | some a, some b => some (a :: b)
    | _, _ => Option.none
end
mutual
theorem Rep.reads {V : Addr → Prop} {h : Heap} : ∀ {p : PV} {v : Value} {dt : PyData}, Rep V h p v → p.py = some dt → ∃ as, Reads h v dt as
  | .none, _, _, r, e => by cases rep_none r; simp only [PV.py, Option.some.injEq] at e; subst e; exact ⟨_, .none⟩
  | .bool _, _, _, r, e => by cases rep_bool r; simp only [PV.py, Option.some.injEq] at e; subst e; exact ⟨_, .bool _⟩
  | .int _, _, _, r, e => by obtain ⟨t, rfl⟩ := rep_int r; simp only [PV.py, Option.some.injEq] at e; subst e; exact ⟨_, .int _ _⟩
  | .str _, _, _, r, e => by obtain ⟨t, rfl⟩ := rep_str r; simp only [PV.py, Option.some.injEq] at e; subst e; exact ⟨_, .str _ _⟩
  | .list xs, _, _, r, e => by
    obtain ⟨a, vs, rfl, _, ⟨n, hl⟩, hr⟩ := rep_list r
    simp only [PV.py, Option.map_eq_some_iff] at e
    obtain ⟨ds, e1, rfl⟩ := e
    obtain ⟨as, ra⟩ := Reps.reads hr e1
    exact ⟨_, .list hl rfl rfl (by simpa using ra)⟩
  | .tup xs, _, _, r, e => by
    obtain ⟨a, vs, rfl, _, hl, hr⟩ := rep_tup r
    simp only [PV.py, Option.map_eq_some_iff] at e
    obtain ⟨ds, e1, rfl⟩ := e
    obtain ⟨as, ra⟩ := Reps.reads hr e1
    exact ⟨_, .tuple hl rfl rfl (by simpa using ra)⟩
  | .range _ _ _, _, _, _, e => by simp [PV.py] at e
  | .type _, _, _, _, e => by simp [PV.py] at e
  | .bi _, _, _, _, e => by simp [PV.py] at e
  | .fn _, _, _, _, e => by simp [PV.py] at e
theorem Reps.reads {V : Addr → Prop} {h : Heap} : ∀ {ps : List PV} {vs : List Value} {ds : List PyData}, Reps V h ps vs → PV.pys ps = some ds → ∃ as, ReadsAll h vs ds as
  | [], _, _, r, e => by cases reps_nil r; simp only [PV.pys, Option.some.injEq] at e; subst e; exact ⟨_, .nil⟩
  | p :: ps, _, _, r, e => by
    obtain ⟨v, us, rfl, h1, h2⟩ := reps_cons r
    simp only [PV.pys] at e
    split at e
    · rename_i x y e1 e2
      cases e
      obtain ⟨as, ra⟩ := Rep.reads h1 e1
      obtain ⟨bs, rb⟩ := Reps.reads h2 e2
      exact ⟨_, .cons ra rb⟩
    · cases e
end
theorem Co.eqD {p q : PV} {a b : PyData} (ha : p.py = some a) (hb : q.py = some b) (sa : PySem.SeqAt.shaped a = true) (sb : PySem.SeqAt.shaped b = true) : Co w d .Eq p q (PyData.eqv a b) := fun V A s Q E x y rm al ra rb k => by
  obtain ⟨as, r1⟩ := ra.reads ha
  obtain ⟨bs, r2⟩ := rb.reads hb
  exact eq_dataH r1 r2 sa sb (by have := rm.un; (first | lia | omega)) (k s.heap s.toks (Stays.refl _))
theorem Co.neD {p q : PV} {a b : PyData} (ha : p.py = some a) (hb : q.py = some b) (sa : PySem.SeqAt.shaped a = true) (sb : PySem.SeqAt.shaped b = true) : Co w d .NotEq p q (!PyData.eqv a b) := fun V A s Q E x y rm al ra rb k => by
  obtain ⟨as, r1⟩ := ra.reads ha
  obtain ⟨bs, r2⟩ := rb.reads hb
  exact ne_dataH r1 r2 sa sb (by have := rm.un; (first | lia | omega)) (k s.heap s.toks (Stays.refl _))
theorem reps_ints {V : Addr → Prop} {h : Heap} : ∀ {ns : List Int} {vs : List Value}, Reps V h (ns.map PV.int) vs → IntsAre vs ns
  | [], _, r => by cases reps_nil r; exact .nil
  | n :: ns, _, r => by
    obtain ⟨v, us, rfl, h1, h2⟩ := reps_cons r
    obtain ⟨t, rfl⟩ := rep_int h1
    exact .cons n t (reps_ints h2)
theorem Co.inL {k : Int} {ns : List Int} : Co w d .In (.int k) (.list (ns.map PV.int)) (KTD.inNums k ns) := fun V A s Q E x y rm al ra rb k => by
  obtain ⟨t, rfl⟩ := rep_int ra
  obtain ⟨a, vs, rfl, _, hl, hr⟩ := rep_list rb
  exact KTD.in_nums (h₀ := s.heap) ⟨vs, hl.isList, reps_ints hr⟩ (fun _ _ e => e) (k s.heap s.toks (Stays.refl _))
theorem Co.notInL {k : Int} {ns : List Int} : Co w d .NotIn (.int k) (.list (ns.map PV.int)) (!KTD.inNums k ns) := fun V A s Q E x y rm al ra rb k => by
  obtain ⟨t, rfl⟩ := rep_int ra
  obtain ⟨a, vs, rfl, _, hl, hr⟩ := rep_list rb
  exact KTD.notin_nums (h₀ := s.heap) ⟨vs, hl.isList, reps_ints hr⟩ (fun _ _ e => e) (k s.heap s.toks (Stays.refl _))
end
end Mine
end
noncomputable section
namespace Mine
open PySem.Calls
/-- a text by its signs -/
noncomputable def S (l : List Nat) : Str := ⟨l.toArray⟩
theorem S_len (l : List Nat) : (S l).length = l.length := by simp [S, Str.length]
theorem S_add (a b : List Nat) : S a ++ S b = S (a ++ b) := by
  show Str.append _ _ = _
  simp [S, Str.append]
theorem S_inj {a b : List Nat} : S a = S b ↔ a = b := by
  constructor
  · intro h
    have := congrArg (fun x : Str => x.cps.toList) h
    simpa [S] using this
  · rintro rfl; rfl
theorem S_beq (a b : List Nat) : (S a == S b) = decide (a = b) := by
  by_cases h : a = b
  · subst h; simp
  · simp only [h, decide_false, beq_eq_false_iff_ne, ne_eq, S_inj, not_false_eq_true]
theorem S_bne (a b : List Nat) : (S a != S b) = !decide (a = b) := by rw [bne, S_beq]
theorem S_of (x : Str) : x = S x.cps.toList := by obtain ⟨a⟩ := x; simp [S]
section
variable {w : World} {d : Nat} {Γ : Cx} {vals : List Sl}
theorem Th.bool {b : Bool} : Th w d (.bool b) b := fun V A s Q E a rm r k => by
  obtain rfl := rep_bool r
  exact wpAny_truthy_bool (k s.heap s.toks (Stays.refl _))
theorem Th.int {i : Int} : Th w d (.int i) (i != 0) := fun V A s Q E a rm r k => by
  obtain ⟨t, rfl⟩ := rep_int r
  exact PyProof.Rows.truthy_int (k s.heap s.toks (Stays.refl _))
theorem Th.str {l : List Nat} (hz : l.length ≤ sizeLine) : Th w d (.str (S l)) (!l.isEmpty) := fun V A s Q E a rm r k => by
  obtain ⟨t, rfl⟩ := rep_str r
  have e : (((S l).length : Int) != 0) = !l.isEmpty := by rw [S_len]; cases l <;> simp; (first | lia | omega)
  refine P.truthy_str (by rw [S_len]; rw [sizeLine_eq] at hz; (first | lia | omega)) ?_
  rw [e]
  exact k s.heap _ (Stays.refl _)
theorem Ev.neg {e : Expr} {pos : Pos} {i : Int} (h : Ev w d Γ vals e (.int i)) : Ev w d Γ vals (.UnaryOp .USub e pos) (.int (-i)) := fun env V A s Q E ok rm k =>
  wpAny_UnaryOp (h env V A s _ _ ok rm fun cv h' tk st r => by
    obtain ⟨t, rfl⟩ := rep_int r
    exact PyProof.Rows.neg_int (k _ _ _ st mk_int))
theorem EvF.list {elts : List Expr} {pos : Pos} {ps : List PV} (h : EvL w d Γ vals elts ps) (hz : ps.length ≤ sizeLine) : EvF w d Γ vals (.List elts pos) ps := fun env V A s Q E ok rm k =>
  wpAny_List (h pos env V A s _ _ ok rm fun cvs h' tk st r => ⟨by rw [r.length]; exact hz,
    k _ cvs _ _ (st.trans (Stays.push _ _)) (by
      cases e : s.heap.get? h'.objs.size with
      | none => rfl
      | some o => exact absurd (Heap.lt_size (st _ _ e)) (Nat.lt_irrefl _)) ⟨0, Heap.get?_push_size _ rfl⟩ (r.newer (size_new _) (Stays.push _ _))⟩)
theorem Ev.tup {elts : List Expr} {n : Nat} {pos : Pos} {ps : List PV} (h : EvL w d Γ vals elts ps) (hz : ps.length ≤ sizeLine) : Ev w d Γ vals (.Tuple elts n pos) (.tup ps) := fun env V A s Q E ok rm k =>
  wpAny_Tuple (h pos env V A s _ _ ok rm fun cvs h' tk st r => ⟨by rw [r.length]; exact hz,
    k _ _ _ (st.trans (Stays.push _ _)) (Rep.mkTup (Alive.size ((ok.stays st).al)) (Heap.get?_push_size _ rfl) (r.stays (Stays.push _ _)))⟩)
/-- an item by a number -/
noncomputable def Gi (w : World) (d : Nat) (p q t : PV) : Prop :=
  ∀ (V : Addr → Prop) (A : Around) (s : Shared) (Q : Value → Shared → Prop) (E : Value → Shared → Prop) (a b : Value), Room A d → Rep V s.heap p a → Rep V s.heap q b →
    (∀ cv h' tk, Stays s.heap h' → Rep V h' t cv → Q cv { s with heap := h', toks := tk }) → ∃ T id, s.TypeIs a T ∧ typeLookup (.type T) "__getitem__" = pure (some (.builtin id)) ∧ wpAny (MW w) A (getItem a b) Q E s
theorem Ev.sub {e i : Expr} {pos : Pos} {p q t : PV} (h1 : Ev w d Γ vals e p) (h2 : Ev w d Γ vals i q) (h3 : Gi w d p q t) (hs : ∀ a b, subscripted i false a b = operate [a, b] (getItem a b) := by intro _ _; rfl) :
    Ev w d Γ vals (.Subscript e i pos) t := fun env V A s Q E ok rm k =>
  Subscript_ (h1 env V A s _ _ ok rm fun a h' tk st ra => h2 env V A _ _ _ (ok.stays st) rm fun b h'' tk' st' rb => by
    obtain ⟨T, id, hT, hl, hg⟩ := h3 V A { s with heap := h'', toks := tk' } Q E a b rm (ra.stays st') rb fun cv h3 tk3 st3 r3 => k _ _ _ ((st.trans st').trans st3) r3
    exact tail_any hT hl hg (hs a b))
theorem Gi.list {xs : List PV} {k : Int} {p : PV} (h0 : 0 ≤ k) (hfit : k < 2 ^ 63) (hx : xs[k.toNat]? = some p) : Gi w d (.list xs) (.int k) p := fun V A s Q E a b rm ra rb kk => by
  obtain ⟨a, vs, rfl, _, hl, hr⟩ := rep_list ra
  obtain ⟨t, rfl⟩ := rep_int rb
  obtain ⟨v, hv, rv⟩ := hr.get hx
  exact ⟨_, _, hl.isList.typeIs, slot_list_getitem.lookup, wpAny_getItem_list hl.isList h0 hfit (by simpa using hv) (kk _ _ _ (Stays.refl _) rv)⟩
theorem Gi.str {l : List Nat} {k : Int} {c : Nat} (h0 : 0 ≤ k) (hfit : k < 2 ^ 63) (hx : l[k.toNat]? = some c) : Gi w d (.str (S l)) (.int k) (.str (S [c])) := fun V A s Q E a b rm ra rb kk => by
  obtain ⟨t, rfl⟩ := rep_str ra
  obtain ⟨u, rfl⟩ := rep_int rb
  have hc : Txt.charAt (S l) k = some c := by
    obtain ⟨n, rfl⟩ := Int.eq_ofNat_of_zero_le h0
    have hlt : n < l.length := by
      have := List.getElem?_eq_some_iff.mp hx
      obtain ⟨h, _⟩ := this
      simpa using h
    have e : seqIndex? ((n : Nat) : Int) (S l).length = some n := by
      simp only [seqIndex?, S_len]
      rw [if_neg (by (first | lia | omega) : ¬ ((n : Nat) : Int) < 0)]
      rw [if_pos (by simp; (first | lia | omega))]
      simp
    simp only [Txt.charAt, e, Option.bind_some]
    simpa [S] using hx
  refine ⟨_, _, typeIs_str _ _ _, F.slot_str_getitem.lookup, SB.getItem (by unfold fitsSsize; simp; (first | lia | omega)) (by rw [hc]; rfl) ?_⟩
  have e : Txt.item (S l) k = S [c] := by unfold Txt.item; rw [hc]; rfl
  rw [e]
  exact kk _ s.heap _ (Stays.refl _) mk_str
theorem Gi.strNeg {l : List Nat} {k : Int} {c : Nat} (h0 : k < 0) (h1 : -(l.length : Int) ≤ k) (hfit : -(2 ^ 63) ≤ k) (hx : l[(k + l.length).toNat]? = some c) : Gi w d (.str (S l)) (.int k) (.str (S [c])) := fun V A s Q E a b rm ra rb kk => by
  obtain ⟨t, rfl⟩ := rep_str ra
  obtain ⟨u, rfl⟩ := rep_int rb
  have hc : Txt.charAt (S l) k = some c := by
    have hlt : (k + l.length).toNat < l.length := by (first | lia | omega)
    have e : seqIndex? k (S l).length = some (k + l.length).toNat := by
      simp only [seqIndex?, S_len]
      rw [if_pos h0]
      rw [if_pos (by simp; (first | lia | omega))]
    simp only [Txt.charAt, e, Option.bind_some]
    simpa [S] using hx
  refine ⟨_, _, typeIs_str _ _ _, F.slot_str_getitem.lookup, SB.getItem (by unfold fitsSsize; simp; (first | lia | omega)) (by rw [hc]; rfl) ?_⟩
  have e : Txt.item (S l) k = S [c] := by unfold Txt.item; rw [hc]; rfl
  rw [e]
  exact kk _ s.heap _ (Stays.refl _) mk_str
/-- a part of a slice -/
noncomputable def EvO (w : World) (d : Nat) (Γ : Cx) (vals : List Sl) (x : Option Expr) (k : Option Int) : Prop :=
  ∀ (env : Env) (V : Addr → Prop) (A : Around) (s : Shared) (Q : Value → Shared → Prop) (E : Value → Shared → Prop), EnvOK w env Γ vals V s.heap → Room A d →
    (∀ cv h' tk, Stays s.heap h' → IsPart cv k → Q cv { s with heap := h', toks := tk }) → wpAny (MW w) A (evalPart x env) Q E s
theorem EvO.none : EvO w d Γ vals Option.none Option.none := fun env V A s Q E ok rm k => wpAny_pure (k _ s.heap s.toks (Stays.refl _) .none)
theorem EvO.int {e : Expr} {i : Int} (h : Ev w d Γ vals e (.int i)) : EvO w d Γ vals (some e) (some i) := fun env V A s Q E ok rm k =>
  h env V A s _ _ ok rm fun cv h' tk st r => by obtain ⟨t, rfl⟩ := rep_int r; exact k _ _ _ st (.int _ _)
theorem EvO.nil {e : Expr} (h : Ev w d Γ vals e .none) : EvO w d Γ vals (some e) Option.none := fun env V A s Q E ok rm k =>
  h env V A s _ _ ok rm fun cv h' tk st r => by obtain rfl := rep_none r; exact k _ _ _ st .none
theorem part_value {v : Value} {k : Option Int} (h : IsPart v k) : ∃ l : Option (Int × Tok), v = partValue l ∧ l.map (·.1) = k := by
  cases h with
  | none => exact ⟨Option.none, rfl, rfl⟩
  | int i t => exact ⟨some (i, t), rfl, rfl⟩
/-- a slice with step 1 -/
noncomputable def psl (l : List Nat) (lo hi : Option Int) : List Nat := (l.drop (lo.elim 0 (clipAt l.length))).take (hi.elim l.length (clipAt l.length) - lo.elim 0 (clipAt l.length))
theorem strSliceIndices_plain (lo hi : Option Int) (n : Nat) : Builtin.Str.strSliceIndices lo hi 1 n = sliceRange ((lo.elim 0 (clipAt n) : Nat) : Int) ((hi.elim n (clipAt n) : Nat) : Int) 1 := by
  unfold Builtin.Str.strSliceIndices
  cases lo <;> cases hi <;> simp [clipAt_cast]
theorem pick_str (l : List Nat) (lo hi : Option Int) : (Builtin.Str.strSliceIndices lo hi 1 l.length).filterMap (l.toArray[·]?) = psl l lo hi := by
  rw [strSliceIndices_plain, sliceRange_one, pick_run]
  rfl
theorem psl_le (l : List Nat) (lo hi : Option Int) : (psl l lo hi).length ≤ l.length := by
  unfold psl
  simp only [List.length_take, List.length_drop]
  (first | lia | omega)
theorem getSlice_str {V : Addr → Prop} {A : Around} {s : Shared} {Q : Value → Shared → Prop} {E : Value → Shared → Prop} {l : List Nat} {t : Tok} {a : Addr} {lo hi : Option Int} {vl vu : Value} (hz : l.length ≤ sizeLine)
    (hs : s.heap.get? a = some { cls := .type "slice", data := .fields #[vl, vu, .none] }) (pl : IsPart vl lo) (pu : IsPart vu hi)
    (k : ∀ t' tk, Q (.str (S (psl l lo hi)) t') { s with toks := tk }) : wpAny (MW w) A (getItem (.str (S l) t) (.ref a)) Q E s := by
  obtain ⟨l1, rfl, e1⟩ := part_value pl
  obtain ⟨u1, rfl, e2⟩ := part_value pu
  refine wpAny_getItem_str_slice (l := l1) (u := u1) (st := Option.none) ⟨_, hs, rfl, rfl⟩ rfl ?_
  unfold sliceMade slicePicked
  rw [e1, e2]
  have e3 : (Builtin.Str.strSliceIndices lo hi 1 (S l).length).filterMap ((S l).cps[·]?) = psl l lo hi := by rw [S_len]; exact pick_str l lo hi
  simp only [Option.map_none, Option.getD_none]
  split
  · rename_i hc
    have hlen : (Builtin.Str.strSliceIndices lo hi 1 (S l).length).length = (S l).length := by simpa using hc
    have e4 : psl l lo hi = l := by
      rw [S_len, strSliceIndices_plain, sliceRange_one] at hlen
      simp only [List.length_map, List.length_range] at hlen
      unfold psl
      have h1 : (hi.elim l.length (clipAt l.length)) ≤ l.length := by
        cases hi with
        | none => simp
        | some i => have := clipAt_cast l.length i; simp only [Option.elim]; (first | lia | omega)
      have h3 : (lo.elim 0 (clipAt l.length)) ≤ l.length := by
        cases lo with
        | none => simp
        | some i => have := clipAt_cast l.length i; simp only [Option.elim]; (first | lia | omega)
      have h2 : (lo.elim 0 (clipAt l.length)) = 0 := by (first | lia | omega)
      rw [h2]
      simp only [List.drop_zero, Nat.sub_zero]
      exact List.take_of_length_le (by (first | lia | omega))
    have := k t s.toks
    rw [e4] at this
    exact this
  · refine ⟨?_, ?_⟩
    · rw [show (⟨((Builtin.Str.strSliceIndices lo hi 1 (S l).length).filterMap ((S l).cps[·]?)).toArray⟩ : Str) = S (psl l lo hi) by rw [e3]; rfl, S_len]
      exact Nat.le_trans (psl_le _ _ _) hz
    · rw [show (⟨((Builtin.Str.strSliceIndices lo hi 1 (S l).length).filterMap ((S l).cps[·]?)).toArray⟩ : Str) = S (psl l lo hi) by rw [e3]; rfl]
      exact k _ _
theorem Ev.slice {e : Expr} {lower upper : Option Expr} {sp pos : Pos} {l : List Nat} {lo hi : Option Int} (h1 : Ev w d Γ vals e (.str (S l))) (hl : EvO w d Γ vals lower lo) (hu : EvO w d Γ vals upper hi) (hz : l.length ≤ sizeLine) :
    Ev w d Γ vals (.Subscript e (.Slice lower upper Option.none sp) pos) (.str (S (psl l lo hi))) := fun env V A s Q E ok rm k =>
  Subscript_ (h1 env V A s _ _ ok rm fun a h' tk st ra => wpAny_Slice (hl env V A _ _ _ (ok.stays st) rm fun vl h2 tk2 st2 p2 => hu env V A _ _ _ ((ok.stays st).stays st2) rm fun vu h3 tk3 st3 p3 => wpAny_pure (by
    obtain ⟨t, rfl⟩ := rep_str ra
    refine tail_any (T := "str") (typeIs_str _ _ _) F.slot_str_getitem.lookup (getSlice_str (V := V) (t := t) hz (Heap.get?_push_size _ rfl) p2 p3 fun t' tk' => ?_) rfl
    exact k _ _ _ (((st.trans st2).trans st3).trans (Stays.push _ _)) mk_str)))
theorem Ev.rev {e step : Expr} {sp pos : Pos} {l : List Nat} (h1 : Ev w d Γ vals e (.str (S l))) (hst : EvO w d Γ vals (some step) (some (-1))) (hz : l.length ≤ sizeLine) :
    Ev w d Γ vals (.Subscript e (.Slice Option.none Option.none (some step) sp) pos) (.str (S l.reverse)) := fun env V A s Q E ok rm k =>
  Subscript_ (h1 env V A s _ _ ok rm fun a h' tk st ra => wpAny_Slice (wpAny_pure (wpAny_pure (hst env V A _ _ _ (ok.stays st) rm fun vs h2 tk2 st2 p2 => by
    obtain ⟨t, rfl⟩ := rep_str ra
    obtain ⟨s1, rfl, e1⟩ := part_value p2
    have e0 : (Builtin.Str.strSliceIndices Option.none Option.none (-1) (S l).length).filterMap ((S l).cps[·]?) = l.reverse := by
      rw [S_len]
      have hidx : Builtin.Str.strSliceIndices Option.none Option.none (-1) l.length = (List.range l.length).reverse := by
        unfold Builtin.Str.strSliceIndices sliceRange
        simp only [show ¬ ((-1 : Int) > 0) by decide, if_false]
        rcases Nat.eq_zero_or_pos l.length with h0 | h0
        · rw [h0]; rfl
        · rw [if_pos (by (first | lia | omega))]
          have : (((l.length : Int) - 1 - -1 - -1 - 1) / (- -1)).toNat = l.length := by
            rw [show (- -1 : Int) = 1 by decide, Int.ediv_one]; (first | lia | omega)
          rw [this]
          apply List.ext_getElem
          · simp
          · intro i h1 h2
            simp only [List.getElem_map, List.getElem_range, List.getElem_reverse, List.length_range]
            simp only [List.length_map, List.length_range] at h1
            (first | lia | omega)
      rw [hidx, List.filterMap_reverse]
      congr 1
      have := pick_run l.toArray 0 l.length
      simp only [Nat.zero_add, List.map_id'] at this
      rw [show ((fun x => (S l).cps[x]?) : Nat → Option Nat) = (fun x => l.toArray[x]?) from rfl]
      simpa using this
    refine tail_any (T := "str") (typeIs_str _ _ _) F.slot_str_getitem.lookup (wpAny_getItem_str_slice (l := Option.none) (u := Option.none) (st := s1) ⟨_, Heap.get?_push_size _ rfl, rfl, rfl⟩ (by rw [e1]; rfl) ?_) rfl
    unfold sliceMade slicePicked
    rw [e1]
    simp only [Option.map_none, Option.getD_some]
    rw [if_neg (by simp)]
    rw [show (⟨((Builtin.Str.strSliceIndices Option.none Option.none (-1) (S l).length).filterMap ((S l).cps[·]?)).toArray⟩ : Str) = S l.reverse by rw [e0]; rfl]
    exact ⟨by rw [S_len, List.length_reverse]; exact hz, k _ _ _ ((st.trans st2).trans (Stays.push _ _)) mk_str⟩))))
end
end Mine
end
noncomputable section
namespace Mine
open PySem.Calls
/-- how the interpreter keeps a callee -/
noncomputable def KeptC (w : World) (f : Value) : Prop := ∀ h, Base w h → ∃ k, (k = Keeper.frame ∨ k = Keeper.machine ∨ k = Keeper.boundFrame) ∧ Looks (MW w) h (keeperOf f) k
theorem KeptC.blt {w : World} (id : String) : KeptC w (.builtin id) := fun h b => ⟨.machine, .inr (.inl rfl), Looks.of_pure rfl⟩
theorem KeptC.typ {w : World} (n : String) : KeptC w (.type n) := fun h b => ⟨.machine, .inr (.inl rfl), Looks.of_pure rfl⟩
theorem KeptC.fn {w : World} {a : Addr} (e : keepIn (hd.heap_39 w.params) (.ref a) = true) : KeptC w (.ref a) := fun h ⟨_, _, _, X, _⟩ => keeps_K e h X
section
variable {w : World} {d : Nat} {Γ : Cx} {vals : List Sl}
theorem callWith_any {env : Env} {pos : Pos} {f : Value} {first : List Value} {e : Expr} {es : List Expr} {ps : List PV} {V : Addr → Prop} {A : Around} {s : Shared} {Q : Value → Shared → Prop} {E : Value → Shared → Prop}
    (hk : KeptC w f) (ha : EvL w d Γ vals (e :: es) ps) (ok : EnvOK w env Γ vals V s.heap) (rm : Room A d)
    (h : ∀ cvs h' tk, Stays s.heap h' → Reps V h' ps cvs → wpAny (MW w) A (call f (first ++ cvs)) Q E { s with heap := h', toks := tk })
    (he : starEach (e :: es) env = (false, eval e env) :: starEach es env) (hp : (backTo pos (starEach es env)).any (·.1) = false) :
    wpAny (MW w) A (callWith pos f first (backTo pos (starEach (e :: es) env)) []) Q E s := by
  have h1 := ha pos env V A s (fun cvs s₁ => Base w s₁.heap ∧ wpAny (MW w) A (call f (first ++ cvs)) Q E s₁) E ok rm fun cvs h' tk st r => ⟨ok.base.stays st, h cvs h' tk st r⟩
  rw [he] at h1 ⊢
  exact callWith_of (by show ((false || (backTo pos (starEach es env)).any (·.1)) || false) = false; rw [hp]; rfl) hk (evalArgs_plain h1)
theorem callWith_zero {env : Env} {pos : Pos} {f : Value} {first : List Value} {V : Addr → Prop} {A : Around} {s : Shared} {Q : Value → Shared → Prop} {E : Value → Shared → Prop}
    (hk : KeptC w f) (ok : EnvOK w env Γ vals V s.heap) (h : wpAny (MW w) A (call f (first ++ [])) Q E s) :
    wpAny (MW w) A (callWith pos f first (backTo pos (starEach [] env)) []) Q E s :=
  callWith_of rfl hk (evalArgs_nil3 ⟨ok.base, h⟩)
theorem Ev.call {x : Str} {np pos : Pos} {e : Expr} {es : List Expr} {ps : List PV} {p : PV} {f : Value} (g : x ∈ Γ.globs) (v : GVal w x f) (hk : KeptC w f) (ha : EvL w d Γ vals (e :: es) ps) (hf : Fc w d f ps p)
    (he : ∀ env, starEach (e :: es) env = (false, eval e env) :: starEach es env := by intro _; rfl) (hp : ∀ env, (backTo pos (starEach es env)).any (·.1) = false := by intro _; rfl) :
    Ev w d Γ vals (.Call (.Name x np) (e :: es) [] pos) p := fun env V A s Q E ok rm k => by
  obtain ⟨hd, gf⟩ := v
  obtain ⟨mg, mb, h1, h2, h3⟩ := gf _ ok.base
  refine wpAny_Call_NameR ?_
  have fin : wpAny (MW w) A (callWith pos f [] (backTo pos (starEach (e :: es) env)) []) Q E s :=
    callWith_any hk ha ok rm (fun cvs h' tk st r => hf V A _ _ _ cvs (ok.base.stays st) rm ((ok.stays st).al) r fun cv h2 tk2 st2 r2 => k _ _ _ (st.trans st2) r2) (he env) (hp env)
  rcases h3 with h3 | ⟨h3, h4⟩
  · exact Name_function_global ok.kind (ok.gk x g) (loadGlobal_global (by rw [ok.glb]; exact h1) h3 fin) hd
  · exact Name_function_global ok.kind (ok.gk x g) (loadGlobal_builtin (by rw [ok.glb]; exact h1) h3 (by rw [ok.bln]; exact h2) h4 fin) hd
theorem EvF.call {x : Str} {np pos : Pos} {e : Expr} {es : List Expr} {ps xs : List PV} {f : Value} (g : x ∈ Γ.globs) (v : GVal w x f) (hk : KeptC w f) (ha : EvL w d Γ vals (e :: es) ps) (hf : FcF w d f ps xs)
    (he : ∀ env, starEach (e :: es) env = (false, eval e env) :: starEach es env := by intro _; rfl) (hp : ∀ env, (backTo pos (starEach es env)).any (·.1) = false := by intro _; rfl) :
    EvF w d Γ vals (.Call (.Name x np) (e :: es) [] pos) xs := fun env V A s Q E ok rm k => by
  obtain ⟨hd, gf⟩ := v
  obtain ⟨mg, mb, h1, h2, h3⟩ := gf _ ok.base
  refine wpAny_Call_NameR ?_
  have fin : wpAny (MW w) A (callWith pos f [] (backTo pos (starEach (e :: es) env)) []) Q E s :=
    callWith_any hk ha ok rm (fun cvs h' tk st r => hf V A _ _ _ cvs (ok.base.stays st) rm ((ok.stays st).al) r fun a vs h2 tk2 st2 hn hl r2 => k _ _ _ _ (st.trans st2) (by
      cases e : s.heap.get? a with
      | none => rfl
      | some o => have := st _ _ e; rw [hn] at this; cases this) hl r2) (he env) (hp env)
  rcases h3 with h3 | ⟨h3, h4⟩
  · exact Name_function_global ok.kind (ok.gk x g) (loadGlobal_global (by rw [ok.glb]; exact h1) h3 fin) hd
  · exact Name_function_global ok.kind (ok.gk x g) (loadGlobal_builtin (by rw [ok.glb]; exact h1) h3 (by rw [ok.bln]; exact h2) h4 fin) hd
/-- a method of a built-in type -/
structure Meth (T : String) (name : Str) (id : String) : Prop where
  pa : PlainAttrs T
  slot : Slot T name id
  ty : typeOf (.builtin id) = pure (.type "method_descriptor")
noncomputable def HasT (w : World) (T : String) (p : PV) : Prop := ∀ V (s : Shared) a, Rep V s.heap p a → s.TypeIs a T ∧ ∀ b, a = .ref b → ∃ ob, s.heap.get? b = some ob ∧ ob.dict = none
theorem HasT.str {x : Str} : HasT w "str" (.str x) := fun V s a r => by
  obtain ⟨t, rfl⟩ := rep_str r
  exact ⟨typeIs_str _ _ _, fun b e => by cases e⟩
theorem Ev.meth {T id : String} {o : Expr} {name : Str} {apos pos : Pos} {e : Expr} {es : List Expr} {p q : PV} {ps : List PV} (h1 : Ev w d Γ vals o p) (hT : HasT w T p) (m : Meth T name id) (ha : EvL w d Γ vals (e :: es) ps) (hf : Fc w d (.builtin id) (p :: ps) q)
    (hb : ∀ env, attributeBase o name env (eval o env) = eval o env := by intro _; rfl)
    (hfew : ∀ env, ((backTo pos (starEach (e :: es) env)).all (fun x => !x.1) && (backToKw pos (keywordEach [] env)).all (fun x => x.1.isSome)
      && decide ((e :: es).length + ([] : List Keyword).length + (if ([] : List Keyword).isEmpty then 0 else 1) < 30)) = true := by intro _; rfl)
    (hline : (apos.endLine == pos.line) = true := by rfl)
    (he : ∀ env, starEach (e :: es) env = (false, eval e env) :: starEach es env := by intro _; rfl) (hp : ∀ env, (backTo pos (starEach es env)).any (·.1) = false := by intro _; rfl) :
    Ev w d Γ vals (.Call (.Attribute o name apos) (e :: es) [] pos) q := fun env V A s Q E ok rm k =>
  wpAny_Call_method_lateS (hb env) (hfew env) hline (h1 env V A s _ _ ok rm fun a h' tk st r => ⟨T, id, m.pa, m.slot, m.ty, (hT V { s with heap := h', toks := tk } a r).1, (hT V { s with heap := h', toks := tk } a r).2,
    callWith_any (KeptC.blt id) ha (ok.stays st) rm (fun cvs h2 tk2 st2 r2 => hf V A _ _ _ (a :: cvs) ((ok.stays st).base.stays st2) rm (((ok.stays st).stays st2).al) (Reps.cons (r.stays st2) r2) fun cv h3 tk3 st3 r3 => k _ _ _ ((st.trans st2).trans st3) r3) (he env) (hp env)⟩)
theorem EvF.meth {T id : String} {o : Expr} {name : Str} {apos pos : Pos} {e : Expr} {es : List Expr} {p : PV} {ps xs : List PV} (h1 : Ev w d Γ vals o p) (hT : HasT w T p) (m : Meth T name id) (ha : EvL w d Γ vals (e :: es) ps) (hf : FcF w d (.builtin id) (p :: ps) xs)
    (hb : ∀ env, attributeBase o name env (eval o env) = eval o env := by intro _; rfl)
    (hfew : ∀ env, ((backTo pos (starEach (e :: es) env)).all (fun x => !x.1) && (backToKw pos (keywordEach [] env)).all (fun x => x.1.isSome)
      && decide ((e :: es).length + ([] : List Keyword).length + (if ([] : List Keyword).isEmpty then 0 else 1) < 30)) = true := by intro _; rfl)
    (hline : (apos.endLine == pos.line) = true := by rfl)
    (he : ∀ env, starEach (e :: es) env = (false, eval e env) :: starEach es env := by intro _; rfl) (hp : ∀ env, (backTo pos (starEach es env)).any (·.1) = false := by intro _; rfl) :
    EvF w d Γ vals (.Call (.Attribute o name apos) (e :: es) [] pos) xs := fun env V A s Q E ok rm k =>
  wpAny_Call_method_lateS (hb env) (hfew env) hline (h1 env V A s _ _ ok rm fun a h' tk st r => ⟨T, id, m.pa, m.slot, m.ty, (hT V { s with heap := h', toks := tk } a r).1, (hT V { s with heap := h', toks := tk } a r).2,
    callWith_any (KeptC.blt id) ha (ok.stays st) rm (fun cvs h2 tk2 st2 r2 => hf V A _ _ _ (a :: cvs) ((ok.stays st).base.stays st2) rm (((ok.stays st).stays st2).al) (Reps.cons (r.stays st2) r2) fun b vs h3 tk3 st3 hn hl r3 => k _ _ _ _ ((st.trans st2).trans st3) (by
      cases e : s.heap.get? b with
      | none => rfl
      | some o => have := st2 _ _ (st _ _ e); rw [hn] at this; cases this) hl r3) (he env) (hp env)⟩)
theorem Ev.meth0 {T id : String} {o : Expr} {name : Str} {apos pos : Pos} {p q : PV} (h1 : Ev w d Γ vals o p) (hT : HasT w T p) (m : Meth T name id) (hf : Fc w d (.builtin id) [p] q)
    (hb : ∀ env, attributeBase o name env (eval o env) = eval o env := by intro _; rfl)
    (hline : (apos.endLine == pos.line) = true := by rfl) :
    Ev w d Γ vals (.Call (.Attribute o name apos) [] [] pos) q := fun env V A s Q E ok rm k =>
  wpAny_Call_method_lateS (hb env) rfl hline (h1 env V A s _ _ ok rm fun a h' tk st r => ⟨T, id, m.pa, m.slot, m.ty, (hT V { s with heap := h', toks := tk } a r).1, (hT V { s with heap := h', toks := tk } a r).2,
    callWith_zero (KeptC.blt id) (ok.stays st) (hf V A _ _ _ [a] (ok.stays st).base rm (ok.stays st).al (Reps.cons r Reps.nil) fun cv h3 tk3 st3 r3 => k _ _ _ (st.trans st3) r3)⟩)
theorem meth_find : Meth "str" "find" "str.find" := ⟨F.plainAttrs_str, F.slot_str_find, F.type_str_find⟩
theorem meth_rfind : Meth "str" "rfind" "str.rfind" := ⟨F.plainAttrs_str, F.slot_str_rfind, F.type_str_rfind⟩
theorem meth_startswith : Meth "str" "startswith" "str.startswith" := ⟨F.plainAttrs_str, F.slot_str_startswith, F.type_str_startswith⟩
theorem meth_endswith : Meth "str" "endswith" "str.endswith" := ⟨F.plainAttrs_str, F.slot_str_endswith, F.type_str_endswith⟩
theorem meth_lower : Meth "str" "lower" "str.lower" := ⟨F.plainAttrs_str, F.slot_str_lower, F.type_str_lower⟩
theorem meth_swapcase : Meth "str" "swapcase" "str.swapcase" := ⟨F.plainAttrs_str, F.slot_str_swapcase, F.type_str_swapcase⟩
theorem meth_split : Meth "str" "split" "str.split" := ⟨F.plainAttrs_str, F.slot_str_split, F.type_str_split⟩
theorem meth_join : Meth "str" "join" "str.join" := ⟨F.plainAttrs_str, F.slot_str_join, F.type_str_join⟩
theorem meth_replace : Meth "str" "replace" "str.replace" := ⟨F.plainAttrs_str, F.slot_str_replace, F.type_str_replace⟩
theorem call_g {T : String} {name : Str} {id : String} {B : Builtin} {self : Value} {rest : List Value} {m : Made} {A : Around} {s : Shared} {Q : Value → Shared → Prop} {E : Value → Shared → Prop} (slot : Slot T name id) (hT : s.TypeIs self T) (entry : entryFor table id = some B)
    (args : argsOk id ⟨self :: rest, []⟩) (g : Gives (B ⟨self :: rest, []⟩) m) (h : m.post Q s) : wpAny (MW w) A (call (.builtin id) (self :: rest)) Q E s :=
  call_givesAt (P := fun _ => True) slot hT entry args g.at trivial h
/-- places -/
noncomputable abbrev occ1 (x y : Str) (lo hi : Nat) : Int := match Builtin.Str.occurrences x y lo hi 1 with | i :: _ => (i : Int) | [] => -1
theorem Fc.find1 {x y : Str} : Fc w d (.builtin "str.find") [.str x, .str y] (.int (occ1 x y 0 x.length)) := fun V A s Q E cvs b rm al rp k => by
  obtain ⟨v, u, rfl, r1, r2⟩ := reps_two rp
  obtain ⟨t, rfl⟩ := rep_str r1
  obtain ⟨u, rfl⟩ := rep_str r2
  exact call_g F.slot_str_find (typeIs_str _ _ _) F.entry_str_find (F.args_str_find_2 _ _) (gives_str_find x y t u) (k _ s.heap _ (Stays.refl _) mk_int)
theorem gives_find4 (x y : Str) (i j : Int) (t u v r : Tok) (h1 : 0 ≤ i) (h2 : 0 ≤ j) (h3 : j ≤ x.length) : Gives (Builtin.«str.find» ⟨[.str x t, .str y u, .int i v, .int j r], []⟩) (.int (occ1 x y i.toNat j.toNat)) := by
  show Gives (match Builtin.Str.occurrences x y (max 0 (if i < 0 then i + x.length else i)).toNat (min (max 0 (if j < 0 then j + x.length else j)).toNat x.length) 1 with | k :: _ => retInt k | [] => (do rule "str.find.not-found"; retInt (-1))) _
  have e1 : (max 0 (if i < 0 then i + x.length else i)).toNat = i.toNat := by rw [if_neg (by (first | lia | omega))]; (first | lia | omega)
  have e2 : min (max 0 (if j < 0 then j + x.length else j)).toNat x.length = j.toNat := by rw [if_neg (by (first | lia | omega))]; (first | lia | omega)
  rw [e1, e2]
  unfold occ1
  cases Builtin.Str.occurrences x y i.toNat j.toNat 1 with
  | nil => exact .rule (.of_eq rfl)
  | cons k _ => exact .of_eq rfl
theorem Fc.find3 {x y : Str} {i j : Int} (h1 : 0 ≤ i) (h2 : 0 ≤ j) (h3 : j ≤ x.length) : Fc w d (.builtin "str.find") [.str x, .str y, .int i, .int j] (.int (occ1 x y i.toNat j.toNat)) := fun V A s Q E cvs b rm al rp k => by
  obtain ⟨v, u, a, c, rfl, r1, r2, r3, r4⟩ := reps_four rp
  obtain ⟨t, rfl⟩ := rep_str r1
  obtain ⟨u, rfl⟩ := rep_str r2
  obtain ⟨u3, rfl⟩ := rep_int r3
  obtain ⟨u4, rfl⟩ := rep_int r4
  exact call_g F.slot_str_find (typeIs_str _ _ _) F.entry_str_find (F.args_str_find_4 _ _ _ _) (gives_find4 x y i j t u u3 u4 h1 h2 h3) (k _ s.heap _ (Stays.refl _) mk_int)
noncomputable abbrev occL (x y : Str) (lo hi : Nat) : Int := match Builtin.Str.lastOccurrence x y lo hi with | some i => (i : Int) | none => -1
theorem gives_rfind4 (x y : Str) (i j : Int) (t u v r : Tok) (h1 : 0 ≤ i) (h2 : 0 ≤ j) (h3 : j ≤ x.length) : Gives (Builtin.«str.rfind» ⟨[.str x t, .str y u, .int i v, .int j r], []⟩) (.int (occL x y i.toNat j.toNat)) := by
  show Gives (match Builtin.Str.lastOccurrence x y (max 0 (if i < 0 then i + x.length else i)).toNat (min (max 0 (if j < 0 then j + x.length else j)).toNat x.length) with | some k => retInt k | none => (do rule "str.rfind.not-found"; retInt (-1))) _
  have e1 : (max 0 (if i < 0 then i + x.length else i)).toNat = i.toNat := by rw [if_neg (by (first | lia | omega))]; (first | lia | omega)
  have e2 : min (max 0 (if j < 0 then j + x.length else j)).toNat x.length = j.toNat := by rw [if_neg (by (first | lia | omega))]; (first | lia | omega)
  rw [e1, e2]
  unfold occL
  cases Builtin.Str.lastOccurrence x y i.toNat j.toNat with
  | none => exact .rule (.of_eq rfl)
  | some k => exact .of_eq rfl
theorem Fc.rfind3 {x y : Str} {i j : Int} (h1 : 0 ≤ i) (h2 : 0 ≤ j) (h3 : j ≤ x.length) : Fc w d (.builtin "str.rfind") [.str x, .str y, .int i, .int j] (.int (occL x y i.toNat j.toNat)) := fun V A s Q E cvs b rm al rp k => by
  obtain ⟨v, u, a, c, rfl, r1, r2, r3, r4⟩ := reps_four rp
  obtain ⟨t, rfl⟩ := rep_str r1
  obtain ⟨u, rfl⟩ := rep_str r2
  obtain ⟨u3, rfl⟩ := rep_int r3
  obtain ⟨u4, rfl⟩ := rep_int r4
  exact call_g F.slot_str_rfind (typeIs_str _ _ _) F.entry_str_rfind (F.args_str_rfind_4 _ _ _ _) (gives_rfind4 x y i j t u u3 u4 h1 h2 h3) (k _ s.heap _ (Stays.refl _) mk_int)
theorem Fc.startswith {x y : Str} : Fc w d (.builtin "str.startswith") [.str x, .str y] (.bool (Txt.startswith x y)) := fun V A s Q E cvs b rm al rp k => by
  obtain ⟨v, u, rfl, r1, r2⟩ := reps_two rp
  obtain ⟨t, rfl⟩ := rep_str r1
  obtain ⟨u, rfl⟩ := rep_str r2
  exact call_g F.slot_str_startswith (typeIs_str _ _ _) F.entry_str_startswith (F.args_str_startswith_2 _ _) (gives_str_startswith x y t u) (k _ s.heap s.toks (Stays.refl _) mk_bool)
theorem Fc.endswith {x y : Str} : Fc w d (.builtin "str.endswith") [.str x, .str y] (.bool (Txt.endswith x y)) := fun V A s Q E cvs b rm al rp k => by
  obtain ⟨v, u, rfl, r1, r2⟩ := reps_two rp
  obtain ⟨t, rfl⟩ := rep_str r1
  obtain ⟨u, rfl⟩ := rep_str r2
  exact call_g F.slot_str_endswith (typeIs_str _ _ _) F.entry_str_endswith (F.args_str_endswith_2 _ _) (gives_str_endswith x y t u) (k _ s.heap s.toks (Stays.refl _) mk_bool)
theorem Fc.lower {x : Str} (hfit : Builtin.Str.tooLong (Txt.lower x).length = false) : Fc w d (.builtin "str.lower") [.str x] (.str (Txt.lower x)) := fun V A s Q E cvs b rm al rp k => by
  obtain ⟨v, rfl, r1⟩ := reps_one rp
  obtain ⟨t, rfl⟩ := rep_str r1
  exact call_g F.slot_str_lower (typeIs_str _ _ _) F.entry_str_lower (F.args_str_lower_1 _) (gives_str_lower x t hfit) ⟨fit_le hfit, k _ s.heap _ (Stays.refl _) mk_str⟩
theorem Fc.swapcase {x : Str} (hfit : Builtin.Str.tooLong (Txt.swapcase x).length = false) : Fc w d (.builtin "str.swapcase") [.str x] (.str (Txt.swapcase x)) := fun V A s Q E cvs b rm al rp k => by
  obtain ⟨v, rfl, r1⟩ := reps_one rp
  obtain ⟨t, rfl⟩ := rep_str r1
  exact call_g F.slot_str_swapcase (typeIs_str _ _ _) F.entry_str_swapcase (F.args_str_swapcase_1 _) (gives_str_swapcase x t hfit) ⟨fit_le hfit, k _ s.heap _ (Stays.refl _) mk_str⟩
end
end Mine
end
noncomputable section
namespace Mine
open PySem.Calls
section
variable {w : World} {d : Nat} {Γ : Cx} {vals : List Sl}
theorem new_of {h h' : Heap} (k : Stays h h') : h.get? h'.objs.size = none := by
  cases e : h.get? h'.objs.size with
  | none => rfl
  | some o => exact absurd (Heap.lt_size (k _ _ e)) (Nat.lt_irrefl _)
theorem Fc.lenS {l : List Nat} (hz : l.length ≤ sizeLine) : Fc w d (.builtin "len") [.str (S l)] (.int l.length) := fun V A s Q E cvs b rm al rp k => by
  obtain ⟨v, rfl, r1⟩ := reps_one rp
  obtain ⟨t, rfl⟩ := rep_str r1
  refine PyProof.Rows.len_str (by rw [S_len]; rw [sizeLine_eq] at hz; (first | lia | omega)) ?_
  rw [S_len]
  exact k _ s.heap _ (Stays.refl _) mk_int
theorem Fc.lenL {xs : List PV} (hz : xs.length ≤ sizeLine) : Fc w d (.builtin "len") [.list xs] (.int xs.length) := fun V A s Q E cvs b rm al rp k => by
  obtain ⟨v, rfl, r1⟩ := reps_one rp
  obtain ⟨a, vs, rfl, _, hl, hr⟩ := rep_list r1
  have hn := hr.length
  refine call_len_list hl.isList (by simp only [List.size_toArray]; rw [sizeLine_eq] at hz; (first | lia | omega)) ?_
  rw [List.size_toArray, hn]
  exact k _ s.heap _ (Stays.refl _) mk_int
theorem Fc.lenR {b : Int} (hz : 0 ≤ b ∧ b < 2 ^ 62) : Fc w d (.builtin "len") [.range 0 b 1] (.int b) := fun V A s Q E cvs bb rm al rp k => by
  obtain ⟨v, rfl, r1⟩ := reps_one rp
  obtain ⟨a, t, u, k1, rfl, _, hr⟩ := rep_range r1
  have hn : Builtin.Range.rangeSize 0 b 1 = (b.toNat : Int) := by rw [rangeSize_one]; split <;> (first | lia | omega)
  refine call_len_range hr hn (by (first | lia | omega)) ?_
  have e : (b.toNat : Int) = b := by (first | lia | omega)
  rw [e]
  exact k _ s.heap _ (Stays.refl _) mk_int
theorem Fc.range1 {n : Int} : Fc w d (.type "range") [.int n] (.range 0 n 1) := fun V A s Q E cvs b rm al rp k => by
  obtain ⟨v, rfl, r1⟩ := reps_one rp
  obtain ⟨t, rfl⟩ := rep_int r1
  exact call_range_1 (k _ _ _ (Stays.push _ _) (mk_range al.size (Heap.get?_push_size _ rfl)))
theorem Fc.range2 {a b : Int} : Fc w d (.type "range") [.int a, .int b] (.range a b 1) := fun V A s Q E cvs bb rm al rp k => by
  obtain ⟨v, u, rfl, r1, r2⟩ := reps_two rp
  obtain ⟨t, rfl⟩ := rep_int r1
  obtain ⟨t2, rfl⟩ := rep_int r2
  exact call_range_2 (k _ _ _ (Stays.push _ _) (mk_range al.size (Heap.get?_push_size _ rfl)))
theorem Fc.range3 {a b c : Int} (hc : c ≠ 0) (hp : Builtin.divisionGoesByPylong (b - a) c = false) : Fc w d (.type "range") [.int a, .int b, .int c] (.range a b c) := fun V A s Q E cvs bb rm al rp k => by
  obtain ⟨v, u, x, rfl, r1, r2, r3⟩ := reps_three rp
  obtain ⟨t, rfl⟩ := rep_int r1
  obtain ⟨t2, rfl⟩ := rep_int r2
  obtain ⟨t3, rfl⟩ := rep_int r3
  exact call_range_3 hc (k _ _ _ (Stays.push _ _) (mk_range al.size (Heap.get?_push_size _ rfl))) (.inl hp)
theorem reps_of_items {V : Addr → Prop} {h : Heap} : ∀ {ps : List PV} {vs : List Value}, vs.length = ps.length → (∀ (i : Nat) (v : Value) (p : PV), vs[i]? = some v → ps[i]? = some p → Rep V h p v) → Reps V h ps vs
  | [], [], _, _ => Reps.nil
  | p :: ps, v :: vs, hn, hr => Reps.cons (hr 0 v p rfl rfl) (reps_of_items (by simpa using hn) fun i v' p' h1 h2 => hr (i + 1) v' p' (by simpa using h1) (by simpa using h2))
  | [], _ :: _, hn, _ => by simp at hn
  | _ :: _, [], hn, _ => by simp at hn
noncomputable def rangeL (a c : Int) (n : Nat) : List Int := (List.range n).map fun (i : Nat) => a + (i : Int) * c
theorem FcF.listR {a b c : Int} {n : Nat} (hsmall : Builtin.Range.small a b c = true) (hn : Builtin.Range.rangeSize a b c = n) (hlen : n ≤ 2 ^ 24) : FcF w d (.type "list") [.range a b c] ((rangeL a c n).map PV.int) := fun V A s Q E cvs bb rm al rp k => by
  obtain ⟨v, rfl, r1⟩ := reps_one rp
  obtain ⟨r, t, u, k1, rfl, _, hr⟩ := rep_range r1
  refine call_list_range rm.hh hr hsmall hn hlen fun h' tk acc' c' hk hS' hacc => ?_
  refine k _ acc'.toList _ _ hk (size_new _) ⟨c', by simpa using hS'⟩ (reps_of_items (by simp [rangeL, hacc.1]) fun i v p h1 h2 => ?_)
  obtain ⟨t', rfl⟩ := hacc.2 i v (by simpa using h1)
  simp only [rangeL, List.map_map, List.getElem?_map, Option.map_eq_some_iff] at h2
  obtain ⟨j, hj, rfl⟩ := h2
  have : j = i := by
    have := List.getElem?_eq_some_iff.mp hj
    obtain ⟨h3, h4⟩ := this
    simpa using h4.symm
  subst this
  exact mk_int
theorem FcF.listS {l : List Nat} (hz : l.length ≤ sizeLine) : FcF w d (.type "list") [.str (S l)] (l.map fun c => PV.str (S [c])) := fun V A s Q E cvs bb rm al rp k => by
  obtain ⟨v, rfl, r1⟩ := reps_one rp
  obtain ⟨t, rfl⟩ := rep_str r1
  have e : (S l).cps.size = l.length := by simp [S]
  refine call_list_str rm.hh (S l) t (fun h' tk acc' c' hk hS' hacc => ?_) (by rw [e]; exact hz)
  refine k _ acc'.toList _ _ hk (size_new _) ⟨c', by simpa using hS'⟩ (reps_of_items (by simp [hacc.1, e]) fun i v p h1 h2 => ?_)
  obtain ⟨c, u, hc, rfl⟩ := hacc.2 i v (by simpa using h1)
  simp only [List.getElem?_map, Option.map_eq_some_iff] at h2
  obtain ⟨j, hj, rfl⟩ := h2
  have : c = j := by
    have hc' : l[i]? = some c := by simpa [S] using hc
    rw [hj] at hc'
    exact (Option.some.inj hc').symm
  subst this
  exact mk_str
theorem Fc.type {p : PV} {T : String} (hT : HasT w T p) (hn : (Value.type T == Value.type "builtin_function_or_method") = false) : Fc w d (.type "type") [p] (.type T) := fun V A s Q E cvs bb rm al rp k => by
  obtain ⟨v, rfl, r1⟩ := reps_one rp
  exact call_type_of (hT V s v r1).1 hn (k _ s.heap s.toks (Stays.refl _) mk_type)
theorem HasT.int {i : Int} : HasT w "int" (.int i) := fun V s a r => by
  obtain ⟨t, rfl⟩ := rep_int r
  exact ⟨typeIs_int _ _ _, fun b e => by cases e⟩
theorem HasT.bool {b : Bool} : HasT w "bool" (.bool b) := fun V s a r => by
  obtain rfl := rep_bool r
  exact ⟨rfl, fun b e => by cases e⟩
theorem Fc.min2 {a b : Int} : Fc w d (.builtin "min") [.int a, .int b] (.int (min a b)) := fun V A s Q E cvs bb rm al rp k => by
  obtain ⟨v, u, rfl, r1, r2⟩ := reps_two rp
  obtain ⟨t, rfl⟩ := rep_int r1
  obtain ⟨t2, rfl⟩ := rep_int r2
  refine min_two_ints rm.hh fun h' tk hk => k _ _ _ hk ?_
  split
  · rw [show min a b = b by (first | lia | omega)]; exact mk_int
  · rw [show min a b = a by (first | lia | omega)]; exact mk_int
noncomputable def IsMin (m : Int) (ns : List Int) : Prop := m ∈ ns ∧ ∀ a ∈ ns, m ≤ a
theorem IsMin.uniq {m m' : Int} {ns : List Int} (a : IsMin m ns) (b : IsMin m' ns) : m = m' := by
  have := a.2 _ b.1; have := b.2 _ a.1; (first | lia | omega)
theorem Fc.minL {m : Int} {ns : List Int} (hm : IsMin m ns) : Fc w d (.builtin "min") [.list (ns.map PV.int)] (.int m) := fun V A s Q E cvs bb rm al rp k => by
  obtain ⟨v, rfl, r1⟩ := reps_one rp
  obtain ⟨a, vs, rfl, _, hl0, hr⟩ := rep_list r1
  have hi := reps_ints hr
  have hl := hl0.isList
  obtain ⟨xs, e⟩ := hi.allInts.items
  have hns : ns = xs.toList.map (·.1) := by rw [← hi.numsOf, ← nums_intItems, ← e]
  have hsz : 0 < xs.size := by
    have h3 : 0 < ns.length := List.length_pos_of_mem hm.1
    rw [hns, List.length_map, Array.length_toList] at h3; exact h3
  rw [e] at hl
  refine min_intList rm.hh hl hsz fun v h' tk hv hk => ?_
  obtain ⟨t, rfl⟩ := intItems_at hv
  obtain ⟨h1, h2⟩ := argBest_lt (numAt xs) (xs.size - 1)
  have hmin : IsMin (numAt xs (argBest (fun i j => decide (numAt xs i < numAt xs j)) (xs.size - 1))) ns := by
    refine ⟨?_, fun a ha => ?_⟩
    · rw [hns, numAt_eq]; exact PySem.getD_mem (by rw [List.length_map, Array.length_toList]; (first | lia | omega))
    · rw [hns] at ha
      obtain ⟨j, hj, rfl⟩ := mem_getD ha
      rw [List.length_map, Array.length_toList] at hj
      rw [← numAt_eq]; exact h2 j (by (first | lia | omega))
  rw [hmin.uniq hm]
  exact k _ _ _ hk mk_int
theorem Fc.sumL {ns : List Int} : Fc w d (.builtin "sum") [.list (ns.map PV.int)] (.int ns.sum) := fun V A s Q E cvs bb rm al rp k => by
  obtain ⟨v, rfl, r1⟩ := reps_one rp
  obtain ⟨a, vs, rfl, _, hl0, hr⟩ := rep_list r1
  have hi := reps_ints hr
  have hl := hl0.isList
  obtain ⟨xs, e⟩ := hi.allInts.items
  have hns : ns = xs.toList.map (·.1) := by rw [← hi.numsOf, ← nums_intItems, ← e]
  rw [e] at hl
  refine sum_intListG rm.hh hl fun h' tk t' hk => ?_
  rw [preSum_eq, List.take_of_length_le (by simp), ← hns]
  exact k _ _ _ hk mk_int
theorem FcF_add {l r : Expr} {pos : Pos} {xs ys : List PV} (h1 : Ev w d Γ vals l (.list xs)) (h2 : Ev w d Γ vals r (.list ys)) (hz : xs.length + ys.length ≤ sizeLine) : EvF w d Γ vals (.BinOp l .Add r pos) (xs ++ ys) := fun env V A s Q E ok rm k =>
  wpAny_BinOp (h1 env V A s _ _ ok rm fun a h' tk st ra => h2 env V A _ _ _ (ok.stays st) rm fun b h'' tk' st' rb => by
    obtain ⟨a, vs, rfl, _, ⟨n, hl⟩, hr⟩ := rep_list (ra.stays st')
    obtain ⟨b, us, rfl, _, ⟨n2, hl2⟩, hr2⟩ := rep_list rb
    have e1 := hr.length
    have e2 := hr2.length
    refine P.add_list (s := { s with heap := h'', toks := tk' }) hl hl2 ?_ (by simp only [List.size_toArray]; (first | lia | omega))
    refine k _ (vs ++ us) _ _ ((st.trans st').trans (Stays.push _ _)) (new_of (st.trans st')) ⟨0, ?_⟩ ((hr.append hr2).newer (size_new _) (Stays.push _ _))
    have : vs.toArray ++ us.toArray = (vs ++ us).toArray := by simp
    rw [this]
    exact Heap.get?_push_size _ rfl)
theorem getSlice_list {V : Addr → Prop} {A : Around} {s : Shared} {Q : Value → Shared → Prop} {E : Value → Shared → Prop} {a sl : Addr} {vs : List Value} {xs : List PV} {lo hi : Option Int} {st : Option Int} {vl vu vst : Value}
    (hl : s.heap.PlainList a (List.toArray vs)) (hr : Reps V s.heap xs vs) (hz : xs.length ≤ sizeLine) (hs : s.heap.get? sl = some { cls := .type "slice", data := .fields #[vl, vu, vst] }) (pl : IsPart vl lo) (pu : IsPart vu hi) (ps : IsPart vst st) (h0 : st ≠ some 0)
    (ys : List PV) (hy : ∀ us : List Value, us = (slicePick (List.toArray vs) lo hi st).toList → Reps V s.heap ys us)
    (k : ∀ us, Reps V s.heap ys us → Q (.ref s.heap.objs.size) { s with heap := s.heap.push { cls := .type "list", data := .seq (List.toArray us) } }) : wpAny (MW w) A (getItem (.ref a) (.ref sl)) Q E s := by
  refine wpAny_getItem_list_slice hl.isList ⟨_, hs, rfl, rfl⟩ pl pu ps h0 ?_ (by rw [List.size_toArray, hr.length]; exact hz)
  have := k (slicePick (List.toArray vs) lo hi st).toList (hy _ rfl)
  simpa using this
/-- a slice of a list, as its own items -/
noncomputable def lsl {α : Type} (l : List α) (lo hi : Option Int) : List α := (l.drop (lo.elim 0 (clipAt l.length))).take (hi.elim l.length (clipAt l.length) - lo.elim 0 (clipAt l.length))
theorem EvF.slice {e : Expr} {lower upper : Option Expr} {sp pos : Pos} {xs : List PV} {lo hi : Option Int} (h1 : Ev w d Γ vals e (.list xs)) (hl : EvO w d Γ vals lower lo) (hu : EvO w d Γ vals upper hi) (hz : xs.length ≤ sizeLine) :
    EvF w d Γ vals (.Subscript e (.Slice lower upper Option.none sp) pos) (lsl xs lo hi) := fun env V A s Q E ok rm k =>
  Subscript_ (h1 env V A s _ _ ok rm fun a h' tk st ra => wpAny_Slice (hl env V A _ _ _ (ok.stays st) rm fun vl h2 tk2 st2 p2 => hu env V A _ _ _ ((ok.stays st).stays st2) rm fun vu h3 tk3 st3 p3 => wpAny_pure (by
    have sp := ((st2.trans st3).trans (Stays.push h3 { cls := .type "slice", data := .fields #[vl, vu, Value.none] }))
    obtain ⟨a, vs, rfl, _, hl', hr⟩ := rep_list (ra.stays sp)
    have en := hr.length
    refine tail_any (T := "list") hl'.isList.typeIs slot_list_getitem.lookup (getSlice_list (V := V) hl' hr hz (Heap.get?_push_size _ rfl) p2 p3 .none (by intro h; cases h) (lsl xs lo hi) ?_ ?_) rfl
    · intro us e
      subst e
      rw [slicePick_plain]
      simp only [List.size_toArray, en]
      exact (hr.drop _).take _
    · intro us ru
      exact k _ us _ _ ((st.trans sp).trans (Stays.push _ _)) (new_of (st.trans sp)) ⟨0, Heap.get?_push_size _ rfl⟩ (ru.newer (size_new _) (Stays.push _ _)))))
theorem fm_congr {α β : Type} {f g : α → Option β} : ∀ {l : List α}, (∀ x ∈ l, f x = g x) → l.filterMap f = l.filterMap g
  | [], _ => rfl
  | x :: l, h => by
    have e := h x (List.mem_cons_self ..)
    have ih := fm_congr (l := l) fun y hy => h y (List.mem_cons_of_mem _ hy)
    simp only [List.filterMap_cons, e, ih]
/-- every c-th item from a on -/
noncomputable def every {α : Type} (l : List α) (a c : Nat) : List α := (List.range ((l.length - a + c - 1) / c)).filterMap fun k => l[a + c * k]?
theorem EvF.step {e l st : Expr} {sp pos : Pos} {xs : List PV} {a c : Nat} (h1 : Ev w d Γ vals e (.list xs)) (hl : Ev w d Γ vals l (.int a)) (hs : Ev w d Γ vals st (.int c)) (hc : 0 < c) (hz : xs.length ≤ sizeLine) :
    EvF w d Γ vals (.Subscript e (.Slice (some l) Option.none (some st) sp) pos) (every xs a c) := fun env V A s Q E ok rm k =>
  Subscript_ (h1 env V A s _ _ ok rm fun a' h' tk st1 ra => wpAny_Slice ((EvO.int hl) env V A _ _ _ (ok.stays st1) rm fun vl h2 tk2 st2 p2 => wpAny_pure ((EvO.int hs) env V A _ _ _ ((ok.stays st1).stays st2) rm fun vs3 h3 tk3 st3 p3 => (by
    have sp := ((st2.trans st3).trans (Stays.push h3 { cls := .type "slice", data := .fields #[vl, Value.none, vs3] }))
    obtain ⟨b, vs, rfl, _, hl', hr⟩ := rep_list (ra.stays sp)
    have en := hr.length
    refine tail_any (T := "list") hl'.isList.typeIs slot_list_getitem.lookup (getSlice_list (V := V) hl' hr hz (Heap.get?_push_size _ rfl) p2 .none p3 (by intro h; injection h with h; (first | lia | omega)) (every xs a c) ?_ ?_) rfl
    · intro us e
      subst e
      have hn : (every vs a c) = (slicePick (List.toArray vs) (some (a : Int)) Option.none (some (c : Int))).toList := by
        unfold every slicePick sliceBounds sliceRange
        have hcp : (c : Int) > 0 := by (first | lia | omega)
        simp only [Option.getD_some, hcp, if_true, List.size_toArray]
        rw [if_neg (by (first | lia | omega) : ¬ (a : Int) < 0)]
        have e1 : max (0 : Int) (min (a : Int) (vs.length : Int)) = ((min a vs.length : Nat) : Int) := by (first | lia | omega)
        rw [e1]
        have e2 : (if ((min a vs.length : Nat) : Int) < (vs.length : Int) then ((vs.length : Int) - ((min a vs.length : Nat) : Int) + (c : Int) - 1) / (c : Int) else 0).toNat = (vs.length - a + c - 1) / c := by
          split
          · rename_i hlt
            have : (vs.length : Int) - ((min a vs.length : Nat) : Int) + (c : Int) - 1 = ((vs.length - a + c - 1 : Nat) : Int) := by (first | lia | omega)
            rw [this, ← Int.natCast_ediv, Int.toNat_natCast]
          · rename_i hlt
            have h0 : vs.length - a = 0 := by (first | lia | omega)
            rw [h0, Nat.zero_add, Nat.div_eq_of_lt (by (first | lia | omega))]
            rfl
        rw [e2, List.filterMap_map]
        refine fm_congr fun k hk => ?_
        rw [List.mem_range] at hk
        have hlt : a < vs.length := by
          apply Decidable.byContradiction
          intro hge
          have h0 : vs.length - a = 0 := by (first | lia | omega)
          rw [h0, Nat.zero_add, Nat.div_eq_of_lt (by (first | lia | omega))] at hk
          (first | lia | omega)
        have e3 : min a vs.length = a := by (first | lia | omega)
        simp only [Function.comp, e3]
        have e4 : ((a : Int) + (c : Int) * (k : Int)).toNat = a + c * k := by
          have : ((a : Int) + (c : Int) * (k : Int)) = ((a + c * k : Nat) : Int) := by simp
          rw [this, Int.toNat_natCast]
        rw [e4]
        simp
      rw [← hn]
      unfold every
      rw [en]
      have key : ∀ ks : List Nat, Reps V (h3.push { cls := .type "slice", data := .fields #[vl, Value.none, vs3] }) (ks.filterMap fun k => xs[a + c * k]?) (ks.filterMap fun k => vs[a + c * k]?) := by
        intro ks
        induction ks with
        | nil => exact Reps.nil
        | cons k ks ih =>
          cases hx : xs[a + c * k]? with
          | none =>
            have : vs[a + c * k]? = Option.none := by
              rw [List.getElem?_eq_none_iff] at hx ⊢; (first | lia | omega)
            simp only [List.filterMap_cons, hx, this]
            exact ih
          | some p =>
            obtain ⟨v, hv, rv⟩ := hr.get hx
            simp only [List.filterMap_cons, hx, hv]
            exact Reps.cons rv ih
      exact key _
    · intro us ru
      exact k _ us _ _ ((st1.trans sp).trans (Stays.push _ _)) (new_of (st1.trans sp)) ⟨0, Heap.get?_push_size _ rfl⟩ (ru.newer (size_new _) (Stays.push _ _)))))) 
end
end Mine
end
noncomputable section
namespace Mine
open PySem.Calls
noncomputable abbrev PR : Program := PySem.Challenge.rw_pe0175_01.row.prog
section
variable {w : World} {d : Nat} {Γ : Cx} {vals : List Sl}
theorem walks_imp {A : Around} {I : Addr} {fp wr : List Addr} {n : Nat} {P P' : Nat → Value → Prop} {St : Nat → Heap → Prop} (W : Walks PR w A I fp wr n P St) (h : ∀ i v, i < n → P i v → P' i v) : Walks PR w A I fp wr n P' St where
  sub := W.sub
  frame := W.frame
  item := fun i s Q E hi st hQ => W.item i s Q E hi st fun v h' tk hP => hQ v h' tk (h i v hi hP)
  done := W.done
  self := W.self
structure It (w : World) (A : Around) (V : Addr → Prop) (h₀ : Heap) (T : Expr) (I : Addr) (fp wr : List Addr) (items : List PV) (St : Nat → Heap → Prop) (h : Heap) : Prop where
  W : Walks PR w A I fp wr items.length (fun i v => ∃ q, items[i]? = some q ∧ Rep V h₀ q v) St
  go : ∀ (i : Nat) (s' : Shared) (v : Value) (Q' : Unit → Shared → Prop) (E' : Value → Shared → Prop), St i s'.heap → Q' () s' → wpAny (MW w) A (letOwnedTupleGo T (.ref I) v) Q' E' s'
  st : Stays h₀ h
  s0 : St 0 h
  wr0 : ∀ b ∈ wr, h₀.get? b = none
  alv : ∀ (i : Nat) (h' : Heap), St i h' → ∀ b ∈ fp, ∃ o, h'.get? b = some o
  fpV : ∀ b ∈ fp, ¬ V b
/-- a value that is walked item by item -/
noncomputable def Iter (w : World) (T : Expr) (p : PV) (items : List PV) : Prop :=
  ∀ (V : Addr → Prop) (A : Around) (s : Shared) (Q : Value → Shared → Prop) (E : Value → Shared → Prop) (a : Value), A.handled = none → Alive V s.heap → Rep V s.heap p a →
    (∀ I fp wr St h' tk, It w A V s.heap T I fp wr items St h' → Q (.ref I) { s with heap := h', toks := tk }) → wpAny (MW w) A (pyIter a) Q E s
theorem go_fields {A : Around} {T : Expr} {I : Addr} {v : Value} {Q' : Unit → Shared → Prop} {E' : Value → Shared → Prop} {s' : Shared} {o : Obj} {n : String} {vs : Array Value} (ho : s'.heap.get? I = some o) (hc : o.cls = .type n) (hd : o.data = .fields vs)
    (hn : ["enumerate", "zip", "dict_itemiterator", "dict_reverseitemiterator", "odict_iterator", "itertools.zip_longest", "itertools.pairwise"].contains n = false) (h : Q' () s') : wpAny (MW w) A (letOwnedTupleGo T (.ref I) v) Q' E' s' := by
  unfold letOwnedTupleGo
  cases T <;> first
    | exact wpAny_pure h
    | (cases v <;> first
        | exact wpAny_pure h
        | (refine wpAny_bind (wpAny_load ho ?_)
           rw [hc, hd]
           simp only [hn, Bool.false_and, Bool.false_eq_true, if_false]
           exact wpAny_pure h))
theorem Iter.list {T : Expr} {xs : List PV} : Iter w T (.list xs) xs := fun V A s Q E a hh al r k => by
  obtain ⟨a, vs, rfl, nv, hl, hr⟩ := rep_list r
  refine wpAny_pyIter_list hl.isList ?_
  have hne : a ≠ s.heap.objs.size := by
    obtain ⟨n, e⟩ := hl
    exact Nat.ne_of_lt (Heap.lt_size e)
  have W := Walks.list (prog := PR) (w := w) hh s.heap.objs.size a hne vs.toArray
  have e : vs.toArray.size = xs.length := by rw [List.size_toArray, hr.length]
  rw [e] at W
  refine k _ _ _ _ _ s.toks ⟨walks_imp W fun i v hi hv => ?_, fun i s' v Q' E' st q => ?_, Stays.push _ _, ⟨⟨_, Heap.get?_push_size _ rfl, rfl, rfl⟩, hl.isList.at fun o e => Heap.get?_push_of_some _ e⟩, fun b hb => ?_, fun i' h'' hst b hb => ?_, fun b hb => ?_⟩
  · have hv' : vs[i]? = some v := by simpa using hv
    have hlt : i < xs.length := by
      rw [← hr.length]; exact (List.getElem?_eq_some_iff.mp hv').1
    obtain ⟨u, hu, ru⟩ := hr.get (i := i) (p := xs[i]) (by simp [hlt])
    rw [hv'] at hu
    cases hu
    exact ⟨xs[i], by simp [hlt], ru⟩
  · obtain ⟨⟨o, ho, hc, hd⟩, _⟩ := st
    exact go_fields ho hc hd (by decide) q
  · rw [List.mem_singleton.mp hb]; exact size_new _
  · obtain ⟨⟨o, ho, _⟩, ⟨o2, ho2, _⟩⟩ := hst
    rcases List.mem_cons.mp hb with rfl | hb
    · exact ⟨_, ho⟩
    · rw [List.mem_singleton.mp hb]; exact ⟨_, ho2⟩
  · rcases List.mem_cons.mp hb with rfl | hb
    · exact al.size
    · rw [List.mem_singleton.mp hb]; exact nv
theorem Iter.tup {T : Expr} {xs : List PV} : Iter w T (.tup xs) xs := fun V A s Q E a hh al r k => by
  obtain ⟨a, vs, rfl, nv, hl, hr⟩ := rep_tup r
  refine wpAny_pyIter_tuple hl.isTuple ?_
  have hne : a ≠ s.heap.objs.size := Nat.ne_of_lt (Heap.lt_size hl)
  have W := Walks.tuple (prog := PR) (w := w) hh s.heap.objs.size a hne vs.toArray
  have e : vs.toArray.size = xs.length := by rw [List.size_toArray, hr.length]
  rw [e] at W
  refine k _ _ _ _ _ s.toks ⟨walks_imp W fun i v hi hv => ?_, fun i s' v Q' E' st q => ?_, Stays.push _ _, ⟨⟨_, Heap.get?_push_size _ rfl, rfl, rfl⟩, PlainTuple.isTuple (Heap.get?_push_of_some _ hl)⟩, fun b hb => ?_, fun i' h'' hst b hb => ?_, fun b hb => ?_⟩
  · have hv' : vs[i]? = some v := by simpa using hv
    have hlt : i < xs.length := by
      rw [← hr.length]; exact (List.getElem?_eq_some_iff.mp hv').1
    obtain ⟨u, hu, ru⟩ := hr.get (i := i) (p := xs[i]) (by simp [hlt])
    rw [hv'] at hu
    cases hu
    exact ⟨xs[i], by simp [hlt], ru⟩
  · obtain ⟨⟨o, ho, hc, hd⟩, _⟩ := st
    exact go_fields ho hc hd (by decide) q
  · rw [List.mem_singleton.mp hb]; exact size_new _
  · obtain ⟨⟨o, ho, _⟩, ⟨o2, ho2, _⟩⟩ := hst
    rcases List.mem_cons.mp hb with rfl | hb
    · exact ⟨_, ho⟩
    · rw [List.mem_singleton.mp hb]; exact ⟨_, ho2⟩
  · rcases List.mem_cons.mp hb with rfl | hb
    · exact al.size
    · rw [List.mem_singleton.mp hb]; exact nv
theorem iter_str_at {x : Str} {px : Pos} {l : List Nat} {V : Addr → Prop} {A : Around} {s : Shared} {o : Obj} {St : Nat → Heap → Prop} (al : Alive V s.heap) (W : Walks PR w A s.heap.objs.size [s.heap.objs.size] [s.heap.objs.size] (S l).cps.size (SignAt (S l)) St) (h0 : St 0 (s.heap.push o)) (hf : ∀ i h, St i h → ∃ o, h.get? s.heap.objs.size = some o) :
    It w A V s.heap (.Name x px) s.heap.objs.size [s.heap.objs.size] [s.heap.objs.size] (l.map fun c => PV.str (S [c])) St (s.heap.push o) := by
  have e : (S l).cps.size = (l.map fun c => PV.str (S [c])).length := by simp [S]
  rw [e] at W
  refine ⟨walks_imp W fun i v hi hv => ?_, fun i s' v Q' E' st q => wpAny_pure q, Stays.push _ _, h0, fun b hb => ?_, fun i' h'' hst b hb => ?_, fun b hb => ?_⟩
  · obtain ⟨c, u, hc, rfl⟩ := hv
    have hc' : l[i]? = some c := by simpa [S] using hc
    exact ⟨PV.str (S [c]), by simp [hc'], mk_str⟩
  · rw [List.mem_singleton.mp hb]; exact size_new _
  · rw [List.mem_singleton.mp hb]; exact hf _ _ hst
  · rw [List.mem_singleton.mp hb]; exact al.size
theorem Iter.str {x : Str} {px : Pos} {l : List Nat} : Iter w (.Name x px) (.str (S l)) (l.map fun c => PV.str (S [c])) := fun V A s Q E a hh al r k => by
  obtain ⟨t, rfl⟩ := rep_str r
  cases ha : (S l).cps.all (· < 128)
  · exact wpAny_pyIter_wide ha (k _ _ _ _ _ s.toks (iter_str_at al (Walks.strWide hh _ (S l) t) ⟨_, Heap.get?_push_size _ rfl, rfl, rfl⟩ fun i h st => let ⟨o, e, _⟩ := st; ⟨o, e⟩))
  · exact wpAny_pyIter_ascii ha (k _ _ _ _ _ s.toks (iter_str_at al (Walks.strAscii hh _ (S l) t) ⟨_, Heap.get?_push_size _ rfl, rfl, rfl⟩ fun i h st => let ⟨o, e, _⟩ := st; ⟨o, e⟩))
theorem Iter.range {T : Expr} {a b c : Int} {n : Nat} (hsmall : Builtin.Range.small a b c = true) (hn : Builtin.Range.rangeSize a b c = n) : Iter w T (.range a b c) ((rangeL a c n).map PV.int) := fun V A s Q E v hh al r k => by
  obtain ⟨r, t, u, k1, rfl, nv, hr⟩ := rep_range r
  refine wpAny_pyIter_range hr hsmall ?_
  have W := Walks.range (prog := PR) (w := w) hh s.heap.objs.size a c n
  have e : n = ((rangeL a c n).map PV.int).length := by simp [rangeL]
  have h0 : IsRangeIter (s.heap.push { cls := .type "range_iterator", data := .fields #[rawInt a, rawInt (Builtin.Range.rangeSize a b c), rawInt c] }) s.heap.objs.size (a + ((0 : Nat) : Int) * c) ((n : Int) - ((0 : Nat) : Int)) c := by
    show IsRangeIter _ _ _ _ _
    rw [hn]
    simpa using Heap.get?_push_size _ rfl
  have W' := walks_imp (P' := fun i v => ∃ q, ((rangeL a c n).map PV.int)[i]? = some q ∧ Rep V s.heap q v) W fun i v hi hv => by
    obtain ⟨t', rfl⟩ := hv
    exact ⟨PV.int (a + i * c), by simp [rangeL, hi], mk_int⟩
  have W'' : Walks PR w A s.heap.objs.size [s.heap.objs.size] [s.heap.objs.size] ((rangeL a c n).map PV.int).length (fun i v => ∃ q, ((rangeL a c n).map PV.int)[i]? = some q ∧ Rep V s.heap q v) (fun i h => IsRangeIter h s.heap.objs.size (a + (i : Nat) * c) ((n : Int) - (i : Nat)) c) := by
    rw [← e]; exact W'
  refine k _ _ _ _ _ s.toks ⟨W'', fun i s' v Q' E' st q => ?_, Stays.push _ _, h0, fun b hb => ?_, fun i' h'' hst b hb => ?_, fun b hb => ?_⟩
  · exact go_fields st rfl rfl (by decide) q
  · rw [List.mem_singleton.mp hb]; exact size_new _
  · rw [List.mem_singleton.mp hb]; exact ⟨_, hst⟩
  · rw [List.mem_singleton.mp hb]; exact al.size
end
end Mine
end
noncomputable section
namespace Mine
open PySem.Calls
section
variable {w : World} {d : Nat} {Γ : Cx} {vals : List Sl}
theorem fnkind {env : Env} (h : env.scope.kind = .function) : (env.scope.kind == .class || (env.scope.kind == .module && env.locals != env.globals)) = false := by rw [h]; rfl
/-- a target of names that are locals -/
noncomputable def Asg (w : World) (T : Expr) (tn : List Str) (q : PV) (tv : List PV) : Prop :=
  ∀ (env : Env) (V : Addr → Prop) (A : Around) (s : Shared) (Q : Unit → Shared → Prop) (E : Value → Shared → Prop) (cv : Value) (m : Str → Option Value), env.scope.kind = .function → (∀ x ∈ tn, env.kindOf x = some .local) → A.handled = none →
    V env.locals → Rep V s.heap q cv → s.heap.Ns env.locals m →
    (∀ h' tk m', h'.Ns env.locals m' → (∀ (i : Nat) (x : Str) (p : PV), tn[i]? = some x → tv[i]? = some p → ∃ c, m' x = some c ∧ Rep V h' p c) → (∀ y, y ∉ tn → m' y = m y) →
      (∀ b o, b ≠ env.locals → s.heap.get? b = some o → h'.get? b = some o) → Q () { s with heap := h', toks := tk }) → wpAny (MW w) A (assign T env cv) Q E s
theorem Asg.name {x : Str} {px : Pos} {q : PV} : Asg w (.Name x px) [x] q [q] := fun env V A s Q E cv m hk hx hh hV r hn k =>
  wpAny_assign_Name (wpAny_storeName_local (hx x (by simp)) hn (fun h' hn' hs => k h' _ _ hn' (fun i y p h1 h2 => by
    cases i with
    | zero =>
      simp at h1 h2; subst h1; subst h2
      exact ⟨cv, by simp, r.mono fun b o nb e => ⟨nb, (hs.2 b fun hb => nb (hb ▸ hV)).trans e⟩⟩
    | succ i => simp at h1) (fun y hy => by simp at hy; simp [hy]) fun b o hb e => (hs.2 b hb).trans e) (fnkind hk))
theorem Asg.pair {x y : Str} {px py tp : Pos} {n : Nat} {a b : PV} (hxy : x ≠ y) : Asg w (.Tuple [.Name x px, .Name y py] n tp) [x, y] (.tup [a, b]) [a, b] := fun env V A s Q E cv m hk hx hh hV r hn k => by
  obtain ⟨t, vs, rfl, nv, hl, hr⟩ := rep_tup r
  obtain ⟨v, u, rfl, ra, rb⟩ := reps_two hr
  refine wpAny_assign_Tuple hh hl.isTuple rfl rfl fun h1 he => ?_
  have st : Stays s.heap h1 := fun b o e => he b o (Nat.ne_of_lt (Heap.lt_size e)) e
  show wpAny (MW w) A (do holding [u] (assign (.Name x px) env v); (do holding [] (assign (.Name y py) env u); pure ())) Q E _
  refine wpAny_bind (wpAny_holding (wpAny_assign_Name (wpAny_storeName_local (hx x (by simp)) (hn.keeps st) (fun h2 hn2 hs2 => ?_) (fnkind hk))))
  refine wpAny_bind (wpAny_holding (wpAny_assign_Name (wpAny_storeName_local (hx y (by simp)) hn2 (fun h3 hn3 hs3 => ?_) (fnkind hk))))
  have kp : ∀ b o, b ≠ env.locals → s.heap.get? b = some o → h3.get? b = some o := fun b o hb e => (hs3.2 b hb).trans ((hs2.2 b hb).trans (st b o e))
  have rm : ∀ {p : PV} {c : Value}, Rep V s.heap p c → Rep V h3 p c := fun r => r.mono fun b o nb e => ⟨nb, kp b o (fun hb => nb (hb ▸ hV)) e⟩
  refine wpAny_pure (k h3 _ _ hn3 (fun i z p h1 h2 => ?_) (fun z hz => ?_) kp)
  · cases i with
    | zero => simp at h1 h2; subst h1; subst h2; exact ⟨v, by simp [hxy], rm ra⟩
    | succ i =>
      cases i with
      | zero => simp at h1 h2; subst h1; subst h2; exact ⟨u, by simp, rm rb⟩
      | succ i => simp at h1
  · simp at hz; simp [hz.1, hz.2]
/-- the tests of a comprehension -/
theorem Ands.tests {es : List Expr} {b : Bool} (x : Ands w d Γ vals es b) : ∀ (env : Env) (V : Addr → Prop) (A : Around) (s : Shared) (Q : Bool → Shared → Prop) (E : Value → Shared → Prop), EnvOK w env Γ vals V s.heap → Room A d →
    (∀ h' tk, Stays s.heap h' → Q b { s with heap := h', toks := tk }) → wpAny (MW w) A (forIn es true fun c r => if r = true then do let ok ← isTrue c env (eval c env); pure (ForInStep.yield ok) else pure (ForInStep.yield r)) Q E s := by
  have dead : ∀ (es : List Expr) (env : Env) (A : Around) (s : Shared) (Q : Bool → Shared → Prop) (E : Value → Shared → Prop), Q false s → wpAny (MW w) A (forIn es false fun c r => if r = true then do let ok ← isTrue c env (eval c env); pure (ForInStep.yield ok) else pure (ForInStep.yield r)) Q E s := by
    intro es
    induction es with
    | nil => intro env A s Q E q; rw [List.forIn_nil]; exact wpAny_pure q
    | cons e es ih => intro env A s Q E q; rw [List.forIn_cons]; simp only [Bool.false_eq_true, if_false]; exact wpAny_bind (wpAny_pure (ih env A s Q E q))
  induction x with
  | nil => intro env V A s Q E ok rm k; rw [List.forIn_nil]; exact wpAny_pure (k s.heap s.toks (Stays.refl _))
  | ff h => intro env V A s Q E ok rm k; rw [List.forIn_cons]; simp only [if_true]; exact wpAny_bind (wpAny_bind (h env V A s _ _ ok rm fun h' tk st => wpAny_pure (dead _ _ _ _ _ _ (k _ _ st))))
  | tt h _ ih => intro env V A s Q E ok rm k; rw [List.forIn_cons]; simp only [if_true]; exact wpAny_bind (wpAny_bind (h env V A s _ _ ok rm fun h' tk st => wpAny_pure (ih env V A _ _ _ (ok.stays st) rm fun h2 tk2 st2 => k _ _ (st.trans st2))))
/-- a loop of a comprehension, any target -/
theorem compLoop_any {A : Around} {R : Result → Shared → Prop} {s : Shared} {elt target iter : Expr} {ifs : List Expr} {scope : Scope} {pos : Pos} {it acc : Value} {env : Env} (I : Nat → Shared → Prop)
    (turn : ∀ n s, I n s → wpAny (MW w) A (pyNext it) (fun r s₁ => match r with
      | none => R (.ok .next) s₁
      | some v => wpAny (MW w) A (letOwnedTupleGo target it v) (fun _ s₁' => wpAny (MW w) A (assign target env v) (fun _ s₂ =>
          wpAny (MW w) A (forIn ifs true fun c r => if r = true then do let ok ← isTrue c env (eval c env); pure (ForInStep.yield ok) else pure (ForInStep.yield r)) (fun ok s₃ =>
            if ok = true then wpAny (MW w) A (eval elt env) (fun x s₄ =>
              wpAny (MW w) A (call (.builtin "list.append") [acc, x]) (fun _ s₅ => ∃ m, m < n ∧ I m s₅) (notedBy (MW w) A env fun e s' => R (.error e) s') s₄) (notedBy (MW w) A env fun e s' => R (.error e) s') s₃
            else ∃ m, m < n ∧ I m s₃) (notedBy (MW w) A env fun e s' => R (.error e) s') s₂) (notedBy (MW w) A env fun e s' => R (.error e) s') s₁') (notedBy (MW w) A env fun e s' => R (.error e) s') s₁) (notedBy (MW w) A env fun e s' => R (.error e) s') s)
    (n : Nat) (h : I n s) : codeAny (MW w) A (.compLoop (.ListComp elt [⟨target, iter, ifs, 0⟩] scope pos) 0 it acc env) R s := by
  refine codeAny_loop rfl I (fun n s hI => ?_) n h
  show wpAny _ A ((compTurn (.ListComp elt [⟨target, iter, ifs, 0⟩] scope pos) 0 it acc env).onRaise (fun x => do noteFrame x env; theTreesLotGoes x)) _ _ s
  refine wpAny_noted ?_
  rw [compTurn_list]
  refine wpAny_bind (wpAny_standAt (wpAny_bind (wpAny_mono (turn n s hI) (fun r s₁ h₁ => ?_) fun _ _ h' => h')))
  cases r with
  | none => exact wpAny_pure h₁
  | some v =>
    refine wpAny_bind (wpAny_mono h₁ (fun _ s₁' h₁' => ?_) fun _ _ h' => h')
    refine wpAny_bind (wpAny_mono h₁' (fun _ s₂ h₂ => wpAny_bind (wpAny_mono h₂ (fun ok s₃ h₃ => ?_) fun _ _ h' => h')) fun _ _ h' => h')
    cases ok with
    | false => exact wpAny_pure ⟨rfl, h₃⟩
    | true =>
      exact wpAny_bind (wpAny_bind (wpAny_mono h₃ (fun x s₄ h₄ => wpAny_bind (wpAny_mono h₄ (fun _ s₅ h₅ => wpAny_pure (wpAny_pure ⟨rfl, h₅⟩)) fun _ _ h' => h')) fun _ _ h' => h'))
noncomputable def compOK (Γv : List (Str × Bool)) (scope : Scope) (tn cn globs : List Str) : Bool :=
  scope.kind == .function && scope.names.all (fun y => y.2 != .cell) && scope.names.all (fun y => y.2 != .local || scope.names.lookup y.1 == some .local) &&
  tn.all (fun x => scope.names.lookup x == some .local && (x == ("__debug__" : Str)) == false && (x == ("__classdict__" : Str)) == false) &&
  cn.all (fun x => scope.names.lookup x == some .free && Γv.contains (x, true)) && scope.names.all (fun y => y.2 != .free || cn.contains y.1) &&
  globs.all (fun x => scope.names.lookup x == some .globalImplicit)
structure CompS (Γv : List (Str × Bool)) (scope : Scope) (tn cn globs : List Str) : Prop where
  kind : scope.kind = .function
  nocell : ∀ y ∈ scope.names, y.2 ≠ .cell
  names : ∀ y ∈ scope.names, y.2 = .local → scope.names.lookup y.1 = some .local
  tl : ∀ x ∈ tn, scope.names.lookup x = some .local ∧ (x == ("__debug__" : Str)) = false ∧ (x == ("__classdict__" : Str)) = false
  cf : ∀ x ∈ cn, scope.names.lookup x = some .free ∧ (x, true) ∈ Γv
  fr : ∀ y ∈ scope.names, y.2 = .free → y.1 ∈ cn
  gl : ∀ x ∈ globs, scope.names.lookup x = some .globalImplicit
theorem CompS.of {Γv : List (Str × Bool)} {scope : Scope} {tn cn globs : List Str} (h : compOK Γv scope tn cn globs = true) : CompS Γv scope tn cn globs := by
  unfold compOK at h
  simp only [Bool.and_eq_true, List.all_eq_true, beq_iff_eq, bne_iff_ne, Bool.or_eq_true, List.contains_iff_mem] at h
  obtain ⟨⟨⟨⟨⟨⟨h1, h2⟩, h3⟩, h4⟩, h5⟩, h6⟩, h7⟩ := h
  exact ⟨h1, h2, fun y hy e => (h3 y hy).resolve_left fun n => n e, fun x hx => ⟨(h4 x hx).1.1, (h4 x hx).1.2, (h4 x hx).2⟩, h5, fun y hy e => (h6 y hy).resolve_left fun n => n e, h7⟩
theorem lookup_snd {φ : Str → NameKind → NameKind} {x : Str} : ∀ {l : List (Str × NameKind)}, (l.map fun y => (y.1, φ y.1 y.2)).lookup x = (l.lookup x).map (φ x)
  | [] => rfl
  | (n, k) :: r => by
    have ih := @lookup_snd φ x r
    rw [List.map_cons, List.lookup_cons, List.lookup_cons]
    cases hx : x == n with
    | true => rw [eq_of_beq hx]; rfl
    | false => exact ih
theorem lookup_relabel {env : Env} {names : List (Str × NameKind)} {x : Str} :
    (names.map fun (n, k) => if (k == NameKind.free && env.scope.kind == .function && env.kindOf n == some .cell) then (n, NameKind.cell) else (n, k)).lookup x =
      (names.lookup x).map fun k => if (k == NameKind.free && env.scope.kind == .function && env.kindOf x == some .cell) then NameKind.cell else k := by
  have e : (fun (y : Str × NameKind) => match y with | (n, k) => if (k == NameKind.free && env.scope.kind == .function && env.kindOf n == some .cell) = true then (n, NameKind.cell) else (n, k)) =
      fun y => (y.1, (fun (n : Str) (k : NameKind) => if (k == NameKind.free && env.scope.kind == .function && env.kindOf n == some .cell) = true then NameKind.cell else k) y.1 y.2) := by
    funext ⟨n, k⟩
    dsimp only
    split <;> rfl
  rw [e]
  exact lookup_snd (φ := fun (n : Str) (k : NameKind) => if (k == NameKind.free && env.scope.kind == .function && env.kindOf n == some .cell) = true then NameKind.cell else k)
theorem closure_ok {env : Env} {cn : List Str} : ∀ (names : List (Str × NameKind)) (acc : List (Str × Addr)), (∀ y ∈ names, y.2 = .free → ∃ a, env.cells.lookup y.1 = some a) → (∀ x a, acc.lookup x = some a → env.cells.lookup x = some a) →
    ∃ cl, (forIn names acc fun (x : Str × NameKind) r => (do if (x.2 == .free) = true then pure (ForInStep.yield ((x.1, ← cellOf env x.1) :: r)) else pure (ForInStep.yield r) : Sem (ForInStep (List (Str × Addr))))) = pure cl ∧
      (∀ x a, cl.lookup x = some a → env.cells.lookup x = some a) ∧ (∀ x, (acc.lookup x).isSome = true → (cl.lookup x).isSome = true) ∧ ∀ y ∈ names, y.2 = .free → (cl.lookup y.1).isSome = true
  | [], acc, _, h2 => ⟨acc, rfl, h2, fun _ h => h, fun y hy => by cases hy⟩
  | (n, k) :: r, acc, h1, h2 => by
    rw [List.forIn_cons]
    by_cases hk : (k == NameKind.free) = true
    · obtain ⟨a, ha⟩ := h1 (n, k) (by simp) (eq_of_beq hk)
      obtain ⟨cl, e1, e2, e3, e4⟩ := @closure_ok env cn r ((n, a) :: acc) (fun y hy => h1 y (List.mem_cons_of_mem _ hy)) (fun x b hb => by
        rw [List.lookup_cons] at hb
        cases hx : x == n with
        | true => rw [hx] at hb; cases hb; rw [eq_of_beq hx]; exact ha
        | false => rw [hx] at hb; exact h2 x b hb)
      refine ⟨cl, ?_, e2, fun x hx => e3 x ?_, fun y hy hf => ?_⟩
      · simp only [hk, if_true]
        unfold cellOf
        rw [ha]
        exact e1
      · rw [List.lookup_cons]
        cases hx' : x == n with
        | true => rfl
        | false => exact hx
      · rcases List.mem_cons.mp hy with rfl | hy
        · exact e3 _ (by simp [List.lookup_cons])
        · exact e4 y hy hf
    · obtain ⟨cl, e1, e2, e3, e4⟩ := @closure_ok env cn r acc (fun y hy => h1 y (List.mem_cons_of_mem _ hy)) h2
      refine ⟨cl, ?_, e2, e3, fun y hy hf => ?_⟩
      · simp only [hk]
        exact e1
      · rcases List.mem_cons.mp hy with rfl | hy
        · exact absurd (by simpa using hf) hk
        · exact e4 y hy hf
theorem closureFor_ok {env : Env} {scope : Scope} (h : ∀ y ∈ scope.names, y.2 = .free → ∃ a, env.cells.lookup y.1 = some a) :
    ∃ cl, closureFor scope env = pure cl ∧ (∀ x a, cl.lookup x = some a → env.cells.lookup x = some a) ∧ ∀ y ∈ scope.names, y.2 = .free → (cl.lookup y.1).isSome = true := by
  obtain ⟨cl, e1, e2, _, e4⟩ := @closure_ok env [] scope.names [] h (fun x a e => by simp at e)
  refine ⟨cl, ?_, e2, e4⟩
  simp only [closureFor]
  rw [e1]
  rfl
end
end Mine
end
noncomputable section
namespace Mine
open PySem.Calls
section
variable {w : World} {d : Nat} {Γ : Cx} {vals : List Sl}
/-- the names of a comprehension's block -/
noncomputable def cxc (tn cn globs : List Str) : Cx := ⟨tn.map (·, false) ++ cn.map (·, true), globs⟩
/-- the values that it takes from around -/
inductive Caps (Γ : Cx) (vals : List Sl) : List Str → List PV → Prop
  | nil : Caps Γ vals [] []
  | cons {x p xs ps} : At Γ.vars vals x (.val p) → Caps Γ vals xs ps → Caps Γ vals (x :: xs) (p :: ps)
theorem Caps.get {cn : List Str} {cv : List PV} (c : Caps Γ vals cn cv) : ∀ (i : Nat) (x : Str) (p : PV), cn[i]? = some x → cv[i]? = some p → At Γ.vars vals x (.val p) := by
  induction c with
  | nil => intro i x p h; simp at h
  | cons a _ ih =>
    intro i x p h1 h2
    cases i with
    | zero => simp at h1 h2; subst h1; subst h2; exact a
    | succ i => exact ih i x p (by simpa using h1) (by simpa using h2)
theorem cenv_ok {env : Env} {V V' : Addr → Prop} {scope : Scope} {tn cn globs : List Str} {tv cv : List PV} {cl : List (Str × Addr)} {C : Addr} {h₁ h : Heap} {m : Str → Option Value}
    (ok : EnvOK w env Γ vals V h₁) (S : CompS Γ.vars scope tn cn globs) (caps : Caps Γ vals cn cv) (hcl : ∀ x a, cl.lookup x = some a → env.cells.lookup x = some a) (hcl2 : ∀ y ∈ scope.names, y.2 = .free → (cl.lookup y.1).isSome = true)
    (st : Stays h₁ h) (hV : ∀ b, V b → V' b) (hV' : ∀ b, V' b → V b ∨ h₁.get? b = none) (al : Alive V' h) (hn : h.Ns C m)
    (htv : tv.length = tn.length) (ht : ∀ (i : Nat) (x : Str) (p : PV), tn[i]? = some x → tv[i]? = some p → ∃ c, m x = some c ∧ Rep V' h p c)
    (hcv : ∀ x, scope.names.lookup x = some .free → ∃ y ∈ scope.names, y.1 = x ∧ y.2 = .free) :
    EnvOK w (compEnvC scope cl C env) (cxc tn cn globs) (tv.map Sl.val ++ cv.map Sl.val) V' h where
  kind := S.kind
  glb := ok.glb
  bln := ok.bln
  gk := fun x hx => by
    show (relabel scope env).names.lookup x = _
    rw [relabel, lookup_relabel, S.gl x hx]; rfl
  base := ok.base.stays st
  al := al
  nm := fun x c hx => by
    rcases List.mem_append.mp hx with h1 | h1
    · obtain ⟨y, hy, e⟩ := List.mem_map.mp h1; cases e; exact (S.tl x hy).2
    · obtain ⟨y, hy, e⟩ := List.mem_map.mp h1; cases e; exact ok.nm x true (S.cf x hy).2
  cel := fun x hx => by
    rcases List.mem_append.mp hx with h1 | h1
    · obtain ⟨y, hy, e⟩ := List.mem_map.mp h1; cases e
    · obtain ⟨y, hy, e⟩ := List.mem_map.mp h1; cases e
      have hf := (S.cf x hy).1
      obtain ⟨z, hz, rfl, hz2⟩ := hcv x hf
      refine ⟨?_, Option.isSome_iff_exists.mp (hcl2 z hz hz2)⟩
      show (relabel scope env).names.lookup z.1 = _ ∨ (relabel scope env).names.lookup z.1 = _
      rw [relabel, lookup_relabel, hf]
      simp only [Option.map_some]
      split
      · exact .inl rfl
      · exact .inr rfl
  slot := fun i x c p h1 h2 => by
    simp only [cxc] at h1
    by_cases hi : i < tn.length
    · rw [List.getElem?_append_left (by simpa using hi)] at h1
      rw [List.getElem?_append_left (by simpa [htv] using hi)] at h2
      · simp only [List.getElem?_map, Option.map_eq_some_iff] at h1 h2
        obtain ⟨y, hy, e⟩ := h1; cases e
        obtain ⟨q, hq, e⟩ := h2; cases e
        obtain ⟨cv', hm, r⟩ := ht i x p hy hq
        refine ⟨cv', ?_, r⟩
        unfold Loads
        simp only [Bool.false_eq_true, if_false]
        refine ⟨?_, m, hn, hm⟩
        show (relabel scope env).names.lookup x = _
        rw [relabel, lookup_relabel, (S.tl x (List.mem_of_getElem? hy)).1]; rfl
    · rw [List.getElem?_append_right (by simp; (first | lia | omega))] at h1
      rw [List.getElem?_append_right (by simp [htv]; (first | lia | omega))] at h2
      · simp only [List.getElem?_map, Option.map_eq_some_iff, List.length_map] at h1 h2
        obtain ⟨y, hy, e⟩ := h1; cases e
        rw [htv] at h2
        obtain ⟨q, hq, e⟩ := h2; cases e
        obtain ⟨j, cc, g1, g2⟩ := (caps.get _ x p hy hq).idx
        obtain ⟨cv', hl, r⟩ := ok.slot j x cc p g1 g2
        have hxm := List.mem_of_getElem? hy
        have hf := (S.cf x hxm).1
        obtain ⟨z, hz, rfl, hz2⟩ := hcv x hf
        obtain ⟨a, ha⟩ := Option.isSome_iff_exists.mp (hcl2 z hz hz2)
        have ha' := hcl _ _ ha
        refine ⟨cv', ?_, r.mono fun b o nb e => ⟨fun hb => (hV' b hb).elim nb fun hn => (by rw [hn] at e; cases e), st b o e⟩⟩
        unfold Loads
        simp only [if_true]
        refine ⟨?_, ?_⟩
        · show (relabel scope env).names.lookup z.1 = _ ∨ (relabel scope env).names.lookup z.1 = _
          rw [relabel, lookup_relabel, hf]
          simp only [Option.map_some]
          split
          · exact .inl rfl
          · exact .inr rfl
        · unfold Loads at hl
          have hcc := (ok.cel z.1 (S.cf z.1 hxm).2).1
          cases cc with
          | false =>
            simp only [Bool.false_eq_true, if_false] at hl
            exfalso
            rcases hcc with h | h <;> rw [h] at hl <;> cases hl.1
          | true =>
            simp only [if_true] at hl
            obtain ⟨_, b, o, hb, ho, hd⟩ := hl
            rw [ha'] at hb
            cases hb
            exact ⟨a, o, ha, st _ _ ho, hd⟩
  owns := fun i x c xs h1 h2 => by
    exfalso
    rcases List.mem_append.mp (List.mem_of_getElem? h2) with h | h
    · obtain ⟨_, _, e⟩ := List.mem_map.mp h; cases e
    · obtain ⟨_, _, e⟩ := List.mem_map.mp h; cases e
theorem lookup_free {names : List (Str × NameKind)} {x : Str} {k : NameKind} (h : names.lookup x = some k) : ∃ y ∈ names, y.1 = x ∧ y.2 = k := by
  induction names with
  | nil => simp at h
  | cons y r ih =>
    obtain ⟨n, k'⟩ := y
    rw [List.lookup_cons] at h
    cases hx : x == n with
    | true => rw [hx] at h; cases h; exact ⟨(n, k), by simp, (eq_of_beq hx).symm, rfl⟩
    | false => rw [hx] at h; obtain ⟨y, hy, e⟩ := ih h; exact ⟨y, List.mem_cons_of_mem _ hy, e⟩
/-- what one item of the source gives -/
noncomputable def Elem (w : World) (d : Nat) (Γc : Cx) (cv : List PV) (T : Expr) (tn : List Str) (ifs : List Expr) (elt : Expr) (q : PV) (r : Option PV) : Prop :=
  ∃ tv, tv.length = tn.length ∧ Asg w T tn q tv ∧ match r with
    | none => Ands w d Γc (tv.map Sl.val ++ cv.map Sl.val) ifs false
    | some p => Ands w d Γc (tv.map Sl.val ++ cv.map Sl.val) ifs true ∧ Ev w d Γc (tv.map Sl.val ++ cv.map Sl.val) elt p
theorem comp_core {env : Env} {V : Addr → Prop} {A : Around} {E : Value → Shared → Prop} {s₂ : Shared} {h₁ : Heap} {scope : Scope} {tn cn globs : List Str} {cv : List PV} {cl : List (Str × Addr)} {T elt iter : Expr} {ifs : List Expr} {pos : Pos} {I : Addr} {fp wr : List Addr} {items : List PV} {St : Nat → Heap → Prop}
    {f : PV → Option PV} {RR : Value → Addr → Result → Shared → Prop}
    (ok : EnvOK w env Γ vals V h₁) (rm : Room A d) (S : CompS Γ.vars scope tn cn globs) (caps : Caps Γ vals cn cv) (hcl : ∀ x a, cl.lookup x = some a → env.cells.lookup x = some a) (hcl2 : ∀ y ∈ scope.names, y.2 = .free → (cl.lookup y.1).isSome = true)
    (it : It w A V h₁ T I fp wr items St s₂.heap) (hz : items.length ≤ sizeLine) (hel : ∀ q ∈ items, Elem w d (cxc tn cn globs) cv T tn ifs elt q (f q))
    (hRR : ∀ D C h' tk m' ys, h₁.get? D = none → h₁.get? C = none → s₂.heap.get? D = none → s₂.heap.get? C = none → D ≠ C → h'.Ns C m' → h'.PlainList D (List.toArray ys) → Reps (fun b => V b ∨ b = C ∨ b = D) h' (items.filterMap f) ys → Stays h₁ h' → RR (.ref D) C (.ok .next) { s₂ with heap := h', toks := tk }) :
    wpAny (MW w) A (newList []) (fun acc s₃ => wpAny (MW w) A (newFunctionEnv scope env.globals cl [] env.qual none .none (some env)) (fun cenv s₄ =>
      codeAny (MW w) A (.compStart (.ListComp elt [⟨T, iter, ifs, 0⟩] scope pos) 0 (.ref I) acc { cenv with scope := relabel scope env }) (RR acc cenv.locals) s₄) E s₃) E s₂ := by
  refine wpAny_newObj_type (wpAny_newFunctionEnv S.nocell (by intro y hy; simp at hy) (fun h0 hns0 hsb0 => ?_) S.kind)
  dsimp only at hns0 hsb0 ⊢
  generalize hH2 : s₂.heap.push { cls := .type "list", dict := none, data := .seq ([] : List Value).toArray } = H2 at hns0 hsb0 ⊢
  have hC : H2.objs.size = s₂.heap.objs.size + 1 := by rw [← hH2, Heap.size_push]
  generalize hCe : H2.objs.size = C at *
  generalize hDe : s₂.heap.objs.size = D at *
  have hDC : D ≠ C := by rw [hC]; exact Nat.ne_of_lt (Nat.lt_succ_self _)
  have nD : s₂.heap.get? D = none := hDe ▸ size_new _
  have nC : s₂.heap.get? C = none := by
    cases e : s₂.heap.get? C with
    | none => rfl
    | some o => have := Heap.lt_size e; rw [hDe, hC] at this; exact absurd this (Nat.not_lt.mpr (Nat.le_succ _))
  have n1 : ∀ {b : Addr}, s₂.heap.get? b = none → h₁.get? b = none := fun {b} h => by
    cases e : h₁.get? b with
    | none => rfl
    | some o => have := it.st _ _ e; rw [h] at this; cases this
  have old : Stays s₂.heap h0 := fun b o e => (hsb0.2 b fun h => by rw [h, nC] at e; cases e).trans (by
    rw [show H2.push { cls := .type (if (some env).isSome then "dict" else "frame"), data := .dict #[] } = H2.push _ from rfl]
    exact Heap.get?_push_of_some _ (hH2 ▸ Heap.get?_push_of_some _ e))
  have hacc : h0.PlainList D (List.toArray []) := ⟨0, (hsb0.2 D hDC).trans (Heap.get?_push_of_some _ (hH2 ▸ hDe ▸ Heap.get?_push_size _ rfl))⟩
  have hDf : D ∉ fp := fun hm => by obtain ⟨o, e⟩ := it.alv _ _ it.s0 _ hm; rw [nD] at e; cases e
  have hCf : C ∉ fp := fun hm => by obtain ⟨o, e⟩ := it.alv _ _ it.s0 _ hm; rw [nC] at e; cases e
  have hCw : C ∉ wr := fun h => hCf (it.W.sub _ h)
  have hDw : D ∉ wr := fun h => hDf (it.W.sub _ h)
  let V' : Addr → Prop := fun b => V b ∨ b = C ∨ b = D ∨ b ∈ wr
  have loop : ∀ s₃ : Shared, s₃ = { s₂ with heap := h0, toks := s₂.toks + ([] : List (Str × Value)).length } →
      codeAny (MW w) A (.compLoop (.ListComp elt [⟨T, iter, ifs, 0⟩] scope pos) 0 (.ref I) (.ref D) (compEnvC scope cl C env)) (RR (.ref D) C) s₃ := by
    rintro s₃ rfl
    refine compLoop_any (fun k s' => ∃ h' tk m' ys i, s' = { s₂ with heap := h', toks := tk } ∧ St i h' ∧ h'.PlainList D (List.toArray ys) ∧ h'.Ns C m' ∧ Reps V' h' ((items.take i).filterMap f) ys ∧ Stays h₁ h' ∧ i ≤ items.length ∧ k = items.length + 1 - i) ?_ (items.length + 1)
      ⟨h0, _, _, [], 0, rfl, it.W.frame _ _ _ it.s0 fun b _ o e => old b o e, hacc, hns0, by simpa using Reps.nil, it.st.trans old, Nat.zero_le _, rfl⟩
    rintro k s' ⟨H, tk, m', ys, i, rfl, hst', hacc', hn', hF, hk, hi, rfl⟩
    by_cases hlt : i < items.length
    · refine it.W.item i _ _ _ hlt hst' fun v h2 tk2 hP hst2 hk2 => ?_
      obtain ⟨q, hq, rq⟩ := hP
      obtain ⟨tv, htv, asg, hr⟩ := hel q (List.mem_of_getElem? hq)
      have st2 : Stays h₁ h2 := fun b o e => hk2 b o (fun hb => by rw [it.wr0 b hb] at e; cases e) (hk b o e)
      have hn2 : h2.Ns C m' := hn'.at' fun o e => hk2 _ o hCw e
      refine it.go (i + 1) _ v _ _ hst2 ?_
      have nV' : ∀ b o, ¬ V b → h₁.get? b = some o → ¬ V' b := fun b o nb e hb => by
        rcases hb with hb | rfl | rfl | hb
        · exact nb hb
        · rw [n1 nC] at e; cases e
        · rw [n1 nD] at e; cases e
        · rw [it.wr0 b hb] at e; cases e
      have rq2 : Rep V' h2 q v := rq.mono fun b o nb e => ⟨nV' b o nb e, st2 b o e⟩
      refine asg (compEnvC scope cl C env) V' A _ _ _ v m' S.kind (fun x hx => ?_) rm.hh (.inr (.inl rfl)) rq2 hn2 fun h3 tk3 m3 hn3 hm3 _ hk3 => ?_
      · show (relabel scope env).names.lookup x = _
        rw [relabel, lookup_relabel, (S.tl x hx).1]; rfl
      have st3 : Stays h₁ h3 := fun b o e => hk3 b o (fun h => by rw [show (compEnvC scope cl C env).locals = C from rfl] at h; rw [h, n1 nC] at e; cases e) (st2 b o e)
      have hst3 : St (i + 1) h3 := it.W.frame _ _ _ hst2 fun b hb o e => hk3 b o (fun (h : b = C) => hCf (h ▸ hb)) e
      have hacc3 : h3.PlainList D (List.toArray ys) := (hacc'.at fun o e => hk2 _ o hDw e).at fun o e => hk3 _ o hDC e
      have hF3 : Reps V' h3 ((items.take i).filterMap f) ys := hF.mono fun b o nb e => ⟨nb, hk3 b o (fun h => nb (.inr (.inl h))) (hk2 b o (fun h => nb (.inr (.inr (.inr h)))) e)⟩
      have al3 : Alive V' h3 := fun b hb => by
        rcases hb with hb | rfl | rfl | hb
        · obtain ⟨o, e⟩ := ok.al b hb; exact ⟨o, st3 _ _ e⟩
        · obtain ⟨o, _, _, e, _⟩ := hn3; exact ⟨o, e⟩
        · obtain ⟨n, e⟩ := hacc3; exact ⟨_, e⟩
        · exact it.alv _ _ hst3 b (it.W.sub b hb)
      have cok : EnvOK w (compEnvC scope cl C env) (cxc tn cn globs) (tv.map Sl.val ++ cv.map Sl.val) V' h3 :=
        cenv_ok ok S caps hcl hcl2 st3 (fun b hb => .inl hb) (fun b hb => hb.elim .inl fun hb => .inr (by
          rcases hb with rfl | rfl | hb
          · exact n1 nC
          · exact n1 nD
          · exact it.wr0 b hb)) al3 hn3 htv hm3 fun x h => lookup_free h
      have htk : (items.take (i + 1)).filterMap f = (items.take i).filterMap f ++ (f q).toList := by
        rw [List.take_add_one, hq, List.filterMap_append]
        cases hfq : f q <;> simp [hfq]
      cases hfq : f q with
      | none =>
        rw [hfq] at hr htk
        refine hr.tests _ V' A _ _ _ cok rm fun h4 tk4 st4 => ?_
        simp only [Bool.false_eq_true, if_false]
        refine ⟨items.length + 1 - (i + 1), by (first | lia | omega), h4, tk4, m3, ys, i + 1, rfl, it.W.frame _ _ _ hst3 fun b _ o e => st4 b o e, hacc3.at fun o e => st4 _ _ e, hn3.keeps st4, ?_, st3.trans st4, hlt, rfl⟩
        rw [htk]
        simpa using hF3.stays st4
      | some p =>
        rw [hfq] at hr htk
        refine hr.1.tests _ V' A _ _ _ cok rm fun h4 tk4 st4 => ?_
        simp only [if_true]
        refine hr.2 _ V' A _ _ _ (cok.stays st4) rm fun c h5 tk5 st5 rc => ?_
        have hys : (List.toArray ys).size ≤ sizeLine := by
          have e1 := hF3.length
          have e2 : ((items.take i).filterMap f).length ≤ (items.take i).length := List.length_filterMap_le _ _
          rw [List.length_take] at e2
          rw [List.size_toArray]; (first | lia | omega)
        refine wpAny_list_append_plain (hsz := hys) ((hacc3.at fun o e => st4 _ _ e).at fun o e => st5 _ _ e) fun h6 hl6 hs6 => ?_
        refine ⟨items.length + 1 - (i + 1), by (first | lia | omega), h6, tk5, m3, ys ++ [c], i + 1, rfl, ?_, ?_, ?_, ?_, ?_, hlt, rfl⟩
        · exact it.W.frame _ _ _ hst3 fun b hb o e => (hs6.2 b fun h => hDf (h ▸ hb)).trans (st5 _ _ (st4 _ _ e))
        · simpa using hl6
        · exact ((hn3.keeps st4).keeps st5).sameBut hs6 (Ne.symm hDC)
        · rw [htk]
          have rr : Reps V' h5 ((items.take i).filterMap f ++ [p]) (ys ++ [c]) := ((hF3.stays st4).stays st5).append (Reps.cons rc Reps.nil)
          exact rr.mono fun b o nb e => ⟨nb, (hs6.2 b fun h => nb (.inr (.inr (.inl h)))).trans e⟩
        · exact fun b o e => (hs6.2 b fun h => by rw [h, n1 nD] at e; cases e).trans (st5 _ _ (st4 _ _ (st3 _ _ e)))
    · have hin : i = items.length := by (first | lia | omega)
      subst hin
      refine it.W.done _ _ _ hst' fun h2 tk2 hk2 => ?_
      rw [List.take_length] at hF
      exact hRR D C h2 tk2 m' ys (n1 nD) (n1 nC) nD nC hDC (hn'.at' fun o e => hk2 _ o hCw e) (hacc'.at fun o e => hk2 _ o hDw e)
        (hF.mono fun b o nb e => ⟨fun h => nb (h.elim .inl fun h => .inr (h.elim .inl fun h => .inr (.inl h))), hk2 b o (fun h => nb (.inr (.inr (.inr h)))) e⟩)
        (fun b o e => hk2 b o (fun hb => by rw [it.wr0 b hb] at e; cases e) (hk b o e))
  exact codeAny_compStart_list (loop _ rfl) (it.W.self 0 _ _ _ (it.W.frame _ _ _ it.s0 fun b _ o e => old b o e) (loop _ rfl))
end
end Mine
namespace Mine
section
variable {w : World} {d : Nat} {Γ : Cx} {vals : List Sl}
theorem EvF.comp {elt T iter : Expr} {ifs : List Expr} {scope : Scope} {pos : Pos} {p : PV} {items : List PV} {tn cn globs : List Str} {cv : List PV} (f : PV → Option PV) (h1 : Ev w d Γ vals iter p) (hit : Iter w T p items)
    (caps : Caps Γ vals cn cv) (hel : ∀ q ∈ items, Elem w d (cxc tn cn globs) cv T tn ifs elt q (f q)) (hS : compOK Γ.vars scope tn cn globs = true) (hz : items.length ≤ sizeLine) (hs : ∀ env x, foldedSetIterable iter env x = pure x := by intro _ _; rfl) :
    EvF w d Γ vals (.ListComp elt [⟨T, iter, ifs, 0⟩] scope pos) (items.filterMap f) := fun env V A s Q E ok rm k => by
  have S := CompS.of hS
  obtain ⟨cl, e1, e2, e3⟩ := closureFor_ok (env := env) (scope := scope) fun y hy hf => (ok.cel y.1 (S.cf y.1 (S.fr y hy hf)).2).2
  rw [eval_ListComp]
  refine wpAny_comprehension_free (use := none) rfl (hs env) e1 S.kind S.names (h1 env V A s _ _ ok rm fun a h' tk st r => hit V A _ _ _ a rm.hh (ok.stays st).al r fun I fp wr St h2 tk2 it => ?_)
  refine comp_core (RR := fun acc C => compPost (MW w) A E none Q acc C) (ok.stays st) rm S caps e2 e3 it hz hel ?_
  intro D C h3 tk3 m' ys nD nC _ _ hDC hn hl hr st3
  refine ⟨m', hn, fun h4 hs4 => ?_⟩
  have kp : ∀ b o, b ≠ C → h3.get? b = some o → h4.get? b = some o := fun b o hb e => (hs4.2 b hb).trans e
  refine k D ys h4 _ (fun b o e => kp b o (fun h => ?_) (st3 b o (st b o e))) ?_ (hl.at fun o e => kp _ _ hDC e) (hr.mono fun b o nb e => ⟨fun h => nb (h.elim .inl fun h => .inr (.inr h)), kp b o (fun h => nb (.inr (.inl h))) e⟩)
  · rw [h] at e; have := st _ _ e; rw [nC] at this; cases this
  · cases e : s.heap.get? D with
    | none => rfl
    | some o => have := st _ _ e; rw [nD] at this; cases this
end
end Mine
end
noncomputable section
namespace Mine
open PySem.Calls
/-- what a frame may change -/
noncomputable def Own (env : Env) (oa : List (Str × Addr)) (b : Addr) : Prop := b = env.locals ∨ (∃ x, env.cells.lookup x = some b) ∨ ∃ x, (x, b) ∈ oa
noncomputable def Vol (env : Env) (V₀ : Addr → Prop) (oa : List (Str × Addr)) (b : Addr) : Prop := V₀ b ∨ Own env oa b
structure St (w : World) (Γ : Cx) (env : Env) (V₀ : Addr → Prop) (oa : List (Str × Addr)) (vals : List Sl) (h : Heap) : Prop where
  ok : EnvOK w env Γ vals (Vol env V₀ oa) h
  nd : (Γ.vars.map (·.1)).Nodup
  kd : ∀ x, (x, false) ∈ Γ.vars → env.kindOf x = some .local
  kc : ∀ x, (x, true) ∈ Γ.vars → env.kindOf x = some .cell
  ci : ∀ x y a, env.cells.lookup x = some a → env.cells.lookup y = some a → x = y
  cl : ∀ x a, env.cells.lookup x = some a → a ≠ env.locals
  ns : ∃ m, h.Ns env.locals m
  co : ∀ x a, env.cells.lookup x = some a → ∃ v, h.IsCell a v
  ow : ∀ (i : Nat) (x : Str) (c : Bool) (xs : List PV), Γ.vars[i]? = some (x, c) → vals[i]? = some (Sl.own xs) → c = false ∧ ∃ a, (x, a) ∈ oa ∧ Loads env h x false (.ref a)
  oL : ∀ x a, (x, a) ∈ oa → a ≠ env.locals ∧ (∀ y, env.cells.lookup y ≠ some a)
  oi : ∀ x y a, (x, a) ∈ oa → (y, a) ∈ oa → x = y
  v0 : ∀ b, V₀ b → ¬ Own env oa b
  bs : ∃ hb, Base w hb ∧ Stays hb h ∧ ∀ b o, hb.get? b = some o → ¬ Own env oa b
structure Step (env : Env) (oa : List (Str × Addr)) (h : Heap) (oa' : List (Str × Addr)) (h' : Heap) : Prop where
  kp : ∀ b o, ¬ Own env oa b → h.get? b = some o → h'.get? b = some o
  fr : ∀ x a, (x, a) ∈ oa' → (x, a) ∈ oa ∨ h.get? a = none
  al : ∀ b o, h.get? b = some o → ∃ o', h'.get? b = some o'
theorem Step.refl {env : Env} {oa : List (Str × Addr)} {h : Heap} : Step env oa h oa h := ⟨fun _ _ _ e => e, fun _ _ m => .inl m, fun _ o e => ⟨o, e⟩⟩
theorem Step.trans {env : Env} {oa oa1 oa2 : List (Str × Addr)} {h h1 h2 : Heap} (a : Step env oa h oa1 h1) (b : Step env oa1 h1 oa2 h2) : Step env oa h oa2 h2 where
  kp := fun x o n e => b.kp x o (fun h => by
    rcases h with h | h | ⟨y, h⟩
    · exact n (.inl h)
    · exact n (.inr (.inl h))
    · rcases a.fr y x h with h | h
      · exact n (.inr (.inr ⟨y, h⟩))
      · rw [h] at e; cases e) (a.kp x o n e)
  fr := fun x y m => (b.fr x y m).elim (a.fr x y) fun hn => by
    cases e : h.get? y with
    | none => exact .inr rfl
    | some o => obtain ⟨o', e'⟩ := a.al y o e; rw [hn] at e'; cases e'
  al := fun x o e => let ⟨o1, e1⟩ := a.al x o e; b.al x o1 e1
theorem Step.stays {env : Env} {oa : List (Str × Addr)} {h h' : Heap} (k : Stays h h') : Step env oa h oa h' := ⟨fun _ _ _ e => k _ _ e, fun _ _ m => .inl m, fun b o e => ⟨o, k _ _ e⟩⟩
section
variable {w : World} {d : Nat} {Γ : Cx} {vals : List Sl} {env : Env} {V₀ : Addr → Prop} {oa : List (Str × Addr)} {h h' : Heap}
theorem St.stays (x : St w Γ env V₀ oa vals h) (k : Stays h h') : St w Γ env V₀ oa vals h' where
  ok := x.ok.stays k
  nd := x.nd
  kd := x.kd
  kc := x.kc
  ci := x.ci
  cl := x.cl
  ns := let ⟨m, e⟩ := x.ns; ⟨m, e.keeps k⟩
  co := fun y a e => let ⟨v, o, h1, h2⟩ := x.co y a e; ⟨v, o, k _ _ h1, h2⟩
  ow := fun i y c xs h1 h2 => let ⟨a, b, h3, h4⟩ := x.ow i y c xs h1 h2; ⟨a, b, h3, h4.stays k⟩
  oL := x.oL
  oi := x.oi
  v0 := x.v0
  bs := let ⟨hb, b, s, n⟩ := x.bs; ⟨hb, b, s.trans k, n⟩
/-- the slot of a name is filled anew -/
inductive Put : List (Str × Bool) → List Sl → Str → Sl → List Sl → Prop
  | here {x c vs p q ps} : Put ((x, c) :: vs) (p :: ps) x q (q :: ps)
  | there {x y vs p q ps ps'} : Put vs ps x q ps' → Put (y :: vs) (p :: ps) x q (p :: ps')
theorem Put.idx {vs : List (Str × Bool)} {ps ps' : List Sl} {x : Str} {q : Sl} (a : Put vs ps x q ps') : ∃ (i : Nat) (c : Bool), vs[i]? = some (x, c) ∧ i < ps.length ∧ ps' = ps.set i q := by
  induction a with
  | here => exact ⟨0, _, rfl, by simp, rfl⟩
  | there _ ih => obtain ⟨i, c, h1, h2, h3⟩ := ih; exact ⟨i + 1, c, by simpa using h1, by simpa using h2, by rw [h3]; rfl⟩
theorem nodup_idx : ∀ {vs : List (Str × Bool)} {i j : Nat} {x : Str} {c c' : Bool}, (vs.map (·.1)).Nodup → vs[i]? = some (x, c) → vs[j]? = some (x, c') → i = j
  | [], _, _, _, _, _, _, h, _ => by simp at h
  | v :: vs, 0, 0, _, _, _, _, _, _ => rfl
  | v :: vs, 0, j + 1, x, c, c', nd, h1, h2 => by
    simp at h1; subst h1
    simp only [List.map_cons, List.nodup_cons] at nd
    exact absurd (List.mem_map.mpr ⟨(x, c'), List.mem_of_getElem? (by simpa using h2), rfl⟩) nd.1
  | v :: vs, i + 1, 0, x, c, c', nd, h1, h2 => by
    simp at h2; subst h2
    simp only [List.map_cons, List.nodup_cons] at nd
    exact absurd (List.mem_map.mpr ⟨(x, c), List.mem_of_getElem? (by simpa using h1), rfl⟩) nd.1
  | v :: vs, i + 1, j + 1, x, c, c', nd, h1, h2 => by
    simp only [List.map_cons, List.nodup_cons] at nd
    exact congrArg (· + 1) (nodup_idx nd.2 (by simpa using h1) (by simpa using h2))
/-- a store into one of the frame's own places -/
theorem St.place {x : Str} {q : Sl} {vals' : List Sl} {oa' : List (Str × Addr)} (z : St w Γ env V₀ oa vals h) (p : Put Γ.vars vals x q vals')
    (kp : ∀ b o, ¬ Own env oa' b → h.get? b = some o → h'.get? b = some o)
    (oth : ∀ y c v, y ≠ x → Loads env h y c v → Loads env h' y c v)
    (ns : ∃ m, h'.Ns env.locals m) (co : ∀ y a, env.cells.lookup y = some a → ∃ v, h'.IsCell a v)
    (hoa : ∀ y a, (y, a) ∈ oa → (y, a) ∈ oa') (hoa' : ∀ y a, (y, a) ∈ oa' → (y, a) ∈ oa ∨ (y = x ∧ h.get? a = none ∧ ¬ V₀ a ∧ a ≠ env.locals ∧ (∀ u, env.cells.lookup u ≠ some a) ∧ ∀ u, (u, a) ∈ oa' → u = x))
    (al : ∀ b, Vol env V₀ oa' b → ∃ o, h'.get? b = some o)
    (olist : ∀ y a vs, y ≠ x → (y, a) ∈ oa → h.PlainList a vs → h'.PlainList a vs)
    (one : match q with
      | .un => True
      | .val v => ∃ (c : Bool) (cv : Value), (∀ c', (x, c') ∈ Γ.vars → c' = c) ∧ Loads env h' x c cv ∧ Rep (Vol env V₀ oa') h' v cv
      | .own xs => (∀ c', (x, c') ∈ Γ.vars → c' = false) ∧ ∃ a vs, (x, a) ∈ oa' ∧ Loads env h' x false (.ref a) ∧ h'.PlainList a (List.toArray vs) ∧ Reps (Vol env V₀ oa') h' xs vs) :
    St w Γ env V₀ oa' vals' h' := by
  obtain ⟨i, c, hi, hlt, rfl⟩ := p.idx
  have rk : ∀ {v : PV} {cv : Value}, Rep (Vol env V₀ oa) h v cv → Rep (Vol env V₀ oa') h' v cv := fun r => r.mono fun b o nb e => by
    have nb' : ¬ Vol env V₀ oa' b := fun hb => by
      rcases hb with hb | hb | hb | ⟨y, hb⟩
      · exact nb (.inl hb)
      · exact nb (.inr (.inl hb))
      · exact nb (.inr (.inr (.inl hb)))
      · rcases hoa' y b hb with hb | ⟨_, hb, _⟩
        · exact nb (.inr (.inr (.inr ⟨y, hb⟩)))
        · rw [hb] at e; cases e
    exact ⟨nb', kp b o (fun hb => nb' (.inr hb)) e⟩
  have rks : ∀ {v : List PV} {cv : List Value}, Reps (Vol env V₀ oa) h v cv → Reps (Vol env V₀ oa') h' v cv := fun r => r.mono fun b o nb e => by
    have nb' : ¬ Vol env V₀ oa' b := fun hb => by
      rcases hb with hb | hb | hb | ⟨y, hb⟩
      · exact nb (.inl hb)
      · exact nb (.inr (.inl hb))
      · exact nb (.inr (.inr (.inl hb)))
      · rcases hoa' y b hb with hb | ⟨_, hb, _⟩
        · exact nb (.inr (.inr (.inr ⟨y, hb⟩)))
        · rw [hb] at e; cases e
    exact ⟨nb', kp b o (fun hb => nb' (.inr hb)) e⟩
  have neq : ∀ {j : Nat} {y : Str} {c' : Bool}, Γ.vars[j]? = some (y, c') → j ≠ i → y ≠ x := fun {j y c'} hj hne e => by
    subst e; exact hne (nodup_idx z.nd hj hi)
  obtain ⟨hb, bb, bst, bn⟩ := z.bs
  have bn' : ∀ b o, hb.get? b = some o → ¬ Own env oa' b := fun b o e hb => by
    rcases hb with h1 | h1 | ⟨y, h1⟩
    · exact bn b o e (.inl h1)
    · exact bn b o e (.inr (.inl h1))
    · rcases hoa' y b h1 with h1 | ⟨_, h1, _⟩
      · exact bn b o e (.inr (.inr ⟨y, h1⟩))
      · rw [bst b o e] at h1; cases h1
  have bst' : Stays hb h' := fun b o e => kp b o (bn' b o e) (bst b o e)
  have bk : Base w h' := bb.stays bst'
  refine ⟨⟨z.ok.kind, z.ok.glb, z.ok.bln, z.ok.gk, bk, al, z.ok.nm, z.ok.cel, fun j y c' p h1 h2 => ?_, fun j y c' xs h1 h2 => ?_⟩, z.nd, z.kd, z.kc, z.ci, z.cl, ns, co, fun j y c' xs h1 h2 => ?_, fun y a m => ?_, fun y u a m1 m2 => ?_, fun b hb ho => ?_, ⟨hb, bb, bst', bn'⟩⟩
  · by_cases hj : j = i
    · subst hj
      rw [hi] at h1; cases h1
      rw [List.getElem?_set_self hlt] at h2; cases h2
      obtain ⟨c0, cv, hc, l, r⟩ := one
      rw [hc c (List.mem_of_getElem? hi)]
      exact ⟨cv, l, r⟩
    · rw [List.getElem?_set_ne (Ne.symm hj)] at h2
      obtain ⟨cv, l, r⟩ := z.ok.slot j y c' p h1 h2
      exact ⟨cv, oth y c' cv (neq h1 hj) l, rk r⟩
  · by_cases hj : j = i
    · subst hj
      rw [hi] at h1; cases h1
      rw [List.getElem?_set_self hlt] at h2; cases h2
      obtain ⟨hc, a, vs, _, l, pl, r⟩ := one
      rw [hc c (List.mem_of_getElem? hi)]
      exact ⟨a, vs, l, pl, r⟩
    · rw [List.getElem?_set_ne (Ne.symm hj)] at h2
      obtain ⟨a, vs, l, pl, r⟩ := z.ok.owns j y c' xs h1 h2
      obtain ⟨hc, a', m, l'⟩ := z.ow j y c' xs h1 h2
      subst hc
      have ha : a = a' := by
        unfold Loads at l l'
        simp only [Bool.false_eq_true, if_false] at l l'
        obtain ⟨_, m1, n1, e1⟩ := l
        obtain ⟨_, m2, n2, e2⟩ := l'
        obtain ⟨o, es, ep, q1, q2, q3, q4⟩ := n1
        obtain ⟨o', es', ep', r1, r2, r3, r4⟩ := n2
        rw [q1] at r1; cases r1
        rw [q2] at r2; cases r2
        rw [← q4] at e1; rw [← r4, e1] at e2; cases e2; rfl
      subst ha
      exact ⟨a, vs, oth y false _ (neq h1 hj) l, olist y a _ (neq h1 hj) m pl, rks r⟩
  · by_cases hj : j = i
    · subst hj
      rw [hi] at h1; cases h1
      rw [List.getElem?_set_self hlt] at h2; cases h2
      obtain ⟨hc, a, vs, m, l, _⟩ := one
      exact ⟨hc c (List.mem_of_getElem? hi), a, m, l⟩
    · rw [List.getElem?_set_ne (Ne.symm hj)] at h2
      obtain ⟨hc, a, m, l⟩ := z.ow j y c' xs h1 h2
      exact ⟨hc, a, hoa _ _ m, oth y false _ (neq h1 hj) l⟩
  · rcases hoa' y a m with m | ⟨_, _, _, h1, h2, _⟩
    · exact z.oL y a m
    · exact ⟨h1, h2⟩
  · rcases hoa' y a m1 with k1 | ⟨rfl, k1, _, _, _, k2⟩
    · rcases hoa' u a m2 with k2 | ⟨rfl, k2, _, _, _, k3⟩
      · exact z.oi y u a k1 k2
      · exact k3 y m1
    · exact (k2 u m2).symm
  · rcases ho with ho | ho | ⟨y, ho⟩
    · exact z.v0 b hb (.inl ho)
    · exact z.v0 b hb (.inr (.inl ho))
    · rcases hoa' y b ho with ho | ⟨_, _, nv, _⟩
      · exact z.v0 b hb (.inr (.inr ⟨y, ho⟩))
      · exact nv hb
end
end Mine
end
noncomputable section
namespace Mine
open PySem.Calls
theorem ns_uniq {h : Heap} {a : Addr} {m m' : Str → Option Value} (x : h.Ns a m) (y : h.Ns a m') : m = m' := by
  obtain ⟨o, es, ep, q1, q2, q3, q4⟩ := x
  obtain ⟨o', es', ep', r1, r2, r3, r4⟩ := y
  rw [q1] at r1; cases r1
  rw [q2] at r2; cases r2
  funext n
  rw [← q4, ← r4]
section
variable {w : World} {d : Nat} {Γ : Cx} {vals vals' : List Sl} {env : Env} {V₀ : Addr → Prop} {oa : List (Str × Addr)} {h h' : Heap} {A : Around} {E : Value → Shared → Prop} {s : Shared}
theorem St.flag (z : St w Γ env V₀ oa vals h) {i : Nat} {x : Str} {c : Bool} (hi : Γ.vars[i]? = some (x, c)) : ∀ c', (x, c') ∈ Γ.vars → c' = c := fun c' hm => by
  obtain ⟨j, hj⟩ := List.getElem?_of_mem hm
  have := nodup_idx z.nd hj hi
  subst this
  rw [hi] at hj
  cases hj; rfl
/-- facts of the other names after a write into the frame's dict -/
theorem oth_local {x : Str} {cv : Value} {m : Str → Option Value} (hns : h.Ns env.locals m) (hcl : ∀ x a, env.cells.lookup x = some a → a ≠ env.locals) (hn : h'.Ns env.locals (fun y => if y = x then some cv else m y)) (hs : Heap.SameBut env.locals h h') :
    ∀ y c v, y ≠ x → Loads env h y c v → Loads env h' y c v := fun y c v hne l => by
  unfold Loads at *
  cases c with
  | false =>
    simp only [Bool.false_eq_true, if_false] at *
    obtain ⟨k, m1, n1, e1⟩ := l
    rw [ns_uniq n1 hns] at e1
    exact ⟨k, _, hn, by simp [hne, e1]⟩
  | true =>
    simp only [if_true] at *
    obtain ⟨k, a, o, h1, h2, h3⟩ := l
    exact ⟨k, a, o, h1, (hs.2 a (hcl y a h1)).trans h2, h3⟩
theorem St.store {x : Str} {p : PV} {cv : Value} {Q : Unit → Shared → Prop} (z : St w Γ env V₀ oa vals s.heap) (pt : Put Γ.vars vals x (.val p) vals') (r : Rep (Vol env V₀ oa) s.heap p cv)
    (k : ∀ h' tk, St w Γ env V₀ oa vals' h' → Step env oa s.heap oa h' → Q () { s with heap := h', toks := tk }) : wpAny (MW w) A (storeName env x cv) Q E s := by
  obtain ⟨i, c, hi, hlt, e⟩ := pt.idx
  have hm := List.mem_of_getElem? hi
  cases c with
  | false =>
    obtain ⟨m, hns⟩ := z.ns
    refine wpAny_storeName_local (z.kd x hm) hns (fun h' hn hs => ?_) (fnkind z.ok.kind)
    have kp : ∀ b o, ¬ Own env oa b → s.heap.get? b = some o → h'.get? b = some o := fun b o nb e => (hs.2 b fun hb => nb (.inl hb)).trans e
    have al : ∀ b o, s.heap.get? b = some o → ∃ o', h'.get? b = some o' := fun b o e => by
      by_cases hb : b = env.locals
      · subst hb; obtain ⟨o', _, _, e', _⟩ := hn; exact ⟨o', e'⟩
      · exact ⟨o, (hs.2 b hb).trans e⟩
    refine k h' _ (z.place (oa' := oa) pt kp (oth_local hns z.cl hn hs) ⟨_, hn⟩ (fun y a e => ?_) (fun _ _ m => m) (fun _ _ m => .inl m) (fun b hb => ?_) (fun y a vs _ ma pl => ?_) ?_) ⟨kp, fun _ _ m => .inl m, al⟩
    · obtain ⟨v, o, h1, h2⟩ := z.co y a e
      exact ⟨v, o, (hs.2 a (z.cl y a e)).trans h1, h2⟩
    · obtain ⟨o, e⟩ := z.ok.al b hb; exact al b o e
    · exact pl.at fun o e => (hs.2 a (z.oL y a ma).1).trans e
    · refine ⟨false, cv, z.flag hi, ?_, r.mono fun b o nb e => ⟨nb, kp b o (fun hb => nb (.inr hb)) e⟩⟩
      unfold Loads
      simp only [Bool.false_eq_true, if_false]
      exact ⟨z.kd x hm, _, hn, by simp⟩
  | true =>
    obtain ⟨_, a, ha⟩ := z.ok.cel x hm
    obtain ⟨v0, hcell⟩ := z.co x a ha
    refine wpAny_storeName_cell z.ok.kind (z.kc x hm) ha hcell fun h' hv hs => ?_
    have hne := z.cl x a ha
    have kp : ∀ b o, ¬ Own env oa b → s.heap.get? b = some o → h'.get? b = some o := fun b o nb e => (hs.2 b fun hb => nb (.inr (.inl ⟨x, hb ▸ ha⟩))).trans e
    have al : ∀ b o, s.heap.get? b = some o → ∃ o', h'.get? b = some o' := fun b o e => by
      by_cases hb : b = a
      · subst hb; obtain ⟨o', e', _⟩ := hv; exact ⟨o', e'⟩
      · exact ⟨o, (hs.2 b hb).trans e⟩
    obtain ⟨m, hns⟩ := z.ns
    refine k h' _ (z.place (oa' := oa) pt kp (fun y c v hyx l => ?_) ⟨m, hns.sameBut hs (Ne.symm hne)⟩ (fun y b e => ?_) (fun _ _ m => m) (fun _ _ m => .inl m) (fun b hb => ?_) (fun y b vs _ mb pl => ?_) ?_) ⟨kp, fun _ _ m => .inl m, al⟩
    · unfold Loads at *
      cases c with
      | false =>
        simp only [Bool.false_eq_true, if_false] at *
        obtain ⟨k, m1, n1, e1⟩ := l
        exact ⟨k, m1, n1.sameBut hs (Ne.symm hne), e1⟩
      | true =>
        simp only [if_true] at *
        obtain ⟨k, b, o, h1, h2, h3⟩ := l
        exact ⟨k, b, o, h1, (hs.2 b fun hb => hyx (z.ci y x a (hb ▸ h1) ha)).trans h2, h3⟩
    · by_cases hb : b = a
      · subst hb; exact ⟨_, hv⟩
      · obtain ⟨v, o, h1, h2⟩ := z.co y b e; exact ⟨v, o, (hs.2 b hb).trans h1, h2⟩
    · obtain ⟨o, e⟩ := z.ok.al b hb; exact al b o e
    · exact pl.at fun o e => (hs.2 b fun hb => (z.oL y b mb).2 x (hb ▸ ha)).trans e
    · refine ⟨true, cv, z.flag hi, ?_, r.mono fun b o nb e => ⟨nb, kp b o (fun hb => nb (.inr hb)) e⟩⟩
      obtain ⟨o', e', d'⟩ := hv
      unfold Loads
      simp only [if_true]
      exact ⟨.inl (z.kc x hm), a, o', ha, e', d'⟩
/-- a new list becomes the frame's own -/
theorem St.storeOwn {x : Str} {xs : List PV} {a : Addr} {vs : List Value} {h₀ : Heap} {Q : Unit → Shared → Prop} (z : St w Γ env V₀ oa vals h₀) (st : Stays h₀ s.heap) (hx : (x, false) ∈ Γ.vars) (pt : Put Γ.vars vals x (.own xs) vals') (hn : h₀.get? a = none) (pl : s.heap.PlainList a (List.toArray vs)) (r : Reps (fun b => Vol env V₀ oa b ∨ b = a) s.heap xs vs)
    (k : ∀ h' tk, St w Γ env V₀ ((x, a) :: oa) vals' h' → Step env oa h₀ ((x, a) :: oa) h' → Q () { s with heap := h', toks := tk }) : wpAny (MW w) A (storeName env x (.ref a)) Q E s := by
  obtain ⟨i, c, hi, hlt, e⟩ := pt.idx
  have hc : c = false := (z.flag hi false hx).symm
  subst hc
  have z' := z.stays st
  obtain ⟨m, hns⟩ := z.ns
  have naV : ¬ Vol env V₀ oa a := fun hv => by obtain ⟨o, e⟩ := z.ok.al a hv; rw [hn] at e; cases e
  have naL : a ≠ env.locals := fun h => naV (.inr (.inl h))
  refine wpAny_storeName_local (z.kd x hx) (hns.keeps st) (fun h' hn' hs => ?_) (fnkind z.ok.kind)
  have kp : ∀ b o, ¬ Own env ((x, a) :: oa) b → h₀.get? b = some o → h'.get? b = some o := fun b o nb e => (hs.2 b fun hb => nb (.inl hb)).trans (st b o e)
  have al : ∀ b o, s.heap.get? b = some o → ∃ o', h'.get? b = some o' := fun b o e => by
    by_cases hb : b = env.locals
    · subst hb; obtain ⟨o', _, _, e', _⟩ := hn'; exact ⟨o', e'⟩
    · exact ⟨o, (hs.2 b hb).trans e⟩
  refine k h' _ (z.place (oa' := (x, a) :: oa) pt kp ?_ ⟨_, hn'⟩ (fun y b e => ?_) (fun _ _ m => List.mem_cons_of_mem _ m) (fun y b mb => ?_) (fun b hb => ?_) (fun y b vs _ mb pl => ?_) ?_) ⟨fun b o nb e => (hs.2 b fun hb => nb (.inl hb)).trans (st b o e), fun y b mb => ?_, fun b o e => al b o (st b o e)⟩
  · exact fun y c v hy l => oth_local (hns.keeps st) z.cl hn' hs y c v hy (l.stays st)
  · obtain ⟨v, o, h1, h2⟩ := z'.co y b e
    exact ⟨v, o, (hs.2 b (z.cl y b e)).trans h1, h2⟩
  · rcases List.mem_cons.mp mb with e | mb
    · cases e
      refine .inr ⟨rfl, hn, fun h => naV (.inl h), naL, fun u h => naV (.inr (.inr (.inl ⟨u, h⟩))), fun u mu => ?_⟩
      rcases List.mem_cons.mp mu with e | mu
      · cases e; rfl
      · exact absurd (.inr (.inr (.inr ⟨u, mu⟩))) naV
    · exact .inl mb
  · rcases hb with hb | hb | hb | ⟨y, hb⟩
    · obtain ⟨o, e⟩ := z'.ok.al b (.inl hb); exact al b o e
    · obtain ⟨o, e⟩ := z'.ok.al b (.inr (.inl hb)); exact al b o e
    · obtain ⟨o, e⟩ := z'.ok.al b (.inr (.inr (.inl hb))); exact al b o e
    · rcases List.mem_cons.mp hb with e | hb
      · cases e; obtain ⟨n, e⟩ := pl; exact al _ _ e
      · obtain ⟨o, e⟩ := z'.ok.al b (.inr (.inr (.inr ⟨y, hb⟩))); exact al b o e
  · exact pl.at fun o e => (hs.2 b (z.oL y b mb).1).trans (st b o e)
  · refine ⟨z.flag hi, a, vs, by simp, ?_, pl.at fun o e => (hs.2 a naL).trans e, r.mono fun b o nb e => ⟨fun hb => nb ?_, (hs.2 b fun hb => nb (.inl (.inr (.inl hb)))).trans e⟩⟩
    · unfold Loads
      simp only [Bool.false_eq_true, if_false]
      exact ⟨z.kd x hx, _, hn', by simp⟩
    · rcases hb with hb | hb | hb | ⟨y, hb⟩
      · exact .inl (.inl hb)
      · exact .inl (.inr (.inl hb))
      · exact .inl (.inr (.inr (.inl hb)))
      · rcases List.mem_cons.mp hb with e | hb
        · cases e; exact .inr rfl
        · exact .inl (.inr (.inr (.inr ⟨y, hb⟩)))
  · rcases List.mem_cons.mp mb with e | mb
    · cases e; exact .inr hn
    · exact .inl mb
/-- the own list of a name is changed in place -/
theorem St.change {x : Str} {xs ys : List PV} {a : Addr} {us : List Value} {h₀ : Heap} (z : St w Γ env V₀ oa vals h₀) (hx : At Γ.vars vals x (.own xs)) (pt : Put Γ.vars vals x (.own ys) vals') (ha : Loads env h₀ x false (.ref a)) (ma : (x, a) ∈ oa)
    (kp : ∀ b o, b ≠ a → h₀.get? b = some o → h'.get? b = some o) (pl : h'.PlainList a (List.toArray us)) (r : Reps (Vol env V₀ oa) h' ys us) :
    St w Γ env V₀ oa vals' h' ∧ Step env oa h₀ oa h' := by
  obtain ⟨j, c, hj, hv⟩ := hx.idx
  obtain ⟨hc, _⟩ := z.ow j x c xs hj hv
  subst hc
  have hoL := z.oL x a ma
  have al : ∀ b o, h₀.get? b = some o → ∃ o', h'.get? b = some o' := fun b o e => by
    by_cases hb : b = a
    · subst hb; obtain ⟨n, e⟩ := pl; exact ⟨_, e⟩
    · exact ⟨o, kp b o hb e⟩
  have kp' : ∀ b o, ¬ Own env oa b → h₀.get? b = some o → h'.get? b = some o := fun b o nb e => kp b o (fun hb => nb (.inr (.inr ⟨x, hb ▸ ma⟩))) e
  have lk : ∀ {y : Str} {c : Bool} {v : Value}, Loads env h₀ y c v → Loads env h' y c v := fun {y c v} l => by
    unfold Loads at *
    cases c with
    | false =>
      simp only [Bool.false_eq_true, if_false] at *
      obtain ⟨k, m1, n1, e1⟩ := l
      exact ⟨k, m1, n1.at' fun o e => kp _ o (Ne.symm hoL.1) e, e1⟩
    | true =>
      simp only [if_true] at *
      obtain ⟨k, b, o, h1, h2, h3⟩ := l
      exact ⟨k, b, o, h1, kp b o (fun hb => hoL.2 y (hb ▸ h1)) h2, h3⟩
  refine ⟨z.place (oa' := oa) pt kp' (fun y c v _ l => lk l) ?_ (fun y b e => ?_) (fun _ _ m => m) (fun _ _ m => .inl m) (fun b hb => ?_) (fun y b vs hy mb pl' => ?_) ⟨z.flag hj, a, us, ma, lk ha, pl, r⟩, kp', fun _ _ m => .inl m, al⟩
  · obtain ⟨m, n⟩ := z.ns; exact ⟨m, n.at' fun o e => kp _ o (Ne.symm hoL.1) e⟩
  · obtain ⟨v, o, h1, h2⟩ := z.co y b e
    exact ⟨v, o, kp b o (fun hb => hoL.2 y (hb ▸ e)) h1, h2⟩
  · obtain ⟨o, e⟩ := z.ok.al b hb; exact al b o e
  · exact pl'.at fun o e => kp b o (fun hb => hy (z.oi y x a (hb ▸ mb) ma)) e
/-- an own list, from now on as it is -/
theorem St.freeze {x : Str} {xs : List PV} (z : St w Γ env V₀ oa vals h) (hx : At Γ.vars vals x (.own xs)) (pt : Put Γ.vars vals x (.val (.list xs)) vals') :
    ∃ oa', St w Γ env V₀ oa' vals' h ∧ Step env oa h oa' h := by
  obtain ⟨j, c, hj, hv⟩ := hx.idx
  obtain ⟨hc, a, ma, la⟩ := z.ow j x c xs hj hv
  subst hc
  obtain ⟨i, c, hi, hlt, e⟩ := pt.idx
  have hij : i = j := nodup_idx z.nd hi hj
  subst hij
  rw [hi] at hj; cases hj
  obtain ⟨a', vs, la', pl, r⟩ := z.ok.owns i x false xs hi hv
  have haa : a' = a := by
    unfold Loads at la la'
    simp only [Bool.false_eq_true, if_false] at la la'
    obtain ⟨_, m1, n1, e1⟩ := la
    obtain ⟨_, m2, n2, e2⟩ := la'
    rw [ns_uniq n1 n2, e2] at e1
    cases e1; rfl
  subst haa
  let oa' := oa.filter fun p => p.2 ≠ a'
  have sub : ∀ y b, (y, b) ∈ oa' → (y, b) ∈ oa ∧ b ≠ a' := fun y b hb => by
    have := List.mem_filter.mp hb
    exact ⟨this.1, by simpa using this.2⟩
  have sup : ∀ y b, (y, b) ∈ oa → b ≠ a' → (y, b) ∈ oa' := fun y b hb hne => List.mem_filter.mpr ⟨hb, by simpa using hne⟩
  have vsub : ∀ b, Vol env V₀ oa' b → Vol env V₀ oa b := fun b hb => by
    rcases hb with hb | hb | hb | ⟨y, hb⟩
    · exact .inl hb
    · exact .inr (.inl hb)
    · exact .inr (.inr (.inl hb))
    · exact .inr (.inr (.inr ⟨y, (sub y b hb).1⟩))
  have osub : ∀ b, Own env oa' b → Own env oa b := fun b hb => by
    rcases hb with hb | hb | ⟨y, hb⟩
    · exact .inl hb
    · exact .inr (.inl hb)
    · exact .inr (.inr ⟨y, (sub y b hb).1⟩)
  have hoL := z.oL x a' ma
  have nva : ¬ Vol env V₀ oa' a' := fun hb => by
    rcases hb with hb | hb | ⟨y, hb⟩ | ⟨y, hb⟩
    · exact z.v0 a' hb (.inr (.inr ⟨x, ma⟩))
    · exact hoL.1 hb
    · exact hoL.2 y hb
    · exact (sub y a' hb).2 rfl
  have rk : ∀ {p : PV} {v : Value}, Rep (Vol env V₀ oa) h p v → Rep (Vol env V₀ oa') h p v := fun r => r.mono fun b o nb e => ⟨fun hb => nb (vsub b hb), e⟩
  have rks : ∀ {p : List PV} {v : List Value}, Reps (Vol env V₀ oa) h p v → Reps (Vol env V₀ oa') h p v := fun r => r.mono fun b o nb e => ⟨fun hb => nb (vsub b hb), e⟩
  obtain ⟨hb, bb, bst, bn⟩ := z.bs
  refine ⟨oa', ⟨⟨z.ok.kind, z.ok.glb, z.ok.bln, z.ok.gk, z.ok.base, fun b hb => z.ok.al b (vsub b hb), z.ok.nm, z.ok.cel, fun j y c p h1 h2 => ?_, fun j y c ys h1 h2 => ?_⟩, z.nd, z.kd, z.kc, z.ci, z.cl, z.ns, z.co, fun j y c ys h1 h2 => ?_, fun y b hb => z.oL y b (sub y b hb).1, fun y u b h1 h2 => z.oi y u b (sub y b h1).1 (sub u b h2).1, fun b h1 h2 => z.v0 b h1 (osub b h2), ⟨hb, bb, bst, fun b o e h2 => bn b o e (osub b h2)⟩⟩, fun b o nb e => e, fun y b hb => .inl (sub y b hb).1, fun b o e => ⟨o, e⟩⟩
  · subst e
    by_cases hj : j = i
    · subst hj
      rw [hi] at h1; cases h1
      rw [List.getElem?_set_self hlt] at h2; cases h2
      exact ⟨.ref a', la, Rep.mkList nva pl (rks r)⟩
    · rw [List.getElem?_set_ne (Ne.symm hj)] at h2
      obtain ⟨cv, l, r⟩ := z.ok.slot j y c p h1 h2
      exact ⟨cv, l, rk r⟩
  · subst e
    by_cases hj : j = i
    · subst hj
      rw [List.getElem?_set_self hlt] at h2; cases h2
    · rw [List.getElem?_set_ne (Ne.symm hj)] at h2
      obtain ⟨b, us, l, p, r⟩ := z.ok.owns j y c ys h1 h2
      exact ⟨b, us, l, p, rks r⟩
  · subst e
    by_cases hj : j = i
    · subst hj
      rw [List.getElem?_set_self hlt] at h2; cases h2
    · rw [List.getElem?_set_ne (Ne.symm hj)] at h2
      obtain ⟨hc, b, mb, l⟩ := z.ow j y c ys h1 h2
      refine ⟨hc, b, sup y b mb fun hba => ?_, l⟩
      subst hba
      have := z.oi y x b mb ma
      subst this
      exact hj (nodup_idx z.nd h1 hi)
end
end Mine
end
noncomputable section
namespace Mine
open PySem.Calls
inductive Out where
  | next (vals : List Sl) | cont (vals : List Sl) | brk (vals : List Sl) | ret (p : PV)
noncomputable def OutOK (w : World) (Γ : Cx) (env : Env) (V₀ : Addr → Prop) (oa : List (Str × Addr)) (h : Heap) : Out → Flow → Prop
  | .next v, f => f = .next ∧ St w Γ env V₀ oa v h
  | .cont v, f => f = .cont ∧ St w Γ env V₀ oa v h
  | .brk v, f => f = .brk ∧ St w Γ env V₀ oa v h
  | .ret p, f => ∃ cv, f = .ret cv ∧ Rep V₀ h p cv
noncomputable def Ex (w : World) (d : Nat) (Γ : Cx) (vals : List Sl) (ss : List Stmt) (P : Out → Prop) : Prop :=
  ∀ (env : Env) (V₀ : Addr → Prop) (oa : List (Str × Addr)) (A : Around) (s : Shared) (Q : Flow → Shared → Prop) (E : Value → Shared → Prop), St w Γ env V₀ oa vals s.heap → Room A d →
    (∀ out fl oa' h' tk, P out → OutOK w Γ env V₀ oa' h' out fl → Step env oa s.heap oa' h' → Q fl { s with heap := h', toks := tk }) → wpAny (MW w) A (execs ss env) Q E s
noncomputable def ExS (w : World) (d : Nat) (Γ : Cx) (vals : List Sl) (st : Stmt) (P : Out → Prop) : Prop :=
  ∀ (env : Env) (V₀ : Addr → Prop) (oa : List (Str × Addr)) (A : Around) (s : Shared) (Q : Flow → Shared → Prop) (E : Value → Shared → Prop), St w Γ env V₀ oa vals s.heap → Room A d →
    (∀ out fl oa' h' tk, P out → OutOK w Γ env V₀ oa' h' out fl → Step env oa s.heap oa' h' → Q fl { s with heap := h', toks := tk }) → wpAny (MW w) A (exec st env) Q E s
theorem two_small {α : Type} {x y : α} : [x, y].length ≤ sizeLine := by simp only [List.length_cons, List.length_nil]; decide
section
variable {w : World} {d : Nat} {Γ : Cx} {vals vals' : List Sl} {P : Out → Prop}
theorem Ex.nil (h : P (.next vals)) : Ex w d Γ vals [] P := fun env V₀ oa A s Q E z rm k => wpAny_execs_nil (k (.next vals) .next oa s.heap s.toks h ⟨rfl, z⟩ Step.refl)
theorem Ex.cons {st : Stmt} {ss : List Stmt} (h : ExS w d Γ vals st fun out => match out with | .next v => Ex w d Γ v ss P | o => P o) : Ex w d Γ vals (st :: ss) P := fun env V₀ oa A s Q E z rm k =>
  wpAny_execs_cons (h env V₀ oa A s _ _ z rm fun out fl oa' h' tk hp ok stp => by
    cases out with
    | next v =>
      obtain ⟨rfl, z'⟩ := ok
      exact hp env V₀ oa' A _ _ _ z' rm fun out fl oa2 h2 tk2 hp2 ok2 stp2 => k out fl oa2 h2 tk2 hp2 ok2 (stp.trans stp2)
    | cont v => obtain ⟨rfl, z'⟩ := ok; exact k (.cont v) _ _ _ _ hp ⟨rfl, z'⟩ stp
    | brk v => obtain ⟨rfl, z'⟩ := ok; exact k (.brk v) _ _ _ _ hp ⟨rfl, z'⟩ stp
    | ret p => obtain ⟨cv, rfl, r⟩ := ok; exact k (.ret p) _ _ _ _ hp ⟨cv, rfl, r⟩ stp)
theorem Ex.freeze {x : Str} {xs : List PV} {ss : List Stmt} (hx : At Γ.vars vals x (.own xs)) (pt : Put Γ.vars vals x (.val (.list xs)) vals') (h : Ex w d Γ vals' ss P) : Ex w d Γ vals ss P := fun env V₀ oa A s Q E z rm k => by
  obtain ⟨oa', z', stp⟩ := z.freeze hx pt
  exact h env V₀ oa' A s Q E z' rm fun out fl oa2 h2 tk2 hp ok stp2 => k out fl oa2 h2 tk2 hp ok (stp.trans stp2)
noncomputable def noComp : Expr → Bool
  | .ListComp .. | .SetComp .. | .DictComp .. => false
  | _ => true
theorem swaps_false {e : Expr} {t : Option Expr} {l : Nat} {env : Env} (he : noComp e = true) : swapsWith e t l env = pure false := by
  unfold swapsWith
  cases e <;> first | rfl | exact Bool.noConfusion he
theorem ExS.assign {x : Str} {px pos : Pos} {e : Expr} {p : PV} (h : Ev w d Γ vals e p) (pt : Put Γ.vars vals x (.val p) vals') (hp : P (.next vals')) (he : noComp e = true := by rfl) :
    ExS w d Γ vals (.Assign [.Name x px] e pos) P := fun env V₀ oa A s Q E z rm k =>
  wpAny_Assign_Name (h env _ A s _ _ z.ok rm fun cv h' tk st r => (z.stays st).store pt r fun h2 tk2 z2 stp => k (.next vals') .next oa h2 tk2 hp ⟨rfl, z2⟩ ((Step.stays st).trans stp)) (swaps_false he)
theorem ExS.assignOwn {x : Str} {px pos : Pos} {e : Expr} {xs : List PV} (h : EvF w d Γ vals e xs) (hx : (x, false) ∈ Γ.vars) (pt : Put Γ.vars vals x (.own xs) vals') (hp : P (.next vals')) (he : noComp e = true := by rfl) :
    ExS w d Γ vals (.Assign [.Name x px] e pos) P := fun env V₀ oa A s Q E z rm k =>
  wpAny_Assign_Name (h env _ A s _ _ z.ok rm fun a vs h' tk st hn pl r => z.storeOwn st hx pt hn pl r fun h2 tk2 z2 stp => k (.next vals') .next _ h2 tk2 hp ⟨rfl, z2⟩ stp) (swaps_false he)
theorem ExS.ret {e : Expr} {pos : Pos} {p : PV} (h : Ev w d Γ vals e p) (hp : P (.ret p)) : ExS w d Γ vals (.Return (some e) pos) P := fun env V₀ oa A s Q E z rm k =>
  wpAny_Return_some (h env _ A s _ _ z.ok rm fun cv h' tk st r => k (.ret p) (.ret cv) oa h' tk hp ⟨cv, rfl, r.mono fun b o nb e => ⟨fun hb => nb (.inl hb), e⟩⟩ (Step.stays st))
theorem ExS.ite {t : Expr} {a b : List Stmt} {pos : Pos} {c : Bool} (h : Tr w d Γ vals t c) (h1 : c = true → Ex w d Γ vals a P) (h2 : c = false → Ex w d Γ vals b P) : ExS w d Γ vals (.If t a b pos) P := fun env V₀ oa A s Q E z rm k =>
  wpAny_If (h env _ A s _ _ z.ok rm fun h' tk st => by
    cases c with
    | true => simp only [if_true]; exact h1 rfl env V₀ oa A _ _ _ (z.stays st) rm fun out fl oa2 h2 tk2 hp ok stp => k out fl oa2 h2 tk2 hp ok ((Step.stays st).trans stp)
    | false => simp only [Bool.false_eq_true, if_false]; exact h2 rfl env V₀ oa A _ _ _ (z.stays st) rm fun out fl oa2 h2 tk2 hp ok stp => k out fl oa2 h2 tk2 hp ok ((Step.stays st).trans stp))
theorem ExS.cont {pos : Pos} (hp : P (.cont vals)) : ExS w d Γ vals (.Continue pos) P := fun env V₀ oa A s Q E z rm k => wpAny_Continue (k (.cont vals) .cont oa s.heap s.toks hp ⟨rfl, z⟩ Step.refl)
theorem ExS.asrt {t : Expr} {m : Option Expr} {pos : Pos} (h : Tr w d Γ vals t true) (hp : P (.next vals)) : ExS w d Γ vals (.Assert t m pos) P := fun env V₀ oa A s Q E z rm k =>
  wpAny_Assert_holds (h env _ A s _ _ z.ok rm fun h' tk st => ⟨rfl, k (.next vals) .next oa h' tk hp ⟨rfl, z.stays st⟩ (Step.stays st)⟩)
/-- in place -/
noncomputable def Ip (w : World) (d : Nat) (op : Operator) (p q t : PV) : Prop :=
  ∀ (V : Addr → Prop) (A : Around) (s : Shared) (Q : Value → Shared → Prop) (E : Value → Shared → Prop) (a b : Value), Rep V s.heap p a → Rep V s.heap q b →
    (∀ cv h' tk, Stays s.heap h' → Rep V h' t cv → Q cv { s with heap := h', toks := tk }) → wpAny (MW w) A (inplaceOp op a b) Q E s
theorem Ip.addI {a b : Int} : Ip w d .Add (.int a) (.int b) (.int (a + b)) := fun V A s Q E x y ra rb k => by
  obtain ⟨t, rfl⟩ := rep_int ra; obtain ⟨u, rfl⟩ := rep_int rb
  exact wpAny_iadd_int (k _ s.heap _ (Stays.refl _) mk_int)
theorem Ip.subI {a b : Int} : Ip w d .Sub (.int a) (.int b) (.int (a - b)) := fun V A s Q E x y ra rb k => by
  obtain ⟨t, rfl⟩ := rep_int ra; obtain ⟨u, rfl⟩ := rep_int rb
  exact PyProof.Rows.isub_int (k _ s.heap _ (Stays.refl _) mk_int)
theorem Ip.addS {a b : List Nat} (hz : a.length + b.length ≤ sizeLine) : Ip w d .Add (.str (S a)) (.str (S b)) (.str (S (a ++ b))) := fun V A s Q E x y ra rb k => by
  obtain ⟨t, rfl⟩ := rep_str ra; obtain ⟨u, rfl⟩ := rep_str rb
  refine SB.iadd (fun t' tk => ?_) (by rw [S_len, S_len]; exact hz)
  rw [S_add]
  exact k _ s.heap _ (Stays.refl _) mk_str
theorem loads_loadName {env : Env} {x : Str} {c : Bool} {cv : Value} {A : Around} {s : Shared} {Q : Value → Shared → Prop} {E : Value → Shared → Prop} (hk : env.scope.kind = .function)
    (hn : (x == ("__classdict__" : Str)) = false) (l : Loads env s.heap x c cv) (h : Q cv s) : wpAny (MW w) A (loadName env x) Q E s := by
  unfold Loads at l
  cases c with
  | true =>
    obtain ⟨k, a, o, h1, h2, h3⟩ := l
    rcases k with k | k
    · exact wpAny_loadName_cell hk k h1 ⟨o, h2, h3⟩ h
    · exact wpAny_loadName_free hk k h1 ⟨o, h2, h3⟩ h hn
  | false =>
    obtain ⟨k, m, h1, h2⟩ := l
    exact wpAny_loadName_local hk k h1 h2 h
theorem ExS.aug {x : Str} {px pos : Pos} {op : Operator} {e : Expr} {p q t : PV} (hx : At Γ.vars vals x (.val p)) (h : Ev w d Γ vals e q) (ho : Ip w d op p q t) (pt : Put Γ.vars vals x (.val t) vals') (hp : P (.next vals')) :
    ExS w d Γ vals (.AugAssign (.Name x px) op e pos) P := fun env V₀ oa A s Q E z rm k => by
  obtain ⟨i, c, h1, h2⟩ := hx.idx
  obtain ⟨cv, l, r⟩ := z.ok.slot i x c p h1 h2
  refine wpAny_AugAssign_Name (loads_loadName z.ok.kind (z.ok.nm x c (List.mem_of_getElem? h1)).2 l ?_)
  exact h env _ A s _ _ z.ok rm fun cv' h' tk st r' => ho _ A _ _ _ cv cv' (r.stays st) r' fun u h2 tk2 st2 r2 => ((z.stays st).stays st2).store pt r2 fun h3 tk3 z3 stp => k (.next vals') .next oa h3 tk3 hp ⟨rfl, z3⟩ ((Step.stays (st.trans st2)).trans stp)
/-- a = b = e -/
theorem ExS.two {x y : Str} {px py pos : Pos} {e : Expr} {p : PV} {vals'' : List Sl} (h : Ev w d Γ vals e p) (pt : Put Γ.vars vals x (.val p) vals') (pt2 : Put Γ.vars vals' y (.val p) vals'') (hp : P (.next vals'')) (he : noComp e = true := by rfl)
    (hsw : ∀ env, swappedStores [.Name x px, .Name y py] e env = pure none := by intro _; rfl) :
    ExS w d Γ vals (.Assign [.Name x px, .Name y py] e pos) P := fun env V₀ oa A s Q E z rm k => by
  refine wpAny_Assign_two (h env _ A s _ _ z.ok rm fun cv h' tk st r => ?_) rfl (hsw env)
  refine wpAny_assign_Name ((z.stays st).store pt r fun h2 tk2 z2 stp => ?_)
  have r2 : Rep (Vol env V₀ oa) h2 p cv := r.mono fun b o nb e => ⟨nb, stp.kp b o (fun hb => nb (.inr hb)) e⟩
  exact wpAny_assign_Name (z2.store pt2 r2 fun h3 tk3 z3 stp3 => k (.next vals'') .next oa h3 tk3 hp ⟨rfl, z3⟩ (((Step.stays st).trans stp).trans stp3))
theorem unpackT {A : Around} {s : Shared} {Q : List Value → Shared → Prop} {E : Value → Shared → Prop} {t : Addr} {vs : List Value} {n : Nat} (hh : A.handled = none) (ht : PlainTuple s.heap t vs) (hn : n = vs.length) (k : ∀ h', Stays s.heap h' → Q vs { s with heap := h' }) : wpAny (MW w) A (unpackItems (.ref t) n none) Q E s := by
  have e : n = vs.toArray.size := by rw [hn, List.size_toArray]
  rw [e]
  exact wpAny_unpackItems_tuple hh ht.isTuple fun h' he => k h' fun b o e => he b o (Nat.ne_of_lt (Heap.lt_size e)) e
noncomputable def isStar : Expr → Bool
  | .Starred .. => true
  | _ => false
/-- x, y = (e, f) -/
theorem ExS.pair {x y : Str} {px py tp tp2 pos : Pos} {n m : Nat} {e f : Expr} {p q : PV} {vals'' : List Sl} (h1 : Ev w d Γ vals e p) (h2 : Ev w d Γ vals f q) (hx : (x, false) ∈ Γ.vars) (hy : (y, false) ∈ Γ.vars) (pt : Put Γ.vars vals y (.val q) vals') (pt2 : Put Γ.vars vals' x (.val p) vals'') (hp : P (.next vals''))
    (hxy : x ≠ y) (hl : (px.line == py.line) = true := by rfl) (hf : ([e, f].all (foldedForSure 8)) = false := by rfl) (hc : ([e, f].all (constantsAlone 8)) = false := by rfl) (hse : isStar e = false := by rfl) (hsf : isStar f = false := by rfl)
    (he : ∀ env, starEach [e, f] env = (false, eval e env) :: starEach [f] env := by intro _; rfl) (he2 : ∀ env, starEach [f] env = (false, eval f env) :: starEach [] env := by intro _; rfl) :
    ExS w d Γ vals (.Assign [.Tuple [.Name x px, .Name y py] n tp] (.Tuple [e, f] m tp2) pos) P := fun env V₀ oa A s Q E z rm k => by
  have hsw : swappedStores [.Tuple [.Name x px, .Name y py] n tp] (.Tuple [e, f] m tp2) env = pure (some [x, y]) := by
    have hb : env.blockKind = .function := by unfold Env.blockKind; rw [z.ok.kind]; rfl
    have k1 := z.kd x hx
    have k2 := z.kd y hy
    have hl' : py.line = px.line := (eq_of_beq hl).symm
    have pp : (Expr.Name x px).pos = px := rfl
    delta swappedStores
    simp only [List.length_cons, List.length_nil, hb, List.head?_cons, Option.map_some, Option.getD_some, pp, List.filterMap_cons, List.filterMap_nil, k1, k2, hl']
    have hd : ([x, y] : List Str).eraseDups.length = 2 := by
      simp [List.eraseDups_cons, hxy, Ne.symm hxy]
    simp [hd, hf, hc]
    intro hx
    exfalso
    rcases hx with hx | hx
    · exact Bool.noConfusion ((show isStar e = true from hx).symm.trans hse)
    · exact Bool.noConfusion ((show isStar f = true from hx).symm.trans hsf)
  refine Assign_Tuple_swapped (names := [x, y]) ?_ rfl hsw
  refine (Ev.tup (EvL.cons h1 (EvL.cons h2 EvL.nil he2) he) two_small) env _ A s _ _ z.ok rm fun cv h' tk st r => ?_
  obtain ⟨t, vs, rfl, nv, ht, hr⟩ := rep_tup r
  obtain ⟨v, u, rfl, ra, rb⟩ := reps_two hr
  refine unpackT rm.hh ht rfl fun h2 st2 => ?_
  show wpAny (MW w) A (do holding [v] (bindName env y u); (do holding [] (bindName env x v); pure ())) _ E _
  refine wpAny_bind (wpAny_holding (bindName_ (((z.stays st).stays st2).store pt (rb.stays st2) fun h3 tk3 z3 stp => ?_)))
  have r3 : Rep (Vol env V₀ oa) h3 p v := (ra.stays st2).mono fun b o nb e => ⟨nb, stp.kp b o (fun hb => nb (.inr hb)) e⟩
  refine wpAny_bind (wpAny_holding (bindName_ (z3.store pt2 r3 fun h4 tk4 z4 stp4 => ?_)))
  exact wpAny_pure (k (.next vals'') .next oa h4 tk4 hp ⟨rfl, z4⟩ (((Step.stays (st.trans st2)).trans stp).trans stp4))
end
end Mine
end
noncomputable section
namespace Mine
open PySem.Calls
section
variable {w : World} {d : Nat} {Γ : Cx} {vals vals' : List Sl} {P : Out → Prop}
/-- reading an own list -/
theorem Ev.subOwn {x : Str} {px pos : Pos} {i : Expr} {xs : List PV} {k : Int} {p : PV} (hx : At Γ.vars vals x (.own xs)) (h2 : Ev w d Γ vals i (.int k)) (h0 : 0 ≤ k) (hfit : k < 2 ^ 63) (hp : xs[k.toNat]? = some p) (hs : ∀ a b, subscripted i false a b = operate [a, b] (getItem a b) := by intro _ _; rfl) :
    Ev w d Γ vals (.Subscript (.Name x px) i pos) p := fun env V A s Q E ok rm kk => by
  obtain ⟨j, c, h1, hv⟩ := hx.idx
  obtain ⟨a, vs, l, pl, r⟩ := ok.owns j x c xs h1 hv
  refine Subscript_ (loads_name ok.kind (ok.nm x c (List.mem_of_getElem? h1)) l ?_)
  refine h2 env V A s _ _ ok rm fun b h' tk st rb => ?_
  obtain ⟨t, rfl⟩ := rep_int rb
  obtain ⟨v, hv, rv⟩ := r.get hp
  have pl' : h'.PlainList a (List.toArray vs) := pl.at fun o e => st _ _ e
  exact tail_any (Heap.IsList.typeIs (s := { s with heap := h', toks := tk }) pl'.isList) slot_list_getitem.lookup (wpAny_getItem_list (s := { s with heap := h', toks := tk }) pl'.isList h0 hfit (by simpa using hv) (kk _ _ _ st (rv.stays st))) (hs _ _)
theorem Ev.subOwnNeg {x : Str} {px pos : Pos} {i : Expr} {xs : List PV} {k : Int} {p : PV} (hx : At Γ.vars vals x (.own xs)) (h2 : Ev w d Γ vals i (.int k)) (h0 : k < 0) (h1 : -(xs.length : Int) ≤ k) (hfit : -(2 ^ 63) ≤ k) (hp : xs[(k + xs.length).toNat]? = some p) (hs : ∀ a b, subscripted i false a b = operate [a, b] (getItem a b) := by intro _ _; rfl) :
    Ev w d Γ vals (.Subscript (.Name x px) i pos) p := fun env V A s Q E ok rm kk => by
  obtain ⟨j, c, hj, hv⟩ := hx.idx
  obtain ⟨a, vs, l, pl, r⟩ := ok.owns j x c xs hj hv
  refine Subscript_ (loads_name ok.kind (ok.nm x c (List.mem_of_getElem? hj)) l ?_)
  refine h2 env V A s _ _ ok rm fun b h' tk st rb => ?_
  obtain ⟨t, rfl⟩ := rep_int rb
  obtain ⟨v, hv, rv⟩ := r.get hp
  have hn := r.length
  have pl' : h'.PlainList a (List.toArray vs) := pl.at fun o e => st _ _ e
  exact tail_any (Heap.IsList.typeIs (s := { s with heap := h', toks := tk }) pl'.isList) slot_list_getitem.lookup (wpAny_getItem_list_neg (s := { s with heap := h', toks := tk }) pl'.isList h0 (by simpa [hn] using h1) hfit (by simpa [hn] using hv) (kk _ _ _ st (rv.stays st))) (hs _ _)
theorem Ev.lenOwn {y x : Str} {np px pos : Pos} {xs : List PV} (g : y ∈ Γ.globs) (v : GVal w y (.builtin "len")) (hx : At Γ.vars vals x (.own xs)) (hz : xs.length ≤ sizeLine) : Ev w d Γ vals (.Call (.Name y np) [.Name x px] [] pos) (.int xs.length) := fun env V A s Q E ok rm k => by
  obtain ⟨hd, gf⟩ := v
  obtain ⟨mg, mb, h1, h2, h3⟩ := gf _ ok.base
  obtain ⟨j, c, hj, hv⟩ := hx.idx
  obtain ⟨a, vs, l, pl, r⟩ := ok.owns j x c xs hj hv
  refine wpAny_Call_NameR ?_
  have fin : wpAny (MW w) A (callWith pos (.builtin "len") [] (backTo pos (starEach [.Name x px] env)) []) Q E s := by
    show wpAny (MW w) A (callWith pos (.builtin "len") [] (backTo pos [(false, eval (.Name x px) env)]) []) Q E s
    refine Calls.callWith_builtin rfl (Calls.evalArgs_plain (Calls.spliced_cons (loads_name ok.kind (ok.nm x c (List.mem_of_getElem? hj)) l (Calls.spliced_nil ?_))))
    refine call_len_list pl.isList (by simp only [List.size_toArray]; have := r.length; rw [sizeLine_eq] at hz; (first | lia | omega)) ?_
    rw [List.size_toArray, r.length]
    exact k _ s.heap _ (Stays.refl _) mk_int
  rcases h3 with h3 | ⟨h3, h4⟩
  · exact Name_function_global ok.kind (ok.gk y g) (loadGlobal_global (by rw [ok.glb]; exact h1) h3 fin) hd
  · exact Name_function_global ok.kind (ok.gk y g) (loadGlobal_builtin (by rw [ok.glb]; exact h1) h3 (by rw [ok.bln]; exact h2) h4 fin) hd
theorem St.ownAt {env : Env} {V₀ : Addr → Prop} {oa : List (Str × Addr)} {h : Heap} {x : Str} {xs : List PV} (z : St w Γ env V₀ oa vals h) (hx : At Γ.vars vals x (.own xs)) :
    ∃ a vs, (x, a) ∈ oa ∧ Loads env h x false (.ref a) ∧ h.PlainList a (List.toArray vs) ∧ Reps (Vol env V₀ oa) h xs vs ∧ (x, false) ∈ Γ.vars := by
  obtain ⟨j, c, hj, hv⟩ := hx.idx
  obtain ⟨a, vs, l, pl, r⟩ := z.ok.owns j x c xs hj hv
  obtain ⟨hc, a', ma, l'⟩ := z.ow j x c xs hj hv
  subst hc
  have haa : a = a' := by
    unfold Loads at l l'
    simp only [Bool.false_eq_true, if_false] at l l'
    obtain ⟨_, m1, n1, e1⟩ := l
    obtain ⟨_, m2, n2, e2⟩ := l'
    rw [ns_uniq n1 n2, e2] at e1
    cases e1; rfl
  subst haa
  exact ⟨a, vs, ma, l, pl, r, List.mem_of_getElem? hj⟩
/-- x.append(e) -/
theorem ExS.append {x : Str} {px apos cpos pos : Pos} {e : Expr} {xs : List PV} {p : PV} (hx : At Γ.vars vals x (.own xs)) (h : Ev w d Γ vals e p) (hz : xs.length ≤ sizeLine) (pt : Put Γ.vars vals x (.own (xs ++ [p])) vals') (hp : P (.next vals'))
    (hb : ∀ env, attributeBase (.Name x px) "append" env (eval (.Name x px) env) = eval (.Name x px) env := by intro _; rfl)
    (hfew : ∀ env, ((backTo cpos (starEach [e] env)).all (fun x => !x.1) && (backToKw cpos (keywordEach [] env)).all (fun x => x.1.isSome)
      && decide (([e] : List Expr).length + ([] : List Keyword).length + (if ([] : List Keyword).isEmpty then 0 else 1) < 30)) = true := by intro _; rfl)
    (hline : (apos.endLine == cpos.line) = true := by rfl)
    (htrees : ∀ env, backTo cpos (starEach [e] env) = [(false, eval e env)] := by intro _; rfl)
    (hsw : ∀ env, swapsWith (.Call (.Attribute (.Name x px) "append" apos) [e] [] cpos) none pos.line env = pure false := by intro _; rfl) :
    ExS w d Γ vals (.Expr (.Call (.Attribute (.Name x px) "append" apos) [e] [] cpos) pos) P := fun env V₀ oa A s Q E z rm k => by
  obtain ⟨a, vs, ma, l, pl, r, hm⟩ := z.ownAt hx
  have hin : interactive env = false := by unfold interactive; rw [z.ok.kind]; rfl
  refine wpAny_Expr ?_ hin (hsw env)
  refine wpAny_Call_append (hb env) (hfew env) hline (htrees env) ?_
  refine loads_name z.ok.kind (z.ok.nm x false hm) l ⟨a, List.toArray vs, rfl, ?_, ?_⟩
  · obtain ⟨n, e⟩ := pl; exact ⟨_, n, e, rfl, rfl, rfl⟩
  · refine h env _ A s _ _ z.ok rm fun cv h' tk st rc => ?_
    have pl' : h'.PlainList a (List.toArray vs) := pl.at fun o e => st _ _ e
    refine wpAny_list_append_plain (s := { s with heap := h', toks := tk }) pl' (fun h2 pl2 hs2 => ?_) (by rw [List.size_toArray, r.length]; exact hz)
    have kp : ∀ b o, b ≠ a → h'.get? b = some o → h2.get? b = some o := fun b o hb e => (hs2.2 b hb).trans e
    have nva : Vol env V₀ oa a := .inr (.inr (.inr ⟨x, ma⟩))
    have rr : Reps (Vol env V₀ oa) h2 (xs ++ [p]) (vs ++ [cv]) := ((r.stays st).append (Reps.cons rc Reps.nil)).mono fun b o nb e => ⟨nb, kp b o (fun hb => nb (hb ▸ nva)) e⟩
    obtain ⟨z2, stp⟩ := (z.stays st).change hx pt (l.stays st) ma kp (us := vs ++ [cv]) (by simpa using pl2) rr
    exact k (.next vals') .next oa h2 tk hp ⟨rfl, z2⟩ ((Step.stays st).trans stp)
/-- x[i] = e -/
theorem ExS.setAt {x : Str} {px spos pos : Pos} {i e : Expr} {xs : List PV} {n : Int} {p : PV} (hx : At Γ.vars vals x (.own xs)) (h1 : Ev w d Γ vals e p) (h2 : Ev w d Γ vals i (.int n)) (h0 : 0 ≤ n) (hfit : n < 2 ^ 63) (hn : n < xs.length) (pt : Put Γ.vars vals x (.own (xs.set n.toNat p)) vals') (hp : P (.next vals'))
    (he : noComp e = true := by rfl) : ExS w d Γ vals (.Assign [.Subscript (.Name x px) i spos] e pos) P := fun env V₀ oa A s Q E z rm k => by
  obtain ⟨a, vs, ma, l, pl, r, hm⟩ := z.ownAt hx
  refine wpAny_Assign_Subscript (h1 env _ A s _ _ z.ok rm fun cv h' tk st rc => ?_) (swaps_false he)
  refine loads_name z.ok.kind (z.ok.nm x false hm) (l.stays st) ?_
  refine h2 env _ A _ _ _ (z.ok.stays st) rm fun iv h2 tk2 st2 ri => ?_
  obtain ⟨t, rfl⟩ := rep_int ri
  have st' := st.trans st2
  obtain ⟨n0, ho⟩ := pl
  refine ki_setAt (s := { s with heap := h2, toks := tk2 }) (n := n0) (st' _ _ ho) h0 hfit (by rw [List.size_toArray, r.length]; exact hn) ?_
  have up := IsL.update (n := n0) (st' _ _ ho) (·.setIfInBounds n.toNat cv)
  have sb : Heap.SameBut a h2 (h2.update a (Obj.mapSeq (·.setIfInBounds n.toNat cv))) := Heap.SameBut.update ..
  have kp : ∀ b o, b ≠ a → h2.get? b = some o → (h2.update a (Obj.mapSeq (·.setIfInBounds n.toNat cv))).get? b = some o := fun b o hb e => (sb.2 b hb).trans e
  have nva : Vol env V₀ oa a := .inr (.inr (.inr ⟨x, ma⟩))
  have rr : Reps (Vol env V₀ oa) (h2.update a (Obj.mapSeq (·.setIfInBounds n.toNat cv))) (xs.set n.toNat p) (vs.set n.toNat cv) := ((r.stays st').set n.toNat (rc.stays st2)).mono fun b o nb e => ⟨nb, kp b o (fun hb => nb (hb ▸ nva)) e⟩
  obtain ⟨z2, stp⟩ := (z.stays st').change hx pt (l.stays st') ma kp (us := vs.set n.toNat cv) ⟨_, by simpa using up⟩ rr
  exact k (.next vals') .next oa _ tk2 hp ⟨rfl, z2⟩ ((Step.stays st').trans stp)
/-- del x[i] -/
theorem ExS.delAt {x : Str} {px spos pos : Pos} {i : Expr} {xs : List PV} {n : Int} {m : Nat} (hx : At Γ.vars vals x (.own xs)) (h2 : Ev w d Γ vals i (.int n)) (hfit : Builtin.List.listFitsIndex n = true) (hm : seqIndex? n xs.length = some m) (hz : xs.length ≤ sizeLine) (pt : Put Γ.vars vals x (.own (xs.eraseIdx m)) vals') (hp : P (.next vals')) :
    ExS w d Γ vals (.Delete [.Subscript (.Name x px) i spos] pos) P := fun env V₀ oa A s Q E z rm k => by
  obtain ⟨a, vs, ma, l, pl, r, hmm⟩ := z.ownAt hx
  refine wpAny_Delete (wpAny_deleteEach_cons (wpAny_delete_Subscript ?_))
  refine loads_name z.ok.kind (z.ok.nm x false hmm) l ?_
  refine h2 env _ A _ _ _ z.ok rm fun iv h2 tk2 st' ri => ?_
  obtain ⟨t, rfl⟩ := rep_int ri
  have pl' : h2.PlainList a (List.toArray vs) := pl.at fun o e => st' _ _ e
  refine wpAny_delItem_plain (s := { s with heap := h2, toks := tk2 }) pl' hfit (k := m) (by rw [List.size_toArray, r.length]; exact hm) (fun h3 pl3 hs3 => ?_) (by rw [List.size_toArray, r.length]; exact hz)
  have kp : ∀ b o, b ≠ a → h2.get? b = some o → h3.get? b = some o := fun b o hb e => (hs3.2 b hb).trans e
  have nva : Vol env V₀ oa a := .inr (.inr (.inr ⟨x, ma⟩))
  have er : ∀ {ps : List PV} {us : List Value} {h : Heap} (m : Nat), Reps (Vol env V₀ oa) h ps us → Reps (Vol env V₀ oa) h (ps.eraseIdx m) (us.eraseIdx m) := fun {ps us h} m r => by
    rw [List.eraseIdx_eq_take_drop_succ, List.eraseIdx_eq_take_drop_succ]
    exact (r.take m).append (r.drop (m + 1))
  have rr : Reps (Vol env V₀ oa) h3 (xs.eraseIdx m) (vs.eraseIdx m) := (er m (r.stays st')).mono fun b o nb e => ⟨nb, kp b o (fun hb => nb (hb ▸ nva)) e⟩
  obtain ⟨z2, stp⟩ := (z.stays st').change hx pt (l.stays st') ma kp (us := vs.eraseIdx m) (by simpa using pl3) rr
  exact wpAny_deleteEach_nil (k (.next vals') .next oa _ tk2 hp ⟨rfl, z2⟩ ((Step.stays st').trans stp))
end
end Mine
end
noncomputable section
namespace Mine
open PySem.Calls
section
variable {w : World} {d : Nat} {Γ : Cx} {vals vals' : List Sl} {P : Out → Prop}
/-- a store into a target -/
noncomputable def AsgS (w : World) (d : Nat) (Γ : Cx) (T : Expr) (p : PV) (vals vals' : List Sl) : Prop :=
  ∀ (env : Env) (V₀ : Addr → Prop) (oa : List (Str × Addr)) (A : Around) (s : Shared) (Q : Unit → Shared → Prop) (E : Value → Shared → Prop) (cv : Value), St w Γ env V₀ oa vals s.heap → Room A d → Rep (Vol env V₀ oa) s.heap p cv →
    (∀ h' tk, St w Γ env V₀ oa vals' h' → Step env oa s.heap oa h' → Q () { s with heap := h', toks := tk }) → wpAny (MW w) A (PySem.assign T env cv) Q E s
theorem AsgS.name {x : Str} {px : Pos} {p : PV} (pt : Put Γ.vars vals x (.val p) vals') : AsgS w d Γ (.Name x px) p vals vals' := fun env V₀ oa A s Q E cv z rm r k =>
  wpAny_assign_Name (z.store pt r k)
theorem AsgS.pair {x y : Str} {px py tp : Pos} {n : Nat} {a b : PV} {vals'' : List Sl} (pt : Put Γ.vars vals x (.val a) vals') (pt2 : Put Γ.vars vals' y (.val b) vals'') : AsgS w d Γ (.Tuple [.Name x px, .Name y py] n tp) (.tup [a, b]) vals vals'' := fun env V₀ oa A s Q E cv z rm r k => by
  obtain ⟨t, vs, rfl, nv, hl, hr⟩ := rep_tup r
  obtain ⟨v, u, rfl, ra, rb⟩ := reps_two hr
  refine wpAny_assign_Tuple rm.hh hl.isTuple rfl rfl fun h1 he => ?_
  have st : Stays s.heap h1 := fun b o e => he b o (Nat.ne_of_lt (Heap.lt_size e)) e
  show wpAny (MW w) A (do holding [u] (PySem.assign (.Name x px) env v); (do holding [] (PySem.assign (.Name y py) env u); pure ())) Q E _
  refine wpAny_bind (wpAny_holding (wpAny_assign_Name (St.store (s := { s with heap := h1 }) (z.stays st) pt (ra.stays st) fun h2 tk2 z2 stp => ?_)))
  have r2 : Rep (Vol env V₀ oa) h2 b u := (rb.stays st).mono fun b o nb e => ⟨nb, stp.kp b o (fun hb => nb (.inr hb)) e⟩
  refine wpAny_bind (wpAny_holding (wpAny_assign_Name (z2.store pt2 r2 fun h3 tk3 z3 stp3 => ?_)))
  exact wpAny_pure (k _ _ z3 (((Step.stays st).trans stp).trans stp3))
theorem AsgS.three {x y u : Str} {px py pu tp : Pos} {n : Nat} {a b c : PV} {v1 v2 v3 : List Sl} (pt : Put Γ.vars vals x (.val a) v1) (pt2 : Put Γ.vars v1 y (.val b) v2) (pt3 : Put Γ.vars v2 u (.val c) v3) : AsgS w d Γ (.Tuple [.Name x px, .Name y py, .Name u pu] n tp) (.tup [a, b, c]) vals v3 := fun env V₀ oa A s Q E cv z rm r k => by
  obtain ⟨t, vs, rfl, nv, hl, hr⟩ := rep_tup r
  obtain ⟨v, v', v'', rfl, ra, rb, rc⟩ := reps_three hr
  refine wpAny_assign_Tuple rm.hh hl.isTuple rfl rfl fun h1 he => ?_
  have st : Stays s.heap h1 := fun b o e => he b o (Nat.ne_of_lt (Heap.lt_size e)) e
  show wpAny (MW w) A (do holding [v', v''] (PySem.assign (.Name x px) env v); (do holding [v''] (PySem.assign (.Name y py) env v'); (do holding [] (PySem.assign (.Name u pu) env v''); pure ()))) Q E _
  refine wpAny_bind (wpAny_holding (wpAny_assign_Name (St.store (s := { s with heap := h1 }) (z.stays st) pt (ra.stays st) fun h2 tk2 z2 stp => ?_)))
  have rk : ∀ {p : PV} {v : Value}, Rep (Vol env V₀ oa) s.heap p v → Rep (Vol env V₀ oa) h2 p v := fun r => (r.stays st).mono fun b o nb e => ⟨nb, stp.kp b o (fun hb => nb (.inr hb)) e⟩
  refine wpAny_bind (wpAny_holding (wpAny_assign_Name (z2.store pt2 (rk rb) fun h3 tk3 z3 stp3 => ?_)))
  have r3 : Rep (Vol env V₀ oa) h3 c v'' := (rk rc).mono fun b o nb e => ⟨nb, stp3.kp b o (fun hb => nb (.inr hb)) e⟩
  refine wpAny_bind (wpAny_holding (wpAny_assign_Name (z3.store pt3 r3 fun h4 tk4 z4 stp4 => ?_)))
  exact wpAny_pure (k _ _ z4 ((((Step.stays st).trans stp).trans stp3).trans stp4))
/-- T = e, a tuple of names from a call -/
theorem ExS.unpack {elts : List Expr} {n : Nat} {tp pos : Pos} {e : Expr} {p : PV} (h : Ev w d Γ vals e p) (a : AsgS w d Γ (.Tuple elts n tp) p vals vals') (hp : P (.next vals'))
    (hs : ∀ env, swapsWithSole [.Tuple elts n tp] e pos.line env = pure false := by intro _; rfl) (hw : ∀ env, swappedStores [.Tuple elts n tp] e env = pure none := by intro _; rfl) :
    ExS w d Γ vals (.Assign [.Tuple elts n tp] e pos) P := fun env V₀ oa A s Q E z rm k =>
  Assign_Tuple (h env _ A s _ _ z.ok rm fun cv h' tk st r => a env V₀ oa A _ _ _ cv (z.stays st) rm r fun h2 tk2 z2 stp => k (.next vals') .next oa h2 tk2 hp ⟨rfl, z2⟩ ((Step.stays st).trans stp)) (hs env) (hw env)
/-- the forbidden set is widened by new things -/
theorem St.wide {env : Env} {V₀ : Addr → Prop} {oa : List (Str × Addr)} {h₀ h : Heap} {wr : List Addr} (z : St w Γ env V₀ oa vals h₀) (st : Stays h₀ h) (hn : ∀ b ∈ wr, h₀.get? b = none) (ha : ∀ b ∈ wr, ∃ o, h.get? b = some o) : St w Γ env (fun b => V₀ b ∨ b ∈ wr) oa vals h := by
  have z' := z.stays st
  have nw : ∀ b o, h₀.get? b = some o → b ∉ wr := fun b o e hb => by rw [hn b hb] at e; cases e
  have vs : ∀ b, Vol env (fun b => V₀ b ∨ b ∈ wr) oa b → Vol env V₀ oa b ∨ b ∈ wr := fun b hb => by
    rcases hb with (hb | hb) | hb
    · exact .inl (.inl hb)
    · exact .inr hb
    · exact .inl (.inr hb)
  have rk : ∀ {p : PV} {v : Value}, Rep (Vol env V₀ oa) h₀ p v → Rep (Vol env (fun b => V₀ b ∨ b ∈ wr) oa) h p v := fun r => r.mono fun b o nb e => ⟨fun hb => (vs b hb).elim nb (nw b o e), st b o e⟩
  have rks : ∀ {p : List PV} {v : List Value}, Reps (Vol env V₀ oa) h₀ p v → Reps (Vol env (fun b => V₀ b ∨ b ∈ wr) oa) h p v := fun r => r.mono fun b o nb e => ⟨fun hb => (vs b hb).elim nb (nw b o e), st b o e⟩
  refine ⟨⟨z.ok.kind, z.ok.glb, z.ok.bln, z.ok.gk, z'.ok.base, fun b hb => (vs b hb).elim (z'.ok.al b) (ha b), z.ok.nm, z.ok.cel, fun j y c p h1 h2 => ?_, fun j y c ys h1 h2 => ?_⟩, z.nd, z.kd, z.kc, z.ci, z.cl, z'.ns, z'.co, z'.ow, z.oL, z.oi, fun b hb ho => ?_, z'.bs⟩
  · obtain ⟨cv, l, r⟩ := z.ok.slot j y c p h1 h2; exact ⟨cv, l.stays st, rk r⟩
  · obtain ⟨a, us, l, pl, r⟩ := z.ok.owns j y c ys h1 h2; exact ⟨a, us, l.stays st, pl.at fun o e => st _ _ e, rks r⟩
  · rcases hb with hb | hb
    · exact z.v0 b hb ho
    · obtain ⟨o, e⟩ := z.ok.al b (.inr ho); exact nw b o e hb
theorem St.narrow {env : Env} {V₀ V₁ : Addr → Prop} {oa : List (Str × Addr)} {h : Heap} (z : St w Γ env V₁ oa vals h) (hv : ∀ b, V₀ b → V₁ b) : St w Γ env V₀ oa vals h := by
  have vs : ∀ b, Vol env V₀ oa b → Vol env V₁ oa b := fun b hb => hb.elim (fun h => .inl (hv b h)) .inr
  have rk : ∀ {p : PV} {v : Value}, Rep (Vol env V₁ oa) h p v → Rep (Vol env V₀ oa) h p v := fun r => r.mono fun b o nb e => ⟨fun hb => nb (vs b hb), e⟩
  have rks : ∀ {p : List PV} {v : List Value}, Reps (Vol env V₁ oa) h p v → Reps (Vol env V₀ oa) h p v := fun r => r.mono fun b o nb e => ⟨fun hb => nb (vs b hb), e⟩
  refine ⟨⟨z.ok.kind, z.ok.glb, z.ok.bln, z.ok.gk, z.ok.base, fun b hb => z.ok.al b (vs b hb), z.ok.nm, z.ok.cel, fun j y c p h1 h2 => ?_, fun j y c ys h1 h2 => ?_⟩, z.nd, z.kd, z.kc, z.ci, z.cl, z.ns, z.co, z.ow, z.oL, z.oi, fun b hb ho => z.v0 b (hv b hb) ho, z.bs⟩
  · obtain ⟨cv, l, r⟩ := z.ok.slot j y c p h1 h2; exact ⟨cv, l, rk r⟩
  · obtain ⟨a, us, l, pl, r⟩ := z.ok.owns j y c ys h1 h2; exact ⟨a, us, l, pl, rks r⟩
/-- forbidden things change -/
theorem St.volN {env : Env} {V₀ V₁ : Addr → Prop} {oa : List (Str × Addr)} {h h' hb : Heap} (z : St w Γ env V₁ oa vals h) (hv : ∀ b, V₀ b → V₁ b) (hk : ∀ b o, ¬ V₁ b → h.get? b = some o → h'.get? b = some o) (ha : ∀ b, V₀ b → ∃ o, h'.get? b = some o)
    (b0 : Base w hb) (b1 : Stays hb h') (b2 : ∀ b o, hb.get? b = some o → ¬ Own env oa b) : St w Γ env V₀ oa vals h' := by
  have ow : ∀ b, Own env oa b → ¬ V₁ b := fun b ho hv => z.v0 b hv ho
  have vv : ∀ b, Vol env V₀ oa b → Vol env V₁ oa b := fun b hb => hb.elim (fun h => .inl (hv b h)) .inr
  have rk : ∀ {p : PV} {v : Value}, Rep (Vol env V₁ oa) h p v → Rep (Vol env V₀ oa) h' p v := fun r => r.mono fun b o nb e => ⟨fun hb => nb (vv b hb), hk b o (fun h => nb (.inl h)) e⟩
  have rks : ∀ {p : List PV} {v : List Value}, Reps (Vol env V₁ oa) h p v → Reps (Vol env V₀ oa) h' p v := fun r => r.mono fun b o nb e => ⟨fun hb => nb (vv b hb), hk b o (fun h => nb (.inl h)) e⟩
  have lk : ∀ {y : Str} {c : Bool} {v : Value}, Loads env h y c v → Loads env h' y c v := fun {y c v} l => by
    unfold Loads at *
    cases c with
    | false =>
      simp only [Bool.false_eq_true, if_false] at *
      obtain ⟨k, m1, n1, e1⟩ := l
      exact ⟨k, m1, n1.at' fun o e => hk _ o (ow _ (.inl rfl)) e, e1⟩
    | true =>
      simp only [if_true] at *
      obtain ⟨k, b, o, h1, h2, h3⟩ := l
      exact ⟨k, b, o, h1, hk b o (ow _ (.inr (.inl ⟨y, h1⟩))) h2, h3⟩
  refine ⟨⟨z.ok.kind, z.ok.glb, z.ok.bln, z.ok.gk, b0.stays b1, fun b hb => ?_, z.ok.nm, z.ok.cel, fun j y c p h1 h2 => ?_, fun j y c ys h1 h2 => ?_⟩, z.nd, z.kd, z.kc, z.ci, z.cl, ?_, fun y a e => ?_, fun j y c xs h1 h2 => ?_, z.oL, z.oi, fun b h1 h2 => z.v0 b (hv b h1) h2, ⟨hb, b0, b1, b2⟩⟩
  · rcases hb with hb | hb
    · exact ha b hb
    · obtain ⟨o, e⟩ := z.ok.al b (.inr hb); exact ⟨o, hk b o (ow b hb) e⟩
  · obtain ⟨cv, l, r⟩ := z.ok.slot j y c p h1 h2; exact ⟨cv, lk l, rk r⟩
  · obtain ⟨a, us, l, pl, r⟩ := z.ok.owns j y c ys h1 h2
    obtain ⟨hc, a', ma, l'⟩ := z.ow j y c ys h1 h2
    subst hc
    have haa : a = a' := by
      unfold Loads at l l'
      simp only [Bool.false_eq_true, if_false] at l l'
      obtain ⟨_, m1, n1, e1⟩ := l
      obtain ⟨_, m2, n2, e2⟩ := l'
      rw [ns_uniq n1 n2, e2] at e1
      cases e1; rfl
    subst haa
    exact ⟨a, us, lk l, pl.at fun o e => hk a o (ow a (.inr (.inr ⟨y, ma⟩))) e, rks r⟩
  · obtain ⟨m, n⟩ := z.ns; exact ⟨m, n.at' fun o e => hk _ o (ow _ (.inl rfl)) e⟩
  · obtain ⟨v, o, h1, h2⟩ := z.co y a e; exact ⟨v, o, hk a o (ow _ (.inr (.inl ⟨y, e⟩))) h1, h2⟩
  · obtain ⟨hc, a, ma, l⟩ := z.ow j y c xs h1 h2; exact ⟨hc, a, ma, lk l⟩
theorem St.vol {env : Env} {V₀ : Addr → Prop} {oa : List (Str × Addr)} {h h' hb : Heap} (z : St w Γ env V₀ oa vals h) (hk : ∀ b o, ¬ V₀ b → h.get? b = some o → h'.get? b = some o) (ha : ∀ b, V₀ b → ∃ o, h'.get? b = some o)
    (b0 : Base w hb) (b1 : Stays hb h') (b2 : ∀ b o, hb.get? b = some o → ¬ Own env oa b) : St w Γ env V₀ oa vals h' := z.volN (fun _ h => h) hk ha b0 b1 b2
/-- a loop's turns -/
noncomputable def LoopP (w : World) (d : Nat) (Γ : Cx) (T : Expr) (body : List Stmt) (P : Out → Prop) : List PV → List Sl → Prop
  | [], vals => P (.next vals)
  | p :: ps, vals => ∃ vals', AsgS w d Γ T p vals vals' ∧ Ex w d Γ vals' body fun out => match out with
    | .next v => LoopP w d Γ T body P ps v
    | .cont v => LoopP w d Γ T body P ps v
    | .brk v => P (.next v)
    | .ret p => P (.ret p)
theorem ExS.loop {T e : Expr} {body : List Stmt} {pos : Pos} {p : PV} {items : List PV} (h : Ev w d Γ vals e p) (it : Iter w T p items) (lp : LoopP w d Γ T body P items vals)
    (hs : ∀ env x, foldedSetIterable e env x = pure x := by intro _ _; rfl) : ExS w d Γ vals (.For T e body [] pos) P := fun env V₀ oa A s Q E z rm k => by
  refine wpAny_For (h env _ A s _ _ z.ok rm fun cv h1 tk1 st1 r1 => ?_) (hs env)
  have z1 := z.stays st1
  refine it _ A _ _ _ cv rm.hh z1.ok.al r1 fun I fp wr St' h2 tk2 W => ?_
  have ha0 : ∀ b ∈ wr, ∃ o, h2.get? b = some o := fun b hb => W.alv 0 h2 W.s0 b (W.W.sub b hb)
  have z2 := St.wide z1 W.st W.wr0 ha0
  obtain ⟨hb, b0, b1, b2⟩ := z1.bs
  have nw : ∀ b o, h1.get? b = some o → b ∉ wr := fun b o e hb => by rw [W.wr0 b hb] at e; cases e
  refine codeAny_forLoop_any (fun n s' => ∃ h' tk oa' vs i, s' = { s with heap := h', toks := tk } ∧ St' i h' ∧ St w Γ env (fun b => V₀ b ∨ b ∈ wr) oa' vs h' ∧ Step env oa h1 oa' h' ∧ (∀ x a, (x, a) ∈ oa' → a ∉ fp) ∧ LoopP w d Γ T body P (items.drop i) vs ∧ i ≤ items.length ∧ n = items.length + 1 - i) ?_ (items.length + 1)
    ⟨h2, tk2, oa, vals, 0, rfl, W.s0, z2, Step.stays W.st, fun x a ma hf => W.fpV a hf (.inr (.inr (.inr ⟨x, ma⟩))), by simpa using lp, Nat.zero_le _, rfl⟩
  rintro n s' ⟨h', tk, oa', vs, i, rfl, hst, z', stp, hfp, hl, hi, rfl⟩
  have nx : ∀ h3 : Heap, (∀ b o, b ∉ wr → h'.get? b = some o → h3.get? b = some o) → (∀ V, (∀ b, V b → V₀ b ∨ b ∈ wr) → (∀ b, V b → b ∈ wr → ∃ o, h3.get? b = some o) → St w Γ env V oa' vs h3) ∧ Step env oa h1 oa' h3 := fun h3 hk => by
    have hk' : ∀ b o, h1.get? b = some o → ∀ o', h'.get? b = some o' → h3.get? b = some o' := fun b o e o' e' => hk b o' (nw b o e) e'
    refine ⟨fun V hV ha => z'.volN (hb := hb) hV (fun b o nb e => hk b o (fun h => nb (.inr h)) e) (fun b hv => ?_) b0 (fun b o e => ?_) (fun b o e => ?_), fun b o nb e => hk' b o e o (stp.kp b o nb e), stp.fr, fun b o e => ?_⟩
    · by_cases hbw : b ∈ wr
      · exact ha b hv hbw
      · obtain ⟨o, e⟩ := z'.ok.al b (.inl (hV b hv)); exact ⟨o, hk b o hbw e⟩
    · exact hk' b o (b1 b o e) o (stp.kp b o (b2 b o e) (b1 b o e))
    · intro ho
      rcases ho with ho | ho | ⟨y, ho⟩
      · exact b2 b o e (.inl ho)
      · exact b2 b o e (.inr (.inl ho))
      · rcases stp.fr y b ho with ho | ho
        · exact b2 b o e (.inr (.inr ⟨y, ho⟩))
        · rw [b1 b o e] at ho; cases ho
    · obtain ⟨o', e'⟩ := stp.al b o e; exact ⟨o', hk' b o e o' e'⟩
  by_cases hlt : i < items.length
  · refine W.W.item i _ _ _ hlt hst fun v h3 tk3 hP hst3 hk3 => ?_
    obtain ⟨z3, stp3⟩ := nx h3 hk3
    have z3 := z3 (fun b => V₀ b ∨ b ∈ wr) (fun _ h => h) fun b _ hb => W.alv (i + 1) h3 hst3 b (W.W.sub b hb)
    refine W.go (i + 1) { s with heap := h3, toks := tk3 } v _ _ hst3 ?_
    obtain ⟨q, hq, rq⟩ := hP
    have hdrop : items.drop i = q :: items.drop (i + 1) := by
      obtain ⟨hlt', hq'⟩ := List.getElem?_eq_some_iff.mp hq
      rw [← hq', List.drop_eq_getElem_cons hlt']
    rw [hdrop] at hl
    obtain ⟨vs', ha, hx⟩ := hl
    have rq3 : Rep (Vol env (fun b => V₀ b ∨ b ∈ wr) oa') h3 q v := rq.mono fun b o nb e => by
      have nown : ¬ Own env oa b := fun ho => nb (.inr ho)
      refine ⟨fun hv => ?_, stp3.kp b o nown e⟩
      rcases hv with (hv | hv) | hv | hv | ⟨y, hv⟩
      · exact nb (.inl hv)
      · exact nw b o e hv
      · exact nown (.inl hv)
      · exact nown (.inr (.inl hv))
      · rcases stp3.fr y b hv with hv | hv
        · exact nown (.inr (.inr ⟨y, hv⟩))
        · rw [e] at hv; cases hv
    have ff : ∀ {oa₁ : List (Str × Addr)}, (∀ x a, (x, a) ∈ oa₁ → a ∉ fp) → ∀ b ∈ fp, ¬ Own env oa₁ b := fun {oa₁} hf b hb ho => by
      rcases ho with ho | ho | ⟨y, ho⟩
      · exact W.fpV b hb (.inr (.inl ho))
      · exact W.fpV b hb (.inr (.inr (.inl ho)))
      · exact hf y b ho hb
    refine ha env _ oa' A { s with heap := h3, toks := tk3 } _ _ v z3 rm rq3 fun h4 tk4 z4 stp4 => ?_
    refine hx env _ oa' A { s with heap := h4, toks := tk4 } _ _ z4 rm fun out fl oa5 h5 tk5 hp ok stp5 => ?_
    have al4 : ∀ b ∈ fp, ∃ o, h4.get? b = some o := fun b hb => by
      obtain ⟨o, e⟩ := W.alv (i + 1) h3 hst3 b hb; exact ⟨o, stp4.kp b o (ff hfp b hb) e⟩
    have hfp5 : ∀ x a, (x, a) ∈ oa5 → a ∉ fp := fun x a ma hf => by
      rcases stp5.fr x a ma with m | m
      · exact hfp x a m hf
      · obtain ⟨o, e⟩ := al4 a hf; rw [e] at m; cases m
    have st5 : St' (i + 1) h5 := W.W.frame _ _ _ hst3 fun b hb o e => stp5.kp b o (ff hfp b hb) (stp4.kp b o (ff hfp b hb) e)
    have tot : Step env oa h1 oa5 h5 := (stp3.trans stp4).trans stp5
    cases out with
    | next v => obtain ⟨rfl, z5⟩ := ok; exact ⟨_, by (first | lia | omega), h5, tk5, oa5, v, i + 1, rfl, st5, z5, tot, hfp5, hp, hlt, rfl⟩
    | cont v => obtain ⟨rfl, z5⟩ := ok; exact ⟨_, by (first | lia | omega), h5, tk5, oa5, v, i + 1, rfl, st5, z5, tot, hfp5, hp, hlt, rfl⟩
    | brk v => obtain ⟨rfl, z5⟩ := ok; exact k (.next v) .next oa5 h5 tk5 hp ⟨rfl, z5.narrow fun b h => .inl h⟩ ((Step.stays st1).trans tot)
    | ret p => obtain ⟨cv, rfl, r5⟩ := ok; exact k (.ret p) (.ret cv) oa5 h5 tk5 hp ⟨cv, rfl, r5.mono fun b o nb e => ⟨fun h => nb (.inl h), e⟩⟩ ((Step.stays st1).trans tot)
  · have hin : i = items.length := by (first | lia | omega)
    subst hin
    refine W.W.done _ _ _ hst fun h3 tk3 hk3 => wpAny_execs_nil ?_
    obtain ⟨z3, stp3⟩ := nx h3 hk3
    have z3 := z3 V₀ (fun _ h => .inl h) fun b hv hb => by
      obtain ⟨o, e⟩ := z1.ok.al b (.inl hv); exact absurd hb (nw b o e)
    rw [List.drop_length] at hl
    exact k (.next vs) .next oa' h3 tk3 hl ⟨rfl, z3⟩ ((Step.stays st1).trans stp3)
/-- a while loop's turns, at most so many -/
noncomputable def WhileP (w : World) (d : Nat) (Γ : Cx) (test : Expr) (body : List Stmt) (P : Out → Prop) : Nat → List Sl → Prop
  | 0, _ => False
  | n + 1, vals => ∃ b, Tr w d Γ vals test b ∧ (b = false → P (.next vals)) ∧ (b = true → Ex w d Γ vals body fun out => match out with
    | .next v => WhileP w d Γ test body P n v
    | .cont v => WhileP w d Γ test body P n v
    | .brk v => P (.next v)
    | .ret p => P (.ret p))
theorem ExS.while {test : Expr} {body : List Stmt} {pos : Pos} (n : Nat) (lp : WhileP w d Γ test body P n vals) : ExS w d Γ vals (.While test body [] pos) P := fun env V₀ oa A s Q E z rm k => by
  refine wpAny_While ?_
  refine codeAny_whileLoop (fun n s' => ∃ h' tk oa' vs, s' = { s with heap := h', toks := tk } ∧ St w Γ env V₀ oa' vs h' ∧ Step env oa s.heap oa' h' ∧ WhileP w d Γ test body P n vs) ?_ n ⟨s.heap, s.toks, oa, vals, rfl, z, Step.refl, lp⟩
  rintro n s' ⟨h', tk, oa', vs, rfl, z', stp, hl⟩
  cases n with
  | zero => exact hl.elim
  | succ n =>
    obtain ⟨b, ht, h0, h1⟩ := hl
    refine ht env _ A { s with heap := h', toks := tk } _ _ z'.ok rm fun h2 tk2 st2 => ?_
    cases b with
    | false =>
      simp only [Bool.false_eq_true, if_false]
      exact wpAny_execs_nil (k (.next vs) .next oa' h2 tk2 (h0 rfl) ⟨rfl, z'.stays st2⟩ (stp.trans (Step.stays st2)))
    | true =>
      simp only [if_true]
      refine h1 rfl env V₀ oa' A { s with heap := h2, toks := tk2 } _ _ (z'.stays st2) rm fun out fl oa5 h5 tk5 hp ok stp5 => ?_
      have tot := (stp.trans (Step.stays st2)).trans stp5
      cases out with
      | next v => obtain ⟨rfl, z5⟩ := ok; exact ⟨n, by (first | lia | omega), h5, tk5, oa5, v, rfl, z5, tot, hp⟩
      | cont v => obtain ⟨rfl, z5⟩ := ok; exact ⟨n, by (first | lia | omega), h5, tk5, oa5, v, rfl, z5, tot, hp⟩
      | brk v => obtain ⟨rfl, z5⟩ := ok; exact k (.next v) .next oa5 h5 tk5 hp ⟨rfl, z5⟩ tot
      | ret p => obtain ⟨cv, rfl, r5⟩ := ok; exact k (.ret p) (.ret cv) oa5 h5 tk5 hp ⟨cv, rfl, r5⟩ tot
end
end Mine
end
noncomputable section
namespace Mine
open PySem.Calls
theorem bindL_skip {k : Str → Option NameKind} {x : Str} : ∀ {ns : List Str} {cvs : List Value} {m : Str → Option Value}, x ∉ ns → bindL k (ns.zip cvs) m x = m x
  | [], _, m, _ => rfl
  | n :: ns, [], m, _ => rfl
  | n :: ns, c :: cvs, m, h => by
    have h1 : x ≠ n := fun e => h (e ▸ List.mem_cons_self)
    have h2 : x ∉ ns := fun e => h (List.mem_cons_of_mem _ e)
    show bindL k (ns.zip cvs) _ x = m x
    rw [bindL_skip h2]
    split <;> simp [h1]
theorem bindL_get {k : Str → Option NameKind} {x : Str} {cv : Value} : ∀ {ns : List Str} {cvs : List Value} {m : Str → Option Value} {i : Nat}, ns.Nodup → ns[i]? = some x → cvs[i]? = some cv → k x = some .local → bindL k (ns.zip cvs) m x = some cv
  | [], _, m, i, _, h, _, _ => by simp at h
  | n :: ns, [], m, i, _, _, h, _ => by simp at h
  | n :: ns, c :: cvs, m, 0, nd, h1, h2, hk => by
    simp at h1 h2; subst h1; subst h2
    rw [List.nodup_cons] at nd
    show bindL k (ns.zip cvs) _ n = some c
    rw [bindL_skip nd.1, if_pos hk]
    simp
  | n :: ns, c :: cvs, m, i + 1, nd, h1, h2, hk => by
    rw [List.nodup_cons] at nd
    show bindL k (ns.zip cvs) _ x = some cv
    exact bindL_get nd.2 (by simpa using h1) (by simpa using h2) hk
theorem bindC_skip {k : Str → Option NameKind} {x : Str} : ∀ {ns : List Str} {cvs : List Value} {m : Str → Option Value}, x ∉ ns → bindC k (ns.zip cvs) m x = m x
  | [], _, m, _ => rfl
  | n :: ns, [], m, _ => rfl
  | n :: ns, c :: cvs, m, h => by
    have h1 : x ≠ n := fun e => h (e ▸ List.mem_cons_self)
    have h2 : x ∉ ns := fun e => h (List.mem_cons_of_mem _ e)
    show bindC k (ns.zip cvs) _ x = m x
    rw [bindC_skip h2]
    split <;> simp [h1]
theorem bindC_get {k : Str → Option NameKind} {x : Str} {cv : Value} : ∀ {ns : List Str} {cvs : List Value} {m : Str → Option Value} {i : Nat}, ns.Nodup → ns[i]? = some x → cvs[i]? = some cv → k x = some .cell → bindC k (ns.zip cvs) m x = some cv
  | [], _, m, i, _, h, _, _ => by simp at h
  | n :: ns, [], m, i, _, _, h, _ => by simp at h
  | n :: ns, c :: cvs, m, 0, nd, h1, h2, hk => by
    simp at h1 h2; subst h1; subst h2
    rw [List.nodup_cons] at nd
    show bindC k (ns.zip cvs) _ n = some c
    rw [bindC_skip nd.1, if_neg (by rw [hk]; simp)]
    simp
  | n :: ns, c :: cvs, m, i + 1, nd, h1, h2, hk => by
    rw [List.nodup_cons] at nd
    show bindC k (ns.zip cvs) _ x = some cv
    exact bindC_get nd.2 (by simpa using h1) (by simpa using h2) hk
noncomputable def entryOK (scope : Scope) (Γ : Cx) (ns : List Str) : Bool :=
  scope.kind == .function && !scope.isCoroutine && !scope.isGenerator && decide ((Γ.vars.map (·.1)).Nodup) && (Γ.vars.take ns.length).map (·.1) == ns &&
  Γ.vars.all (fun y => scope.names.lookup y.1 == some (if y.2 then .cell else .local) && (y.1 == ("__debug__" : Str)) == false && (y.1 == ("__classdict__" : Str)) == false) &&
  Γ.globs.all (fun x => scope.names.lookup x == some .globalImplicit)
section
variable {w : World} {d : Nat} {Γ : Cx}
theorem lookup_pair {cs : List (Str × Addr)} (hp : cs.Pairwise fun x y => x.2 ≠ y.2) {x y : Str} {a : Addr} (h1 : cs.lookup x = some a) (h2 : cs.lookup y = some a) : x = y := by
  induction cs with
  | nil => simp at h1
  | cons z r ih =>
    obtain ⟨n, b⟩ := z
    rw [List.pairwise_cons] at hp
    rw [List.lookup_cons] at h1 h2
    cases e1 : x == n <;> cases e2 : y == n <;> rw [e1] at h1 <;> rw [e2] at h2
    · exact ih hp.2 h1 h2
    · cases h2; exact absurd rfl (hp.1 (x, a) (PySem.mem_of_lookup h1))
    · cases h1; exact absurd rfl (hp.1 (y, a) (PySem.mem_of_lookup h2))
    · exact (eq_of_beq e1).trans (eq_of_beq e2).symm
theorem entryC {name qual : Str} {params : Arguments} {body : List Stmt} {scope : Scope} {dV kV doc pm cdv ct oc : Value} {an od : Option Addr} {osl : Array (Option Value)} {a : Addr} {ns : List Str} {ps : List PV} {cvs : List Value}
    {V : Addr → Prop} {A : Around} {s : Shared} {R : Result → Shared → Prop}
    (ho : (hd.heap_39 w.params).lookup a = some ⟨oc, od, .func (fnOf name qual params body scope dV kV doc pm an cdv ct), osl⟩) (hcd : codeIn (hd.heap_39 w.params) cdv qual = true)
    (hok : entryOK scope Γ ns = true) (hb : bindArgs (fnOf name qual params body scope dV kV doc pm an cdv ct) ⟨cvs, []⟩ = pure (ns.zip cvs)) (hl : ps.length = ns.length)
    (b : Base w s.heap) (rm : Room A (d + 1)) (al : Alive V s.heap) (rp : Reps V s.heap ps cvs)
    (h : ∀ env h₁ tk E', St w Γ env V [] (ps.map Sl.val ++ (Γ.vars.drop ns.length).map fun _ => Sl.un) h₁ → Stays s.heap h₁ → (∀ b o, s.heap.get? b = some o → ¬ Own env [] b) → Room (A.deeper env) d → env.func = some a → env.code = cdv → env.qual = qual ++ ".<locals>." →
      wpAny (MW w) (A.deeper env) (execs body env) (fun fl s' => R (.ok (.ret (match fl with | .ret v => v | _ => .none))) s') E' { s with heap := h₁, toks := tk }) : codeAny (MW w) A (.call (.ref a) ⟨cvs, []⟩) R s := by
  obtain ⟨mean, mg, mb, X, T⟩ := id b
  unfold entryOK at hok
  simp only [Bool.and_eq_true, List.all_eq_true, beq_iff_eq, Bool.not_eq_true', decide_eq_true_eq] at hok
  obtain ⟨⟨⟨⟨⟨⟨h1, h2⟩, h3⟩, h4⟩, h5⟩, h6⟩, h7⟩ := hok
  have hcl : cvs.length = ns.length := by rw [rp.length, hl]
  have hvl : ns.length ≤ Γ.vars.length := by
    have := congrArg List.length h5
    simp only [List.length_map, List.length_take] at this
    (first | lia | omega)
  have hv : ∀ (i : Nat) (x : Str) (c : Bool), Γ.vars[i]? = some (x, c) → i < ns.length → ns[i]? = some x := fun i x c hi hlt => by
    rw [← h5, List.getElem?_map, List.getElem?_take_of_lt hlt, hi]; rfl
  have hv' : ∀ x ∈ ns, ∃ c, (x, c) ∈ Γ.vars := fun x hx => by
    rw [← h5] at hx
    obtain ⟨y, hy, e⟩ := List.mem_map.mp hx
    exact ⟨y.2, by rw [← e]; exact List.mem_of_mem_take hy⟩
  have hnd : ns.Nodup := by
    rw [← h5, List.map_take]
    exact List.Nodup.sublist (List.take_sublist _ _) h4
  refine codeAny_call_cells (body := body) (binds := ns.zip cvs) (by have := rm.dep; (first | lia | omega)) (X _ _ ho) rfl T.nolimit (codeRec_of X hcd) rfl hb rfl (fun x hx => ?_) (fun s₁ x => ?_) h2 h3 h1
  · obtain ⟨c, hc⟩ := hv' x.1 (List.of_mem_zip hx).1
    have hk := (h6 _ hc).1.1
    cases c with
    | false => exact .inl hk
    | true => exact .inr ⟨hk, cellsFrom_some _ _ _ (.inl hk)⟩
  · obtain ⟨h₁, tk, rfl, _⟩ := x.done
    have st : Stays s.heap h₁ := x.toInCall.keep
    generalize henv : callEnvC (fnOf name qual params body scope dV kV doc pm an cdv ct) s.heap.objs.size a = env at x ⊢
    have eL : env.locals = s.heap.objs.size := by rw [← henv]; rfl
    have eS : env.scope = scope := by rw [← henv]; rfl
    have eG : env.globals = mainGlobals := by rw [← henv]; rfl
    have eB : env.builtins = builtinsNs := by rw [← henv]; rfl
    have eF : env.func = some a := by rw [← henv]; rfl
    have eD : env.code = cdv := by rw [← henv]; rfl
    have eQ : env.qual = qual ++ ".<locals>." := by rw [← henv]; rfl
    have eC : env.cells = cellsFrom (s.heap.objs.size + 1) scope.names [] := by rw [← henv]; rfl
    have kk : ∀ y, env.kindOf y = scope.names.lookup y := fun y => by unfold Env.kindOf; rw [eS]
    have nL : s.heap.get? env.locals = none := by rw [eL]; exact size_new _
    have nC : ∀ y c, env.cells.lookup y = some c → s.heap.get? c = none := fun y c hc => by
      have := x.above y c (mem_of_lookup hc)
      cases e : s.heap.get? c with
      | none => rfl
      | some o => have h' := Heap.lt_size e; rw [eL] at this; exact absurd (Nat.lt_trans this h') (Nat.lt_irrefl _)
    have nO : ∀ b o, s.heap.get? b = some o → ¬ Own env [] b := fun b o e ho => by
      rcases ho with ho | ⟨y, ho⟩ | ⟨y, ho⟩
      · rw [ho, nL] at e; cases e
      · rw [nC y b ho] at e; cases e
      · cases ho
    have rk : Reps (Vol env V []) h₁ ps cvs := rp.mono fun b o nb e => ⟨fun hb => hb.elim nb (nO b o e), st b o e⟩
    have cel : ∀ y, (y, true) ∈ Γ.vars → env.kindOf y = some .cell ∧ ∃ c, env.cells.lookup y = some c := fun y hy => by
      have hk := (h6 _ hy).1.1
      simp only [if_true] at hk
      refine ⟨(kk y).trans hk, ?_⟩
      have := cellsFrom_some (x := y) scope.names (s.heap.objs.size + 1) [] (.inl hk)
      rw [← eC] at this
      exact Option.isSome_iff_exists.mp this
    refine h env h₁ tk _ ⟨⟨?_, eG, eB, fun y hy => (kk y).trans (h7 y hy), b.stays st, fun b hb => ?_, fun y c hy => ⟨by simpa using (h6 _ hy).1.2, by simpa using (h6 _ hy).2⟩, fun y hy => ⟨.inl (cel y hy).1, (cel y hy).2⟩, fun i y c p hi hp => ?_, fun i y c xs hi hp => ?_⟩, h4, fun y hy => ?_, fun y hy => (cel y hy).1, fun y u c e1 e2 => lookup_pair x.apart e1 e2, fun y c e => ?_, ⟨_, x.toInCall.ns⟩, fun y c e => ⟨_, x.cell y c e⟩, fun i y c xs hi hp => ?_, fun y c hm => (nomatch hm), fun y u c hm => (nomatch hm), fun b hb ho => ?_, ⟨s.heap, b, st, nO⟩⟩ st nO ⟨rm.hh, ?_, ?_⟩ eF eD eQ
    · rw [eS]; exact h1
    · rcases hb with hb | hb | ⟨y, hb⟩ | ⟨y, hb⟩
      · obtain ⟨o, e⟩ := al b hb; exact ⟨o, st _ _ e⟩
      · subst hb; obtain ⟨o, _, _, e, _⟩ := x.toInCall.ns; exact ⟨o, e⟩
      · obtain ⟨o, e, _⟩ := x.cell y b hb; exact ⟨o, e⟩
      · cases hb
    · have hlt : i < ps.length := by
        cases Nat.lt_or_ge i ps.length with
        | inl h => exact h
        | inr h =>
          rw [List.getElem?_append_right (by simpa using h)] at hp
          have hm := List.mem_of_getElem? hp
          obtain ⟨_, _, e⟩ := List.mem_map.mp hm
          cases e
      rw [List.getElem?_append_left (by simpa using hlt), List.getElem?_map] at hp
      cases hpi : ps[i]? with
      | none => rw [hpi] at hp; cases hp
      | some q =>
        rw [hpi] at hp; cases hp
        obtain ⟨cv, hcv, rcv⟩ := rk.get hpi
        refine ⟨cv, ?_, rcv⟩
        have hn := hv i y c hi (by (first | lia | omega))
        have hk := (h6 _ (List.mem_of_getElem? hi)).1.1
        unfold Loads
        cases c with
        | false =>
          simp only [Bool.false_eq_true, if_false] at hk ⊢
          exact ⟨(kk y).trans hk, _, x.toInCall.ns, bindL_get hnd hn hcv ((kk y).trans hk)⟩
        | true =>
          simp only [if_true] at hk ⊢
          obtain ⟨c1, c, hc⟩ := cel y (List.mem_of_getElem? hi)
          obtain ⟨o, e, e2⟩ := x.cell y c hc
          exact ⟨.inl c1, c, o, hc, e, e2.trans (by rw [bindC_get hnd hn hcv ((kk y).trans hk)])⟩
    · exfalso
      have hm := List.mem_of_getElem? hp
      rcases List.mem_append.mp hm with h | h
      · obtain ⟨_, _, e⟩ := List.mem_map.mp h; cases e
      · obtain ⟨_, _, e⟩ := List.mem_map.mp h; cases e
    · have hk := (h6 _ hy).1.1
      simp only [Bool.false_eq_true, if_false] at hk
      exact (kk y).trans hk
    · have := x.above y c (mem_of_lookup e)
      exact fun hh => absurd this (hh ▸ Nat.lt_irrefl _)
    · exfalso
      have hm := List.mem_of_getElem? hp
      rcases List.mem_append.mp hm with h | h
      · obtain ⟨_, _, e⟩ := List.mem_map.mp h; cases e
      · obtain ⟨_, _, e⟩ := List.mem_map.mp h; cases e
    · obtain ⟨o, e⟩ := al b hb; exact nO b o e ho
    · show A.depth + 1 + d < recursionLimit
      have := rm.dep; (first | lia | omega)
    · show A.units + 3 + 20 * d + 100 < cLine
      have := rm.un; (first | lia | omega)
theorem entry {name qual : Str} {params : Arguments} {body : List Stmt} {scope : Scope} {dV kV doc pm cdv ct oc : Value} {an od : Option Addr} {osl : Array (Option Value)} {a : Addr} {ns : List Str} {ps : List PV} {cvs : List Value}
    {V : Addr → Prop} {A : Around} {s : Shared} {Q : Value → Shared → Prop} {E : Value → Shared → Prop}
    (ho : (hd.heap_39 w.params).lookup a = some ⟨oc, od, .func (fnOf name qual params body scope dV kV doc pm an cdv ct), osl⟩) (hcd : codeIn (hd.heap_39 w.params) cdv qual = true)
    (hok : entryOK scope Γ ns = true) (hb : bindArgs (fnOf name qual params body scope dV kV doc pm an cdv ct) ⟨cvs, []⟩ = pure (ns.zip cvs)) (hl : ps.length = ns.length)
    (b : Base w s.heap) (rm : Room A (d + 1)) (al : Alive V s.heap) (rp : Reps V s.heap ps cvs)
    (h : ∀ env h₁ tk E', St w Γ env V [] (ps.map Sl.val ++ (Γ.vars.drop ns.length).map fun _ => Sl.un) h₁ → Stays s.heap h₁ → (∀ b o, s.heap.get? b = some o → ¬ Own env [] b) → Room (A.deeper env) d → env.func = some a → env.code = cdv → env.qual = qual ++ ".<locals>." →
      wpAny (MW w) (A.deeper env) (execs body env) (fun fl s' => Q (match fl with | .ret v => v | _ => .none) s') E' { s with heap := h₁, toks := tk }) : wpAny (MW w) A (call (.ref a) cvs) Q E s :=
  wpAny_call (entryC ho hcd hok hb hl b rm al rp fun env h₁ tk E' z st nO rm' e1 e2 e3 => h env h₁ tk E' z st nO rm' e1 e2 e3)
theorem Fc.of {name qual : Str} {params : Arguments} {body : List Stmt} {scope : Scope} {dV kV doc pm cdv ct oc : Value} {an od : Option Addr} {osl : Array (Option Value)} {a : Addr} (Γ : Cx) (ns : List Str) {ps : List PV} {p : PV}
    (ho : (hd.heap_39 w.params).lookup a = some ⟨oc, od, .func (fnOf name qual params body scope dV kV doc pm an cdv ct), osl⟩) (hcd : codeIn (hd.heap_39 w.params) cdv qual = true)
    (hok : entryOK scope Γ ns = true) (hb : ∀ cvs : List Value, cvs.length = ns.length → bindArgs (fnOf name qual params body scope dV kV doc pm an cdv ct) ⟨cvs, []⟩ = pure (ns.zip cvs)) (hl : ps.length = ns.length)
    (hx : Ex w d Γ (ps.map Sl.val ++ (Γ.vars.drop ns.length).map fun _ => Sl.un) body fun o => o = .ret p) : Fc w (d + 1) (.ref a) ps p := fun V A s Q E cvs b rm al rp k =>
  entry ho hcd hok (hb cvs (by rw [rp.length, hl])) hl b rm al rp fun env h₁ tk E' z st nO rm' _ _ _ => hx env V [] _ { s with heap := h₁, toks := tk } _ _ z rm' fun out fl oa' h' tk' hp ok stp => by
    subst hp
    obtain ⟨cv, rfl, r⟩ := ok
    exact k cv h' tk' (fun b o e => stp.kp b o (nO b o e) (st b o e)) r
end
end Mine
end
noncomputable section
namespace Mine
theorem len1 {P : List Value → Prop} {cvs : List Value} (h : cvs.length = 1) (k : ∀ a, P [a]) : P cvs := by
  cases cvs with
  | nil => exact absurd h (by decide)
  | cons a t => cases t with
    | nil => exact k a
    | cons b t => exact absurd (Nat.succ.inj h) (Nat.succ_ne_zero _)
theorem len2 {P : List Value → Prop} {cvs : List Value} (h : cvs.length = 2) (k : ∀ a b, P [a, b]) : P cvs := by
  cases cvs with
  | nil => exact absurd h (by decide)
  | cons a t => exact len1 (P := fun c => P (a :: c)) (Nat.succ.inj h) (k a)
theorem len3 {P : List Value → Prop} {cvs : List Value} (h : cvs.length = 3) (k : ∀ a b c, P [a, b, c]) : P cvs := by
  cases cvs with
  | nil => exact absurd h (by decide)
  | cons a t => exact len2 (P := fun c => P (a :: c)) (Nat.succ.inj h) (k a)
end Mine
namespace Mine
noncomputable section
variable {f : FuncData} {x y z : Str}
theorem bind1 (k : ∀ a, bindArgs f ⟨[a], []⟩ = pure ([x].zip [a])) : ∀ cvs : List Value, cvs.length = [x].length → bindArgs f ⟨cvs, []⟩ = pure ([x].zip cvs) := fun cvs h => len1 (P := fun c => bindArgs f ⟨c, []⟩ = pure ([x].zip c)) h k
theorem bind2 (k : ∀ a b, bindArgs f ⟨[a, b], []⟩ = pure ([x, y].zip [a, b])) : ∀ cvs : List Value, cvs.length = [x, y].length → bindArgs f ⟨cvs, []⟩ = pure ([x, y].zip cvs) := fun cvs h => len2 (P := fun c => bindArgs f ⟨c, []⟩ = pure ([x, y].zip c)) h k
theorem bind3 (k : ∀ a b c, bindArgs f ⟨[a, b, c], []⟩ = pure ([x, y, z].zip [a, b, c])) : ∀ cvs : List Value, cvs.length = [x, y, z].length → bindArgs f ⟨cvs, []⟩ = pure ([x, y, z].zip cvs) := fun cvs h => len3 (P := fun c => bindArgs f ⟨c, []⟩ = pure ([x, y, z].zip c)) h k
end
end Mine
end
noncomputable section
namespace Mine
open PySem.StrLaws
noncomputable def hit (l p : List Nat) (hi i : Nat) : Bool := decide (i + p.length ≤ hi) && ((l.drop i).take p.length == p)
noncomputable def fnd (l p : List Nat) (lo hi : Nat) : Option Nat := (List.range' lo (hi + 1 - lo)).find? (hit l p hi)
theorem subAt_S (l p : List Nat) (i : Nat) : Builtin.Str.subAt (S l) (S p) i = ((l.drop i).take p.length == p) := by
  rw [subAt_eq, S_len]; rfl
theorem at_S (l p : List Nat) (hi i : Nat) : StrLaws.At (S l) (S p) hi i ↔ hit l p hi i = true := by
  unfold StrLaws.At hit
  rw [subAt_S, S_len]
  simp
theorem find_none {α : Type} {f : α → Bool} {l : List α} (h : ∀ i ∈ l, ¬ f i = true) : l.find? f = none := List.find?_eq_none.mpr h
theorem occ_S (l p : List Nat) (lo hi : Nat) : (Builtin.Str.occurrences (S l) (S p) lo hi 1)[0]? = fnd l p lo hi := by
  rw [occ_eq]
  unfold fnd
  rcases occ_first (S l) (S p) hi 1 (Nat.le_refl _) (List.range' lo (hi + 1 - lo)) lo (fun i hi => by simp [List.mem_range'] at hi; (first | lia | omega)) with ⟨h0, hn⟩ | ⟨pre, a, post, e, h0, ha, hn⟩
  · rw [h0, find_none fun i hi h => hn i hi ((at_S l p _ i).mpr h)]; rfl
  · have h1 : (List.range' lo (hi + 1 - lo)).find? (hit l p hi) = some a := by
      rw [e]
      refine List.find?_eq_some_iff_append.mpr ⟨(at_S l p _ a).mp ha, pre, post, rfl, fun i hi => ?_⟩
      have := hn i hi
      rw [at_S] at this
      simpa using this
    rw [h1]
    simpa using h0
theorem occ1_S (l p : List Nat) (lo hi : Nat) : occ1 (S l) (S p) lo hi = match fnd l p lo hi with | some i => (i : Int) | none => -1 := by
  have h := occ_S l p lo hi
  unfold occ1
  cases e : Builtin.Str.occurrences (S l) (S p) lo hi 1 with
  | nil => rw [e] at h; rw [← h]; rfl
  | cons a r => rw [e] at h; rw [← h]; rfl
theorem contains_S (l p : List Nat) : Txt.contains (S l) (S p) = (fnd l p 0 l.length).isSome := by
  have h := occ_S l p 0 l.length
  unfold Txt.contains
  rw [S_len]
  cases e : Builtin.Str.occurrences (S l) (S p) 0 l.length 1 with
  | nil => rw [e] at h; rw [← h]; rfl
  | cons a r => rw [e] at h; rw [← h]; rfl
theorem fnd_some {l p : List Nat} {lo hi i : Nat} (h : fnd l p lo hi = some i) : lo ≤ i ∧ i + p.length ≤ hi ∧ (l.drop i).take p.length = p ∧ ∀ j, lo ≤ j → j < i → hit l p hi j = false := by
  unfold fnd at h
  have h1 := List.find?_some h
  have h2 := List.mem_of_find?_eq_some h
  rw [List.find?_range'_eq_some] at h
  unfold hit at h1
  simp only [Bool.and_eq_true, decide_eq_true_eq, beq_iff_eq] at h1
  simp only [List.mem_range'_1] at h2
  refine ⟨h2.1, h1.1, h1.2, fun j h3 h4 => ?_⟩
  have := h.2.2 j h3 h4
  simpa using this
theorem fnd_none {l p : List Nat} {lo hi : Nat} (h : fnd l p lo hi = none) : ∀ j, lo ≤ j → hit l p hi j = false := fun j hj => by
  unfold fnd at h
  rw [List.find?_eq_none] at h
  cases hc : hit l p hi j with
  | false => rfl
  | true =>
    have hle : j ≤ hi := by
      unfold hit at hc
      simp only [Bool.and_eq_true, decide_eq_true_eq] at hc
      (first | lia | omega)
    exact absurd hc (h j (by simp [List.mem_range'_1]; (first | lia | omega)))
theorem fnd_of_none {l p : List Nat} {lo hi : Nat} (h : ∀ j, lo ≤ j → j ≤ hi → hit l p hi j = false) : fnd l p lo hi = none := by
  unfold fnd
  rw [List.find?_eq_none]
  intro j hj
  simp only [List.mem_range'_1] at hj
  rw [h j hj.1 (by (first | lia | omega))]
  simp
theorem fnd_one {l : List Nat} {c : Nat} (h : c ∉ l) (lo hi : Nat) : fnd l [c] lo hi = none := fnd_of_none fun j _ _ => by
  unfold hit
  simp only [Bool.and_eq_false_iff]
  right
  cases e : (l.drop j).take [c].length == [c] with
  | false => rfl
  | true =>
    have := eq_of_beq e
    have hm : c ∈ (l.drop j).take [c].length := by rw [this]; simp
    exact absurd (List.mem_of_mem_drop (List.mem_of_mem_take hm)) h
theorem occL_none {l : List Nat} (h : 46 ∉ l) (hi : Nat) : occL (S l) (S [46]) 0 hi = -1 := by
  have hl := last_run (S l) (S [46]) hi (List.range' 0 (hi + 1 - 0)) [] none (by intro i hi; cases hi) (fun i hi => by cases hi) (List.pairwise_lt_range' ..)
  unfold occL
  rw [last_eq]
  generalize (forIn (List.range' 0 (hi + 1 - 0)) none (lastBody (S l) (S [46]) hi)).run = st at hl
  cases st with
  | none => rfl
  | some a =>
    have ha := (at_S l [46] hi a).mp hl.1
    have := fnd_none (fnd_one h 0 hi) a (Nat.zero_le _)
    rw [this] at ha; cases ha
theorem occL_some {u v : List Nat} (h : 46 ∉ v) : occL (S (u ++ 46 :: v)) (S [46]) 0 (u ++ 46 :: v).length = u.length := by
  have hl := last_run (S (u ++ 46 :: v)) (S [46]) (u ++ 46 :: v).length (List.range' 0 ((u ++ 46 :: v).length + 1 - 0)) [] none (by intro i hi; cases hi) (fun i hi => by cases hi) (List.pairwise_lt_range' ..)
  unfold occL
  rw [last_eq]
  generalize (forIn (List.range' 0 ((u ++ 46 :: v).length + 1 - 0)) none (lastBody (S (u ++ 46 :: v)) (S [46]) (u ++ 46 :: v).length)).run = st at hl
  have hu : StrLaws.At (S (u ++ 46 :: v)) (S [46]) (u ++ 46 :: v).length u.length := by
    rw [at_S]; unfold hit; simp
  cases st with
  | none => exact absurd hu (hl u.length (by simp [List.mem_range'_1]; (first | lia | omega)))
  | some a =>
    have h1 := (at_S (u ++ 46 :: v) [46] _ a).mp hl.1
    have h2 : ¬ a < u.length := fun hlt => hl.2 u.length (by simp [List.mem_range'_1]; (first | lia | omega)) hlt hu
    have h3 : ¬ u.length < a := fun hlt => by
      unfold hit at h1
      simp only [Bool.and_eq_true, decide_eq_true_eq, beq_iff_eq] at h1
      have hd : (u ++ 46 :: v).drop a = v.drop (a - u.length - 1) := by
        rw [List.drop_append, List.drop_eq_nil_of_le (by (first | lia | omega))]
        simp
        cases e : a - u.length with
        | zero => (first | lia | omega)
        | succ n => simp
      rw [hd] at h1
      have hm : 46 ∈ (v.drop (a - u.length - 1)).take [46].length := by rw [h1.2]; simp
      exact h (List.mem_of_mem_drop (List.mem_of_mem_take hm))
    have : a = u.length := by (first | lia | omega)
    rw [this]
end Mine
end
noncomputable section
namespace Mine
open PySem.StrLaws PySem.Calls
/-- pieces with three dots between them -/
noncomputable def glue3 : List (List Nat) → List Nat
  | [] => []
  | [p] => p
  | p :: q :: r => p ++ [46, 46, 46] ++ glue3 (q :: r)
noncomputable def cutsF (o : Nat) : List (List Nat) → List Nat
  | [] => []
  | [_] => []
  | p :: q :: r => (o + p.length) :: cutsF (o + p.length + 3) (q :: r)
noncomputable abbrev dots : List Nat := [46, 46, 46]
theorem hit_no {l : List Nat} {c hi i : Nat} (h : l[i]? = some c) (hc : c ≠ 46) : hit l dots hi i = false := by
  unfold hit
  simp only [Bool.and_eq_false_iff]
  right
  cases e : (l.drop i).take dots.length == dots with
  | false => rfl
  | true =>
    have := eq_of_beq e
    have h0 : (List.take dots.length (List.drop i l))[0]? = some 46 := by rw [this]; rfl
    rw [List.getElem?_take_of_lt (by simp), List.getElem?_drop] at h0
    simp only [Nat.add_zero] at h0
    rw [h] at h0
    cases h0
    exact absurd rfl hc
theorem body_skip {l : List Nat} {hi limit i : Nat} {st : Array Nat × Nat} (h : hit l dots hi i = false ∨ i < st.2) : occBody (S l) (S dots) hi limit i st = pure (ForInStep.yield st) := by
  unfold occBody
  rw [if_neg]
  intro hh
  rcases h with h | h
  · have := (at_S l dots hi i).mp ⟨hh.1.2, hh.2⟩
    rw [h] at this; cases this
  · have := hh.1.1.2
    (first | lia | omega)
theorem body_push {l : List Nat} {hi limit i : Nat} {st : Array Nat × Nat} (h : hit l dots hi i = true) (h1 : st.2 ≤ i) (h2 : st.1.size < limit) : occBody (S l) (S dots) hi limit i st = pure (ForInStep.yield (st.1.push i, i + 3)) := by
  unfold occBody
  have := (at_S l dots hi i).mpr h
  rw [if_pos ⟨⟨⟨h2, h1⟩, this.1⟩, this.2⟩]
  rfl
theorem skip_run {l L : List Nat} {hi limit : Nat} {st : Array Nat × Nat} : ∀ (n o : Nat), (∀ i, o ≤ i → i < o + n → hit l dots hi i = false ∨ i < st.2) → forIn (List.range' o n ++ L) st (occBody (S l) (S dots) hi limit) = forIn L st (occBody (S l) (S dots) hi limit)
  | 0, o, _ => by simp
  | n + 1, o, h => by
    rw [List.range'_succ, List.cons_append, List.forIn_cons, body_skip (h o (Nat.le_refl _) (by (first | lia | omega)))]
    exact skip_run n (o + 1) fun i h1 h2 => h i (by (first | lia | omega)) (by (first | lia | omega))
theorem occ_run {l : List Nat} {limit : Nat} (hlim : l.length < limit) : ∀ (ps : List (List Nat)) (o : Nat) (st : Array Nat × Nat), ps ≠ [] → (∀ p ∈ ps, 46 ∉ p) → l.drop o = glue3 ps → o ≤ l.length → st.2 ≤ o → st.1.size ≤ o →
    (forIn (List.range' o (l.length + 1 - o)) st (occBody (S l) (S dots) l.length limit)).run.fst.toList = st.1.toList ++ cutsF o ps
  | [], o, st, h, _, _, _, _, _ => absurd rfl h
  | [p], o, st, _, hp, hd, ho, h1, h2 => by
    have hlen : l.length - o = p.length := by rw [← List.length_drop, hd]; rfl
    have e0 : List.range' o (l.length + 1 - o) = List.range' o (l.length + 1 - o) ++ [] := by simp
    rw [e0, skip_run]
    · simp [cutsF]
    · intro i hi1 hi2
      left
      by_cases hlt : i < l.length
      · have e : l[i]? = p[i - o]? := by
          have := congrArg (·[i - o]?) hd
          simp only [List.getElem?_drop, glue3] at this
          rw [← this]; congr 1; (first | lia | omega)
        have hlt' : i - o < p.length := by (first | lia | omega)
        refine hit_no (c := p[i - o]) (by rw [e]; simp [hlt']) fun hc => hp p (by simp) (hc ▸ List.getElem_mem hlt')
      · unfold hit
        simp only [Bool.and_eq_false_iff]
        left
        simp
        (first | lia | omega)
  | p :: q :: r, o, st, _, hp, hd, ho, h1, h2 => by
    have hlen : l.length - o = p.length + (3 + (glue3 (q :: r)).length) := by rw [← List.length_drop, hd]; simp [glue3]; (first | lia | omega)
    have hdp : l.drop (o + p.length) = dots ++ glue3 (q :: r) := by
      rw [← List.drop_drop, hd]; simp [glue3]
    have hdq : l.drop (o + p.length + 3) = glue3 (q :: r) := by
      rw [← List.drop_drop, hdp]; simp
    have hsplit : List.range' o (l.length + 1 - o) = List.range' o p.length ++ ((o + p.length) :: (List.range' (o + p.length + 1) 2 ++ List.range' (o + p.length + 3) (l.length + 1 - (o + p.length + 3)))) := by
      have e1 : l.length + 1 - o = p.length + (1 + (2 + (l.length + 1 - (o + p.length + 3)))) := by (first | lia | omega)
      rw [e1, ← List.range'_append_1, Nat.add_comm 1, List.range'_succ, ← List.range'_append_1]
    rw [hsplit, skip_run]
    · rw [List.forIn_cons, body_push]
      · show (Id.run (forIn (List.range' (o + p.length + 1) 2 ++ List.range' (o + p.length + 3) (l.length + 1 - (o + p.length + 3))) (st.1.push (o + p.length), o + p.length + 3) (occBody (S l) (S dots) l.length limit))).fst.toList = _
        rw [skip_run]
        · have := occ_run hlim (q :: r) (o + p.length + 3) (st.1.push (o + p.length), o + p.length + 3) (by simp) (fun x hx => hp x (List.mem_cons_of_mem _ hx)) hdq (by (first | lia | omega)) (Nat.le_refl _) (by simp; (first | lia | omega))
          rw [this]
          simp [cutsF]
        · intro i hi1 hi2
          right
          show i < o + p.length + 3
          (first | lia | omega)
      · unfold hit
        rw [hdp]
        simp
        (first | lia | omega)
      · (first | lia | omega)
      · (first | lia | omega)
    · intro i hi1 hi2
      left
      have hlt' : i - o < p.length := by (first | lia | omega)
      have e : l[i]? = p[i - o]? := by
        have := congrArg (·[i - o]?) hd
        simp only [List.getElem?_drop, glue3, List.append_assoc] at this
        rw [List.getElem?_append_left hlt'] at this
        rw [← this]; congr 1; (first | lia | omega)
      refine hit_no (c := p[i - o]) (by rw [e]; simp [hlt']) fun hc => hp p (by simp) (hc ▸ List.getElem_mem hlt')
theorem occ_dots {ps : List (List Nat)} (h0 : ps ≠ []) (hp : ∀ p ∈ ps, 46 ∉ p) : Builtin.Str.occurrences (S (glue3 ps)) (S dots) 0 (glue3 ps).length ((glue3 ps).length + 1) = cutsF 0 ps := by
  rw [occ_eq]
  have := occ_run (l := glue3 ps) (limit := (glue3 ps).length + 1) (by (first | lia | omega)) ps 0 (#[], 0) h0 hp rfl (Nat.zero_le _) (Nat.le_refl _) (by simp)
  simpa using this
theorem sub_S (l : List Nat) (i j : Nat) : Builtin.Str.strSub (S l) i j = S ((l.drop i).take (j - i)) := by
  unfold Builtin.Str.strSub S
  rw [List.extract_toArray]
theorem parts_run {l : List Nat} : ∀ (ps : List (List Nat)) (o : Nat), ps ≠ [] → l.drop o = glue3 ps → o ≤ l.length →
    ((o :: (cutsF o ps).map (· + 3)).zip (cutsF o ps ++ [l.length])).map (fun x => Builtin.Str.strSub (S l) x.1 x.2) = ps.map S
  | [], o, h, _, _ => absurd rfl h
  | [p], o, _, hd, ho => by
    have hlen : l.length - o = p.length := by rw [← List.length_drop, hd]; rfl
    simp [cutsF, sub_S, hd, glue3, hlen]
  | p :: q :: r, o, _, hd, ho => by
    have hlen : l.length - o = p.length + (3 + (glue3 (q :: r)).length) := by rw [← List.length_drop, hd]; simp [glue3]; (first | lia | omega)
    have hdp : l.drop (o + p.length) = dots ++ glue3 (q :: r) := by
      rw [← List.drop_drop, hd]; simp [glue3]
    have hdq : l.drop (o + p.length + 3) = glue3 (q :: r) := by
      rw [← List.drop_drop, hdp]; simp
    have ih := parts_run (q :: r) (o + p.length + 3) (by simp) hdq (by (first | lia | omega))
    simp only [cutsF, List.map_cons, List.cons_append, List.zip_cons_cons] at ih ⊢
    rw [ih]
    congr 1
    rw [sub_S, hd]
    simp [glue3]
theorem split_S {ps : List (List Nat)} (h0 : ps ≠ []) (hp : ∀ p ∈ ps, 46 ∉ p) : Builtin.Str.partsBetween (S (glue3 ps)) (Builtin.Str.occurrences (S (glue3 ps)) (S dots) 0 (S (glue3 ps)).length ((S (glue3 ps)).length + 1)) (S dots).length = ps.map S := by
  rw [S_len, S_len, occ_dots h0 hp]
  unfold Builtin.Str.partsBetween
  have := parts_run (l := glue3 ps) ps 0 h0 rfl (Nat.zero_le _)
  rw [S_len]
  exact this
theorem reps_strs {V : Addr → Prop} {h : Heap} : ∀ (xs : List Str) (k : Nat), Reps V h (xs.map PV.str) (strsFrom k xs)
  | [], k => by simp [strsFrom]; exact Reps.nil
  | x :: xs, k => by
    simp only [List.map_cons, strsFrom]
    exact Reps.cons mk_str (reps_strs xs _)
theorem two_of {α : Type} {ps : List α} (h : 2 ≤ ps.length) : ∃ p q r, ps = p :: q :: r := by
  cases ps with
  | nil => exact absurd (show 2 ≤ 0 from h) (by decide)
  | cons p t => cases t with
    | nil => exact absurd (show 2 ≤ 1 from h) (by decide)
    | cons q r => exact ⟨p, q, r, rfl⟩
theorem FcF.split {w : World} {d : Nat} {ps : List (List Nat)} (h2 : 2 ≤ ps.length) (hp : ∀ p ∈ ps, 46 ∉ p) (hz : (glue3 ps).length ≤ 1000) : FcF w d (.builtin "str.split") [.str (S (glue3 ps)), .str (S dots)] (ps.map fun p => PV.str (S p)) := fun V A s Q E cvs b rm al rp k => by
  obtain ⟨v, u, rfl, r1, r2⟩ := reps_two rp
  obtain ⟨t, rfl⟩ := rep_str r1
  obtain ⟨u, rfl⟩ := rep_str r2
  obtain ⟨p, q, r, rfl⟩ := two_of h2
  have hs := split_S (ps := p :: q :: r) (by simp) hp
  have hl3 : 3 ≤ (glue3 (p :: q :: r)).length := by simp [glue3]; (first | lia | omega)
  have hlen : (p :: q :: r).length ≤ sizeLine := by
    have : ∀ ps : List (List Nat), ps.length ≤ (glue3 ps).length + 1 := fun ps => by
      induction ps with
      | nil => simp
      | cons a t ih =>
        cases t with
        | nil => simp
        | cons b t => simp only [List.length_cons, glue3, List.length_append] at ih ⊢; (first | lia | omega)
    have := this (p :: q :: r)
    rw [sizeLine_eq]; (first | lia | omega)
  have g := meets_str_split_sep (S (glue3 (p :: q :: r))) (S dots) t u (by
      rw [S_len, S_len]
      have h1 : ¬ (glue3 (p :: q :: r)).length < dots.length := by show ¬ _ < 3; (first | lia | omega)
      have h2 : ¬ Builtin.Str.strKind (S (glue3 (p :: q :: r))) < Builtin.Str.strKind (S dots) := by
        have e : Builtin.Str.strKind (S dots) = 1 := by decide +kernel
        rw [e]
        unfold Builtin.Str.strKind
        split
        · (first | lia | omega)
        · split <;> (first | lia | omega)
      simp only [h1, h2, decide_false, Bool.or_false]) (by rfl) (by
      rw [S_len, occ_dots (by simp) hp]; rfl) (by rw [S_len, sizeLine_eq]; (first | lia | omega)) (by rw [hs]; simpa using hlen)
  rw [hs] at g
  refine call_meets F.slot_str_split (typeIs_str _ _ _) F.entry_str_split (F.args_str_split_2 _ _) g ?_
  have hr : Reps (fun b => V b ∨ b = s.heap.objs.size) (s.heap.push { cls := .type "list", data := .seq (strsFrom s.toks ((p :: q :: r).map S)).toArray }) ((p :: q :: r).map fun p => PV.str (S p)) (strsFrom s.toks ((p :: q :: r).map S)) := by
    have := reps_strs (V := fun b => V b ∨ b = s.heap.objs.size) (h := s.heap.push { cls := .type "list", data := .seq (strsFrom s.toks ((p :: q :: r).map S)).toArray }) ((p :: q :: r).map S) s.toks
    rw [List.map_map] at this
    exact this
  exact k s.heap.objs.size _ _ _ (Stays.push _ _) (size_new _) ⟨0, Heap.get?_push_size _ rfl⟩ hr
end Mine
end
local macro_rules | `(tactic| walk_at "at") => `(tactic| repeat (first | exact Mine.At.here | refine Mine.At.there ?_))
local macro_rules | `(tactic| walk_at "put") => `(tactic| repeat (first | exact Mine.Put.here | apply Mine.Put.there))
local macro_rules | `(tactic| walk_at "flat") => `(tactic| (try dsimp only [List.map_cons, List.map_nil, List.drop_succ_cons, List.drop_zero, List.length_cons, List.length_nil, List.cons_append, List.nil_append, Nat.zero_add, Nat.reduceAdd]); (try simp only [List.map_cons, List.map_nil, List.drop_succ_cons, List.drop_zero, List.length_cons, List.length_nil, List.cons_append, List.nil_append, Nat.zero_add, Nat.reduceAdd]))
noncomputable section
namespace Mine
open PySem.Calls
theorem withK {w : World} {G : Prop} (h : (PySem.Challenge.rw_pe0175_01 = PySem.Challenge.rw_pe0175_01 ∧ hd.heap_39 w.params = hd.heap_39 w.params) → G) : G := h ⟨rfl, rfl⟩
/-- the signs that words are made of -/
noncomputable def syms : List Nat := [97, 98, 65, 66, 34, 32, 92]
noncomputable def low (c : Nat) : Nat := if c = 65 then 97 else if c = 66 then 98 else c
noncomputable def swp (c : Nat) : Nat := if c = 65 then 97 else if c = 66 then 98 else if c = 97 then 65 else if c = 98 then 66 else c
noncomputable def subc (a b : Nat) : Int := if a = b then 0 else if low a = low b then 1 else 2
theorem lower_sym {c : Nat} (h : c ∈ syms) : Txt.lower (S [c]) = S [low c] := by
  simp only [syms, List.mem_cons, List.not_mem_nil, or_false] at h
  rcases h with rfl | rfl | rfl | rfl | rfl | rfl | rfl <;> decide +kernel
theorem swap_sym {c : Nat} (h : c ∈ syms) : Txt.swapcase (S [c]) = S [swp c] := by
  simp only [syms, List.mem_cons, List.not_mem_nil, or_false] at h
  rcases h with rfl | rfl | rfl | rfl | rfl | rfl | rfl <;> decide +kernel
theorem Fc.low {w : World} {d : Nat} {c : Nat} (h : c ∈ syms) : Fc w d (.builtin "str.lower") [.str (S [c])] (.str (S [low c])) := by
  rw [← lower_sym h]; exact Fc.lower (by rw [lower_sym h]; rfl)
theorem Fc.swp {w : World} {d : Nat} {c : Nat} (h : c ∈ syms) : Fc w d (.builtin "str.swapcase") [.str (S [c])] (.str (S [swp c])) := by
  rw [← swap_sym h]; exact Fc.swapcase (by rw [swap_sym h]; rfl)
theorem sub_spec (w : World) (d : Nat) (a b : Nat) (ha : a ∈ syms) (hb : b ∈ syms) : Fc w (d + 1) (.ref 77) [.str (S [a]), .str (S [b])] (.int (subc a b)) := by
  refine withK (w := w) ?_
  k_fill
  intro _
  refine Fc.of ⟨[("ch_a", false), ("ch_b", false)], ["_CASE_COST", "_MOVE_COST"]⟩ ["ch_a", "ch_b"] (by k_is) (by k_is) (by decide) (by exact Mine.bind2 fun _ _ => rfl) rfl ?_
  walk_at "flat"
  refine Ex.cons (ExS.ite (Tr.cmp (Ev.name (by walk_at "at")) (Ev.name (by walk_at "at")) Co.eqS) (fun h => ?_) (fun h => ?_))
  · refine Ex.cons (ExS.ret Ev.int ?_)
    have : a = b := by simpa [S_beq] using h
    simp [subc, this]
  · have hne : a ≠ b := by simpa [S_beq] using h
    refine Ex.nil (Ex.cons (ExS.ite (Tr.cmp (Ev.meth0 (Ev.name (by walk_at "at")) HasT.str meth_lower (Fc.low ha)) (Ev.meth0 (Ev.name (by walk_at "at")) HasT.str meth_lower (Fc.low hb)) Co.eqS) (fun h => ?_) (fun h => ?_)))
    · refine Ex.cons (ExS.ret (Ev.glob (by simp) (GVal.glob (by k_is) rfl) fun _ _ => mk_int) ?_)
      have : low a = low b := by simpa [S_beq] using h
      simp [subc, this, hne]
    · refine Ex.nil (Ex.cons (ExS.ret (Ev.glob (by simp) (GVal.glob (by k_is) rfl) fun _ _ => mk_int) ?_))
      have : low a ≠ low b := by simpa [S_beq] using h
      simp [subc, this, hne]
end Mine
end
noncomputable section
namespace Mine
open PySem.Calls
theorem clip_nat {n a : Nat} : clipAt n (a : Int) = min a n := by
  unfold clipAt
  rw [if_neg (by (first | lia | omega))]
  (first | lia | omega)
theorem psl_nn {l : List Nat} {a b : Nat} : psl l (some (a : Int)) (some (b : Int)) = (l.drop (min a l.length)).take (min b l.length - min a l.length) := by
  unfold psl; simp only [Option.elim_some, clip_nat]
theorem psl_n {l : List Nat} {a : Nat} : psl l (some (a : Int)) none = l.drop a := by
  unfold psl; simp only [Option.elim_some, Option.elim_none, clip_nat]
  rcases Nat.le_total a l.length with h | h
  · rw [Nat.min_eq_left h, List.take_of_length_le (by simp)]
  · rw [Nat.min_eq_right h, List.drop_eq_nil_of_le h]; simp
theorem psl_0n {l : List Nat} {b : Nat} : psl l none (some (b : Int)) = l.take b := by
  unfold psl; simp only [Option.elim_some, Option.elim_none, clip_nat, List.drop_zero, Nat.sub_zero]
  rcases Nat.le_total b l.length with h | h
  · rw [Nat.min_eq_left h]
  · rw [Nat.min_eq_right h, List.take_of_length_le h, List.take_of_length_le (Nat.le_refl _)]
theorem small {n : Nat} (h : n ≤ 2000) : n ≤ sizeLine := by rw [sizeLine_eq]; (first | lia | omega)
theorem g_len (w : World) : GVal w "len" (.builtin "len") := by
  refine withK (w := w) ?_
  k_fill
  intro _
  exact GVal.blt (by k_is) (by with_unfolding_all rfl) (by decide) rfl
theorem Fc.find_no {w : World} {d : Nat} {l : List Nat} {c : Nat} {x : Str} (hx : x = S [c]) (h : c ∉ l) : Fc w d (.builtin "str.find") [.str (S l), .str x] (.int (-1)) := by
  have := Fc.find1 (w := w) (d := d) (x := S l) (y := x)
  rw [hx, occ1_S, fnd_one h] at this
  rw [hx]; exact this
theorem Fc.find3_no {w : World} {d : Nat} {l : List Nat} {c : Nat} {x : Str} (hx : x = S [c]) (h : c ∉ l) : Fc w d (.builtin "str.find") [.str (S l), .str x, .int 0, .int l.length] (.int (-1)) := by
  have := Fc.find3 (w := w) (d := d) (x := S l) (y := x) (i := 0) (j := l.length) (by (first | lia | omega)) (by (first | lia | omega)) (by rw [S_len]; (first | lia | omega))
  rw [hx, occ1_S, fnd_one h] at this
  rw [hx]; exact this
theorem Fc.rfind_no {w : World} {d : Nat} {l : List Nat} {x : Str} (hx : x = S [46]) (h : 46 ∉ l) : Fc w d (.builtin "str.rfind") [.str (S l), .str x, .int 0, .int l.length] (.int (-1)) := by
  have := Fc.rfind3 (w := w) (d := d) (x := S l) (y := x) (i := 0) (j := l.length) (by (first | lia | omega)) (by (first | lia | omega)) (by rw [S_len]; (first | lia | omega))
  rw [hx] at this
  have e : occL (S l) (S [46]) (0 : Int).toNat (l.length : Int).toNat = -1 := occL_none h _
  rw [e] at this
  rw [hx]; exact this
theorem Fc.rfind_at {w : World} {d : Nat} {u v : List Nat} {x : Str} (hx : x = S [46]) (h : 46 ∉ v) : Fc w d (.builtin "str.rfind") [.str (S (u ++ 46 :: v)), .str x, .int 0, .int (u ++ 46 :: v).length] (.int u.length) := by
  have := Fc.rfind3 (w := w) (d := d) (x := S (u ++ 46 :: v)) (y := x) (i := 0) (j := (u ++ 46 :: v).length) (by (first | lia | omega)) (by (first | lia | omega)) (by rw [S_len]; (first | lia | omega))
  rw [hx] at this
  have e : occL (S (u ++ 46 :: v)) (S [46]) (0 : Int).toNat ((u ++ 46 :: v).length : Int).toNat = u.length := occL_some h
  rw [e] at this
  rw [hx]; exact this
theorem strip_spec (w : World) (d : Nat) (l v : List Nat) (h10 : 10 ∉ l) (h58 : 58 ∉ l) (hz : l.length ≤ 1000) (hv : (46 ∉ l ∧ v = l) ∨ ∃ u, l = u ++ 46 :: v ∧ 46 ∉ v) : Fc w (d + 1) (.ref 28) [.str (S l)] (.str (S v)) := by
  refine withK (w := w) ?_
  k_fill
  intro _
  refine Fc.of ⟨[("msg", false), ("start", false), ("end", false), ("i", false)], ["len"]⟩ ["msg"] (by k_is) (by k_is) (by decide) (by exact Mine.bind1 fun _ => rfl) rfl ?_
  walk_at "flat"
  refine Ex.cons (ExS.pair Ev.int (Ev.call (by simp) (g_len w) (KeptC.blt _) (EvL.cons (Ev.name (by walk_at "at")) EvL.nil) (Fc.lenS (small (by (first | lia | omega))))) (by simp) (by simp) (by walk_at "put") (by walk_at "put") ?_ (by decide))
  refine Ex.cons (ExS.assign (Ev.meth (Ev.name (by walk_at "at")) HasT.str meth_find (EvL.cons Ev.str EvL.nil) (Fc.find_no (c := 10) (by rfl) h10)) (by walk_at "put") ?_)
  refine Ex.cons (ExS.ite (Tr.cmp (Ev.name (by walk_at "at")) Ev.int Co.geI) (fun h => by simp at h) (fun _ => Ex.nil ?_))
  refine Ex.cons (ExS.assign (Ev.meth (Ev.name (by walk_at "at")) HasT.str meth_find (EvL.cons Ev.str (EvL.cons Ev.int (EvL.cons (Ev.name (by walk_at "at")) EvL.nil))) (Fc.find3_no (c := 58) (by rfl) h58)) (by walk_at "put") ?_)
  refine Ex.cons (ExS.ite (Tr.cmp (Ev.name (by walk_at "at")) Ev.int Co.geI) (fun h => by simp at h) (fun _ => Ex.nil ?_))
  rcases hv with ⟨hn, rfl⟩ | ⟨u, rfl, hn⟩
  · refine Ex.cons (ExS.assign (Ev.meth (Ev.name (by walk_at "at")) HasT.str meth_rfind (EvL.cons Ev.str (EvL.cons Ev.int (EvL.cons (Ev.name (by walk_at "at")) EvL.nil))) (Fc.rfind_no (by rfl) hn)) (by walk_at "put") ?_)
    refine Ex.cons (ExS.ite (Tr.cmp (Ev.name (by walk_at "at")) Ev.int Co.geI) (fun h => by simp at h) (fun _ => Ex.nil ?_))
    refine Ex.cons (ExS.ret (Ev.slice (Ev.name (by walk_at "at")) (EvO.int (Ev.name (by walk_at "at"))) (EvO.int (Ev.name (by walk_at "at"))) (small (by (first | lia | omega)))) ?_)
    have := psl_nn (l := v) (a := 0) (b := v.length)
    simp only [Int.natCast_zero] at this
    rw [this]; simp
  · refine Ex.cons (ExS.assign (Ev.meth (Ev.name (by walk_at "at")) HasT.str meth_rfind (EvL.cons Ev.str (EvL.cons Ev.int (EvL.cons (Ev.name (by walk_at "at")) EvL.nil))) (Fc.rfind_at (by rfl) hn)) (by walk_at "put") ?_)
    refine Ex.cons (ExS.ite (Tr.cmp (Ev.name (by walk_at "at")) Ev.int Co.geI) (fun h => ?_) (fun h => by simp at h))
    refine Ex.cons (ExS.assign (Ev.bin (Ev.name (by walk_at "at")) Ev.int Bo.addI) (by walk_at "put") (Ex.nil ?_))
    refine Ex.cons (ExS.ret (Ev.slice (Ev.name (by walk_at "at")) (EvO.int (Ev.name (by walk_at "at"))) (EvO.int (Ev.name (by walk_at "at"))) (small (by (first | lia | omega)))) ?_)
    have := psl_nn (l := u ++ 46 :: v) (a := u.length + 1) (b := (u ++ 46 :: v).length)
    rw [Int.natCast_add] at this
    simp only [Int.natCast_one] at this
    rw [this]
    have e1 : min (u.length + 1) (u ++ 46 :: v).length = u.length + 1 := by simp
    rw [e1, Nat.min_self, List.take_of_length_le (by simp; (first | lia | omega)), List.drop_append, List.drop_eq_nil_of_le (by (first | lia | omega))]
    simp
end Mine
end
noncomputable section
namespace Mine
open PySem.Calls
section
variable {w : World} {d : Nat} {Γ : Cx} {vals : List Sl} {P : Out → Prop}
theorem Ex.seq {st : Stmt} {ss : List Stmt} (P1 : Out → Prop) (h : ExS w d Γ vals st P1) (hn : ∀ v, P1 (.next v) → Ex w d Γ v ss P) (hr : ∀ p, P1 (.ret p) → P (.ret p)) (hc : ∀ v, P1 (.cont v) → P (.cont v)) (hb : ∀ v, P1 (.brk v) → P (.brk v)) : Ex w d Γ vals (st :: ss) P :=
  Ex.cons fun env V₀ oa A s Q E z rm k => h env V₀ oa A s Q E z rm fun out fl oa' h' tk hp => k out fl oa' h' tk (by
    cases out with
    | next v => exact hn v hp
    | ret p => exact hr p hp
    | cont v => exact hc v hp
    | brk v => exact hb v hp)
theorem Tr.is {e : Expr} {c c' : Bool} (h : Tr w d Γ vals e c) (hc : c = c') : Tr w d Γ vals e c' := hc ▸ h
theorem Ev.is {e : Expr} {p p' : PV} (h : Ev w d Γ vals e p) (hc : p = p') : Ev w d Γ vals e p' := hc ▸ h
theorem EvF.is {e : Expr} {p p' : List PV} (h : EvF w d Γ vals e p) (hc : p = p') : EvF w d Γ vals e p' := hc ▸ h
theorem Fc.is {f : Value} {ps : List PV} {p p' : PV} (h : Fc w d f ps p) (hc : p = p') : Fc w d f ps p' := hc ▸ h
end
noncomputable def emLoop (got : List Nat) (e : Nat) : List (List Nat) → Nat → Bool
  | [], _ => true
  | p :: ps, s => match fnd got p s e with
    | some i => emLoop got e ps (i + p.length)
    | none => false
noncomputable def lead (p : List Nat) : List (List Nat) := if p = [] then [[]] else []
noncomputable def em (p : List Nat) (mid : List (List Nat)) (q got : List Nat) : Bool :=
  p.isPrefixOf got && q.isSuffixOf got && decide (p.length + q.length ≤ got.length) && emLoop got (got.length - q.length) (lead p ++ (mid ++ lead q)) p.length
theorem starts_S (l p : List Nat) : Txt.startswith (S l) (S p) = p.isPrefixOf l := by
  unfold Txt.startswith
  rw [subAt_S, S_len, S_len, Bool.eq_iff_iff]
  simp only [List.drop_zero, Nat.zero_add, Bool.and_eq_true, decide_eq_true_eq, beq_iff_eq, List.isPrefixOf_iff_prefix]
  constructor
  · rintro ⟨h1, h2⟩; rw [← h2]; exact List.take_prefix _ _
  · rintro ⟨t, rfl⟩; simp
theorem ends_S (l p : List Nat) : Txt.endswith (S l) (S p) = p.isSuffixOf l := by
  unfold Txt.endswith
  rw [subAt_S, S_len, S_len, Bool.eq_iff_iff]
  simp only [Nat.zero_add, Bool.and_eq_true, decide_eq_true_eq, beq_iff_eq, List.isSuffixOf_iff_suffix]
  constructor
  · rintro ⟨h1, h2⟩
    rw [List.take_of_length_le (by simp; (first | lia | omega))] at h2
    rw [← h2]; exact List.drop_suffix _ _
  · rintro ⟨t, rfl⟩; simp
theorem glue3_mid (p : List Nat) (mid : List (List Nat)) (q : List Nat) : ∃ r, glue3 (p :: (mid ++ [q])) = p ++ dots ++ r := by
  cases mid with
  | nil => exact ⟨q, rfl⟩
  | cons m ms => exact ⟨_, rfl⟩
theorem fnd_glue {p : List Nat} {mid : List (List Nat)} {q : List Nat} : (fnd (glue3 (p :: (mid ++ [q]))) dots 0 (glue3 (p :: (mid ++ [q]))).length).isSome = true := by
  cases e : fnd (glue3 (p :: (mid ++ [q]))) dots 0 (glue3 (p :: (mid ++ [q]))).length with
  | some _ => rfl
  | none =>
    have := fnd_none e p.length (Nat.zero_le _)
    obtain ⟨r, hr⟩ := glue3_mid p mid q
    rw [hr] at this
    unfold hit at this
    simp at this
theorem fnd_plain {p : List Nat} (h : 46 ∉ p) : fnd p dots 0 p.length = none := fnd_of_none fun j _ hj => by
  by_cases hlt : j < p.length
  · exact hit_no (c := p[j]) (by simp [hlt]) fun hc => h (hc ▸ List.getElem_mem hlt)
  · unfold hit
    simp only [Bool.and_eq_false_iff]
    left; simp; (first | lia | omega)
theorem ell_spec (w : World) (d : Nat) (p : List Nat) (mid : List (List Nat)) (q got : List Nat) (hp : ∀ x ∈ p :: (mid ++ [q]), 46 ∉ x) (hz : (glue3 (p :: (mid ++ [q]))).length ≤ 1000) (hg : got.length ≤ 1000) :
    Fc w (d + 1) (.ref 21) [.str (S (glue3 (p :: (mid ++ [q])))), .str (S got)] (.bool (em p mid q got)) := by
  refine withK (w := w) ?_
  k_fill
  intro _
  have hlen : ∀ ps : List (List Nat), ps.length ≤ (glue3 ps).length + 1 := fun ps => by
      induction ps with
      | nil => simp
      | cons a t ih =>
        cases t with
        | nil => simp
        | cons b t => simp only [List.length_cons, glue3, List.length_append] at ih ⊢; (first | lia | omega)
  have hpl : ∀ (ps : List (List Nat)), ∀ x ∈ ps, x.length ≤ (glue3 ps).length := fun ps => by
    induction ps with
    | nil => simp
    | cons a t ih =>
      cases t with
      | nil => simp [glue3]
      | cons b t =>
        intro x hx
        rcases List.mem_cons.mp hx with rfl | hx
        · simp [glue3]
        · have := ih x hx; simp only [glue3, List.length_append]; (first | lia | omega)
  have hl0 := hlen (p :: (mid ++ [q]))
  have hpz : p.length ≤ 1000 := Nat.le_trans (hpl _ p (by simp)) hz
  have hqz : q.length ≤ 1000 := Nat.le_trans (hpl _ q (by simp)) hz
  refine Fc.of ⟨[("want", false), ("got", false), ("ws", false), ("startpos", false), ("endpos", false), ("w", false)], ["len", "ELLIPSIS_MARKER"]⟩ ["want", "got"] (by k_is) (by k_is) (by decide) (by exact Mine.bind2 fun _ _ => rfl) rfl ?_
  walk_at "flat"
  refine Ex.cons (ExS.ite (Tr.cmp (Ev.glob (p := .str (S dots)) (by simp) (GVal.glob (by k_is) rfl) fun _ _ => mk_str) (Ev.name (by walk_at "at")) Co.notInS) (fun h => ?_) (fun h => Ex.nil ?_))
  · rw [contains_S, fnd_glue] at h; simp at h
  refine Ex.cons (ExS.assignOwn (EvF.meth (Ev.name (by walk_at "at")) HasT.str meth_split (EvL.cons (Ev.glob (p := .str (S dots)) (by simp) (GVal.glob (by k_is) rfl) fun _ _ => mk_str) EvL.nil) (FcF.split (by simp) hp hz)) (by simp) (by walk_at "put") ?_)
  refine Ex.cons (ExS.asrt (Tr.is (Tr.cmp (Ev.lenOwn (by simp) (g_len w) (by walk_at "at") (small (by simp at hl0 ⊢; (first | lia | omega)))) Ev.int Co.geI) (by simp; (first | lia | omega))) ?_)
  refine Ex.cons (ExS.pair Ev.int (Ev.call (by simp) (g_len w) (KeptC.blt _) (EvL.cons (Ev.name (by walk_at "at")) EvL.nil) (Fc.lenS (small (by (first | lia | omega))))) (by simp) (by simp) (by walk_at "put") (by walk_at "put") ?_ (by decide))
  refine Ex.cons (ExS.assign (Ev.subOwn (by walk_at "at") Ev.int (by decide) (by decide) (by rfl)) (by walk_at "put") ?_)
  refine Ex.seq (fun out => (∃ zs : List (List Nat), out = .next [.val (.str (S (glue3 (p :: (mid ++ [q]))))), .val (.str (S got)), .own (zs.map fun p => PV.str (S p)), .val (.int p.length), .val (.int got.length), .val (.str (S p))] ∧ zs = lead p ++ (mid ++ [q]) ∧ p.isPrefixOf got = true) ∨ (out = .ret (.bool false) ∧ p.isPrefixOf got = false)) ?_ ?_ ?_ (fun v h => by rcases h with ⟨_, h, _⟩ | ⟨h, _⟩ <;> cases h) (fun v h => by rcases h with ⟨_, h, _⟩ | ⟨h, _⟩ <;> cases h)
  · refine ExS.ite (Tr.val (Ev.name (by walk_at "at")) (Th.str (small (by (first | lia | omega))))) (fun h => ?_) (fun h => ?_)
    · have hne : p ≠ [] := by simpa using h
      refine Ex.cons (ExS.ite (Tr.val (Ev.meth (Ev.name (by walk_at "at")) HasT.str meth_startswith (EvL.cons (Ev.name (by walk_at "at")) EvL.nil) Fc.startswith) Th.bool) (fun h1 => ?_) (fun h1 => ?_))
      · refine Ex.cons (ExS.assign (Ev.call (by simp) (g_len w) (KeptC.blt _) (EvL.cons (Ev.name (by walk_at "at")) EvL.nil) (Fc.lenS (small (by (first | lia | omega))))) (by walk_at "put") ?_)
        refine Ex.cons (ExS.delAt (m := 0) (by walk_at "at") Ev.int (by decide) (by simp [seqIndex?]; (first | lia | omega)) (small (by simp at hl0 ⊢; (first | lia | omega))) (by walk_at "put") (Ex.nil ?_))
        refine Ex.nil (.inl ⟨mid ++ [q], ?_, by simp [lead, hne], by rw [← starts_S]; exact h1⟩)
        simp
      · refine Ex.cons (ExS.ret Ev.bool (.inr ⟨rfl, by rw [← starts_S]; exact h1⟩))
    · have hne : p = [] := by simpa using h
      refine Ex.nil (.inl ⟨p :: (mid ++ [q]), ?_, by simp [lead, hne], by simp [hne]⟩)
      simp [hne]
  · rintro v (⟨zs, hv, hzs, hpre⟩ | ⟨hv, _⟩)
    · cases hv
      have hzl : zs.length ≤ 1002 := by rw [hzs]; simp at hl0 ⊢; unfold lead; split <;> simp <;> (first | lia | omega)
      have hz1 : zs.length = (lead p ++ mid).length + 1 := by rw [hzs]; simp; (first | lia | omega)
      have hlast : (zs.map fun p => PV.str (S p))[zs.length - 1]? = some (.str (S q)) := by rw [hzs]; simp
      refine Ex.cons (ExS.assign (Ev.subOwnNeg (p := .str (S q)) (by walk_at "at") (Ev.neg Ev.int) (by decide) (by simp; (first | lia | omega)) (by decide) (by
        rw [List.length_map]
        have e : (-1 + (zs.length : Int)).toNat = zs.length - 1 := by (first | lia | omega)
        rw [e]; exact hlast)) (by walk_at "put") ?_)
      refine Ex.seq (fun out => (∃ ys : List (List Nat), out = .next [.val (.str (S (glue3 (p :: (mid ++ [q]))))), .val (.str (S got)), .own (ys.map fun p => PV.str (S p)), .val (.int p.length), .val (.int ((got.length : Int) - q.length)), .val (.str (S q))] ∧ ys = lead p ++ (mid ++ lead q) ∧ q.isSuffixOf got = true) ∨ (out = .ret (.bool false) ∧ q.isSuffixOf got = false)) ?_ ?_ ?_ (fun v h => by rcases h with ⟨_, h, _⟩ | ⟨h, _⟩ <;> cases h) (fun v h => by rcases h with ⟨_, h, _⟩ | ⟨h, _⟩ <;> cases h)
      · refine ExS.ite (Tr.val (Ev.name (by walk_at "at")) (Th.str (small (by (first | lia | omega))))) (fun h => ?_) (fun h => ?_)
        · have hne : q ≠ [] := by simpa using h
          refine Ex.cons (ExS.ite (Tr.val (Ev.meth (Ev.name (by walk_at "at")) HasT.str meth_endswith (EvL.cons (Ev.name (by walk_at "at")) EvL.nil) Fc.endswith) Th.bool) (fun h1 => ?_) (fun h1 => ?_))
          · refine Ex.cons (ExS.aug (by walk_at "at") (Ev.call (by simp) (g_len w) (KeptC.blt _) (EvL.cons (Ev.name (by walk_at "at")) EvL.nil) (Fc.lenS (small (by (first | lia | omega))))) Ip.subI (by walk_at "put") ?_)
            refine Ex.cons (ExS.delAt (m := zs.length - 1) (by walk_at "at") (Ev.neg Ev.int) (by decide) (by
              rw [List.length_map]
              have h0 : (if (-1 : Int) < 0 then -1 + (zs.length : Int) else -1) = (zs.length : Int) - 1 := by rw [if_pos (by decide)]; (first | lia | omega)
              simp only [seqIndex?]
              rw [h0, if_pos (by simp; (first | lia | omega))]
              congr 1; (first | lia | omega)) (small (by rw [List.length_map]; (first | lia | omega))) (by walk_at "put") (Ex.nil ?_))
            refine Ex.nil (.inl ⟨lead p ++ mid, ?_, by simp [lead, hne], by rw [← ends_S]; exact h1⟩)
            have e : (zs.map fun p => PV.str (S p)).eraseIdx (zs.length - 1) = (lead p ++ mid).map fun p => PV.str (S p) := by
              rw [hz1, hzs, ← List.append_assoc, List.map_append, List.eraseIdx_append_of_length_le (by simp)]
              simp
            rw [e]
          · exact Ex.cons (ExS.ret Ev.bool (.inr ⟨rfl, by rw [← ends_S]; exact h1⟩))
        · have hne : q = [] := by simpa using h
          refine Ex.nil (.inl ⟨zs, ?_, by rw [hzs]; simp [lead, hne], by simp [hne]⟩)
          simp [hne]
      · rintro v (⟨ys, hv, hys, hsuf⟩ | ⟨hv, _⟩)
        · cases hv
          have hql : q.length ≤ got.length := (List.isSuffixOf_iff_suffix.mp hsuf).length_le
          refine Ex.cons (ExS.ite (Tr.cmp (Ev.name (by walk_at "at")) (Ev.name (by walk_at "at")) Co.gtI) (fun h => ?_) (fun h => Ex.nil ?_))
          · refine Ex.cons (ExS.ret Ev.bool ?_)
            have : ¬ p.length + q.length ≤ got.length := by simp at h; (first | lia | omega)
            simp [em, this]
          · have hle : p.length + q.length ≤ got.length := by simp at h; (first | lia | omega)
            have hem : em p mid q got = emLoop got (got.length - q.length) ys p.length := by
              rw [hys]; unfold em; rw [hpre, hsuf]; simp [hle]
            rw [hem]
            have hyz : ∀ y ∈ ys, y.length ≤ 1000 := fun y hy => by
              rw [hys] at hy
              rcases List.mem_append.mp hy with h1 | h1
              · unfold lead at h1; split at h1 <;> simp at h1; simp [h1]
              · rcases List.mem_append.mp h1 with h1 | h1
                · exact Nat.le_trans (hpl _ y (by simp [h1])) hz
                · unfold lead at h1; split at h1 <;> simp at h1; simp [h1]
            have he : ((got.length : Int) - q.length) = ((got.length - q.length : Nat) : Int) := by (first | lia | omega)
            rw [he]
            have hel : got.length - q.length ≤ got.length := by (first | lia | omega)
            generalize got.length - q.length = e at hel ⊢
            refine Ex.freeze (x := "ws") (by walk_at "at") (by walk_at "put") ?_
            refine Ex.cons (ExS.loop (Ev.name (by walk_at "at")) Iter.list ?_)
            clear hys hem hle hpre
            generalize p.length = st
            generalize Sl.val (PV.str (S q)) = wv
            generalize hyl : (PV.list (ys.map fun p => PV.str (S p))) = yl
            clear hyl
            induction ys generalizing st wv with
            | nil => exact Ex.cons (ExS.ret Ev.bool (by simp [emLoop]))
            | cons y ys ih =>
              have hy := hyz y (by simp)
              refine ⟨_, AsgS.name (by walk_at "put"), ?_⟩
              refine Ex.cons (ExS.assign (Ev.meth (Ev.name (by walk_at "at")) HasT.str meth_find (EvL.cons (Ev.name (by walk_at "at")) (EvL.cons (Ev.name (by walk_at "at")) (EvL.cons (Ev.name (by walk_at "at")) EvL.nil))) (Fc.is (Fc.find3 (by (first | lia | omega)) (by (first | lia | omega)) (by rw [S_len]; (first | lia | omega))) (congrArg PV.int (occ1_S got y _ _)))) (by walk_at "put") ?_)
              have e1 : ((st : Nat) : Int).toNat = st := by (first | lia | omega)
              have e2 : ((e : Nat) : Int).toNat = e := by (first | lia | omega)
              rw [e1, e2]
              cases hf : fnd got y st e with
              | none =>
                refine Ex.cons (ExS.ite (Tr.cmp (Ev.name (by walk_at "at")) Ev.int Co.ltI) (fun h => ?_) (fun h => by simp at h))
                exact Ex.cons (ExS.ret Ev.bool (by simp [emLoop, hf]))
              | some i =>
                refine Ex.cons (ExS.ite (Tr.cmp (Ev.name (by walk_at "at")) Ev.int Co.ltI) (fun h => by simp at h; (first | lia | omega)) (fun h => Ex.nil ?_))
                refine Ex.cons (ExS.aug (by walk_at "at") (Ev.call (by simp) (g_len w) (KeptC.blt _) (EvL.cons (Ev.name (by walk_at "at")) EvL.nil) (Fc.lenS (small (by (first | lia | omega))))) Ip.addI (by walk_at "put") (Ex.nil ?_))
                have e3 : ((i : Nat) : Int) + (y.length : Int) = ((i + y.length : Nat) : Int) := by (first | lia | omega)
                rw [e3]
                have hl : emLoop got e (y :: ys) st = emLoop got e ys (i + y.length) := by simp [emLoop, hf]
                rw [hl]
                exact ih (fun y hy => hyz y (by simp [hy])) _ _
        · cases hv
      · rintro v (⟨zs, hv, _⟩ | ⟨hv, hsuf⟩)
        · cases hv
        · cases hv; simp [em, hsuf]
    · cases hv
  · rintro v (⟨zs, hv, _⟩ | ⟨hv, hpre⟩)
    · cases hv
    · cases hv; simp [em, hpre]
theorem ell_one (w : World) (d : Nat) (p got : List Nat) (hp : 46 ∉ p) : Fc w (d + 1) (.ref 21) [.str (S p), .str (S got)] (.bool (decide (p = got))) := by
  refine withK (w := w) ?_
  k_fill
  intro _
  refine Fc.of ⟨[("want", false), ("got", false), ("ws", false), ("startpos", false), ("endpos", false), ("w", false)], ["len", "ELLIPSIS_MARKER"]⟩ ["want", "got"] (by k_is) (by k_is) (by decide) (by exact Mine.bind2 fun _ _ => rfl) rfl ?_
  walk_at "flat"
  refine Ex.cons (ExS.ite (Tr.cmp (Ev.glob (p := .str (S dots)) (by simp) (GVal.glob (by k_is) rfl) fun _ _ => mk_str) (Ev.name (by walk_at "at")) Co.notInS) (fun h => ?_) (fun h => ?_))
  · refine Ex.cons (ExS.ret (Ev.cmp (Ev.name (by walk_at "at")) (Ev.name (by walk_at "at")) Co.eqS) ?_)
    rw [S_beq]
  · rw [contains_S, fnd_plain hp] at h; simp at h
end Mine
end
noncomputable section
namespace Mine
open PySem.Calls
section
variable {w : World} {d : Nat} {Γ : Cx} {vals : List Sl} {P : Out → Prop}
/-- one statement that goes on in one way alone -/
theorem Ex.one {st : Stmt} {ss : List Stmt} {v : List Sl} (h : ExS w d Γ vals st fun o => o = .next v) (hn : Ex w d Γ v ss P) : Ex w d Γ vals (st :: ss) P :=
  Ex.seq _ h (fun v' e => by cases e; exact hn) (fun _ e => by cases e) (fun _ e => by cases e) (fun _ e => by cases e)
end
theorem Ands.one {w : World} {d : Nat} {Γ : Cx} {vals : List Sl} {e : Expr} {b : Bool} (h : Tr w d Γ vals e b) : Ands w d Γ vals [e] b := by
  cases b with
  | true => exact Ands.tt h Ands.nil
  | false => exact Ands.ff h
noncomputable def cp : List Nat → List Nat → Nat
  | x :: a, y :: b => if x = y then cp a b + 1 else 0
  | _, _ => 0
/-- a row from the row ahead of it -/
noncomputable def inner (y : Nat) : List Nat → List Int → Int → Int → List Int
  | x :: as, r :: rs, dd, res => min (min res r + 2) (dd + subc y x) :: inner y as rs r (min (min res r + 2) (dd + subc y x))
  | _, _, _, _ => []
noncomputable def mn (l : List Int) : Int := l.foldl min 9223372036854775807
noncomputable def rowsGo (a : List Nat) (m : Int) : List Nat → Nat → List Int → Int → Int
  | [], _, _, res => res
  | y :: bs, i, row, res => if m < mn (inner y a row (2 * i) (2 * i)) then m + 1 else rowsGo a m bs (i + 1) (inner y a row (2 * i) (2 * i)) ((inner y a row (2 * i) (2 * i)).getLastD 0)
noncomputable def init2 (n : Nat) : List Int := (List.range n).map fun (i : Nat) => 2 * ((i : Int) + 1)
noncomputable def levIn (a b : List Nat) (m : Int) : Int := if m < ((b.length : Int) - a.length) * 2 then m + 1 else rowsGo a m b 0 (init2 a.length) 0
noncomputable def levT (a b : List Nat) (m : Int) : Int := if a = [] ∨ b = [] then 2 * ((a.length : Int) + b.length) else if b.length < a.length then levIn b a m else levIn a b m
noncomputable def suf (a b : List Nat) : Nat := cp a.reverse b.reverse
noncomputable def lev (a b : List Nat) (m : Int) : Int :=
  if a = b then 0 else levT ((a.drop (cp a b)).take ((a.drop (cp a b)).length - suf (a.drop (cp a b)) (b.drop (cp a b)))) ((b.drop (cp a b)).take ((b.drop (cp a b)).length - suf (a.drop (cp a b)) (b.drop (cp a b)))) m
theorem psl_neg {l : List Nat} {k : Nat} (hk : 0 < k) : psl l none (some (-(k : Int))) = l.take (l.length - k) := by
  unfold psl clipAt
  simp only [Option.elim_some, Option.elim_none, List.drop_zero, Nat.sub_zero]
  rw [if_pos (by (first | lia | omega))]
  congr 1
  (first | lia | omega)
theorem drop_at {a u : List Nat} {k x : Nat} (h : a.drop k = x :: u) : a[k]? = some x := by
  have := congrArg (·[0]?) h
  simpa [List.getElem?_drop] using this
theorem drop_next {a u : List Nat} {k x : Nat} (h : a.drop k = x :: u) : a.drop (k + 1) = u := by
  rw [← List.drop_drop, h]; rfl
theorem EvO.orNone {w : World} {d : Nat} {Γ : Cx} {vals : List Sl} {x y : Expr} {pos : Pos} {k : Nat} (h1 : Ev w d Γ vals x (.int (-(k : Int)))) (h2 : Ev w d Γ vals y .none) : EvO w d Γ vals (some (.BoolOp .Or [x, y] pos)) (if k = 0 then Option.none else some (-(k : Int))) := by
  by_cases hk : k = 0
  · rw [if_pos hk]
    refine EvO.nil (Ev.is (Ev.or2 h1 Th.int fun _ => h2) ?_)
    rw [if_neg]; simp [hk]
  · rw [if_neg hk]
    refine EvO.int (Ev.is (Ev.or2 h1 Th.int fun _ => h2) ?_)
    rw [if_pos]; simp; (first | lia | omega)
theorem psl_or {l : List Nat} {k : Nat} : psl l none (if k = 0 then none else some (-(k : Int))) = (l.reverse.drop k).reverse := by
  rw [List.drop_reverse, List.reverse_reverse]
  by_cases hk : k = 0
  · rw [if_pos hk, hk]; simp [psl]
  · rw [if_neg hk, psl_neg (by (first | lia | omega))]
theorem rev_at {l u : List Nat} {k x : Nat} (h : l.reverse.drop k = x :: u) : k < l.length ∧ l[l.length - k - 1]? = some x := by
  have hlt : k < l.length := by
    rcases Nat.lt_or_ge k l.length with h' | h'
    · exact h'
    · rw [List.drop_eq_nil_of_le (by simpa using h')] at h; cases h
  refine ⟨hlt, ?_⟩
  have := drop_at h
  rw [List.getElem?_reverse hlt] at this
  rw [← this]; congr 1; (first | lia | omega)
theorem g_range (w : World) : GVal w "range" (.type "range") := by
  refine withK (w := w) ?_
  k_fill
  intro _
  exact GVal.blt (by k_is) (by with_unfolding_all rfl) (by decide) rfl
theorem g_list (w : World) : GVal w "list" (.type "list") := by
  refine withK (w := w) ?_
  k_fill
  intro _
  exact GVal.blt (by k_is) (by with_unfolding_all rfl) (by decide) rfl
theorem g_min (w : World) : GVal w "min" (.builtin "min") := by
  refine withK (w := w) ?_
  k_fill
  intro _
  exact GVal.blt (by k_is) (by with_unfolding_all rfl) (by decide) rfl
theorem range_small {n : Nat} (h : n ≤ 100) : Builtin.Range.small 0 n 1 = true ∧ Builtin.Range.rangeSize 0 n 1 = n := by
  have : ∀ n, n < 101 → Builtin.Range.small 0 (n : Nat) 1 = true ∧ Builtin.Range.rangeSize 0 (n : Nat) 1 = (n : Nat) := by decide +kernel
  exact this n (by (first | lia | omega))
theorem range_two {n : Nat} (h : n ≤ 10) : Builtin.Range.small 2 (2 * ((n : Int) + 1)) 2 = true ∧ Builtin.Range.rangeSize 2 (2 * ((n : Int) + 1)) 2 = n ∧ Builtin.divisionGoesByPylong (2 * ((n : Int) + 1) - 2) 2 = false := by
  have : ∀ n, n < 11 → Builtin.Range.small 2 (2 * (((n : Nat) : Int) + 1)) 2 = true ∧ Builtin.Range.rangeSize 2 (2 * (((n : Nat) : Int) + 1)) 2 = (n : Nat) ∧ Builtin.divisionGoesByPylong (2 * (((n : Nat) : Int) + 1) - 2) 2 = false := by decide +kernel
  exact this n (by (first | lia | omega))
noncomputable def ix (i n : Nat) : List PV := (List.range' i n).map fun (j : Nat) => PV.int (j : Int)
theorem rangeL_ix (n : Nat) : (rangeL 0 1 n).map PV.int = ix 0 n := by
  unfold rangeL ix
  rw [List.range_eq_range']
  simp
theorem ix_succ (i n : Nat) : ix i (n + 1) = .int i :: ix (i + 1) n := by
  unfold ix; rw [List.range'_succ]; rfl
theorem rangeL_init (n : Nat) : rangeL 2 2 n = init2 n := by
  unfold rangeL init2
  apply List.map_congr_left
  intro i _
  (first | lia | omega)
theorem lev_spec (w : World) (d : Nat) (a b : List Nat) (m : Int) (ha : ∀ c ∈ a, c ∈ syms) (hb : ∀ c ∈ b, c ∈ syms) (hla : a.length ≤ 10) (hlb : b.length ≤ 10) :
    Fc w (d + 1 + 1) (.ref 84) [.str (S a), .str (S b), .int m] (.int (lev a b m)) := by
  refine withK (w := w) ?_
  k_fill
  intro _
  refine Fc.of ⟨[("a", false), ("b", false), ("max_cost", false), ("pre", false), ("post", false), ("row", false), ("result", false), ("bindex", false), ("bchar", false), ("distance", false), ("minimum", false), ("index", false), ("substitute", false), ("insert_delete", false)],
    ["len", "range", "list", "min", "_MOVE_COST", "_MAX_STRING_SIZE", "_substitution_cost"]⟩ ["a", "b", "max_cost"] (by k_is) (by k_is) (by decide) (by exact Mine.bind3 fun _ _ _ => rfl) rfl ?_
  walk_at "flat"
  refine Ex.cons (ExS.ite (Tr.cmp (Ev.name (by walk_at "at")) (Ev.name (by walk_at "at")) Co.eqS) (fun h => ?_) (fun h => Ex.nil ?_))
  · have : a = b := by simpa [S_beq] using h
    exact Ex.cons (ExS.ret Ev.int (by simp [lev, this]))
  have hne : a ≠ b := by simpa [S_beq] using h
  obtain ⟨k, hk⟩ : ∃ k : Nat, k = 0 := ⟨0, rfl⟩
  refine Ex.cons (ExS.assign (Ev.is Ev.int (show PV.int 0 = PV.int (k : Int) by rw [hk]; rfl)) (by walk_at "put") ?_)
  refine Ex.one (v := [.val (.str (S a)), .val (.str (S b)), .val (.int m), .val (.int (cp a b)), .un, .un, .un, .un, .un, .un, .un, .un, .un, .un]) (ExS.while (a.length + 1) ?_) ?_
  · have hcp : cp a b = k + cp (a.drop k) (b.drop k) := by rw [hk]; simp
    have hn : (a.drop k).length < a.length + 1 := by simp; (first | lia | omega)
    generalize a.length + 1 = n at hn ⊢
    clear hk
    induction n generalizing k with
    | zero => (first | lia | omega)
    | succ n ih =>
      cases hu : a.drop k with
      | nil =>
        rw [hu] at hcp
        exact ⟨false, Tr.and (Ands.ff (Tr.is (Tr.val (Ev.is (Ev.slice (Ev.name (by walk_at "at")) (EvO.int (Ev.name (by walk_at "at"))) EvO.none (small (by (first | lia | omega)))) (by rw [psl_n, hu])) (Th.str (small (by simp)))) rfl)), fun _ => by rw [hcp]; simp [cp], fun h => by cases h⟩
      | cons x u =>
        have hul : (x :: u).length ≤ 10 := by rw [← hu]; simp; (first | lia | omega)
        have hka : k < a.length := by
          rcases Nat.lt_or_ge k a.length with h | h
          · exact h
          · rw [List.drop_eq_nil_of_le h] at hu; cases hu
        cases hv : b.drop k with
        | nil =>
          rw [hv] at hcp
          exact ⟨false, Tr.and (Ands.tt (Tr.is (Tr.val (Ev.is (Ev.slice (Ev.name (by walk_at "at")) (EvO.int (Ev.name (by walk_at "at"))) EvO.none (small (by (first | lia | omega)))) (by rw [psl_n, hu])) (Th.str (small (by (first | lia | omega))))) rfl)
            (Ands.ff (Tr.is (Tr.val (Ev.is (Ev.slice (Ev.name (by walk_at "at")) (EvO.int (Ev.name (by walk_at "at"))) EvO.none (small (by (first | lia | omega)))) (by rw [psl_n, hv])) (Th.str (small (by simp)))) rfl))), fun _ => by rw [hcp, hu]; simp [cp], fun h => by cases h⟩
        | cons y v =>
          have hvl : (y :: v).length ≤ 10 := by rw [← hv]; simp; (first | lia | omega)
          refine ⟨decide (x = y), Tr.and (Ands.tt (Tr.is (Tr.val (Ev.is (Ev.slice (Ev.name (by walk_at "at")) (EvO.int (Ev.name (by walk_at "at"))) EvO.none (small (by (first | lia | omega)))) (by rw [psl_n, hu])) (Th.str (small (by (first | lia | omega))))) rfl)
            (Ands.tt (Tr.is (Tr.val (Ev.is (Ev.slice (Ev.name (by walk_at "at")) (EvO.int (Ev.name (by walk_at "at"))) EvO.none (small (by (first | lia | omega)))) (by rw [psl_n, hv])) (Th.str (small (by (first | lia | omega))))) rfl) (Ands.one (Tr.is (Tr.cmp (Ev.sub (Ev.name (by walk_at "at")) (Ev.name (by walk_at "at")) (Gi.str (c := x) (by (first | lia | omega)) (by (first | lia | omega)) (by simpa using drop_at hu))) (Ev.sub (Ev.name (by walk_at "at")) (Ev.name (by walk_at "at")) (Gi.str (c := y) (by (first | lia | omega)) (by (first | lia | omega)) (by simpa using drop_at hv))) Co.eqS) (by rw [S_beq]; simp))))), fun h => ?_, fun h => ?_⟩
          · have : x ≠ y := by simpa using h
            rw [hcp, hu, hv]; simp [cp, this]
          · have hxy : x = y := by simpa using h
            refine Ex.cons (ExS.aug (by walk_at "at") Ev.int Ip.addI (by walk_at "put") (Ex.nil ?_))
            have e3 : (k : Int) + 1 = ((k + 1 : Nat) : Int) := by (first | lia | omega)
            rw [e3]
            refine ih (k + 1) ?_ ?_
            · rw [hcp, hu, hv, drop_next hu, drop_next hv]; simp [cp, hxy]; (first | lia | omega)
            · rw [drop_next hu]; rw [hu] at hn; simp at hn ⊢; (first | lia | omega)
  have hla1 : (a.drop (cp a b)).length ≤ 10 := by simp; (first | lia | omega)
  have hlb1 : (b.drop (cp a b)).length ≤ 10 := by simp; (first | lia | omega)
  have ha1 : ∀ c ∈ a.drop (cp a b), c ∈ syms := fun c hc => ha c (List.mem_of_mem_drop hc)
  have hb1 : ∀ c ∈ b.drop (cp a b), c ∈ syms := fun c hc => hb c (List.mem_of_mem_drop hc)
  have hlev : lev a b m = levT ((a.drop (cp a b)).take ((a.drop (cp a b)).length - suf (a.drop (cp a b)) (b.drop (cp a b)))) ((b.drop (cp a b)).take ((b.drop (cp a b)).length - suf (a.drop (cp a b)) (b.drop (cp a b)))) m := by
    unfold lev; rw [if_neg hne]
  rw [hlev]
  refine Ex.cons (ExS.assign (Ev.is (Ev.slice (Ev.name (by walk_at "at")) (EvO.int (Ev.name (by walk_at "at"))) EvO.none (small (by (first | lia | omega)))) (by rw [psl_n])) (by walk_at "put") ?_)
  refine Ex.cons (ExS.assign (Ev.is (Ev.slice (Ev.name (by walk_at "at")) (EvO.int (Ev.name (by walk_at "at"))) EvO.none (small (by (first | lia | omega)))) (by rw [psl_n])) (by walk_at "put") ?_)
  generalize a.drop (cp a b) = a1 at *
  generalize b.drop (cp a b) = b1 at *
  refine Ex.cons (ExS.assign (Ev.is Ev.int (show PV.int 0 = PV.int (-(k : Int)) by rw [hk]; rfl)) (by walk_at "put") ?_)
  refine Ex.one (v := [.val (.str (S a1)), .val (.str (S b1)), .val (.int m), .val (.int (cp a b)), .val (.int (-(suf a1 b1 : Int))), .un, .un, .un, .un, .un, .un, .un, .un, .un]) (ExS.while (a1.length + 1) ?_) ?_
  · have hcp : suf a1 b1 = k + cp (a1.reverse.drop k) (b1.reverse.drop k) := by rw [hk]; simp [suf]
    have hn : (a1.reverse.drop k).length < a1.length + 1 := by simp; (first | lia | omega)
    generalize a1.length + 1 = n at hn ⊢
    clear hk
    induction n generalizing k with
    | zero => (first | lia | omega)
    | succ n ih =>
      cases hu : a1.reverse.drop k with
      | nil =>
        rw [hu] at hcp
        exact ⟨false, Tr.and (Ands.ff (Tr.is (Tr.val (Ev.is (Ev.slice (Ev.name (by walk_at "at")) EvO.none (EvO.orNone (Ev.name (by walk_at "at")) Ev.none) (small (by (first | lia | omega)))) (by rw [psl_or, hu])) (Th.str (small (by simp)))) rfl)), fun _ => by rw [hcp]; simp [cp], fun h => by cases h⟩
      | cons x u =>
        have hul : (x :: u).reverse.length ≤ 10 := by rw [← hu]; simp; (first | lia | omega)
        obtain ⟨hka, hxa⟩ := rev_at hu
        cases hv : b1.reverse.drop k with
        | nil =>
          rw [hv] at hcp
          exact ⟨false, Tr.and (Ands.tt (Tr.is (Tr.val (Ev.is (Ev.slice (Ev.name (by walk_at "at")) EvO.none (EvO.orNone (Ev.name (by walk_at "at")) Ev.none) (small (by (first | lia | omega)))) (by rw [psl_or, hu])) (Th.str (small (by (first | lia | omega))))) (by simp))
            (Ands.ff (Tr.is (Tr.val (Ev.is (Ev.slice (Ev.name (by walk_at "at")) EvO.none (EvO.orNone (Ev.name (by walk_at "at")) Ev.none) (small (by (first | lia | omega)))) (by rw [psl_or, hv])) (Th.str (small (by simp)))) rfl))), fun _ => by rw [hcp, hu]; simp [cp], fun h => by cases h⟩
        | cons y v =>
          have hvl : (y :: v).reverse.length ≤ 10 := by rw [← hv]; simp; (first | lia | omega)
          obtain ⟨hkb, hyb⟩ := rev_at hv
          refine ⟨decide (x = y), Tr.and (Ands.tt (Tr.is (Tr.val (Ev.is (Ev.slice (Ev.name (by walk_at "at")) EvO.none (EvO.orNone (Ev.name (by walk_at "at")) Ev.none) (small (by (first | lia | omega)))) (by rw [psl_or, hu])) (Th.str (small (by (first | lia | omega))))) (by simp))
            (Ands.tt (Tr.is (Tr.val (Ev.is (Ev.slice (Ev.name (by walk_at "at")) EvO.none (EvO.orNone (Ev.name (by walk_at "at")) Ev.none) (small (by (first | lia | omega)))) (by rw [psl_or, hv])) (Th.str (small (by (first | lia | omega))))) (by simp)) (Ands.one (Tr.is (Tr.cmp (Ev.sub (Ev.name (by walk_at "at")) (Ev.bin (Ev.name (by walk_at "at")) Ev.int Bo.subI) (Gi.strNeg (c := x) (by (first | lia | omega)) (by (first | lia | omega)) (by (first | lia | omega)) (by rw [← hxa]; congr 1; (first | lia | omega)))) (Ev.sub (Ev.name (by walk_at "at")) (Ev.bin (Ev.name (by walk_at "at")) Ev.int Bo.subI) (Gi.strNeg (c := y) (by (first | lia | omega)) (by (first | lia | omega)) (by (first | lia | omega)) (by rw [← hyb]; congr 1; (first | lia | omega)))) Co.eqS) (by rw [S_beq]; simp))))), fun h => ?_, fun h => ?_⟩
          · have : x ≠ y := by simpa using h
            rw [hcp, hu, hv]; simp [cp, this]
          · have hxy : x = y := by simpa using h
            refine Ex.cons (ExS.aug (by walk_at "at") Ev.int Ip.subI (by walk_at "put") (Ex.nil ?_))
            have e3 : -(k : Int) - 1 = -((k + 1 : Nat) : Int) := by (first | lia | omega)
            rw [e3]
            refine ih (k + 1) ?_ ?_
            · rw [hcp, hu, hv, drop_next hu, drop_next hv]; simp [cp, hxy]; (first | lia | omega)
            · rw [drop_next hu]; rw [hu] at hn; simp at hn ⊢; (first | lia | omega)
  refine Ex.cons (ExS.assign (Ev.is (Ev.slice (Ev.name (by walk_at "at")) EvO.none (EvO.orNone (Ev.name (by walk_at "at")) Ev.none) (small (by (first | lia | omega)))) (by rw [psl_or, List.drop_reverse, List.reverse_reverse])) (by walk_at "put") ?_)
  refine Ex.cons (ExS.assign (Ev.is (Ev.slice (Ev.name (by walk_at "at")) EvO.none (EvO.orNone (Ev.name (by walk_at "at")) Ev.none) (small (by (first | lia | omega)))) (by rw [psl_or, List.drop_reverse, List.reverse_reverse])) (by walk_at "put") ?_)
  have hla2 : (a1.take (a1.length - suf a1 b1)).length ≤ 10 := by simp; (first | lia | omega)
  have hlb2 : (b1.take (b1.length - suf a1 b1)).length ≤ 10 := by simp; (first | lia | omega)
  have ha2 : ∀ c ∈ a1.take (a1.length - suf a1 b1), c ∈ syms := fun c hc => ha1 c (List.mem_of_mem_take hc)
  have hb2 : ∀ c ∈ b1.take (b1.length - suf a1 b1), c ∈ syms := fun c hc => hb1 c (List.mem_of_mem_take hc)
  clear hlev hk
  generalize a1.take (a1.length - suf a1 b1) = a2 at *
  generalize b1.take (b1.length - suf a1 b1) = b2 at *
  generalize -(suf a1 b1 : Int) = postv
  generalize ((cp a b : Nat) : Int) = prev
  clear hla hlb ha hb hne h hla1 hlb1 ha1 hb1
  refine Ex.cons (ExS.ite (c := decide (a2 = [] ∨ b2 = [])) ?_ (fun h => ?_) (fun h => Ex.nil ?_))
  · by_cases h1 : a2 = []
    · rw [decide_eq_true (.inl h1)]
      exact Tr.or (Ors.tt (Tr.is (Tr.not (Tr.val (Ev.name (by walk_at "at")) (Th.str (small (by (first | lia | omega)))))) (by simp [h1])))
    · by_cases h2 : b2 = []
      · rw [decide_eq_true (.inr h2)]
        exact Tr.or (Ors.ff (Tr.is (Tr.not (Tr.val (Ev.name (by walk_at "at")) (Th.str (small (by (first | lia | omega)))))) (by simp [h1])) (Ors.tt (Tr.is (Tr.not (Tr.val (Ev.name (by walk_at "at")) (Th.str (small (by (first | lia | omega)))))) (by simp [h2]))))
      · rw [decide_eq_false (by simp [h1, h2])]
        exact Tr.or (Ors.ff (Tr.is (Tr.not (Tr.val (Ev.name (by walk_at "at")) (Th.str (small (by (first | lia | omega)))))) (by simp [h1])) (Ors.ff (Tr.is (Tr.not (Tr.val (Ev.name (by walk_at "at")) (Th.str (small (by (first | lia | omega)))))) (by simp [h2])) Ors.nil))
  · refine Ex.cons (ExS.ret (Ev.bin (Ev.glob (p := .int 2) (by simp) (GVal.glob (by k_is) rfl) fun _ _ => mk_int) (Ev.bin (Ev.call (by simp) (g_len w) (KeptC.blt _) (EvL.cons (Ev.name (by walk_at "at")) EvL.nil) (Fc.lenS (small (by (first | lia | omega))))) (Ev.call (by simp) (g_len w) (KeptC.blt _) (EvL.cons (Ev.name (by walk_at "at")) EvL.nil) (Fc.lenS (small (by (first | lia | omega))))) Bo.addI) (Bo.mulI (IntMulOk.of_left (by decide)))) ?_)
    have := of_decide_eq_true h
    unfold levT; rw [if_pos this]
  have hnn := of_decide_eq_false h
  refine Ex.cons (ExS.ite (c := false) (Tr.or (Ors.ff (Tr.is (Tr.cmp (Ev.call (by simp) (g_len w) (KeptC.blt _) (EvL.cons (Ev.name (by walk_at "at")) EvL.nil) (Fc.lenS (small (by (first | lia | omega))))) (Ev.glob (p := .int 40) (by simp) (GVal.glob (by k_is) rfl) fun _ _ => mk_int) Co.gtI) (by simp; (first | lia | omega))) (Ors.ff (Tr.is (Tr.cmp (Ev.call (by simp) (g_len w) (KeptC.blt _) (EvL.cons (Ev.name (by walk_at "at")) EvL.nil) (Fc.lenS (small (by (first | lia | omega))))) (Ev.glob (p := .int 40) (by simp) (GVal.glob (by k_is) rfl) fun _ _ => mk_int) Co.gtI) (by simp; (first | lia | omega))) Ors.nil))) (fun h => by cases h) (fun _ => Ex.nil ?_))
  refine Ex.seq (fun out => ∃ a3 b3 : List Nat, out = .next [.val (.str (S a3)), .val (.str (S b3)), .val (.int m), .val (.int prev), .val (.int postv), .un, .un, .un, .un, .un, .un, .un, .un, .un] ∧ levT a2 b2 m = levIn a3 b3 m ∧ a3.length ≤ 10 ∧ b3.length ≤ 10 ∧ (∀ c ∈ a3, c ∈ syms) ∧ (∀ c ∈ b3, c ∈ syms) ∧ a3 ≠ []) ?_ ?_ (fun p h => by obtain ⟨_, _, h, _⟩ := h; cases h) (fun p h => by obtain ⟨_, _, h, _⟩ := h; cases h) (fun p h => by obtain ⟨_, _, h, _⟩ := h; cases h)
  · refine ExS.ite (Tr.cmp (Ev.call (by simp) (g_len w) (KeptC.blt _) (EvL.cons (Ev.name (by walk_at "at")) EvL.nil) (Fc.lenS (small (by (first | lia | omega))))) (Ev.call (by simp) (g_len w) (KeptC.blt _) (EvL.cons (Ev.name (by walk_at "at")) EvL.nil) (Fc.lenS (small (by (first | lia | omega))))) Co.ltI) (fun h => ?_) (fun h => ?_)
    · have hlt : b2.length < a2.length := by simpa using h
      refine Ex.cons (ExS.pair (Ev.name (by walk_at "at")) (Ev.name (by walk_at "at")) (by simp) (by simp) (by walk_at "put") (by walk_at "put") (Ex.nil ?_) (by decide))
      exact ⟨b2, a2, rfl, by unfold levT; rw [if_neg hnn, if_pos hlt], hlb2, hla2, hb2, ha2, fun e => hnn (.inr e)⟩
    · have hlt : ¬ b2.length < a2.length := by simpa using h
      exact Ex.nil ⟨a2, b2, rfl, by unfold levT; rw [if_neg hnn, if_neg hlt], hla2, hlb2, ha2, hb2, fun e => hnn (.inl e)⟩
  rintro v ⟨a3, b3, hv, hlev, hla3, hlb3, ha3, hb3, hne3⟩
  cases hv
  rw [hlev]
  clear hlev hnn hla2 hlb2 ha2 hb2 h
  refine Ex.cons (ExS.ite (Tr.cmp (Ev.bin (Ev.bin (Ev.call (by simp) (g_len w) (KeptC.blt _) (EvL.cons (Ev.name (by walk_at "at")) EvL.nil) (Fc.lenS (small (by (first | lia | omega))))) (Ev.call (by simp) (g_len w) (KeptC.blt _) (EvL.cons (Ev.name (by walk_at "at")) EvL.nil) (Fc.lenS (small (by (first | lia | omega))))) Bo.subI) (Ev.glob (p := .int 2) (by simp) (GVal.glob (by k_is) rfl) fun _ _ => mk_int) (Bo.mulI (IntMulOk.of_right (by decide)))) (Ev.name (by walk_at "at")) Co.gtI) (fun h => ?_) (fun h => Ex.nil ?_))
  · have := of_decide_eq_true h
    refine Ex.cons (ExS.ret (Ev.bin (Ev.name (by walk_at "at")) Ev.int Bo.addI) ?_)
    unfold levIn; rw [if_pos this]
  have hle := of_decide_eq_false h
  have hgo : levIn a3 b3 m = rowsGo a3 m b3 0 (init2 a3.length) 0 := by unfold levIn; rw [if_neg hle]
  rw [hgo]
  obtain ⟨r1, r2, r3⟩ := range_two hla3
  refine Ex.cons (ExS.assignOwn (EvF.is (EvF.call (by simp) (g_list w) (KeptC.typ _) (EvL.cons (Ev.call (by simp) (g_range w) (KeptC.typ _) (EvL.cons (Ev.glob (p := .int 2) (by simp) (GVal.glob (by k_is) rfl) fun _ _ => mk_int) (EvL.cons (Ev.bin (Ev.glob (p := .int 2) (by simp) (GVal.glob (by k_is) rfl) fun _ _ => mk_int) (Ev.bin (Ev.call (by simp) (g_len w) (KeptC.blt _) (EvL.cons (Ev.name (by walk_at "at")) EvL.nil) (Fc.lenS (small (by (first | lia | omega))))) Ev.int Bo.addI) (Bo.mulI (IntMulOk.of_left (by decide)))) (EvL.cons (Ev.glob (p := .int 2) (by simp) (GVal.glob (by k_is) rfl) fun _ _ => mk_int) EvL.nil))) (Fc.range3 (by decide) r3)) EvL.nil) (FcF.listR r1 r2 (by (first | lia | omega)))) (by rw [rangeL_init])) (by simp) (by walk_at "put") ?_)
  refine Ex.cons (ExS.assign Ev.int (by walk_at "put") ?_)
  obtain ⟨q1, q2⟩ := range_small (n := b3.length) (by (first | lia | omega))
  refine Ex.cons (ExS.loop (Ev.call (by simp) (g_range w) (KeptC.typ _) (EvL.cons (Ev.call (by simp) (g_len w) (KeptC.blt _) (EvL.cons (Ev.name (by walk_at "at")) EvL.nil) (Fc.lenS (small (by (first | lia | omega))))) EvL.nil) Fc.range1) (Iter.range q1 q2) ?_)
  rw [rangeL_ix]
  obtain ⟨i, hi⟩ : ∃ i : Nat, i = 0 := ⟨0, rfl⟩
  obtain ⟨k, hk⟩ : ∃ k : Nat, k = b3.length := ⟨_, rfl⟩
  have hgo2 : rowsGo a3 m b3 0 (init2 a3.length) 0 = rowsGo a3 m (b3.drop i) i (init2 a3.length) 0 := by rw [hi]; rfl
  have hrl : (init2 a3.length).length = a3.length := by simp [init2]
  have hik : i + k = b3.length := by (first | lia | omega)
  rw [hgo2, show ix 0 b3.length = ix i k by rw [hi, hk]]
  generalize init2 a3.length = row at *
  generalize (0 : Int) = res
  generalize hT : [Sl.un, Sl.un, Sl.un, Sl.un, Sl.un, Sl.un, Sl.un] = tl
  obtain ⟨x1, x2, x3, x4, x5, x6, x7, hT'⟩ : ∃ x1 x2 x3 x4 x5 x6 x7 : Sl, tl = [x1, x2, x3, x4, x5, x6, x7] := ⟨_, _, _, _, _, _, _, hT.symm⟩
  clear hT
  subst hT'
  clear hgo hgo2 hi hk hle h
  induction k generalizing i row res x1 x2 x3 x4 x5 x6 x7 with
  | zero =>
    have : b3.drop i = [] := List.drop_eq_nil_of_le (by (first | lia | omega))
    refine Ex.cons (ExS.ret (Ev.name (by walk_at "at")) ?_)
    rw [this]; rfl
  | succ k ih =>
    have hilt : i < b3.length := by (first | lia | omega)
    have hdr : b3.drop i = b3[i] :: b3.drop (i + 1) := List.drop_eq_getElem_cons hilt
    rw [hdr, ix_succ]
    generalize hy : b3[i] = y
    have hys : y ∈ syms := hy ▸ hb3 _ (List.getElem_mem hilt)
    have hyi : b3[i]? = some y := by rw [← hy]; simp [hilt]
    clear hdr
    refine ⟨_, AsgS.name (by walk_at "put"), ?_⟩
    refine Ex.cons (ExS.assign (Ev.sub (Ev.name (by walk_at "at")) (Ev.name (by walk_at "at")) (Gi.str (c := y) (by (first | lia | omega)) (by (first | lia | omega)) (by simpa using hyi))) (by walk_at "put") ?_)
    refine Ex.cons (ExS.two (Ev.is (Ev.bin (Ev.name (by walk_at "at")) (Ev.glob (p := .int 2) (by simp) (GVal.glob (by k_is) rfl) fun _ _ => mk_int) (Bo.mulI (IntMulOk.of_right (by decide)))) (show PV.int ((i : Int) * 2) = PV.int (2 * i) by rw [Int.mul_comm])) (by walk_at "put") (by walk_at "put") ?_)
    refine Ex.cons (ExS.assign Ev.int (by walk_at "put") ?_)
    obtain ⟨q1', q2'⟩ := range_small (n := a3.length) (by (first | lia | omega))
    refine Ex.seq (fun out => ∃ xd xi xs xid : Sl, out = .next [.val (.str (S a3)), .val (.str (S b3)), .val (.int m), .val (.int prev), .val (.int postv), .own ((inner y a3 row (2 * i) (2 * i)).map PV.int), .val (.int ((inner y a3 row (2 * i) (2 * i)).getLastD (2 * i))), .val (.int i), .val (.str (S [y])), xd, .val (.int (mn (inner y a3 row (2 * i) (2 * i)))), xi, xs, xid])
      (ExS.loop (Ev.call (by simp) (g_range w) (KeptC.typ _) (EvL.cons (Ev.call (by simp) (g_len w) (KeptC.blt _) (EvL.cons (Ev.name (by walk_at "at")) EvL.nil) (Fc.lenS (small (by (first | lia | omega))))) EvL.nil) Fc.range1) (Iter.range q1' q2') ?_) ?_ (fun p h => by obtain ⟨_, _, _, _, h⟩ := h; cases h) (fun p h => by obtain ⟨_, _, _, _, h⟩ := h; cases h) (fun p h => by obtain ⟨_, _, _, _, h⟩ := h; cases h)
    · rw [rangeL_ix]
      obtain ⟨j, hj⟩ : ∃ j : Nat, j = 0 := ⟨0, rfl⟩
      obtain ⟨n, hn⟩ : ∃ n : Nat, n = a3.length := ⟨_, rfl⟩
      obtain ⟨don, hdon⟩ : ∃ don : List Int, don = [] := ⟨_, rfl⟩
      obtain ⟨rest, hrest⟩ : ∃ rest : List Int, rest = row := ⟨_, rfl⟩
      obtain ⟨dd, hdd⟩ : ∃ dd : Int, dd = 2 * (i : Int) := ⟨_, rfl⟩
      obtain ⟨re, hre⟩ : ∃ re : Int, re = 2 * (i : Int) := ⟨_, rfl⟩
      obtain ⟨mi, hmi⟩ : ∃ mi : Int, mi = 9223372036854775807 := ⟨_, rfl⟩
      have f1 : inner y a3 row (2 * i) (2 * i) = don ++ inner y (a3.drop j) rest dd re := by rw [hdon, hj, hrest, hdd, hre]; rfl
      have f2 : (inner y a3 row (2 * i) (2 * i)).getLastD (2 * i) = (inner y (a3.drop j) rest dd re).getLastD re := by rw [hj, hrest, hdd, hre]; rfl
      have f3 : mn (inner y a3 row (2 * i) (2 * i)) = (inner y (a3.drop j) rest dd re).foldl min mi := by rw [hj, hrest, hdd, hre, hmi]; rfl
      have f4 : don.length = j := by rw [hdon, hj]; rfl
      have f5 : rest.length = n := by rw [hrest, hn, hrl]
      have f6 : j + n = a3.length := by (first | lia | omega)
      rw [f2, f3, f1, show ix 0 a3.length = ix j n by rw [hj, hn]]
      have conv : ([.val (.str (S a3)), .val (.str (S b3)), .val (.int m), .val (.int prev), .val (.int postv), .own (row.map PV.int), .val (.int (2 * (i : Int))), .val (.int i), .val (.str (S [y])), .val (.int (2 * (i : Int))), .val (.int 9223372036854775807), x5, x6, x7] : List Sl)
        = [.val (.str (S a3)), .val (.str (S b3)), .val (.int m), .val (.int prev), .val (.int postv), .own ((don ++ rest).map PV.int), .val (.int re), .val (.int i), .val (.str (S [y])), .val (.int dd), .val (.int mi), x5, x6, x7] := by
        rw [hdon, hrest, hre, hdd, hmi]; rfl
      rw [conv]
      clear conv f1 f2 f3 hj hn hdon hrest hdd hre hmi ih hrl
      induction n generalizing j don rest dd re mi x5 x6 x7 with
      | zero =>
        have h0 : a3.drop j = [] := List.drop_eq_nil_of_le (by (first | lia | omega))
        have h1 : rest = [] := List.length_eq_zero_iff.mp f5
        refine ⟨.val (.int dd), x5, x6, x7, ?_⟩
        rw [h0, h1]; rfl
      | succ n ihn =>
        have hjlt : j < a3.length := by (first | lia | omega)
        have hdr : a3.drop j = a3[j] :: a3.drop (j + 1) := List.drop_eq_getElem_cons hjlt
        obtain ⟨r, rs, rfl⟩ : ∃ r rs, rest = r :: rs := by
          cases rest with
          | nil => simp at f5
          | cons r rs => exact ⟨r, rs, rfl⟩
        rw [hdr, ix_succ]
        generalize hx : a3[j] = x
        have hxs : x ∈ syms := hx ▸ ha3 _ (List.getElem_mem hjlt)
        have hxj : a3[j]? = some x := by rw [← hx]; simp [hjlt]
        clear hdr
        have hrow : ((don ++ r :: rs).map PV.int)[(j : Int).toNat]? = some (.int r) := by
          rw [Int.toNat_natCast, List.map_append, List.getElem?_append_right (by simp [f4])]
          simp [f4]
        refine ⟨_, AsgS.name (by walk_at "put"), ?_⟩
        refine Ex.cons (ExS.assign (Ev.bin (Ev.name (by walk_at "at")) (Ev.call (by simp) (GVal.glob (v := .ref 77) (by k_is) rfl) (KeptC.fn (by k_is)) (EvL.cons (Ev.name (by walk_at "at")) (EvL.cons (Ev.sub (Ev.name (by walk_at "at")) (Ev.name (by walk_at "at")) (Gi.str (c := x) (by (first | lia | omega)) (by (first | lia | omega)) (by simpa using hxj))) EvL.nil)) (sub_spec w d y x hys hxs)) Bo.addI) (by walk_at "put") ?_)
        refine Ex.cons (ExS.assign (Ev.subOwn (by walk_at "at") (Ev.name (by walk_at "at")) (by (first | lia | omega)) (by (first | lia | omega)) hrow) (by walk_at "put") ?_)
        refine Ex.cons (ExS.assign (Ev.bin (Ev.call (by simp) (g_min w) (KeptC.blt _) (EvL.cons (Ev.name (by walk_at "at")) (EvL.cons (Ev.name (by walk_at "at")) EvL.nil)) Fc.min2) (Ev.glob (p := .int 2) (by simp) (GVal.glob (by k_is) rfl) fun _ _ => mk_int) Bo.addI) (by walk_at "put") ?_)
        refine Ex.cons (ExS.assign (Ev.call (by simp) (g_min w) (KeptC.blt _) (EvL.cons (Ev.name (by walk_at "at")) (EvL.cons (Ev.name (by walk_at "at")) EvL.nil)) Fc.min2) (by walk_at "put") ?_)
        refine Ex.cons (ExS.setAt (by walk_at "at") (Ev.name (by walk_at "at")) (Ev.name (by walk_at "at")) (by (first | lia | omega)) (by (first | lia | omega)) (by simp [f4]; (first | lia | omega)) (by walk_at "put") ?_)
        have hset : ((don ++ r :: rs).map PV.int).set (j : Int).toNat (.int (min (min re r + 2) (dd + subc y x))) = ((don ++ [min (min re r + 2) (dd + subc y x)]) ++ rs).map PV.int := by
          rw [Int.toNat_natCast, List.map_append, List.set_append_right _ _ (by simp [f4])]
          simp [f4]
        rw [hset]
        have hin : inner y (x :: a3.drop (j + 1)) (r :: rs) dd re = min (min re r + 2) (dd + subc y x) :: inner y (a3.drop (j + 1)) rs r (min (min re r + 2) (dd + subc y x)) := rfl
        rw [hin]
        generalize min (min re r + 2) (dd + subc y x) = nv
        have g1 : don ++ nv :: inner y (a3.drop (j + 1)) rs r nv = (don ++ [nv]) ++ inner y (a3.drop (j + 1)) rs r nv := by simp
        have g2 : (nv :: inner y (a3.drop (j + 1)) rs r nv).getLastD re = (inner y (a3.drop (j + 1)) rs r nv).getLastD nv := by
          cases inner y (a3.drop (j + 1)) rs r nv <;> rfl
        have g3 : (nv :: inner y (a3.drop (j + 1)) rs r nv).foldl min mi = (inner y (a3.drop (j + 1)) rs r nv).foldl min (min mi nv) := rfl
        rw [g1, g2, g3]
        refine Ex.cons (ExS.ite (Tr.cmp (Ev.name (by walk_at "at")) (Ev.name (by walk_at "at")) Co.ltI) (fun h => ?_) (fun h => Ex.nil ?_))
        · have hlt := of_decide_eq_true h
          refine Ex.cons (ExS.assign (Ev.name (by walk_at "at")) (by walk_at "put") (Ex.nil (Ex.nil ?_)))
          rw [show min mi nv = nv by (first | lia | omega)]
          exact ihn _ _ _ _ _ _ _ _ _ (by simp [f4]) (by simpa using f5) (by (first | lia | omega))
        · have hlt := of_decide_eq_false h
          refine Ex.nil ?_
          rw [show min mi nv = mi by (first | lia | omega)]
          exact ihn _ _ _ _ _ _ _ _ _ (by simp [f4]) (by simpa using f5) (by (first | lia | omega))
    · rintro v ⟨xd, xi, xs, xid, hv⟩
      cases hv
      refine Ex.cons (ExS.ite (Tr.cmp (Ev.name (by walk_at "at")) (Ev.name (by walk_at "at")) Co.gtI) (fun h => ?_) (fun h => Ex.nil ?_))
      · have := of_decide_eq_true h
        refine Ex.cons (ExS.ret (Ev.bin (Ev.name (by walk_at "at")) Ev.int Bo.addI) ?_)
        simp only [rowsGo]; rw [if_pos this]
      · have := of_decide_eq_false h
        have hl : rowsGo a3 m (y :: b3.drop (i + 1)) i row res = rowsGo a3 m (b3.drop (i + 1)) (i + 1) (inner y a3 row (2 * i) (2 * i)) ((inner y a3 row (2 * i) (2 * i)).getLastD 0) := by
          simp only [rowsGo]; rw [if_neg this]
        rw [hl]
        have hil : ∀ (as : List Nat) (rs : List Int) (dd re : Int), rs.length = as.length → (inner y as rs dd re).length = as.length := fun as => by
          induction as with
          | nil => intro rs dd re h; cases rs <;> simp [inner]
          | cons x as ih => intro rs dd re h; cases rs with
            | nil => simp at h
            | cons r rs => simp only [inner, List.length_cons]; rw [ih]; simpa using h
        have hl3 := hil a3 row (2 * i) (2 * i) hrl
        have hlast : (inner y a3 row (2 * i) (2 * i)).getLastD (2 * i) = (inner y a3 row (2 * i) (2 * i)).getLastD 0 := by
          cases hc : inner y a3 row (2 * i) (2 * i) with
          | nil => rw [hc] at hl3; exact absurd (List.length_eq_zero_iff.mp hl3.symm) hne3
          | cons _ _ => simp [List.getLastD]
        rw [hlast]
        exact Ex.nil (ih (i + 1) (by (first | lia | omega)) _ hl3 _ _ _ _ _ _ _ _)
end Mine
end
noncomputable section
namespace Mine
open PySem.Calls
section
variable {w : World} {d : Nat} {Γ : Cx} {vals vals' : List Sl} {P : Out → Prop} {env : Env} {V₀ : Addr → Prop} {oa : List (Str × Addr)}
theorem St.ownCore {x : Str} {xs : List PV} {a : Addr} {vs : List Value} {h₀ h' : Heap} {m : Str → Option Value} (z : St w Γ env V₀ oa vals h₀) (hx : (x, false) ∈ Γ.vars) (pt : Put Γ.vars vals x (.own xs) vals') (hn : h₀.get? a = none) (hns : h₀.Ns env.locals m)
    (hn' : h'.Ns env.locals (fun y => if y = x then some (.ref a) else m y)) (kp0 : ∀ b o, b ≠ env.locals → h₀.get? b = some o → h'.get? b = some o) (pl : h'.PlainList a (List.toArray vs)) (r : Reps (fun b => Vol env V₀ oa b ∨ b = a) h' xs vs) :
    St w Γ env V₀ ((x, a) :: oa) vals' h' ∧ Step env oa h₀ ((x, a) :: oa) h' := by
  obtain ⟨i, c, hi, hlt, e⟩ := pt.idx
  have hc : c = false := (z.flag hi false hx).symm
  subst hc
  have naV : ¬ Vol env V₀ oa a := fun hv => by obtain ⟨o, e⟩ := z.ok.al a hv; rw [hn] at e; cases e
  have naL : a ≠ env.locals := fun h => naV (.inr (.inl h))
  have kp : ∀ b o, ¬ Own env ((x, a) :: oa) b → h₀.get? b = some o → h'.get? b = some o := fun b o nb e => kp0 b o (fun hb => nb (.inl hb)) e
  have al : ∀ b o, h₀.get? b = some o → ∃ o', h'.get? b = some o' := fun b o e => by
    by_cases hb : b = env.locals
    · subst hb; obtain ⟨o', _, _, e', _⟩ := hn'; exact ⟨o', e'⟩
    · exact ⟨o, kp0 b o hb e⟩
  refine ⟨z.place (oa' := (x, a) :: oa) pt kp (fun y c v hne l => ?_) ⟨_, hn'⟩ (fun y b e => ?_) (fun _ _ m => List.mem_cons_of_mem _ m) (fun y b mb => ?_) (fun b hb => ?_) (fun y b vs _ mb pl => ?_) ?_, fun b o nb e => kp0 b o (fun hb => nb (.inl hb)) e, fun y b mb => ?_, al⟩
  · unfold Loads at *
    cases c with
    | false =>
      simp only [Bool.false_eq_true, if_false] at *
      obtain ⟨k, m1, n1, e1⟩ := l
      rw [ns_uniq n1 hns] at e1
      exact ⟨k, _, hn', by simp [hne, e1]⟩
    | true =>
      simp only [if_true] at *
      obtain ⟨k, b, o, h1, h2, h3⟩ := l
      exact ⟨k, b, o, h1, kp0 b o (z.cl y b h1) h2, h3⟩
  · obtain ⟨v, o, h1, h2⟩ := z.co y b e
    exact ⟨v, o, kp0 b o (z.cl y b e) h1, h2⟩
  · rcases List.mem_cons.mp mb with e | mb
    · cases e
      refine .inr ⟨rfl, hn, fun h => naV (.inl h), naL, fun u h => naV (.inr (.inr (.inl ⟨u, h⟩))), fun u mu => ?_⟩
      rcases List.mem_cons.mp mu with e | mu
      · cases e; rfl
      · exact absurd (.inr (.inr (.inr ⟨u, mu⟩))) naV
    · exact .inl mb
  · rcases hb with hb | hb | hb | ⟨y, hb⟩
    · obtain ⟨o, e⟩ := z.ok.al b (.inl hb); exact al b o e
    · obtain ⟨o, e⟩ := z.ok.al b (.inr (.inl hb)); exact al b o e
    · obtain ⟨o, e⟩ := z.ok.al b (.inr (.inr (.inl hb))); exact al b o e
    · rcases List.mem_cons.mp hb with e | hb
      · cases e; obtain ⟨n, e⟩ := pl; exact ⟨_, e⟩
      · obtain ⟨o, e⟩ := z.ok.al b (.inr (.inr (.inr ⟨y, hb⟩))); exact al b o e
  · exact pl.at fun o e => kp0 b o (z.oL y b mb).1 e
  · refine ⟨z.flag hi, a, vs, by simp, ?_, pl, r.mono fun b o nb e => ⟨fun hb => nb ?_, e⟩⟩
    · unfold Loads
      simp only [Bool.false_eq_true, if_false]
      exact ⟨z.kd x hx, _, hn', by simp⟩
    · rcases hb with hb | hb | hb | ⟨y, hb⟩
      · exact .inl (.inl hb)
      · exact .inl (.inr (.inl hb))
      · exact .inl (.inr (.inr (.inl hb)))
      · rcases List.mem_cons.mp hb with e | hb
        · cases e; exact .inr rfl
        · exact .inl (.inr (.inr (.inr ⟨y, hb⟩)))
  · rcases List.mem_cons.mp mb with e | mb
    · cases e; exact .inr hn
    · exact .inl mb
/-- x = [... for ...] into a local name, on one line -/
theorem ExS.assignComp {x : Str} {px apos : Pos} {elt T iter : Expr} {ifs : List Expr} {scope : Scope} {pos : Pos} {p : PV} {items : List PV} {tn cn globs : List Str} {cv : List PV} (f : PV → Option PV) (h1 : Ev w d Γ vals iter p) (hit : Iter w T p items)
    (caps : Caps Γ vals cn cv) (hel : ∀ q ∈ items, Elem w d (cxc tn cn globs) cv T tn ifs elt q (f q)) (hS : compOK Γ.vars scope tn cn globs = true) (hz : items.length ≤ sizeLine) (hx : (x, false) ∈ Γ.vars) (pt : Put Γ.vars vals x (.own (items.filterMap f)) vals') (hp : P (.next vals'))
    (hl : (px.line == pos.line) = true := by rfl) (hsc : (scope.names.any fun y => y.1 == x && (y.2 == .local || y.2 == .cell)) = false := by rfl)
    (hs : ∀ env x, foldedSetIterable iter env x = pure x := by intro _ _; rfl) :
    ExS w d Γ vals (.Assign [.Name x px] (.ListComp elt [⟨T, iter, ifs, 0⟩] scope pos) apos) P := fun env V₀ oa A s Q E z rm k => by
  have S := CompS.of hS
  have ok := z.ok
  obtain ⟨cl, e1, e2, e3⟩ := closureFor_ok (env := env) (scope := scope) fun y hy hf => (ok.cel y.1 (S.cf y.1 (S.fr y hy hf)).2).2
  have hb : env.blockKind = .function := by unfold Env.blockKind; rw [z.ok.kind]; rfl
  have hsw : swapsWith (.ListComp elt [⟨T, iter, ifs, 0⟩] scope pos) (some (.Name x px)) apos.line env = pure true := by
    unfold swapsWith
    simp only [hb, z.kd x hx]
    show pure (((ScopeKind.function == .function && some NameKind.local == some .local) && px.line == pos.line) && !(scope.names.any fun y => y.1 == x && (y.2 == .local || y.2 == .cell))) = pure true
    rw [hl, hsc]; rfl
  rw [exec_Assign_Name_used _ _ _ _ hsw]
  refine wpAny_bind (wpAny_standAt (wpAny_bind ?_))
  show wpAny (MW w) A (do let _ ← comprehension (.ListComp elt [⟨T, iter, ifs, 0⟩] scope pos) scope env (firstIterPos [⟨T, iter, ifs, 0⟩] pos) (newList []) (firstAsync [⟨T, iter, ifs, 0⟩]) (firstIter [⟨T, iter, ifs, 0⟩] env) (some (PySem.assign (.Name x px) env))) _ E s
  refine wpAny_bind ?_
  refine wpAny_comprehension_free (use := some (PySem.assign (.Name x px) env)) rfl (hs env) e1 S.kind S.names (h1 env _ A s _ _ ok rm fun a h' tk st r => hit _ A _ _ _ a rm.hh (ok.stays st).al r fun I fp wr St h2 tk2 it => ?_)
  refine comp_core (RR := fun acc C => compPost (MW w) A E (some (PySem.assign (.Name x px) env)) _ acc C) (ok.stays st) rm S caps e2 e3 it hz hel ?_
  intro D C h3 tk3 m' ys nD nC _ _ hDC hn hpl hr st3
  have old : ∀ {b : Addr}, h'.get? b = none → s.heap.get? b = none := fun {b} h => by
    cases e : s.heap.get? b with
    | none => rfl
    | some o => have := st _ _ e; rw [h] at this; cases this
  have sta : Stays s.heap h3 := st.trans st3
  obtain ⟨m, hns⟩ := z.ns
  have hCL : C ≠ env.locals := fun h => by
    obtain ⟨o, _, _, e, _⟩ := hns
    have := old nC; rw [h, e] at this; cases this
  have hDL : D ≠ env.locals := fun h => by
    obtain ⟨o, _, _, e, _⟩ := hns
    have := old nD; rw [h, e] at this; cases this
  show wpAny (MW w) A (PySem.assign (.Name x px) env (.ref D)) _ E _
  refine wpAny_assign_Name (wpAny_storeName_local (z.kd x hx) (hns.keeps sta) (fun h4 hn4 hs4 => ?_) (fnkind z.ok.kind))
  refine ⟨m', hn.at' fun o e => (hs4.2 C hCL).trans e, fun h5 hs5 => ?_⟩
  have kp0 : ∀ b o, b ≠ env.locals → b ≠ C → h3.get? b = some o → h5.get? b = some o := fun b o h1 h2 e => (hs5.2 b h2).trans ((hs4.2 b h1).trans e)
  obtain ⟨z5, stp⟩ := z.ownCore (h' := h5) (a := D) (vs := ys) hx pt (old nD) hns (hn4.at' fun o e => (hs5.2 _ (Ne.symm hCL)).trans e)
    (fun b o hb e => kp0 b o hb (fun h => by rw [h, old nC] at e; cases e) (sta b o e)) (hpl.at fun o e => kp0 _ o hDL hDC e)
    (hr.mono fun b o nb e => ⟨fun h => nb (h.elim .inl fun h => .inr (.inr h)), kp0 b o (fun h => nb (.inl (.inr (.inl h)))) (fun h => nb (.inr (.inl h))) e⟩)
  exact wpAny_pure (wpAny_pure (k (.next vals') .next _ h5 _ hp ⟨rfl, z5⟩ stp))
end
end Mine
end
noncomputable section
namespace Mine
open PySem.Calls
theorem glued_nil : ∀ (ls : List (List Nat)), Builtin.Str.glued (S []) (ls.map S) = S ls.flatten := by
  have key : ∀ (ls : List (List Nat)) (acc : Array Nat), (ls.map S).foldl (fun acc p => acc ++ (S []).cps ++ p.cps) acc = acc ++ ls.flatten.toArray := fun ls => by
    induction ls with
    | nil => intro acc; simp
    | cons l ls ih => intro acc; simp only [List.map_cons, List.foldl_cons]; rw [ih]; simp [S]
  intro ls
  unfold Builtin.Str.glued
  cases ls with
  | nil => simp [S, Str.empty]
  | cons l ls =>
    simp only [List.map_cons, List.drop_succ_cons, List.drop_zero, List.headD_cons]
    rw [key]
    simp [S]
theorem reps_texts {V : Addr → Prop} {h : Heap} : ∀ {ls : List (List Nat)} {vs : List Value}, Reps V h (ls.map fun l => PV.str (S l)) vs → ∃ l : List (Str × Tok), vs = strValues l ∧ l.map (·.1) = ls.map S
  | [], vs, r => ⟨[], by rw [reps_nil r]; rfl, rfl⟩
  | x :: ls, vs, r => by
    obtain ⟨v, us, rfl, r1, r2⟩ := reps_cons r
    obtain ⟨t, rfl⟩ := rep_str r1
    obtain ⟨l, rfl, e⟩ := reps_texts r2
    exact ⟨(S x, t) :: l, rfl, by simp [e]⟩
theorem Fc.join {w : World} {d : Nat} {ls : List (List Nat)} {x : Str} (hx : x = S []) (hz : ls.flatten.length ≤ 100000) : Fc w d (.builtin "str.join") [.str x, .list (ls.map fun l => PV.str (S l))] (.str (S ls.flatten)) := fun V A s Q E cvs b rm al rp k => by
  obtain ⟨v, u, rfl, r1, r2⟩ := reps_two rp
  obtain ⟨t, rfl⟩ := rep_str r1
  obtain ⟨a, vs, rfl, _, pl, rs⟩ := rep_list r2
  obtain ⟨l, rfl, e⟩ := reps_texts rs
  subst hx
  have hok : JoinOk (S []) (ls.map S) = true := joinOk_of (by
    rw [List.map_map, S_len]
    have : (ls.map ((fun x => x.length) ∘ S)).sum = ls.flatten.length := by
      rw [List.length_flatten]; exact congrArg List.sum (List.map_congr_left fun l _ => S_len l)
    simp only [List.length_nil, Nat.mul_zero, Nat.add_zero]
    rw [this]; (first | lia | omega))
  refine SC.join pl.isList e hok fun t' k' => ?_
  have e2 : Txt.join (S []) (ls.map S) = S ls.flatten := glued_nil ls
  rw [e2]
  exact k _ s.heap _ (Stays.refl _) mk_str
section
variable {w : World} {d : Nat} {Γ : Cx} {vals vals' : List Sl} {P : Out → Prop}
open Classical in
noncomputable def viaG {α : Type} (g : α → PV) (r : α → Option PV) (q : PV) : Option PV := if h : ∃ a, g a = q then r h.choose else none
theorem viaG_at {α : Type} {g : α → PV} (r : α → Option PV) (hi : ∀ a b, g a = g b → a = b) (a : α) : viaG g r (g a) = r a := by
  unfold viaG
  have h : ∃ b, g b = g a := ⟨a, rfl⟩
  rw [dif_pos h]
  exact congrArg r (hi _ _ h.choose_spec)
theorem viaG_map {α : Type} {g : α → PV} (r : α → Option PV) (hi : ∀ a b, g a = g b → a = b) (xs : List α) : (xs.map g).filterMap (viaG g r) = xs.filterMap r := by
  rw [List.filterMap_map]
  congr 1
  funext a
  exact viaG_at r hi a
/-- a comprehension over mapped items -/
theorem EvF.compM {α : Type} {elt T iter : Expr} {ifs : List Expr} {scope : Scope} {pos : Pos} {p : PV} {tn cn globs : List Str} {cv : List PV} (xs : List α) (g : α → PV) (r : α → Option PV) (hi : ∀ a b, g a = g b → a = b) (h1 : Ev w d Γ vals iter p) (hit : Iter w T p (xs.map g))
    (caps : Caps Γ vals cn cv) (hel : ∀ a ∈ xs, Elem w d (cxc tn cn globs) cv T tn ifs elt (g a) (r a)) (hS : compOK Γ.vars scope tn cn globs = true) (hz : xs.length ≤ sizeLine) (hs : ∀ env x, foldedSetIterable iter env x = pure x := by intro _ _; rfl) :
    EvF w d Γ vals (.ListComp elt [⟨T, iter, ifs, 0⟩] scope pos) (xs.filterMap r) := by
  rw [← viaG_map r hi xs]
  refine EvF.comp (viaG g r) h1 hit caps (fun q hq => ?_) hS (by simpa using hz) hs
  obtain ⟨a, ha, rfl⟩ := List.mem_map.mp hq
  rw [viaG_at r hi]
  exact hel a ha
theorem ExS.assignCompM {α : Type} {x : Str} {px apos : Pos} {elt T iter : Expr} {ifs : List Expr} {scope : Scope} {pos : Pos} {p : PV} {tn cn globs : List Str} {cv : List PV} (xs : List α) (g : α → PV) (r : α → Option PV) (hi : ∀ a b, g a = g b → a = b) (h1 : Ev w d Γ vals iter p) (hit : Iter w T p (xs.map g))
    (caps : Caps Γ vals cn cv) (hel : ∀ a ∈ xs, Elem w d (cxc tn cn globs) cv T tn ifs elt (g a) (r a)) (hS : compOK Γ.vars scope tn cn globs = true) (hz : xs.length ≤ sizeLine) (hx : (x, false) ∈ Γ.vars) (pt : Put Γ.vars vals x (.own (xs.filterMap r)) vals') (hp : P (.next vals'))
    (hl : (px.line == pos.line) = true := by rfl) (hsc : (scope.names.any fun y => y.1 == x && (y.2 == .local || y.2 == .cell)) = false := by rfl)
    (hs : ∀ env x, foldedSetIterable iter env x = pure x := by intro _ _; rfl) :
    ExS w d Γ vals (.Assign [.Name x px] (.ListComp elt [⟨T, iter, ifs, 0⟩] scope pos) apos) P := by
  rw [← viaG_map r hi xs] at pt
  refine ExS.assignComp (viaG g r) h1 hit caps (fun q hq => ?_) hS (by simpa using hz) hx pt hp hl hsc hs
  obtain ⟨a, ha, rfl⟩ := List.mem_map.mp hq
  rw [viaG_at r hi]
  exact hel a ha
end
end Mine
end
noncomputable section
set_option maxRecDepth 100000
namespace Mine
open PySem.Calls
noncomputable def esc (c : Nat) : List Nat := if c = 34 ∨ c = 32 ∨ c = 92 then [92, c] else [c]
noncomputable def spelled (l : List Nat) (q : Bool) : List Nat := if q then [34] ++ l.flatMap esc ++ [34] else l.flatMap esc
theorem one_inj : ∀ a b : Nat, PV.str (S [a]) = PV.str (S [b]) → a = b := fun a b h => by
  have := S_inj.mp (PV.str.inj h); simpa using this
theorem in_marks (c : Nat) : Txt.contains (S [34, 32, 92]) (S [c]) = decide (c = 34 ∨ c = 32 ∨ c = 92) := by
  have : S [c] = (⟨#[c]⟩ : Str) := rfl
  unfold Txt.contains
  rw [this, StrLaws.found_one]
  simp [S]
theorem esc_len (l : List Nat) : (l.flatMap esc).length ≤ 2 * l.length := by
  induction l with
  | nil => simp
  | cons c l ih =>
    rw [List.flatMap_cons, List.length_append, List.length_cons]
    have : (esc c).length ≤ 2 := by unfold esc; split <;> simp
    (first | lia | omega)
theorem spelled_spec (w : World) (d : Nat) (l : List Nat) (q : Bool) (hl : l ≠ []) (hz : l.length ≤ 10) : Fc w (d + 1) (.ref 96) [.str (S l), .bool q] (.str (S (spelled l q))) := by
  refine withK (w := w) ?_
  k_fill
  intro _
  have hel := esc_len l
  refine Fc.of ⟨[("word", false), ("quoted", false), ("body", false)], []⟩ ["word", "quoted"] (by k_is) (by k_is) (by decide) (by exact Mine.bind2 fun _ _ => rfl) rfl ?_
  walk_at "flat"
  refine Ex.cons (ExS.assign (p := .str (S (l.flatMap esc))) (Ev.meth (p := .str (S [])) (ps := [.list ((l.map esc).map fun l => PV.str (S l))]) ?_ HasT.str meth_join (EvL.cons (EvF.ev ?_) EvL.nil) ?_) (by walk_at "put") ?_)
  · exact Ev.is Ev.str (by rfl)
  · have e : (l.map esc).map (fun l => PV.str (S l)) = l.filterMap fun c => some (.str (S (esc c))) := by simp
    rw [e]
    refine EvF.compM (tn := ["sign"]) (cn := []) (globs := []) (cv := []) l (fun c => PV.str (S [c])) _ one_inj (Ev.name (by walk_at "at")) Iter.str Caps.nil (fun c hc => ⟨[.str (S [c])], rfl, Asg.name, Ands.nil, ?_⟩) (by decide) (small (by (first | lia | omega)))
    refine Ev.ite (Tr.cmp (Ev.name (by walk_at "at")) (Ev.is Ev.str (show _ = PV.str (S [34, 32, 92]) by rfl)) Co.inS) (fun h => ?_) (fun h => ?_)
    · rw [in_marks] at h
      refine Ev.is (Ev.bin (Ev.is Ev.str (show _ = PV.str (S [92]) by rfl)) (Ev.name (by walk_at "at")) (Bo.addS (small (by simp [S_len])))) ?_
      rw [S_add]; unfold esc; rw [if_pos (of_decide_eq_true h)]; rfl
    · rw [in_marks] at h
      refine Ev.is (Ev.name (by walk_at "at")) ?_
      unfold esc; rw [if_neg (of_decide_eq_false h)]
  · rw [List.flatMap_def]
    exact Fc.join rfl (by rw [← List.flatMap_def]; (first | lia | omega))
  · refine Ex.cons (ExS.ret (Ev.ite (c := q) ?_ (fun h => ?_) (fun h => ?_)) rfl)
    · cases q with
      | true => exact Tr.or (Ors.tt (Tr.val (Ev.name (by walk_at "at")) Th.bool))
      | false => exact Tr.or (Ors.ff (Tr.val (Ev.name (by walk_at "at")) Th.bool) (Ors.ff (Tr.is (Tr.cmp (Ev.name (by walk_at "at")) (Ev.is Ev.str (show _ = PV.str (S []) by rfl)) Co.eqS) (by rw [S_beq]; simp [hl])) Ors.nil))
    · refine Ev.is (Ev.bin (Ev.bin (Ev.is Ev.str (show _ = PV.str (S [34]) by rfl)) (Ev.name (by walk_at "at")) (Bo.addS (small (by simp only [S_len, List.length_cons, List.length_nil]; (first | lia | omega))))) (Ev.is Ev.str (show _ = PV.str (S [34]) by rfl)) (Bo.addS (small (by rw [S_add]; simp only [S_len, List.length_cons, List.length_nil, List.length_append]; (first | lia | omega))))) ?_
      rw [S_add, S_add]; unfold spelled; rw [if_pos h]
    · refine Ev.is (Ev.name (by walk_at "at")) ?_
      unfold spelled; rw [h]; simp
end Mine
end
noncomputable section
set_option maxRecDepth 100000
namespace Mine
open PySem.Calls
theorem LoopP.is {w : World} {d : Nat} {Γ : Cx} {T : Expr} {body : List Stmt} {P : Out → Prop} {items items' : List PV} {vals vals' : List Sl} (h : LoopP w d Γ T body P items' vals') (h1 : items = items') (h2 : vals = vals') : LoopP w d Γ T body P items vals := by
  rw [h1, h2]; exact h
noncomputable def wy (p : Nat × Int) : PV := .tup [.int p.1, .int p.2]
theorem wy_inj : ∀ a b, wy a = wy b → a = b := fun a b h => by
  obtain ⟨a1, a2⟩ := a; obtain ⟨b1, b2⟩ := b
  simp only [wy, PV.tup.injEq, List.cons.injEq, PV.int.injEq, and_true] at h
  simp only [Prod.mk.injEq]
  (first | lia | omega)
noncomputable def gain (c x : Nat) : Int := if c = x then 2 else if swp c = x then 1 else 0
noncomputable def laidFrom (c : Nat) (other : List Nat) (p : Nat × Int) : List (Nat × Int) := (List.range' p.1 (other.length - p.1)).map fun k => (k + 1, p.2 - gain c (other.getD k 0))
noncomputable def wstep (other : List Nat) (ways : List (Nat × Int)) (c : Nat) : List (Nat × Int) := ways.map (fun p => (p.1, p.2 + 2)) ++ ways.flatMap (laidFrom c other)
noncomputable def waysOf (one other : List Nat) : List (Nat × Int) := one.foldl (wstep other) [(0, 2 * other.length)]
theorem wstep_len {other : List Nat} {ways : List (Nat × Int)} {c : Nat} (h : other.length ≤ 5) : (wstep other ways c).length ≤ 6 * ways.length := by
  unfold wstep
  rw [List.length_append, List.length_map, List.length_flatMap]
  have : (ways.map fun p => (laidFrom c other p).length).sum ≤ 5 * ways.length := by
    induction ways with
    | nil => simp
    | cons p ws ih =>
      simp only [List.map_cons, List.sum_cons, List.length_cons]
      have : (laidFrom c other p).length ≤ 5 := by unfold laidFrom; simp; (first | lia | omega)
      (first | lia | omega)
  (first | lia | omega)
theorem wstep_le {other : List Nat} {ways : List (Nat × Int)} {c : Nat} (h : ∀ p ∈ ways, p.1 ≤ other.length) : ∀ p ∈ wstep other ways c, p.1 ≤ other.length := fun p hp => by
  unfold wstep at hp
  rcases List.mem_append.mp hp with hp | hp
  · obtain ⟨q, hq, rfl⟩ := List.mem_map.mp hp; exact h q hq
  · obtain ⟨q, hq, hp⟩ := List.mem_flatMap.mp hp
    unfold laidFrom at hp
    obtain ⟨k, hk, rfl⟩ := List.mem_map.mp hp
    simp only [List.mem_range'_1] at hk
    have := h q hq
    show k + 1 ≤ _
    (first | lia | omega)
theorem range_ab {a n : Nat} (h : n ≤ 10) (ha : a ≤ n) : Builtin.Range.small a n 1 = true ∧ Builtin.Range.rangeSize a n 1 = (n - a : Nat) := by
  have : ∀ n, n < 11 → ∀ a, a < 11 → a ≤ n → Builtin.Range.small (a : Nat) (n : Nat) 1 = true ∧ Builtin.Range.rangeSize (a : Nat) (n : Nat) 1 = (n - a : Nat) := by decide +kernel
  exact this n (by (first | lia | omega)) a (by (first | lia | omega)) ha
theorem rangeL_ab (a n : Nat) : (rangeL a 1 n).map PV.int = ix a n := by
  unfold rangeL ix
  rw [List.range_eq_range', List.map_map]
  rw [show List.range' a n = (List.range' 0 n).map (a + ·) by rw [List.map_add_range']; simp]
  rw [List.map_map]
  apply List.map_congr_left
  intro i _
  simp
theorem price_spec (w : World) (d : Nat) (one other : List Nat) (m : Int) (ho : ∀ c ∈ one, c ∈ syms) (hl1 : one.length ≤ 3) (hl2 : other.length ≤ 5) (hm : IsMin m ((waysOf one other).map (·.2))) : Fc w (d + 1) (.ref 101) [.str (S one), .str (S other)] (.int m) := by
  refine withK (w := w) ?_
  k_fill
  intro _
  refine Fc.of ⟨[("one", false), ("other", false), ("ways", false), ("sign", false), ("left", false), ("laid", false), ("place", false), ("price", false), ("k", false), ("gain", false)], ["len", "range", "min"]⟩ ["one", "other"] (by k_is) (by k_is) (by decide) (by exact Mine.bind2 fun _ _ => rfl) rfl ?_
  walk_at "flat"
  refine Ex.cons (ExS.assign (p := .list (([(0, 2 * (other.length : Int))] : List (Nat × Int)).map wy)) (EvF.ev (EvF.list (EvL.cons (Ev.tup (EvL.cons Ev.int (EvL.cons (Ev.bin Ev.int (Ev.call (by simp) (g_len w) (KeptC.blt _) (EvL.cons (Ev.name (by walk_at "at")) EvL.nil) (Fc.lenS (small (by (first | lia | omega))))) (Bo.mulI (IntMulOk.of_left (by decide)))) EvL.nil)) two_small) EvL.nil) (small (by simp)))) (by walk_at "put") ?_)
  refine Ex.seq (fun out => ∃ x1 x2 x3 x4 x5 x6 x7 : Sl, out = .next [.val (.str (S one)), .val (.str (S other)), .val (.list ((waysOf one other).map wy)), x1, x2, x3, x4, x5, x6, x7]) (ExS.loop (Ev.name (by walk_at "at")) Iter.str ?_) ?_ (fun p h => by obtain ⟨_, _, _, _, _, _, _, h⟩ := h; cases h) (fun p h => by obtain ⟨_, _, _, _, _, _, _, h⟩ := h; cases h) (fun p h => by obtain ⟨_, _, _, _, _, _, _, h⟩ := h; cases h)
  · obtain ⟨W, hW⟩ : ∃ W : List (Nat × Int), W = [(0, 2 * (other.length : Int))] := ⟨_, rfl⟩
    obtain ⟨u, hu⟩ : ∃ u : List Nat, u = one := ⟨_, rfl⟩
    have f1 : waysOf one other = u.foldl (wstep other) W := by rw [hu, hW]; rfl
    have f2 : ∀ p ∈ W, p.1 ≤ other.length := by rw [hW]; simp
    have f3 : W.length * 6 ^ u.length ≤ 216 := by
      rw [hW, hu]; simp only [List.length_cons, List.length_nil]
      have : 6 ^ one.length ≤ 6 ^ 3 := Nat.pow_le_pow_right (by (first | lia | omega)) hl1
      (first | lia | omega)
    have f4 : ∀ c ∈ u, c ∈ syms := by rw [hu]; exact ho
    rw [f1, ← hW, show (one.map fun c => PV.str (S [c])) = u.map fun c => PV.str (S [c]) by rw [hu]]
    generalize hT : [Sl.un, Sl.un, Sl.un, Sl.un, Sl.un, Sl.un, Sl.un] = tl
    obtain ⟨x1, x2, x3, x4, x5, x6, x7, hT'⟩ : ∃ x1 x2 x3 x4 x5 x6 x7 : Sl, tl = [x1, x2, x3, x4, x5, x6, x7] := ⟨_, _, _, _, _, _, _, hT.symm⟩
    clear hT
    subst hT'
    clear hu hW f1 hm
    induction u generalizing W x1 x2 x3 x4 x5 x6 x7 with
    | nil => exact ⟨x1, x2, x3, x4, x5, x6, x7, rfl⟩
    | cons c u ih =>
      have hc := f4 c (by simp)
      have hpos : 0 < 6 ^ u.length := Nat.pow_pos (by (first | lia | omega))
      have hWl : W.length ≤ 36 := by
        rw [List.length_cons, Nat.pow_succ, ← Nat.mul_assoc] at f3
        have : W.length * 1 ≤ W.length * 6 ^ u.length := Nat.mul_le_mul_left _ hpos
        (first | lia | omega)
      have f3' : (wstep other W c).length * 6 ^ u.length ≤ 216 := by
        have h1 := wstep_len (other := other) (ways := W) (c := c) hl2
        have h2 : (wstep other W c).length * 6 ^ u.length ≤ (6 * W.length) * 6 ^ u.length := Nat.mul_le_mul_right _ h1
        rw [List.length_cons, Nat.pow_succ] at f3
        have h3 : (6 * W.length) * 6 ^ u.length = W.length * (6 ^ u.length * 6) := by rw [Nat.mul_comm 6 W.length, Nat.mul_assoc, Nat.mul_comm 6]
        (first | lia | omega)
      refine ⟨_, AsgS.name (by walk_at "put"), ?_⟩
      refine Ex.cons (ExS.assignCompM (tn := ["place", "price"]) (cn := []) (globs := []) (cv := []) W wy (fun p => some (wy (p.1, p.2 + 2))) wy_inj (Ev.name (by walk_at "at")) Iter.list Caps.nil (fun p hp => ⟨[.int p.1, .int p.2], rfl, Asg.pair (by decide), Ands.nil, Ev.tup (EvL.cons (Ev.name (by walk_at "at")) (EvL.cons (Ev.bin (Ev.name (by walk_at "at")) Ev.int Bo.addI) EvL.nil)) two_small⟩) (by decide) (small (by (first | lia | omega))) (by simp) (by walk_at "put") ?_)
      refine Ex.freeze (x := "left") (by walk_at "at") (by walk_at "put") ?_
      have eL : W.filterMap (fun p => some (wy (p.1, p.2 + 2))) = (W.map fun p => (p.1, p.2 + 2)).map wy := by simp
      rw [eL]
      refine Ex.cons (ExS.assignOwn (EvF.list EvL.nil (small (by simp))) (by simp) (by walk_at "put") ?_)
      refine Ex.seq (fun out => ∃ y1 y2 y3 y4 : Sl, out = .next [.val (.str (S one)), .val (.str (S other)), .val (.list (W.map wy)), .val (.str (S [c])), .val (.list ((W.map fun p => (p.1, p.2 + 2)).map wy)), .own ((W.flatMap (laidFrom c other)).map wy), y1, y2, y3, y4]) (ExS.loop (Ev.name (by walk_at "at")) Iter.list ?_) ?_ (fun p h => by obtain ⟨_, _, _, _, h⟩ := h; cases h) (fun p h => by obtain ⟨_, _, _, _, h⟩ := h; cases h) (fun p h => by obtain ⟨_, _, _, _, h⟩ := h; cases h)
      · obtain ⟨D, hD⟩ : ∃ D : List (Nat × Int), D = [] := ⟨_, rfl⟩
        obtain ⟨R, hR⟩ : ∃ R : List (Nat × Int), R = W := ⟨_, rfl⟩
        have g1 : W.flatMap (laidFrom c other) = D ++ R.flatMap (laidFrom c other) := by rw [hD, hR]; rfl
        have g2 : D.length + 5 * R.length ≤ 200 := by rw [hD, hR]; simp; (first | lia | omega)
        have g3 : ∀ p ∈ R, p.1 ≤ other.length := by rw [hR]; exact f2
        rw [g1]
        refine LoopP.is (items' := R.map wy) (vals' := [.val (.str (S one)), .val (.str (S other)), .val (.list (W.map wy)), .val (.str (S [c])), .val (.list ((W.map fun p => (p.1, p.2 + 2)).map wy)), .own (D.map wy), x4, x5, x6, x7]) ?_ (by rw [hR]) (by rw [hD]; rfl)
        clear g1 hR hD ih
        induction R generalizing D x4 x5 x6 x7 with
        | nil => exact ⟨x4, x5, x6, x7, by simp⟩
        | cons p R ihR =>
          have hp := g3 p (by simp)
          have hpl : (laidFrom c other p).length ≤ 5 := by unfold laidFrom; simp; (first | lia | omega)
          obtain ⟨q1, q2⟩ := range_ab (a := p.1) (n := other.length) (by (first | lia | omega)) hp
          refine ⟨_, AsgS.pair (by walk_at "put") (by walk_at "put"), ?_⟩
          refine Ex.seq (fun out => ∃ y1 y2 : Sl, out = .next [.val (.str (S one)), .val (.str (S other)), .val (.list (W.map wy)), .val (.str (S [c])), .val (.list ((W.map fun p => (p.1, p.2 + 2)).map wy)), .own ((D ++ laidFrom c other p).map wy), .val (.int p.1), .val (.int p.2), y1, y2])
            (ExS.loop (Ev.call (by simp) (g_range w) (KeptC.typ _) (EvL.cons (Ev.name (by walk_at "at")) (EvL.cons (Ev.call (by simp) (g_len w) (KeptC.blt _) (EvL.cons (Ev.name (by walk_at "at")) EvL.nil) (Fc.lenS (small (by (first | lia | omega))))) EvL.nil)) Fc.range2) (Iter.range q1 q2) ?_) ?_ (fun p h => by obtain ⟨_, _, h⟩ := h; cases h) (fun p h => by obtain ⟨_, _, h⟩ := h; cases h) (fun p h => by obtain ⟨_, _, h⟩ := h; cases h)
          · rw [rangeL_ab]
            simp only [List.length_cons] at g2
            obtain ⟨j, hj⟩ : ∃ j : Nat, j = p.1 := ⟨_, rfl⟩
            obtain ⟨n, hn⟩ : ∃ n : Nat, n = other.length - p.1 := ⟨_, rfl⟩
            obtain ⟨B, hB⟩ : ∃ B : List (Nat × Int), B = D := ⟨_, rfl⟩
            have k1 : D ++ laidFrom c other p = B ++ (List.range' j n).map fun k => (k + 1, p.2 - gain c (other.getD k 0)) := by rw [hB, hj, hn]; rfl
            have k2 : j + n = other.length := by (first | lia | omega)
            have k3 : B.length + n ≤ 300 := by rw [hB]; (first | lia | omega)
            rw [k1]
            refine LoopP.is (items' := ix j n) (vals' := [.val (.str (S one)), .val (.str (S other)), .val (.list (W.map wy)), .val (.str (S [c])), .val (.list ((W.map fun p => (p.1, p.2 + 2)).map wy)), .own (B.map wy), .val (.int p.1), .val (.int p.2), x6, x7]) ?_ (by rw [hj, hn]) (by rw [hB])
            clear k1 hj hn hB ihR q1 q2
            induction n generalizing j B x6 x7 with
            | zero => exact ⟨x6, x7, by simp⟩
            | succ n ihn =>
              have hjl : j < other.length := by (first | lia | omega)
              rw [ix_succ]
              have hx : other[j]? = some (other.getD j 0) := by rw [List.getD_eq_getElem?_getD, List.getElem?_eq_getElem hjl]; rfl
              refine ⟨_, AsgS.name (by walk_at "put"), ?_⟩
              refine Ex.cons (ExS.assign (p := .int (gain c (other.getD j 0))) (Ev.ite (Tr.cmp (Ev.name (by walk_at "at")) (Ev.sub (Ev.name (by walk_at "at")) (Ev.name (by walk_at "at")) (Gi.str (by (first | lia | omega)) (by (first | lia | omega)) (by simpa using hx))) Co.eqS) (fun h => ?_) (fun h => ?_)) (by walk_at "put") ?_)
              · have he : c = other.getD j 0 := by rw [S_beq] at h; simpa using h
                exact Ev.is Ev.int (by unfold gain; rw [if_pos he])
              · have he : c ≠ other.getD j 0 := by rw [S_beq] at h; simpa using h
                refine Ev.ite (Tr.cmp (Ev.meth0 (Ev.name (by walk_at "at")) HasT.str meth_swapcase (Fc.swp hc)) (Ev.sub (Ev.name (by walk_at "at")) (Ev.name (by walk_at "at")) (Gi.str (by (first | lia | omega)) (by (first | lia | omega)) (by simpa using hx))) Co.eqS) (fun h => ?_) (fun h => ?_)
                · have he2 : swp c = other.getD j 0 := by rw [S_beq] at h; simpa using h
                  exact Ev.is Ev.int (by unfold gain; rw [if_neg he, if_pos he2])
                · have he2 : swp c ≠ other.getD j 0 := by rw [S_beq] at h; simpa using h
                  exact Ev.is Ev.int (by unfold gain; rw [if_neg he, if_neg he2])
              · refine Ex.cons (ExS.append (p := wy (j + 1, p.2 - gain c (other.getD j 0))) (by walk_at "at") (Ev.is (Ev.tup (EvL.cons (Ev.bin (Ev.name (by walk_at "at")) Ev.int Bo.addI) (EvL.cons (Ev.bin (Ev.name (by walk_at "at")) (Ev.name (by walk_at "at")) Bo.subI) EvL.nil)) two_small) (by unfold wy; simp)) (small (by simp; (first | lia | omega))) (by walk_at "put") (Ex.nil ?_))
                have e1 : B.map wy ++ [wy (j + 1, p.2 - gain c (other.getD j 0))] = (B ++ [(j + 1, p.2 - gain c (other.getD j 0))]).map wy := by simp
                have e2 : B ++ (List.range' j (n + 1)).map (fun k => (k + 1, p.2 - gain c (other.getD k 0))) = (B ++ [(j + 1, p.2 - gain c (other.getD j 0))]) ++ (List.range' (j + 1) n).map fun k => (k + 1, p.2 - gain c (other.getD k 0)) := by rw [List.range'_succ]; simp
                rw [e1, e2]
                apply ihn
                · (first | lia | omega)
                · simp only [List.length_append, List.length_cons, List.length_nil]; (first | lia | omega)
          · rintro v ⟨y1, y2, hv⟩
            cases hv
            refine Ex.nil ?_
            have e1 : D ++ (p :: R).flatMap (laidFrom c other) = (D ++ laidFrom c other p) ++ R.flatMap (laidFrom c other) := by rw [List.flatMap_cons]; simp
            rw [e1]
            apply ihR
            · simp only [List.length_append, List.length_cons] at g2 ⊢; (first | lia | omega)
            · exact fun q hq => g3 q (by simp [hq])
      · rintro v ⟨y1, y2, y3, y4, hv⟩
        cases hv
        refine Ex.freeze (x := "laid") (by walk_at "at") (by walk_at "put") ?_
        have hws := wstep_len (other := other) (ways := W) (c := c) hl2
        unfold wstep at hws
        rw [List.length_append] at hws
        refine Ex.cons (ExS.assign (EvF.ev (FcF_add (Ev.name (by walk_at "at")) (Ev.name (by walk_at "at")) (small (by simp only [List.length_map] at hws ⊢; (first | lia | omega))))) (by walk_at "put") (Ex.nil ?_))
        rw [← List.map_append]
        exact ih (wstep other W c) (wstep_le f2) f3' (fun x hx => f4 x (by simp [hx])) _ _ _ _ _ _ _
  · rintro v ⟨x1, x2, x3, x4, x5, x6, x7, hv⟩
    cases hv
    have hwl : (waysOf one other).length ≤ 216 := by
      have : ∀ (u : List Nat) (W : List (Nat × Int)), (u.foldl (wstep other) W).length ≤ W.length * 6 ^ u.length := fun u => by
        induction u with
        | nil => intro W; simp
        | cons c u ih =>
          intro W
          have h1 := ih (wstep other W c)
          have h2 := wstep_len (other := other) (ways := W) (c := c) hl2
          have h3 : (wstep other W c).length * 6 ^ u.length ≤ (6 * W.length) * 6 ^ u.length := Nat.mul_le_mul_right _ h2
          have h4 : (6 * W.length) * 6 ^ u.length = W.length * 6 ^ (c :: u).length := by rw [List.length_cons, Nat.pow_succ, Nat.mul_comm 6 W.length, Nat.mul_assoc, Nat.mul_comm 6]
          rw [List.foldl_cons]
          (first | lia | omega)
      have h1 := this one [(0, 2 * (other.length : Int))]
      have h2 : 6 ^ one.length ≤ 6 ^ 3 := Nat.pow_le_pow_right (by (first | lia | omega)) hl1
      unfold waysOf
      simp only [List.length_cons, List.length_nil] at h1
      (first | lia | omega)
    refine Ex.cons (ExS.ret (Ev.call (ps := [.list (((waysOf one other).map (·.2)).map PV.int)]) (by simp) (g_min w) (KeptC.blt _) (EvL.cons (EvF.ev ?_) EvL.nil) (Fc.minL hm)) rfl)
    have e : ((waysOf one other).map (·.2)).map PV.int = (waysOf one other).filterMap fun p => some (.int p.2) := by simp
    rw [e]
    exact EvF.compM (tn := ["place", "price"]) (cn := []) (globs := []) (cv := []) (waysOf one other) wy _ wy_inj (Ev.name (by walk_at "at")) Iter.list Caps.nil (fun c hc => ⟨[.int c.1, .int c.2], rfl, Asg.pair (by decide), Ands.nil, Ev.name (by walk_at "at")⟩) (by decide) (small (by (first | lia | omega)))
end Mine
end
noncomputable section
namespace Mine
open PySem.Calls
mutual
noncomputable def PV.ok : PV → Bool
  | .none | .bool _ | .int _ => true
  | .str x => PyData.canLay0 (.str x)
  | .list xs | .tup xs => PV.oks xs
  | _ => false
noncomputable def PV.oks : List PV → Bool
  | [] => true
  | x :: xs => PV.ok x && PV.oks xs
end
mutual
noncomputable def PV.dep : PV → Nat
  | .list xs | .tup xs => PV.deps xs + 1
  | _ => 0
noncomputable def PV.deps : List PV → Nat
  | [] => 0
  | x :: xs => max (PV.dep x) (PV.deps xs)
end
mutual
theorem PV.ok_py : ∀ {p : PV}, p.ok = true → ∃ dt, p.py = some dt ∧ dt.canLay0 = true ∧ dt.depth = p.dep
  | .none, _ => ⟨.none, rfl, rfl, rfl⟩
  | .bool b, _ => ⟨.bool b, rfl, rfl, rfl⟩
  | .int i, _ => ⟨.int i, rfl, rfl, rfl⟩
  | .str x, h => ⟨.str x, rfl, by simpa [PV.ok] using h, rfl⟩
  | .list xs, h => by
    obtain ⟨ds, e, c, dp⟩ := PV.oks_py (by simpa [PV.ok] using h)
    exact ⟨.list ds, by simp [PV.py, e], by simpa [PyData.canLay0] using c, by simp [PyData.depth, PV.dep, dp]⟩
  | .tup xs, h => by
    obtain ⟨ds, e, c, dp⟩ := PV.oks_py (by simpa [PV.ok] using h)
    exact ⟨.tuple ds, by simp [PV.py, e], by simpa [PyData.canLay0] using c, by simp [PyData.depth, PV.dep, dp]⟩
  | .range _ _ _, h => by simp [PV.ok] at h
  | .type _, h => by simp [PV.ok] at h
  | .bi _, h => by simp [PV.ok] at h
  | .fn _, h => by simp [PV.ok] at h
theorem PV.oks_py : ∀ {xs : List PV}, PV.oks xs = true → ∃ ds, PV.pys xs = some ds ∧ PyData.canLayAll0 ds = true ∧ PyData.depthAll ds = PV.deps xs
  | [], _ => ⟨[], rfl, rfl, rfl⟩
  | x :: xs, h => by
    simp only [PV.oks, Bool.and_eq_true] at h
    obtain ⟨a, e1, c1, d1⟩ := PV.ok_py h.1
    obtain ⟨ds, e2, c2, d2⟩ := PV.oks_py h.2
    exact ⟨a :: ds, by simp [PV.pys, e1, e2], by simp [PyData.canLayAll0, c1, c2], by simp [PyData.depthAll, PV.deps, d1, d2]⟩
end
theorem PV.oks_mem : ∀ {xs : List PV}, (∀ x ∈ xs, x.ok = true) → PV.oks xs = true
  | [], _ => rfl
  | x :: xs, h => by simp only [PV.oks, Bool.and_eq_true]; exact ⟨h x (by simp), PV.oks_mem fun y hy => h y (by simp [hy])⟩
theorem PV.deps_mem {n : Nat} : ∀ {xs : List PV}, (∀ x ∈ xs, x.dep ≤ n) → PV.deps xs ≤ n
  | [], _ => by simp [PV.deps]
  | x :: xs, h => by
    simp only [PV.deps]
    have h1 := h x (by simp)
    have h2 := PV.deps_mem (n := n) (xs := xs) fun y hy => h y (by simp [hy])
    (first | lia | omega)
theorem ok_S {l : List Nat} (h : ∀ c ∈ l, c < 128) : (PV.str (S l)).ok = true := by
  simp only [PV.ok, PyData.canLay0]
  unfold PyData.strOk S
  simp only [List.all_toArray', List.all_eq_true, decide_eq_true_eq]
  intro c hc
  have := h c hc
  (first | lia | omega)
section
variable {w : World} {d : Nat} {Γ : Cx} {vals vals' : List Sl} {P : Out → Prop}
theorem shaped_of {p : PV} (h : p.ok = true) (hd : p.dep ≤ 60) : ∃ dt, p.py = some dt ∧ PySem.SeqAt.shaped dt = true ∧ dt.canLay0 = true := by
  obtain ⟨dt, e, c, dp⟩ := PV.ok_py h
  exact ⟨dt, e, by unfold SeqAt.shaped; rw [c, dp]; simp; (first | lia | omega), c⟩
theorem Co.neSame {p : PV} (h : p.ok = true) (hd : p.dep ≤ 60) : Co w d .NotEq p p false := by
  obtain ⟨dt, e, s, c⟩ := shaped_of h hd
  have := Co.neD (w := w) (d := d) e e s s
  rwa [SeqAt.eqv_refl dt c] at this
theorem Co.eqNil {xs : List PV} (h : PV.oks xs = true) (hd : PV.deps xs ≤ 59) : Co w d .Eq (.list xs) (.list []) xs.isEmpty := by
  obtain ⟨ds, e, c, dp⟩ := PV.oks_py h
  have := Co.eqD (w := w) (d := d) (p := .list xs) (q := .list []) (a := .list ds) (b := .list []) (by simp [PV.py, e]) (by simp [PV.py, PV.pys]) (by simp [SeqAt.shaped, PyData.canLay0, PyData.depth, c, dp]; (first | lia | omega)) (by decide)
  have e2 : PyData.eqv (.list ds) (.list []) = xs.isEmpty := by
    cases xs with
    | nil => simp only [PV.pys, Option.some.injEq] at e; rw [← e]; rfl
    | cons x xs =>
      cases ds with
      | nil => simp only [PV.pys] at e; split at e <;> cases e
      | cons _ _ => simp [PyData.eqv, PyData.eqvAll]
  rwa [e2] at this
theorem Co.neNil {xs : List PV} (h : PV.oks xs = true) (hd : PV.deps xs ≤ 59) : Co w d .NotEq (.list xs) (.list []) (!xs.isEmpty) := by
  obtain ⟨ds, e, c, dp⟩ := PV.oks_py h
  have := Co.neD (w := w) (d := d) (p := .list xs) (q := .list []) (a := .list ds) (b := .list []) (by simp [PV.py, e]) (by simp [PV.py, PV.pys]) (by simp [SeqAt.shaped, PyData.canLay0, PyData.depth, c, dp]; (first | lia | omega)) (by decide)
  have e2 : PyData.eqv (.list ds) (.list []) = xs.isEmpty := by
    cases xs with
    | nil => simp only [PV.pys, Option.some.injEq] at e; rw [← e]; rfl
    | cons x xs =>
      cases ds with
      | nil => simp only [PV.pys] at e; split at e <;> cases e
      | cons _ _ => simp [PyData.eqv, PyData.eqvAll]
  rwa [e2] at this
theorem Co.eqTexts {ls ks : List (List Nat)} (h1 : ∀ l ∈ ls, ∀ c ∈ l, c < 128) (h2 : ∀ l ∈ ks, ∀ c ∈ l, c < 128) : Co w d .Eq (.list (ls.map fun l => PV.str (S l))) (.list (ks.map fun l => PV.str (S l))) (decide (ls = ks)) := by
  have py : ∀ ls : List (List Nat), PV.pys (ls.map fun l => PV.str (S l)) = some (ls.map fun l => PyData.str (S l)) := fun ls => by
    induction ls with
    | nil => rfl
    | cons l ls ih => simp [PV.pys, PV.py, ih]
  have sh : ∀ ls : List (List Nat), (∀ l ∈ ls, ∀ c ∈ l, c < 128) → SeqAt.shaped (.list (ls.map fun l => PyData.str (S l))) = true := fun ls h => by
    have ok : PV.oks (ls.map fun l => PV.str (S l)) = true := PV.oks_mem fun x hx => by
      obtain ⟨l, hl, rfl⟩ := List.mem_map.mp hx; exact ok_S (h l hl)
    have dp : PV.deps (ls.map fun l => PV.str (S l)) ≤ 0 := PV.deps_mem fun x hx => by
      obtain ⟨l, hl, rfl⟩ := List.mem_map.mp hx; simp [PV.dep]
    obtain ⟨ds, e, c, d1⟩ := PV.oks_py ok
    rw [py ls, Option.some.injEq] at e
    rw [e]
    unfold SeqAt.shaped
    simp [PyData.canLay0, PyData.depth, c, d1]; (first | lia | omega)
  have ev : ∀ ls ks : List (List Nat), PyData.eqvAll (ls.map fun l => PyData.str (S l)) (ks.map fun l => PyData.str (S l)) = decide (ls = ks) := fun ls => by
    induction ls with
    | nil => intro ks; cases ks <;> simp [PyData.eqvAll]
    | cons l ls ih =>
      intro ks
      cases ks with
      | nil => simp [PyData.eqvAll]
      | cons k ks => simp only [List.map_cons, PyData.eqvAll, PyData.eqv, ih, S_beq, List.cons.injEq, Bool.decide_and]
  have := Co.eqD (w := w) (d := d) (p := .list (ls.map fun l => PV.str (S l))) (q := .list (ks.map fun l => PV.str (S l))) (by simp [PV.py, py]) (by simp [PV.py, py]) (sh ls h1) (sh ks h2)
  rwa [show PyData.eqv (.list (ls.map fun l => PyData.str (S l))) (.list (ks.map fun l => PyData.str (S l))) = decide (ls = ks) by rw [PyData.eqv, ev]] at this
end
end Mine
end
noncomputable section
set_option maxRecDepth 100000
namespace Mine
open PySem.Calls
noncomputable abbrev ni (k : Nat) : PV := .int k
theorem ni_inj : ∀ a b, ni a = ni b → a = b := fun a b h => by simp only [ni, PV.int.injEq] at h; (first | lia | omega)
theorem rangeL_ni (n : Nat) : (rangeL 0 1 n).map PV.int = (List.range n).map ni := by
  rw [rangeL_ix]; unfold ix; rw [List.range_eq_range']
noncomputable def bt (n : Int) (k : Nat) : Bool := Builtin.bitAnd (n.fdiv (2 ^ k)) 1 != 0
noncomputable def keptOf (n : Nat) (mask : Int) : List Nat := (List.range n).filter fun k => bt mask k
noncomputable def endsOf (n : Nat) (kept : List Nat) : List Int := [-1] ++ kept.map (fun (k : Nat) => (k : Int)) ++ [(n : Int)]
noncomputable def gapsOf (m : Nat) (ends : List Int) : List Nat := (List.range (m + 1)).filter fun p => decide (1 < ends.getD (p + 1) 0 - ends.getD p 0)
noncomputable def needOf (short got : List Nat) (mask : Nat) : Option (List Nat) :=
  if (keptOf got.length mask).map (fun k => got.getD k 0) = short then some (gapsOf short.length (endsOf got.length (keptOf got.length mask))) else none
noncomputable def needsOf (short got : List Nat) : List (List Nat) := (List.range (2 ^ got.length)).filterMap (needOf short got)
noncomputable def nl (need : List Nat) : PV := .list (need.map ni)
theorem keptOf_lt {n : Nat} {mask : Int} : ∀ k ∈ keptOf n mask, k < n := fun k hk => by
  unfold keptOf at hk; simpa using (List.mem_filter.mp hk).1
theorem keptOf_len {n : Nat} {mask : Int} : (keptOf n mask).length ≤ n := by
  unfold keptOf; exact Nat.le_trans (List.length_filter_le _ _) (by simp)
theorem filter_fm {α : Type} (xs : List α) (p : α → Bool) (g : α → PV) : xs.filterMap (fun k => if p k then some (g k) else none) = (xs.filter p).map g := by
  induction xs with
  | nil => rfl
  | cons x xs ih =>
    rw [List.filterMap_cons]
    cases hp : p x <;> simp [hp, ih]
theorem needs_spec (w : World) (d : Nat) (short got : List Nat) (hs : short.length ≤ 3) (hg : got.length ≤ 5) (hs2 : ∀ c ∈ short, c < 128) (hg2 : ∀ c ∈ got, c < 128) : Fc w (d + 1) (.ref 118) [.str (S short), .str (S got)] (.list ((needsOf short got).map nl)) := by
  refine withK (w := w) ?_
  k_fill
  intro _
  refine Fc.of ⟨[("short", false), ("got", true), ("needs", false), ("mask", true), ("kept", false), ("ends", true)], ["len", "range", "list"]⟩ ["short", "got"] (by k_is) (by k_is) (by decide) (by exact Mine.bind2 fun _ _ => rfl) rfl ?_
  walk_at "flat"
  refine Ex.cons (ExS.assignOwn (EvF.list EvL.nil (small (by simp))) (by simp) (by walk_at "put") ?_)
  have hp32 : 2 ^ got.length ≤ 2 ^ 5 := Nat.pow_le_pow_right (by (first | lia | omega)) hg
  obtain ⟨q1, q2⟩ := range_small (n := 2 ^ got.length) (by (first | lia | omega))
  refine Ex.seq (fun out => ∃ x1 x2 x3 : Sl, out = .next [.val (.str (S short)), .val (.str (S got)), .own ((needsOf short got).map nl), x1, x2, x3]) (ExS.loop (p := .range 0 ((2 ^ got.length : Nat) : Int) 1) (items := (List.range (2 ^ got.length)).map ni) ?_ ?_ ?_) ?_ (fun p h => by obtain ⟨_, _, _, h⟩ := h; cases h) (fun p h => by obtain ⟨_, _, _, h⟩ := h; cases h) (fun p h => by obtain ⟨_, _, _, h⟩ := h; cases h)
  · refine Ev.call (by simp) (g_range w) (KeptC.typ _) (EvL.cons (Ev.is (Ev.bin Ev.int (Ev.call (by simp) (g_len w) (KeptC.blt _) (EvL.cons (Ev.name (by walk_at "at")) EvL.nil) (Fc.lenS (small (by (first | lia | omega))))) (Bo.powI (by (first | lia | omega)) ?_)) ?_) EvL.nil) Fc.range1
    · have e : Builtin.Int.intBits 2 = 2 := by decide +kernel
      rw [e]; (first | lia | omega)
    · rw [Int.toNat_natCast]; simp
  · rw [← rangeL_ni]
    exact Iter.range q1 q2
  · obtain ⟨D, hD⟩ : ∃ D : List (List Nat), D = [] := ⟨_, rfl⟩
    obtain ⟨R, hR⟩ : ∃ R : List Nat, R = List.range (2 ^ got.length) := ⟨_, rfl⟩
    have g1 : needsOf short got = D ++ R.filterMap (needOf short got) := by rw [hD, hR]; rfl
    have g2 : D.length + R.length ≤ 32 := by rw [hD, hR]; simp; (first | lia | omega)
    rw [g1]
    generalize hT : [Sl.un, Sl.un, Sl.un] = tl
    obtain ⟨x1, x2, x3, hT'⟩ : ∃ x1 x2 x3 : Sl, tl = [x1, x2, x3] := ⟨_, _, _, hT.symm⟩
    clear hT
    subst hT'
    refine LoopP.is (items' := R.map ni) (vals' := [.val (.str (S short)), .val (.str (S got)), .own (D.map nl), x1, x2, x3]) ?_ (by rw [hR]) (by rw [hD]; rfl)
    clear g1 hR hD q1 q2
    induction R generalizing D x1 x2 x3 with
    | nil => exact ⟨x1, x2, x3, by simp⟩
    | cons m R ih =>
      obtain ⟨r1, r2⟩ := range_small (n := got.length) (by (first | lia | omega))
      obtain ⟨s1, s2⟩ := range_small (n := short.length + 1) (by (first | lia | omega))
      have hkl := keptOf_len (n := got.length) (mask := m)
      refine ⟨_, AsgS.name (by walk_at "put"), ?_⟩
      refine Ex.cons (ExS.assignCompM (tn := ["k"]) (cn := ["mask"]) (globs := []) (cv := [.int m]) (List.range got.length) ni (fun k => if bt m k then some (ni k) else none) ni_inj (Ev.call (by simp) (g_range w) (KeptC.typ _) (EvL.cons (Ev.call (by simp) (g_len w) (KeptC.blt _) (EvL.cons (Ev.name (by walk_at "at")) EvL.nil) (Fc.lenS (small (by (first | lia | omega))))) EvL.nil) Fc.range1) (by rw [← rangeL_ni]; exact Iter.range r1 r2) (Caps.cons (by walk_at "at") Caps.nil) (fun k hk => ⟨[ni k], rfl, Asg.name, ?_⟩) (by decide) (small (by simp; (first | lia | omega))) (by simp) (by walk_at "put") ?_)
      · cases hb : bt m k with
        | true => exact ⟨Ands.one (Tr.is (Tr.val (Ev.bin (Ev.bin (Ev.name (by walk_at "at")) (Ev.name (by walk_at "at")) (Bo.shrI (by (first | lia | omega)))) Ev.int Bo.andI) Th.int) (by exact hb)), Ev.name (by walk_at "at")⟩
        | false => exact Ands.one (Tr.is (Tr.val (Ev.bin (Ev.bin (Ev.name (by walk_at "at")) (Ev.name (by walk_at "at")) (Bo.shrI (by (first | lia | omega)))) Ev.int Bo.andI) Th.int) (by exact hb))
      rw [filter_fm]
      show Ex w d _ [.val (.str (S short)), .val (.str (S got)), .own (D.map nl), .val (.int m), .own ((keptOf got.length m).map ni), x3] _ _
      refine Ex.freeze (x := "kept") (by walk_at "at") (by walk_at "put") ?_
      refine Ex.seq (fun out => ∃ y : Sl, out = .next [.val (.str (S short)), .val (.str (S got)), .own ((D ++ (needOf short got m).toList).map nl), .val (.int m), .val (.list ((keptOf got.length m).map ni)), y]) ?_ ?_ (fun p h => by obtain ⟨_, h⟩ := h; cases h) (fun p h => by obtain ⟨_, h⟩ := h; cases h) (fun p h => by obtain ⟨_, h⟩ := h; cases h)
      · refine ExS.ite (c := decide ((keptOf got.length m).map (fun k => got.getD k 0) = short)) ?_ (fun h => ?_) (fun h => ?_)
        · refine Tr.is (Tr.cmp (p := .list (((keptOf got.length m).map fun k => [got.getD k 0]).map fun l => PV.str (S l))) (q := .list ((short.map fun c => [c]).map fun l => PV.str (S l))) (EvF.ev ?_) (EvF.ev ?_) (Co.eqTexts ?_ ?_)) ?_
          · rw [show ((keptOf got.length m).map fun k => [got.getD k 0]).map (fun l => PV.str (S l)) = (keptOf got.length m).filterMap fun k => some (PV.str (S [got.getD k 0])) by simp]
            refine EvF.compM (tn := ["k"]) (cn := ["got"]) (globs := []) (cv := [.str (S got)]) (keptOf got.length m) ni _ ni_inj (Ev.name (by walk_at "at")) Iter.list (Caps.cons (by walk_at "at") Caps.nil) (fun k hk => ⟨[ni k], rfl, Asg.name, Ands.nil, ?_⟩) (by decide) (small (by (first | lia | omega)))
            have hlt := keptOf_lt k hk
            refine Ev.sub (Ev.name (by walk_at "at")) (Ev.name (by walk_at "at")) (Gi.str (by (first | lia | omega)) (by (first | lia | omega)) ?_)
            rw [Int.toNat_natCast, List.getD_eq_getElem?_getD, List.getElem?_eq_getElem hlt]; rfl
          · rw [show (short.map fun c => [c]).map (fun l => PV.str (S l)) = short.map fun c => PV.str (S [c]) by simp]
            exact EvF.call (by simp) (g_list w) (KeptC.typ _) (EvL.cons (Ev.name (by walk_at "at")) EvL.nil) (FcF.listS (small (by (first | lia | omega))))
          · intro l hl c hc
            obtain ⟨k, hk, rfl⟩ := List.mem_map.mp hl
            have hlt := keptOf_lt k hk
            rw [List.mem_singleton.mp hc, List.getD_eq_getElem?_getD, List.getElem?_eq_getElem hlt]
            exact hg2 _ (List.getElem_mem hlt)
          · intro l hl c hc
            obtain ⟨k, hk, rfl⟩ := List.mem_map.mp hl
            rw [List.mem_singleton.mp hc]; exact hs2 k hk
          · rw [decide_eq_decide]
            constructor
            · intro h
              have := congrArg (List.map fun l : List Nat => l.headD 0) h
              simpa [Function.comp_def] using this
            · intro h
              rw [← h]; simp
        · have hk := of_decide_eq_true h
          have hlen : (keptOf got.length m).length = short.length := by rw [← hk]; simp
          refine Ex.cons (ExS.assign (p := .list ((endsOf got.length (keptOf got.length m)).map PV.int)) (Ev.is (EvF.ev (FcF_add (EvF.ev (FcF_add (EvF.ev (EvF.list (EvL.cons (Ev.neg Ev.int) EvL.nil) (small (by simp)))) (Ev.name (by walk_at "at")) (small (by simp; (first | lia | omega))))) (EvF.ev (EvF.list (EvL.cons (Ev.call (by simp) (g_len w) (KeptC.blt _) (EvL.cons (Ev.name (by walk_at "at")) EvL.nil) (Fc.lenS (small (by (first | lia | omega))))) EvL.nil) (small (by simp)))) (small (by simp; (first | lia | omega))))) (by unfold endsOf; simp)) (by walk_at "put") ?_)
          have hel : (endsOf got.length (keptOf got.length m)).length = short.length + 2 := by unfold endsOf; simp [hlen]
          refine Ex.cons (ExS.append (p := nl (gapsOf short.length (endsOf got.length (keptOf got.length m)))) (by walk_at "at") (EvF.ev ?_) (small (by simp; (first | lia | omega))) (by walk_at "put") (Ex.nil ⟨.val (.list ((endsOf got.length (keptOf got.length m)).map PV.int)), ?_⟩))
          · have e : (gapsOf short.length (endsOf got.length (keptOf got.length m))).map ni = (List.range (short.length + 1)).filterMap fun p => if decide (1 < (endsOf got.length (keptOf got.length m)).getD (p + 1) 0 - (endsOf got.length (keptOf got.length m)).getD p 0) then some (ni p) else none := by
              rw [filter_fm]; rfl
            rw [e]
            generalize endsOf got.length (keptOf got.length m) = en at hel ⊢
            refine EvF.compM (tn := ["p"]) (cn := ["ends"]) (globs := []) (cv := [.list (en.map PV.int)]) (List.range (short.length + 1)) ni _ ni_inj (Ev.call (by simp) (g_range w) (KeptC.typ _) (EvL.cons (Ev.bin (Ev.call (by simp) (g_len w) (KeptC.blt _) (EvL.cons (Ev.name (by walk_at "at")) EvL.nil) (Fc.lenS (small (by (first | lia | omega))))) Ev.int Bo.addI) EvL.nil) Fc.range1) (by rw [← rangeL_ni]; exact Iter.range (by simpa using s1) (by simpa using s2)) (Caps.cons (by walk_at "at") Caps.nil) (fun p hp => ⟨[ni p], rfl, Asg.name, ?_⟩) (by decide) (small (by simp; (first | lia | omega)))
            have hp' : p < short.length + 1 := by simpa using hp
            have i1 : (en.map PV.int)[((p : Int) + 1).toNat]? = some (.int (en.getD (p + 1) 0)) := by
              have : ((p : Int) + 1).toNat = p + 1 := by (first | lia | omega)
              rw [this, List.getElem?_map, List.getD_eq_getElem?_getD, List.getElem?_eq_getElem (by (first | lia | omega))]; rfl
            have i2 : (en.map PV.int)[(p : Int).toNat]? = some (.int (en.getD p 0)) := by
              rw [Int.toNat_natCast, List.getElem?_map, List.getD_eq_getElem?_getD, List.getElem?_eq_getElem (by (first | lia | omega))]; rfl
            cases hb : decide (1 < en.getD (p + 1) 0 - en.getD p 0) with
            | true => exact ⟨Ands.one (Tr.is (Tr.cmp (Ev.bin (Ev.sub (Ev.name (by walk_at "at")) (Ev.bin (Ev.name (by walk_at "at")) Ev.int Bo.addI) (Gi.list (by (first | lia | omega)) (by (first | lia | omega)) i1)) (Ev.sub (Ev.name (by walk_at "at")) (Ev.name (by walk_at "at")) (Gi.list (by (first | lia | omega)) (by (first | lia | omega)) i2)) Bo.subI) Ev.int Co.gtI) (by exact hb)), Ev.name (by walk_at "at")⟩
            | false => exact Ands.one (Tr.is (Tr.cmp (Ev.bin (Ev.sub (Ev.name (by walk_at "at")) (Ev.bin (Ev.name (by walk_at "at")) Ev.int Bo.addI) (Gi.list (by (first | lia | omega)) (by (first | lia | omega)) i1)) (Ev.sub (Ev.name (by walk_at "at")) (Ev.name (by walk_at "at")) (Gi.list (by (first | lia | omega)) (by (first | lia | omega)) i2)) Bo.subI) Ev.int Co.gtI) (by exact hb))
          · have : needOf short got m = some (gapsOf short.length (endsOf got.length (keptOf got.length m))) := by unfold needOf; rw [if_pos hk]
            rw [this]; simp
        · have hk := of_decide_eq_false h
          refine Ex.nil ⟨x3, ?_⟩
          have : needOf short got m = none := by unfold needOf; rw [if_neg hk]
          rw [this]; simp
      · rintro v ⟨y, hv⟩
        cases hv
        refine Ex.nil ?_
        have e : D ++ (m :: R).filterMap (needOf short got) = (D ++ (needOf short got m).toList) ++ R.filterMap (needOf short got) := by
          rw [List.filterMap_cons]; cases needOf short got m <;> simp
        rw [e]
        apply ih
        have : (needOf short got m).toList.length ≤ 1 := by cases needOf short got m <;> simp
        simp only [List.length_append, List.length_cons] at g2 ⊢
        (first | lia | omega)
  · rintro v ⟨x1, x2, x3, hv⟩
    cases hv
    refine Ex.freeze (x := "needs") (by walk_at "at") (by walk_at "put") ?_
    exact Ex.cons (ExS.ret (Ev.name (by walk_at "at")) rfl)
end Mine
end
noncomputable section
set_option maxRecDepth 100000
namespace Mine
open PySem.Calls
theorem strike_S (l : List Nat) : Txt.replace (S l) (S [46]) (S []) = S (l.filter (· != 46)) := by
  have h := replace_strikes (S l) 46
  have e := S_of (Txt.replace (S l) (S [46]) (S []))
  rw [e]
  exact congrArg S h
section
variable {w : World} {d : Nat} {Γ : Cx} {vals vals' : List Sl} {P : Out → Prop}
theorem Ev.strike {x y z : Str} {px ip sp ap yp zp pos : Pos} {k ky kz : Nat} {xs : List PV} {l : List Nat} (a : At Γ.vars vals x (.val (.list xs))) (h0 : xs[0]? = some (.str (S l))) (hz : l.length ≤ 1000) (hy : y = S [46]) (hzz : z = S [])
    (hline : (ap.endLine == pos.line) = true := by rfl) :
    Ev w d Γ vals (.Call (.Attribute (.Subscript (.Name x px) (.Constant (.int 0) k ip) sp) "replace" ap) [.Constant (.str y) ky yp, .Constant (.str z) kz zp] [] pos) (.str (S (l.filter (· != 46)))) := fun env V A s Q E ok rm kk => by
  obtain ⟨i, c, h1, h2⟩ := a.idx
  obtain ⟨cv, hl, hr⟩ := ok.slot i x c _ h1 h2
  obtain ⟨ad, vs, rfl, _, pl, rs⟩ := rep_list hr
  obtain ⟨v0, hv0, rv0⟩ := rs.get h0
  obtain ⟨t0, rfl⟩ := rep_str rv0
  refine wpAny_Call_method_lateS rfl rfl hline ?_
  refine Subscript_ (loads_name ok.kind (ok.nm x c (List.mem_of_getElem? h1)) hl (wpAny_Constant_int ?_))
  refine tail_any (Heap.IsList.typeIs (s := { s with toks := s.toks + 1 }) pl.isList) slot_list_getitem.lookup (wpAny_getItem_list (s := { s with toks := s.toks + 1 }) pl.isList (by decide) (by decide) (by simpa using hv0) ?_) rfl
  refine ⟨"str", "str.replace", meth_replace.pa, meth_replace.slot, meth_replace.ty, typeIs_str _ _ _, (fun _ e => nomatch e), ?_⟩
  have h3 : wpAny (MW w) A (spliced (backTo pos (starEach [.Constant (.str y) ky yp, .Constant (.str z) kz zp] env))) (fun cvs s₁ => Base w s₁.heap ∧ wpAny (MW w) A (PySem.call (.builtin "str.replace") ([.str (S l) t0] ++ cvs)) Q E s₁) E { s with toks := s.toks + 1 } := by
    refine wpAny_items_cons (wpAny_Constant_str (wpAny_items_cons (wpAny_Constant_str (wpAny_items_nil ⟨ok.base, ?_⟩)) rfl)) rfl
    show wpAny (MW w) A (PySem.call (.builtin "str.replace") [.str (S l) t0, .str y _, .str z _]) Q E _
    subst hy; subst hzz
    refine SC.replace (Nat.succ_ne_zero _) (Nat.succ_ne_zero _) (by show s.toks + 1 ≠ s.toks + 1 + 1; (first | lia | omega)) (by rw [S_beq]; rfl) (by simp only [S_len, List.length_nil]; (first | lia | omega)) fun t' k' => ?_
    rw [strike_S]
    exact kk _ s.heap _ (Stays.refl _) mk_str
  exact callWith_of rfl (KeptC.blt "str.replace") (evalArgs_plain h3)
end
end Mine
end
noncomputable section
set_option maxRecDepth 100000
namespace Mine
open PySem.Calls
theorem Fc.up {w : World} {d e : Nat} {f : Value} {ps : List PV} {p : PV} (h : Fc w d f ps p) (hd : d ≤ e) : Fc w e f ps p := fun V A s Q E cvs b rm al rp k => h V A s Q E cvs b (rm.le hd) al rp k
noncomputable abbrev Row3 : Type := List Nat × Bool × Bool
noncomputable def rowV (r : Row3) : PV := .list [.str (S r.1), .bool r.2.1, .bool r.2.2]
theorem rowV_inj : ∀ a b, rowV a = rowV b → a = b := fun a b h => by
  obtain ⟨a1, a2, a3⟩ := a; obtain ⟨b1, b2, b3⟩ := b
  simp only [rowV, PV.list.injEq, List.cons.injEq, PV.str.injEq, PV.bool.injEq, and_true, S_inj] at h
  simp only [Prod.mk.injEq]
  exact h
theorem rowV_ok {r : Row3} (h : ∀ c ∈ r.1, c < 128) : (rowV r).ok = true ∧ (rowV r).dep ≤ 1 := by
  have := ok_S h
  constructor
  · simp only [rowV, PV.ok, PV.oks, Bool.and_true] at this ⊢; exact this
  · simp [rowV, PV.dep, PV.deps]
noncomputable def fitRow (short : List Nat) (r : Row3) : Bool := decide (r.1.filter (· != 46) = short) && r.2.1
theorem g_type (w : World) : GVal w "type" (.type "type") := by
  refine withK (w := w) ?_
  k_fill
  intro _
  exact GVal.blt (by k_is) (by with_unfolding_all rfl) (by decide) rfl
theorem g_int (w : World) : GVal w "int" (.type "int") := by
  refine withK (w := w) ?_
  k_fill
  intro _
  exact GVal.blt (by k_is) (by with_unfolding_all rfl) (by decide) rfl
theorem judged_spec (w : World) (d : Nat) (short long : List Nat) (seen : List Row3) (m : Int) (hs : ∀ c ∈ short, c ∈ syms) (hl : ∀ c ∈ long, c ∈ syms) (hs1 : short.length ≤ 3) (hl1 : long.length ≤ 5) (hz : seen.length ≤ 100) (hr : ∀ r ∈ seen, r.1.length ≤ 100 ∧ ∀ c ∈ r.1, c < 128)
    (hm : IsMin m ((waysOf short long).map (·.2))) (hlev : ∀ b : Int, (b = m ∨ b = m - 1 ∨ b = 99) → lev short long b = m ∧ lev long short b = m) :
    Fc w (d + 1 + 1 + 1) (.ref 128) [.str (S short), .str (S long), .list (seen.map rowV)] (.bool ((!(seen.filter (fitRow short)).isEmpty) == decide (m = 2 * ((long.length : Int) - short.length)))) := by
  refine withK (w := w) ?_
  k_fill
  intro _
  refine Fc.of ⟨[("short", true), ("long", false), ("seen", false), ("price", false), ("bound", false), ("told", false), ("fitting", false)], ["len", "type", "int", "_law_price", "_levenshtein_distance"]⟩ ["short", "long", "seen"] (by k_is) (by k_is) (by decide) (by exact Mine.bind3 fun _ _ _ => rfl) rfl ?_
  walk_at "flat"
  have l1 : ∀ b : Int, (b = m ∨ b = m - 1 ∨ b = 99) → Fc w (d + 1 + 1) (.ref 84) [.str (S short), .str (S long), .int b] (.int m) := fun b hb => Fc.is (lev_spec w d short long b hs hl (by (first | lia | omega)) (by (first | lia | omega))) (by rw [(hlev b hb).1])
  have l2 : ∀ b : Int, (b = m ∨ b = m - 1 ∨ b = 99) → Fc w (d + 1 + 1) (.ref 84) [.str (S long), .str (S short), .int b] (.int m) := fun b hb => Fc.is (lev_spec w d long short b hl hs (by (first | lia | omega)) (by (first | lia | omega))) (by rw [(hlev b hb).2])
  refine Ex.cons (ExS.assign (Ev.call (by simp) (GVal.glob (v := .ref 101) (by k_is) rfl) (KeptC.fn (by k_is)) (EvL.cons (Ev.name (by walk_at "at")) (EvL.cons (Ev.name (by walk_at "at")) EvL.nil)) ((price_spec w d short long m hs hs1 hl1 hm).up (by (first | lia | omega)))) (by walk_at "put") ?_)
  refine Ex.seq (fun out => ∃ x1 x2 : Sl, out = .next [.val (.str (S short)), .val (.str (S long)), .val (.list (seen.map rowV)), .val (.int m), x1, x2, .un]) (ExS.loop (items := [.int m, .int (m - 1), .int 99]) (Ev.tup (EvL.cons (Ev.name (by walk_at "at")) (EvL.cons (Ev.bin (Ev.name (by walk_at "at")) Ev.int Bo.subI) (EvL.cons Ev.int EvL.nil))) (small (by simp))) Iter.tup ?_) ?_ (fun p h => by obtain ⟨_, _, h⟩ := h; cases h) (fun p h => by obtain ⟨_, _, h⟩ := h; cases h) (fun p h => by obtain ⟨_, _, h⟩ := h; cases h)
  · obtain ⟨bs, hbs⟩ : ∃ bs : List Int, bs = [m, m - 1, 99] := ⟨_, rfl⟩
    have hb : ∀ b ∈ bs, b = m ∨ b = m - 1 ∨ b = 99 := by rw [hbs]; simp
    generalize hT : [Sl.un, Sl.un, Sl.un] = tl
    obtain ⟨x1, x2, hT'⟩ : ∃ x1 x2 : Sl, tl = [x1, x2, .un] := ⟨_, _, hT.symm⟩
    clear hT
    subst hT'
    refine LoopP.is (items' := bs.map PV.int) (vals' := _) ?_ (by rw [hbs]; rfl) rfl
    clear hbs
    induction bs generalizing x1 x2 with
    | nil => exact ⟨x1, x2, rfl⟩
    | cons b bs ih =>
      have hb0 := hb b (by simp)
      refine ⟨_, AsgS.name (by walk_at "put"), ?_⟩
      refine Ex.seq (fun out => ∃ x2 : Sl, out = .next [.val (.str (S short)), .val (.str (S long)), .val (.list (seen.map rowV)), .val (.int m), .val (.int b), x2, .un]) (ExS.loop (items := [.int m, .int m]) (Ev.tup (EvL.cons (Ev.call (by simp) (GVal.glob (v := .ref 84) (by k_is) rfl) (KeptC.fn (by k_is)) (EvL.cons (Ev.name (by walk_at "at")) (EvL.cons (Ev.name (by walk_at "at")) (EvL.cons (Ev.name (by walk_at "at")) EvL.nil))) (l1 b hb0)) (EvL.cons (Ev.call (by simp) (GVal.glob (v := .ref 84) (by k_is) rfl) (KeptC.fn (by k_is)) (EvL.cons (Ev.name (by walk_at "at")) (EvL.cons (Ev.name (by walk_at "at")) (EvL.cons (Ev.name (by walk_at "at")) EvL.nil))) (l2 b hb0)) EvL.nil)) two_small) Iter.tup ?_) ?_ (fun p h => by obtain ⟨_, h⟩ := h; cases h) (fun p h => by obtain ⟨_, h⟩ := h; cases h) (fun p h => by obtain ⟨_, h⟩ := h; cases h)
      · refine ⟨_, AsgS.name (by walk_at "put"), ?_⟩
        refine Ex.cons (ExS.ite (c := false) (Tr.or (Ors.ff (Tr.is (Tr.cmp (Ev.call (by simp) (g_type w) (KeptC.typ _) (EvL.cons (Ev.name (by walk_at "at")) EvL.nil) (Fc.type HasT.int (by decide))) (Ev.glob (by simp) (g_int w) fun _ _ => mk_type) Co.isNotT) (by decide)) (Ors.ff (Tr.is (Tr.cmp (Ev.name (by walk_at "at")) (Ev.name (by walk_at "at")) Co.neI) (by simp)) Ors.nil))) (fun h => by cases h) (fun _ => Ex.nil (Ex.nil ?_)))
        refine ⟨_, AsgS.name (by walk_at "put"), ?_⟩
        refine Ex.cons (ExS.ite (c := false) (Tr.or (Ors.ff (Tr.is (Tr.cmp (Ev.call (by simp) (g_type w) (KeptC.typ _) (EvL.cons (Ev.name (by walk_at "at")) EvL.nil) (Fc.type HasT.int (by decide))) (Ev.glob (by simp) (g_int w) fun _ _ => mk_type) Co.isNotT) (by decide)) (Ors.ff (Tr.is (Tr.cmp (Ev.name (by walk_at "at")) (Ev.name (by walk_at "at")) Co.neI) (by simp)) Ors.nil))) (fun h => by cases h) (fun _ => Ex.nil (Ex.nil ?_)))
        exact ⟨.val (.int m), rfl⟩
      · rintro v ⟨x2, hv⟩
        cases hv
        exact Ex.nil (ih (fun y hy => hb y (by simp [hy])) _ _)
  · rintro v ⟨x1, x2, hv⟩
    cases hv
    refine Ex.cons (ExS.assignCompM (tn := ["row"]) (cn := ["short"]) (globs := []) (cv := [.str (S short)]) seen rowV (fun r => if fitRow short r then some (rowV r) else none) rowV_inj (Ev.name (by walk_at "at")) Iter.list (Caps.cons (by walk_at "at") Caps.nil) (fun r hrr => ⟨[rowV r], rfl, Asg.name, ?_⟩) (by decide) (small (by (first | lia | omega))) (by simp) (by walk_at "put") ?_)
    · obtain ⟨hrl, hrc⟩ := hr r hrr
      cases h1 : decide (r.1.filter (· != 46) = short) with
      | false =>
        rw [if_neg (by unfold fitRow; rw [h1]; simp)]
        exact Ands.one (Tr.and (Ands.ff (Tr.is (Tr.cmp (Ev.strike (xs := [.str (S r.1), .bool r.2.1, .bool r.2.2]) (l := r.1) (by walk_at "at") rfl (by (first | lia | omega)) (by rfl) (by rfl)) (Ev.name (by walk_at "at")) Co.eqS) (by rw [S_beq]; exact h1))))
      | true =>
        cases h2 : r.2.1 with
        | false =>
          rw [if_neg (by unfold fitRow; rw [h1, h2]; simp)]
          exact Ands.one (Tr.and (Ands.tt (Tr.is (Tr.cmp (Ev.strike (xs := [.str (S r.1), .bool r.2.1, .bool r.2.2]) (l := r.1) (by walk_at "at") rfl (by (first | lia | omega)) (by rfl) (by rfl)) (Ev.name (by walk_at "at")) Co.eqS) (by rw [S_beq]; exact h1)) (Ands.one (Tr.is (Tr.val (Ev.sub (p := .list [.str (S r.1), .bool r.2.1, .bool r.2.2]) (Ev.name (by walk_at "at")) Ev.int (Gi.list (p := .bool r.2.1) (by decide) (by decide) rfl)) Th.bool) h2))))
        | true =>
          rw [if_pos (by unfold fitRow; rw [h1, h2]; rfl)]
          exact ⟨Ands.one (Tr.and (Ands.tt (Tr.is (Tr.cmp (Ev.strike (xs := [.str (S r.1), .bool r.2.1, .bool r.2.2]) (l := r.1) (by walk_at "at") rfl (by (first | lia | omega)) (by rfl) (by rfl)) (Ev.name (by walk_at "at")) Co.eqS) (by rw [S_beq]; exact h1)) (Ands.one (Tr.is (Tr.val (Ev.sub (p := .list [.str (S r.1), .bool r.2.1, .bool r.2.2]) (Ev.name (by walk_at "at")) Ev.int (Gi.list (p := .bool r.2.1) (by decide) (by decide) rfl)) Th.bool) h2)))), Ev.name (by walk_at "at")⟩
    · rw [filter_fm]
      refine Ex.freeze (x := "fitting") (by walk_at "at") (by walk_at "put") ?_
      refine Ex.cons (ExS.assign (Ev.call (by simp) (GVal.glob (v := .ref 84) (by k_is) rfl) (KeptC.fn (by k_is)) (EvL.cons (Ev.name (by walk_at "at")) (EvL.cons (Ev.name (by walk_at "at")) (EvL.cons Ev.int EvL.nil))) (l1 99 (by simp))) (by walk_at "put") ?_)
      refine Ex.cons (ExS.ret (Ev.is (Ev.cmp (Ev.cmp (Ev.name (by walk_at "at")) (EvF.ev (EvF.list EvL.nil (small (by simp)))) (Co.neNil (PV.oks_mem ?_) (Nat.le_trans (PV.deps_mem (n := 1) ?_) (by (first | lia | omega))))) (Ev.cmp (Ev.name (by walk_at "at")) (Ev.bin Ev.int (Ev.bin (Ev.call (by simp) (g_len w) (KeptC.blt _) (EvL.cons (Ev.name (by walk_at "at")) EvL.nil) (Fc.lenS (small (by (first | lia | omega))))) (Ev.call (by simp) (g_len w) (KeptC.blt _) (EvL.cons (Ev.name (by walk_at "at")) EvL.nil) (Fc.lenS (small (by (first | lia | omega))))) Bo.subI) (Bo.mulI (IntMulOk.of_left (by decide)))) Co.eqI) Co.eqB) ?_) rfl)
      · intro p hp
        obtain ⟨r, hr', rfl⟩ := List.mem_map.mp hp
        exact (rowV_ok (hr r (List.mem_filter.mp hr').1).2).1
      · intro p hp
        obtain ⟨r, hr', rfl⟩ := List.mem_map.mp hp
        exact (rowV_ok (hr r (List.mem_filter.mp hr').1).2).2
      · rw [List.isEmpty_map]
        congr 1
end Mine
end
noncomputable section
set_option maxRecDepth 100000
namespace Mine
open PySem.Calls
/-- a store into a cell: no swap -/
theorem ExS.assignCell {w : World} {d : Nat} {Γ : Cx} {vals vals' : List Sl} {P : Out → Prop} {x : Str} {px pos : Pos} {e : Expr} {p : PV} (h : Ev w d Γ vals e p) (hx : (x, true) ∈ Γ.vars) (pt : Put Γ.vars vals x (.val p) vals') (hp : P (.next vals')) :
    ExS w d Γ vals (.Assign [.Name x px] e pos) P := fun env V₀ oa A s Q E z rm k =>
  wpAny_Assign_Name (h env _ A s _ _ z.ok rm fun cv h' tk st r => (z.stays st).store pt r fun h2 tk2 z2 stp => k (.next vals') .next oa h2 tk2 hp ⟨rfl, z2⟩ ((Step.stays st).trans stp)) (by
    unfold swapsWith
    have hk := z.kc x hx
    cases e <;> first | rfl | (simp only [hk]; show pure _ = pure false; congr 1; simp))
theorem fdiv_nat (a b : Nat) : (a : Int).fdiv (b : Int) = ((a / b : Nat) : Int) := by
  rw [Int.fdiv_eq_ediv_of_nonneg _ (by (first | lia | omega))]; rfl
theorem fmod_nat (a b : Nat) : (a : Int).fmod (b : Int) = ((a % b : Nat) : Int) := by
  rw [Int.fmod_eq_emod_of_nonneg _ (by (first | lia | omega))]; rfl
noncomputable def numOf (xs : List Int) (k : Nat) : Nat := (([31, 97, 3].getD k 0 + (every xs k 3).sum).fmod 1000000).toNat
theorem num_cast (xs : List Int) (k : Nat) : ([31, 97, 3].getD k 0 + (every xs k 3).sum).fmod 1000000 = (numOf xs k : Int) := by
  unfold numOf
  rw [Int.toNat_of_nonneg]
  rw [Int.fmod_eq_emod_of_nonneg _ (by (first | lia | omega))]
  exact Int.emod_nonneg _ (by (first | lia | omega))
noncomputable def alpha : List Nat := [97, 98, 65, 34, 32, 92]
noncomputable def longOf (h : Nat) : List Nat := (List.range (1 + h % 5)).map fun k => alpha.getD (h / 5 / 6 ^ k % 6) 0
noncomputable def pick0 (long : List Nat) (n : Nat) : List Nat := (((List.range long.length).filter fun k => bt n k).map fun k => long.getD k 0).take 3
noncomputable def short0 (long : List Nat) (n : Nat) : List Nat := if pick0 long n = [] then [97] else pick0 long n
noncomputable def tn2 (s : List Nat) (t : Nat) : List Nat := if t = 2 then swp (s.headD 0) :: s.tail else s
noncomputable def tn3 (s : List Nat) (t : Nat) : List Nat := if t = 3 then (s ++ [s.getLastD 0]).take 3 else s
noncomputable def tn4 (s : List Nat) (t : Nat) : List Nat := if t = 4 then s.reverse else s
noncomputable def shortOf (long : List Nat) (n : Nat) : List Nat := tn4 (tn3 (tn2 (short0 long n) (n / 32 % 5)) (n / 32 % 5)) (n / 32 % 5)
noncomputable def qt (n : Nat) : Bool := decide (n / 160 % 2 = 1)
noncomputable def wordsOf (xs : List Int) : List (List Nat) := [longOf (numOf xs 0), shortOf (longOf (numOf xs 0)) (numOf xs 1), shortOf (longOf (numOf xs 0)) (numOf xs 2)]
noncomputable def textOf (xs : List Int) : List Nat := (List.range 3).flatMap fun k => spelled ((wordsOf xs).getD k []) (qt (numOf xs k)) ++ [10]
theorem every_map (xs : List Int) (a c : Nat) : every (xs.map PV.int) a c = (every xs a c).map PV.int := by
  unfold every
  rw [List.length_map, List.map_filterMap]
  congr 1
  funext k
  rw [List.getElem?_map]
theorem flat_one (l : List Nat) : (l.map fun c => [c]).flatten = l := by
  induction l with
  | nil => rfl
  | cons c l ih => simp [ih]
/-- a short word: not empty, at most three signs -/
noncomputable def Wd (s : List Nat) : Prop := s ≠ [] ∧ s.length ≤ 3 ∧ ∀ c ∈ s, c ∈ syms
theorem swp_syms {c : Nat} (h : c ∈ syms) : swp c ∈ syms := by
  have : ∀ c ∈ syms, swp c ∈ syms := by decide
  exact this c h
theorem short0_ok {long : List Nat} {n : Nat} (h : ∀ c ∈ long, c ∈ syms) : Wd (short0 long n) := by
  unfold short0
  split
  · exact ⟨by simp, by simp, by decide⟩
  · rename_i hne
    refine ⟨hne, by unfold pick0; simp; (first | lia | omega), fun c hc => ?_⟩
    unfold pick0 at hc
    obtain ⟨k, hk, rfl⟩ := List.mem_map.mp (List.mem_of_mem_take hc)
    have hlt : k < long.length := by simpa using (List.mem_filter.mp hk).1
    rw [List.getD_eq_getElem?_getD, List.getElem?_eq_getElem hlt]
    exact h _ (List.getElem_mem hlt)
theorem tn2_ok {s : List Nat} {t : Nat} (h : Wd s) : Wd (tn2 s t) := by
  unfold tn2
  split
  · obtain ⟨h1, h2, h3⟩ := h
    cases s with
    | nil => exact absurd rfl h1
    | cons c s =>
      refine ⟨by simp, by simpa using h2, fun x hx => ?_⟩
      rcases List.mem_cons.mp hx with rfl | hx
      · exact swp_syms (h3 c (by simp))
      · exact h3 x (by simp at hx; simp [hx])
  · exact h
theorem tn3_ok {s : List Nat} {t : Nat} (h : Wd s) : Wd (tn3 s t) := by
  unfold tn3
  split
  · obtain ⟨h1, h2, h3⟩ := h
    refine ⟨fun e => ?_, by simp; (first | lia | omega), fun x hx => ?_⟩
    · cases s with
      | nil => exact absurd rfl h1
      | cons c s => simp at e
    · have hx := List.mem_of_mem_take hx
      rcases List.mem_append.mp hx with hx | hx
      · exact h3 x hx
      · have : x = s.getLastD 0 := by simpa using hx
        rw [this]
        cases s with
        | nil => exact absurd rfl h1
        | cons c s =>
          rw [List.getLastD_cons]
          exact h3 _ (by
            cases s with
            | nil => simp
            | cons d s => rw [List.getLastD_eq_getLast?]; simp [List.getLast?_eq_some_getLast])
  · exact h
theorem tn4_ok {s : List Nat} {t : Nat} (h : Wd s) : Wd (tn4 s t) := by
  unfold tn4
  split
  · exact ⟨by simpa using h.1, by simpa using h.2.1, fun c hc => h.2.2 c (by simpa using hc)⟩
  · exact h
theorem shortOf_ok {long : List Nat} {n : Nat} (h : ∀ c ∈ long, c ∈ syms) : Wd (shortOf long n) := tn4_ok (tn3_ok (tn2_ok (short0_ok h)))
theorem g_sum (w : World) : GVal w "sum" (.builtin "sum") := by
  refine withK (w := w) ?_
  k_fill
  intro _
  exact GVal.blt (by k_is) (by with_unfolding_all rfl) (by decide) rfl
set_option maxHeartbeats 8000000 in
theorem draw_spec (w : World) (d : Nat) (xs : List Int) (hx : xs.length ≤ 63) : Fc w (d + 1 + 1) (.ref 106) [.list (xs.map PV.int)] (.tup [.str (S (longOf (numOf xs 0))), .list [.str (S (shortOf (longOf (numOf xs 0)) (numOf xs 1))), .str (S (shortOf (longOf (numOf xs 0)) (numOf xs 2)))], .str (S (textOf xs))]) := by
  refine withK (w := w) ?_
  k_fill
  intro _
  refine Fc.of ⟨[("script", true), ("numbers", true), ("head", true), ("long", true), ("shorts", false), ("number", true), ("short", false), ("turn", false), ("words", true), ("text", false)], ["len", "range"]⟩ ["script"] (by k_is) (by k_is) (by decide) (by exact Mine.bind1 fun _ => rfl) rfl ?_
  walk_at "flat"
  obtain ⟨r1, r2⟩ := range_small (n := 3) (by (first | lia | omega))
  refine Ex.cons (ExS.assignCell (p := .list ((List.range 3).map fun k => ni (numOf xs k))) (EvF.ev ?_) (by simp) (by walk_at "put") ?_)
  · rw [show ((List.range 3).map fun k => ni (numOf xs k)) = (List.range 3).filterMap fun k => some (ni (numOf xs k)) by simp]
    refine EvF.compM (tn := ["k"]) (cn := ["script"]) (globs := ["sum"]) (cv := [.list (xs.map PV.int)]) (List.range 3) ni _ ni_inj (Ev.call (by simp) (g_range w) (KeptC.typ _) (EvL.cons Ev.int EvL.nil) Fc.range1) (by rw [← rangeL_ni]; exact Iter.range r1 r2) (Caps.cons (by walk_at "at") Caps.nil) (fun k hk => ⟨[ni k], rfl, Asg.name, Ands.nil, ?_⟩) (by decide) (small (by simp))
    have hk3 : k < 3 := by simpa using hk
    refine Ev.is (Ev.bin (Ev.bin (Ev.sub (EvF.ev (EvF.list (EvL.cons Ev.int (EvL.cons Ev.int (EvL.cons Ev.int EvL.nil))) (small (by simp)))) (Ev.name (by walk_at "at")) (Gi.list (p := .int ([31, 97, 3].getD k 0)) (by (first | lia | omega)) (by (first | lia | omega)) ?_)) (Ev.call (ps := [.list ((every xs k 3).map PV.int)]) (by simp [cxc]) (g_sum w) (KeptC.blt _) (EvL.cons (Ev.is (EvF.ev (EvF.step (a := k) (c := 3) (Ev.name (by walk_at "at")) (Ev.name (by walk_at "at")) Ev.int (by (first | lia | omega)) (small (by simp; (first | lia | omega))))) (by rw [every_map])) EvL.nil) Fc.sumL) Bo.addI) (Ev.bin Ev.int Ev.int (Bo.powI (by decide) (by decide +kernel))) (Bo.modI (by decide))) ?_
    · rw [Int.toNat_natCast]
      have : k = 0 ∨ k = 1 ∨ k = 2 := by (first | lia | omega)
      rcases this with rfl | rfl | rfl <;> rfl
    · have e6 : (10 : Int) ^ (6 : Int).toNat = 1000000 := by decide
      rw [e6, num_cast]
  · have hn : ((List.range 3).map fun k => ni (numOf xs k)) = [ni (numOf xs 0), ni (numOf xs 1), ni (numOf xs 2)] := rfl
    rw [hn]
    generalize hN0 : numOf xs 0 = n0
    generalize hN1 : numOf xs 1 = n1
    generalize hN2 : numOf xs 2 = n2
    refine Ex.cons (ExS.assign (p := .int n0) (Ev.sub (Ev.name (by walk_at "at")) Ev.int (Gi.list (by decide) (by decide) rfl)) (by walk_at "put") ?_)
    have hlw : (longOf n0).length = 1 + n0 % 5 := by simp [longOf]
    have hl5 : (longOf n0).length ≤ 5 := by (first | lia | omega)
    obtain ⟨s1, s2⟩ := range_small (n := 1 + n0 % 5) (by (first | lia | omega))
    have hm5 : PV.int (1 + (n0 : Int).fmod 5) = PV.int ((1 + n0 % 5 : Nat) : Int) := by
      have : (n0 : Int).fmod 5 = ((n0 % 5 : Nat) : Int) := fmod_nat n0 5
      rw [this]; simp
    refine Ex.cons (ExS.assign (p := .str (S (longOf n0))) (Ev.meth (p := .str (S [])) (ps := [.list (((longOf n0).map fun c => [c]).map fun l => PV.str (S l))]) ?_ HasT.str meth_join (EvL.cons (EvF.ev ?_) EvL.nil) ?_) (by walk_at "put") ?_)
    · exact Ev.is Ev.str (by rfl)
    · rw [show ((longOf n0).map fun c => [c]).map (fun l => PV.str (S l)) = (List.range (1 + n0 % 5)).filterMap fun k => some (PV.str (S [alpha.getD (n0 / 5 / 6 ^ k % 6) 0])) by simp [longOf]]
      refine EvF.compM (tn := ["k"]) (cn := ["head"]) (globs := []) (cv := [.int n0]) (List.range (1 + n0 % 5)) ni _ ni_inj (Ev.call (by simp) (g_range w) (KeptC.typ _) (EvL.cons (Ev.is (Ev.bin Ev.int (Ev.bin (Ev.name (by walk_at "at")) Ev.int (Bo.modI (by decide))) Bo.addI) hm5) EvL.nil) Fc.range1) (by rw [← rangeL_ni]; exact Iter.range s1 s2) (Caps.cons (by walk_at "at") Caps.nil) (fun k hk => ⟨[ni k], rfl, Asg.name, Ands.nil, ?_⟩) (by decide) (small (by simp; (first | lia | omega)))
      have hk5 : k < 5 := by have : k < 1 + n0 % 5 := by simpa using hk
                             (first | lia | omega)
      have h6 : (6 : Int) ^ (k : Int).toNat = ((6 ^ k : Nat) : Int) := by rw [Int.toNat_natCast]; simp
      have h6s : 6 ^ k ≤ 6 ^ 4 := Nat.pow_le_pow_right (by (first | lia | omega)) (by (first | lia | omega))
      have h6p : 0 < 6 ^ k := Nat.pow_pos (by (first | lia | omega))
      have hlt : n0 / 5 / 6 ^ k % 6 < 6 := Nat.mod_lt _ (by (first | lia | omega))
      refine Ev.sub (p := .str (S alpha)) (q := .int ((n0 / 5 / 6 ^ k % 6 : Nat) : Int)) (Ev.is Ev.str (by rfl)) (Ev.is (Ev.bin (Ev.bin (Ev.bin (Ev.name (by walk_at "at")) Ev.int (Bo.divI (by decide) (by rw [PyProof.noPylong_small (by decide)]; simp))) (Ev.bin Ev.int (Ev.name (by walk_at "at")) (Bo.powI (by (first | lia | omega)) ?_)) (Bo.divI ?_ ?_)) Ev.int (Bo.modI (by decide))) ?_) (Gi.str (by (first | lia | omega)) (by (first | lia | omega)) ?_)
      · have e : Builtin.Int.intBits 6 = 3 := by decide +kernel
        rw [e]; (first | lia | omega)
      · rw [h6]; simp only [beq_iff_eq]; (first | lia | omega)
      · rw [h6, PyProof.noPylong_small (by rw [Int.natAbs_natCast]; (first | lia | omega))]; simp
      · rw [h6]
        have a1 : (n0 : Int).fdiv 5 = ((n0 / 5 : Nat) : Int) := fdiv_nat n0 5
        have a2 := fdiv_nat (n0 / 5) (6 ^ k)
        have a3 : ((n0 / 5 / 6 ^ k : Nat) : Int).fmod 6 = ((n0 / 5 / 6 ^ k % 6 : Nat) : Int) := fmod_nat (n0 / 5 / 6 ^ k) 6
        rw [a1, a2, a3]
      · rw [Int.toNat_natCast, List.getD_eq_getElem?_getD, List.getElem?_eq_getElem (show n0 / 5 / 6 ^ k % 6 < alpha.length from hlt)]; rfl
    · have e : longOf n0 = ((longOf n0).map fun c => [c]).flatten := (flat_one _).symm
      refine Fc.is (Fc.join rfl (by rw [← e]; (first | lia | omega))) (by rw [← e])
    · refine Ex.cons (ExS.assignOwn (EvF.list EvL.nil (small (by simp))) (by simp) (by walk_at "put") ?_)
      have hne : longOf n0 ≠ [] := fun e => by rw [e] at hlw; simp at hlw; (first | lia | omega)
      obtain ⟨t1, t2⟩ := range_small (n := (longOf n0).length) (by (first | lia | omega))
      have hsy : ∀ c ∈ longOf n0, c ∈ syms := fun c hc => by
        obtain ⟨k, _, rfl⟩ := List.mem_map.mp hc
        have hlt : n0 / 5 / 6 ^ k % 6 < 6 := Nat.mod_lt _ (by (first | lia | omega))
        generalize n0 / 5 / 6 ^ k % 6 = j at hlt
        have : ∀ j, j < 6 → alpha.getD j 0 ∈ syms := by decide
        exact this j hlt
      refine Ex.seq (fun out => ∃ x1 x2 x3 : Sl, out = .next [.val (.list (xs.map PV.int)), .val (.list [ni n0, ni n1, ni n2]), .val (.int n0), .val (.str (S (longOf n0))), .own [.str (S (shortOf (longOf n0) n1)), .str (S (shortOf (longOf n0) n2))], x1, x2, x3, .un, .un]) (ExS.loop (p := .list [ni n1, ni n2]) (EvF.ev (EvF.is (EvF.slice (Ev.name (by walk_at "at")) (EvO.int Ev.int) EvO.none (small (by simp))) (by rfl))) Iter.list ?_) ?_ (fun p h => by obtain ⟨_, _, _, h⟩ := h; cases h) (fun p h => by obtain ⟨_, _, _, h⟩ := h; cases h) (fun p h => by obtain ⟨_, _, _, h⟩ := h; cases h)
      · obtain ⟨ns, hns⟩ : ∃ ns : List Nat, ns = [n1, n2] := ⟨_, rfl⟩
        obtain ⟨D, hD⟩ : ∃ D : List PV, D = [] := ⟨_, rfl⟩
        have g1 : ([.str (S (shortOf (longOf n0) n1)), .str (S (shortOf (longOf n0) n2))] : List PV) = D ++ ns.map fun n => PV.str (S (shortOf (longOf n0) n)) := by rw [hD, hns]; rfl
        have g2 : D.length + ns.length ≤ 2 := by rw [hD, hns]; simp
        rw [g1]
        generalize hT : [Sl.un, Sl.un, Sl.un, Sl.un, Sl.un] = tl
        obtain ⟨x1, x2, x3, hT'⟩ : ∃ x1 x2 x3 : Sl, tl = [x1, x2, x3, .un, .un] := ⟨_, _, _, hT.symm⟩
        clear hT
        subst hT'
        refine LoopP.is (items' := ns.map ni) (vals' := [.val (.list (xs.map PV.int)), .val (.list [ni n0, ni n1, ni n2]), .val (.int n0), .val (.str (S (longOf n0))), .own D, x1, x2, x3, .un, .un]) ?_ (by rw [hns]; rfl) (by rw [hD])
        clear g1 hns hD s1 s2 hm5 hn hN0 hN1 hN2 r1 r2
        generalize longOf n0 = long at *
        induction ns generalizing D x1 x2 x3 with
        | nil => exact ⟨x1, x2, x3, by simp⟩
        | cons n ns ih =>
          refine ⟨_, AsgS.name (by walk_at "put"), ?_⟩
          have hw0 := short0_ok (n := n) hsy
          have hw2 := tn2_ok (t := n / 32 % 5) hw0
          have hw3 := tn3_ok (t := n / 32 % 5) hw2
          refine Ex.cons (ExS.assign (p := .str (S (short0 long n))) ?_ (by walk_at "put") ?_)
          · have ep : (((List.range long.length).filter fun k => bt n k).map fun k => [long.getD k 0]).flatten = ((List.range long.length).filter fun k => bt n k).map fun k => long.getD k 0 := by
              have := flat_one (((List.range long.length).filter fun k => bt n k).map fun k => long.getD k 0)
              rw [List.map_map] at this
              exact this
            have epl : (((List.range long.length).filter fun k => bt n k).map fun k => long.getD k 0).length ≤ 5 := by
              rw [List.length_map]; exact Nat.le_trans (List.length_filter_le _ _) (by simp; (first | lia | omega))
            refine Ev.is (Ev.or2 (Ev.slice (l := ((List.range long.length).filter fun k => bt n k).map fun k => long.getD k 0) (Ev.meth (p := .str (S [])) (ps := [.list ((((List.range long.length).filter fun k => bt n k).map fun k => [long.getD k 0]).map fun l => PV.str (S l))]) (Ev.is Ev.str (by rfl)) HasT.str meth_join (EvL.cons (EvF.ev ?_) EvL.nil) (Fc.is (Fc.join rfl (by rw [ep]; (first | lia | omega))) (by rw [ep]))) EvO.none (EvO.int Ev.int) (small (by (first | lia | omega)))) (Th.str (small (by have := psl_le (((List.range long.length).filter fun k => bt n k).map fun k => long.getD k 0) none (some 3); (first | lia | omega)))) (fun _ => Ev.str)) ?_
            · rw [show (((List.range long.length).filter fun k => bt n k).map fun k => [long.getD k 0]).map (fun l => PV.str (S l)) = (List.range long.length).filterMap (fun k => if bt n k then some (PV.str (S [long.getD k 0])) else none) by rw [filter_fm, List.map_map]; rfl]
              refine EvF.compM (tn := ["k"]) (cn := ["number", "long"]) (globs := []) (cv := [.int n, .str (S long)]) (List.range long.length) ni _ ni_inj (Ev.call (by simp) (g_range w) (KeptC.typ _) (EvL.cons (Ev.call (by simp) (g_len w) (KeptC.blt _) (EvL.cons (Ev.name (by walk_at "at")) EvL.nil) (Fc.lenS (small (by (first | lia | omega))))) EvL.nil) Fc.range1) (by rw [← rangeL_ni]; exact Iter.range t1 t2) (Caps.cons (by walk_at "at") (Caps.cons (by walk_at "at") Caps.nil)) (fun k hk => ⟨[ni k], rfl, Asg.name, ?_⟩) (by decide) (small (by simp; (first | lia | omega)))
              have hlt : k < long.length := by simpa using hk
              have hgk : long[(k : Int).toNat]? = some (long.getD k 0) := by rw [Int.toNat_natCast, List.getD_eq_getElem?_getD, List.getElem?_eq_getElem hlt]; rfl
              cases hb : bt n k with
              | true => exact ⟨Ands.one (Tr.is (Tr.val (Ev.bin (Ev.bin (Ev.name (by walk_at "at")) (Ev.name (by walk_at "at")) (Bo.shrI (by (first | lia | omega)))) Ev.int Bo.andI) Th.int) (by exact hb)), Ev.sub (Ev.name (by walk_at "at")) (Ev.name (by walk_at "at")) (Gi.str (by (first | lia | omega)) (by (first | lia | omega)) hgk)⟩
              | false => exact Ands.one (Tr.is (Tr.val (Ev.bin (Ev.bin (Ev.name (by walk_at "at")) (Ev.name (by walk_at "at")) (Bo.shrI (by (first | lia | omega)))) Ev.int Bo.andI) Th.int) (by exact hb))
            · have e3 : psl (((List.range long.length).filter fun k => bt n k).map fun k => long.getD k 0) none (some 3) = pick0 long n := psl_0n (b := 3)
              rw [e3]
              unfold short0
              by_cases hp : pick0 long n = []
              · rw [if_pos hp, hp]; rfl
              · rw [if_neg hp, if_pos (by simpa using hp)]
          · have hturn : ((n : Int).fdiv 32).fmod 5 = ((n / 32 % 5 : Nat) : Int) := by
              have a1 : (n : Int).fdiv 32 = ((n / 32 : Nat) : Int) := fdiv_nat n 32
              have a2 : ((n / 32 : Nat) : Int).fmod 5 = ((n / 32 % 5 : Nat) : Int) := fmod_nat (n / 32) 5
              rw [a1, a2]
            refine Ex.cons (ExS.assign (p := .int ((n / 32 % 5 : Nat) : Int)) (Ev.is (Ev.bin (Ev.bin (Ev.name (by walk_at "at")) Ev.int (Bo.divI (by decide) (by rw [PyProof.noPylong_small (by decide)]; simp))) Ev.int (Bo.modI (by decide))) (by rw [hturn])) (by walk_at "put") ?_)
            have hso : shortOf long n = tn4 (tn3 (tn2 (short0 long n) (n / 32 % 5)) (n / 32 % 5)) (n / 32 % 5) := rfl
            have e5 : D ++ (n :: ns).map (fun n => PV.str (S (shortOf long n))) = (D ++ [.str (S (tn4 (tn3 (tn2 (short0 long n) (n / 32 % 5)) (n / 32 % 5)) (n / 32 % 5)))]) ++ ns.map fun n => PV.str (S (shortOf long n)) := by rw [List.map_cons, hso]; simp
            rw [e5]
            generalize n / 32 % 5 = t at *
            generalize short0 long n = s0 at *
            refine Ex.one (v := [.val (.list (xs.map PV.int)), .val (.list [ni n0, ni n1, ni n2]), .val (.int n0), .val (.str (S long)), .own D, .val (ni n), .val (.str (S (tn2 s0 t))), .val (.int t), .un, .un]) (ExS.ite (Tr.cmp (Ev.name (by walk_at "at")) Ev.int Co.eqI) (fun h => ?_) (fun h => Ex.nil ?_)) ?_
            · have ht : t = 2 := by simp at h; (first | lia | omega)
              obtain ⟨g1, g2', g3⟩ := hw0
              cases s0 with
              | nil => exact absurd rfl g1
              | cons c r =>
                have hc := g3 c (by simp)
                refine Ex.cons (ExS.assign (Ev.is (Ev.bin (Ev.meth0 (Ev.sub (Ev.name (by walk_at "at")) Ev.int (Gi.str (c := c) (by decide) (by decide) rfl)) HasT.str meth_swapcase (Fc.swp hc)) (Ev.is (Ev.slice (Ev.name (by walk_at "at")) (EvO.int Ev.int) EvO.none (small (by (first | lia | omega)))) (show _ = PV.str (S r) by have := psl_n (l := c :: r) (a := 1); exact congrArg (fun x => PV.str (S x)) this)) (Bo.addS (small (by simp only [S_len, List.length_cons, List.length_nil] at g2' ⊢; (first | lia | omega))))) (show _ = PV.str (S (tn2 (c :: r) t)) by rw [S_add, tn2, if_pos ht]; rfl)) (by walk_at "put") (Ex.nil rfl))
            · have ht : t ≠ 2 := by simp at h; (first | lia | omega)
              rw [tn2, if_neg ht]
            generalize tn2 s0 t = s2 at *
            refine Ex.one (v := [.val (.list (xs.map PV.int)), .val (.list [ni n0, ni n1, ni n2]), .val (.int n0), .val (.str (S long)), .own D, .val (ni n), .val (.str (S (tn3 s2 t))), .val (.int t), .un, .un]) (ExS.ite (Tr.cmp (Ev.name (by walk_at "at")) Ev.int Co.eqI) (fun h => ?_) (fun h => Ex.nil ?_)) ?_
            · have ht : t = 3 := by simp at h; (first | lia | omega)
              obtain ⟨g1, g2', g3⟩ := hw2
              have hpos : 0 < s2.length := List.length_pos_iff.mpr g1
              have hlast : s2[(-1 + (s2.length : Int)).toNat]? = some (s2.getLastD 0) := by
                have : (-1 + (s2.length : Int)).toNat = s2.length - 1 := by (first | lia | omega)
                rw [this, ← List.getLast?_eq_getElem?, List.getLastD_eq_getLast?]
                cases hl : s2.getLast? with
                | none => exact absurd (List.getLast?_eq_none_iff.mp hl) g1
                | some _ => rfl
              refine Ex.cons (ExS.assign (Ev.is (Ev.slice (l := s2 ++ [s2.getLastD 0]) (Ev.is (Ev.bin (Ev.name (by walk_at "at")) (Ev.sub (Ev.name (by walk_at "at")) (Ev.neg Ev.int) (Gi.strNeg (c := s2.getLastD 0) (by decide) (by (first | lia | omega)) (by decide) hlast)) (Bo.addS (small (by simp only [S_len, List.length_cons, List.length_nil]; (first | lia | omega))))) (by rw [S_add])) EvO.none (EvO.int Ev.int) (small (by simp; (first | lia | omega)))) (show _ = PV.str (S (tn3 s2 t)) by rw [tn3, if_pos ht]; exact congrArg (fun x => PV.str (S x)) (psl_0n (b := 3)))) (by walk_at "put") (Ex.nil rfl))
            · have ht : t ≠ 3 := by simp at h; (first | lia | omega)
              rw [tn3, if_neg ht]
            generalize tn3 s2 t = s3 at *
            refine Ex.one (v := [.val (.list (xs.map PV.int)), .val (.list [ni n0, ni n1, ni n2]), .val (.int n0), .val (.str (S long)), .own D, .val (ni n), .val (.str (S (tn4 s3 t))), .val (.int t), .un, .un]) (ExS.ite (Tr.cmp (Ev.name (by walk_at "at")) Ev.int Co.eqI) (fun h => ?_) (fun h => Ex.nil ?_)) ?_
            · have ht : t = 4 := by simp at h; (first | lia | omega)
              obtain ⟨g1, g2', g3⟩ := hw3
              refine Ex.cons (ExS.assign (Ev.is (Ev.rev (Ev.name (by walk_at "at")) (EvO.int (Ev.neg Ev.int)) (small (by (first | lia | omega)))) (show _ = PV.str (S (tn4 s3 t)) by rw [tn4, if_pos ht])) (by walk_at "put") (Ex.nil rfl))
            · have ht : t ≠ 4 := by simp at h; (first | lia | omega)
              rw [tn4, if_neg ht]
            simp only [List.length_cons] at g2
            refine Ex.cons (ExS.append (by walk_at "at") (Ev.name (by walk_at "at")) (small (by (first | lia | omega))) (by walk_at "put") (Ex.nil ?_))
            apply ih
            simp; (first | lia | omega)
      · rintro v ⟨x1, x2, x3, hv⟩
        cases hv
        refine Ex.freeze (x := "shorts") (by walk_at "at") (by walk_at "put") ?_
        have hwd : wordsOf xs = [longOf n0, shortOf (longOf n0) n1, shortOf (longOf n0) n2] := by unfold wordsOf; rw [hN0, hN1, hN2]
        refine Ex.cons (ExS.assign (p := .list ((wordsOf xs).map fun l => PV.str (S l))) (Ev.is (EvF.ev (FcF_add (EvF.ev (EvF.list (EvL.cons (Ev.name (by walk_at "at")) EvL.nil) (small (by simp)))) (Ev.name (by walk_at "at")) (small (by simp)))) (by rw [hwd]; rfl)) (by walk_at "put") ?_)
        have hwk : ∀ k, k < 3 → (wordsOf xs).getD k [] ≠ [] ∧ ((wordsOf xs).getD k []).length ≤ 5 := by
          intro k hk
          have : k = 0 ∨ k = 1 ∨ k = 2 := by (first | lia | omega)
          rw [hwd]
          rcases this with rfl | rfl | rfl
          · exact ⟨hne, hl5⟩
          · have := shortOf_ok (n := n1) hsy; exact ⟨this.1, Nat.le_trans this.2.1 (by (first | lia | omega))⟩
          · have := shortOf_ok (n := n2) hsy; exact ⟨this.1, Nat.le_trans this.2.1 (by (first | lia | omega))⟩
        have hwl : (wordsOf xs).length = 3 := by rw [hwd]; rfl
        have hnl : ([ni n0, ni n1, ni n2] : List PV) = (List.range 3).map fun k => ni (numOf xs k) := by rw [← hN0, ← hN1, ← hN2]; rfl
        rw [hnl]
        have htx : textOf xs = ((List.range 3).map fun k => spelled ((wordsOf xs).getD k []) (qt (numOf xs k)) ++ [10]).flatten := by unfold textOf; rw [List.flatMap_def]
        have hsl : ∀ k, k < 3 → (spelled ((wordsOf xs).getD k []) (qt (numOf xs k))).length ≤ 12 := fun k hk => by
          have h1 := esc_len ((wordsOf xs).getD k [])
          have h2 := (hwk k hk).2
          unfold spelled
          split
          · simp only [List.length_append, List.length_cons, List.length_nil]; (first | lia | omega)
          · (first | lia | omega)
        have htl : (textOf xs).length ≤ 39 := by
          rw [htx]
          have h0 := hsl 0 (by (first | lia | omega)); have h1 := hsl 1 (by (first | lia | omega)); have h2 := hsl 2 (by (first | lia | omega))
          simp only [List.range_succ, List.range_zero, List.nil_append, List.cons_append, List.map_cons, List.map_nil, List.flatten_cons, List.flatten_nil, List.length_append, List.length_cons, List.length_nil]
          (first | lia | omega)
        refine Ex.cons (ExS.assign (p := .str (S (textOf xs))) (Ev.meth (p := .str (S [])) (ps := [.list (((List.range 3).map fun k => spelled ((wordsOf xs).getD k []) (qt (numOf xs k)) ++ [10]).map fun l => PV.str (S l))]) (Ev.is Ev.str (by rfl)) HasT.str meth_join (EvL.cons (EvF.ev ?_) EvL.nil) (Fc.is (Fc.join rfl (by rw [← htx]; (first | lia | omega))) (by rw [← htx]))) (by walk_at "put") ?_)
        · rw [show ((List.range 3).map fun k => spelled ((wordsOf xs).getD k []) (qt (numOf xs k)) ++ [10]).map (fun l => PV.str (S l)) = (List.range 3).filterMap fun k => some (PV.str (S (spelled ((wordsOf xs).getD k []) (qt (numOf xs k)) ++ [10]))) by simp]
          refine EvF.compM (tn := ["k"]) (cn := ["words", "numbers"]) (globs := ["_law_spelled"]) (cv := [.list ((wordsOf xs).map fun l => PV.str (S l)), .list ((List.range 3).map fun k => ni (numOf xs k))]) (List.range 3) ni _ ni_inj (Ev.call (by simp) (g_range w) (KeptC.typ _) (EvL.cons Ev.int EvL.nil) Fc.range1) (by rw [← rangeL_ni]; exact Iter.range r1 r2) (Caps.cons (by walk_at "at") (Caps.cons (by walk_at "at") Caps.nil)) (fun k hk => ⟨[ni k], rfl, Asg.name, Ands.nil, ?_⟩) (by decide) (small (by simp))
          have hk3 : k < 3 := by simpa using hk
          obtain ⟨hk1, hk2⟩ := hwk k hk3
          have i1 : ((wordsOf xs).map fun l => PV.str (S l))[(k : Int).toNat]? = some (.str (S ((wordsOf xs).getD k []))) := by
            rw [Int.toNat_natCast, List.getElem?_map, List.getD_eq_getElem?_getD, List.getElem?_eq_getElem (by (first | lia | omega))]; rfl
          have i2 : ((List.range 3).map fun k => ni (numOf xs k))[(k : Int).toNat]? = some (.int (numOf xs k)) := by
            rw [Int.toNat_natCast, List.getElem?_map, List.getElem?_range hk3]; rfl
          have hq : (((numOf xs k : Int).fdiv 160).fmod 2 == 1) = qt (numOf xs k) := by
            have a1 : (numOf xs k : Int).fdiv 160 = ((numOf xs k / 160 : Nat) : Int) := fdiv_nat _ 160
            have a2 : ((numOf xs k / 160 : Nat) : Int).fmod 2 = ((numOf xs k / 160 % 2 : Nat) : Int) := fmod_nat _ 2
            rw [a1, a2]
            unfold qt
            rw [Bool.eq_iff_iff]; simp only [beq_iff_eq, decide_eq_true_eq]; (first | lia | omega)
          refine Ev.is (Ev.bin (Ev.call (by simp [cxc]) (GVal.glob (v := .ref 96) (by k_is) rfl) (KeptC.fn (by k_is)) (EvL.cons (Ev.sub (Ev.name (by walk_at "at")) (Ev.name (by walk_at "at")) (Gi.list (by (first | lia | omega)) (by (first | lia | omega)) i1)) (EvL.cons (Ev.is (Ev.cmp (Ev.bin (Ev.bin (Ev.sub (Ev.name (by walk_at "at")) (Ev.name (by walk_at "at")) (Gi.list (by (first | lia | omega)) (by (first | lia | omega)) i2)) Ev.int (Bo.divI (by decide) (by rw [PyProof.noPylong_small (by decide)]; simp))) Ev.int (Bo.modI (by decide))) Ev.int Co.eqI) (by rw [hq])) EvL.nil)) (spelled_spec w d _ _ hk1 (by (first | lia | omega)))) (Ev.is Ev.str (show _ = PV.str (S [10]) by rfl)) (Bo.addS (small (by have := hsl k hk3; simp only [S_len, List.length_cons, List.length_nil]; (first | lia | omega))))) (by rw [S_add])
        · refine Ex.cons (ExS.ret (Ev.tup (EvL.cons (Ev.name (by walk_at "at")) (EvL.cons (Ev.name (by walk_at "at")) (EvL.cons (Ev.name (by walk_at "at")) EvL.nil))) (small (by simp))) rfl)
end Mine
end
noncomputable section
namespace Mine
/-- a way to lay two words beside each other, and its cost -/
inductive Al : List Nat → List Nat → Int → Prop
  | nil : Al [] [] 0
  | left {a b c} (x : Nat) : Al a b c → Al (x :: a) b (c + 2)
  | right {a b c} (y : Nat) : Al a b c → Al a (y :: b) (c + 2)
  | both {a b c} (x y : Nat) : Al a b c → Al (x :: a) (y :: b) (c + subc x y)
theorem subc_nonneg (x y : Nat) : 0 ≤ subc x y := by unfold subc; split <;> (try split) <;> (first | lia | omega)
theorem subc_le (x y : Nat) : subc x y ≤ 2 := by unfold subc; split <;> (try split) <;> (first | lia | omega)
theorem subc_self (x : Nat) : subc x x = 0 := by simp [subc]
theorem subc_comm (x y : Nat) : subc x y = subc y x := by
  unfold subc
  by_cases h : x = y
  · rw [if_pos h, if_pos h.symm]
  · rw [if_neg h, if_neg (Ne.symm h)]
    by_cases h2 : low x = low y
    · rw [if_pos h2, if_pos h2.symm]
    · rw [if_neg h2, if_neg (Ne.symm h2)]
noncomputable def dist : List Nat → List Nat → Int
  | [], b => 2 * b.length
  | x :: a, [] => 2 * ((a.length : Int) + 1)
  | x :: a, y :: b => min (min (dist a (y :: b)) (dist (x :: a) b) + 2) (dist a b + subc x y)
termination_by a b => a.length + b.length
theorem al_right : ∀ b : List Nat, Al [] b (2 * b.length)
  | [] => by simpa using Al.nil
  | y :: b => by
    have := Al.right y (al_right b)
    rw [show (2 * ((y :: b).length : Int)) = 2 * b.length + 2 by simp; (first | lia | omega)]
    exact this
theorem al_left : ∀ a : List Nat, Al a [] (2 * a.length)
  | [] => by simpa using Al.nil
  | x :: a => by
    have := Al.left x (al_left a)
    rw [show (2 * ((x :: a).length : Int)) = 2 * a.length + 2 by simp; (first | lia | omega)]
    exact this
theorem al_dist : ∀ (n : Nat) (a b : List Nat), a.length + b.length ≤ n → Al a b (dist a b)
  | n, [], b, _ => by rw [dist]; exact al_right b
  | n, x :: a, [], _ => by rw [dist]; have := al_left (x :: a); simpa using this
  | 0, x :: a, y :: b, h => by simp at h
  | n + 1, x :: a, y :: b, h => by
    rw [dist]
    simp only [List.length_cons] at h
    have h1 := al_dist n a (y :: b) (by simp; (first | lia | omega))
    have h2 := al_dist n (x :: a) b (by simp; (first | lia | omega))
    have h3 := al_dist n a b (by (first | lia | omega))
    rcases Int.le_total (min (dist a (y :: b)) (dist (x :: a) b) + 2) (dist a b + subc x y) with hm | hm
    · rw [Int.min_eq_left hm]
      rcases Int.le_total (dist a (y :: b)) (dist (x :: a) b) with hk | hk
      · rw [Int.min_eq_left hk]; exact Al.left x h1
      · rw [Int.min_eq_right hk]; exact Al.right y h2
    · rw [Int.min_eq_right hm]; exact Al.both x y h3
theorem dist_le {a b : List Nat} {c : Int} (h : Al a b c) : dist a b ≤ c := by
  induction h with
  | nil => rw [dist]; simp
  | left x h ih =>
    rename_i a b c
    cases b with
    | nil =>
      rw [dist]
      cases a with
      | nil => rw [dist] at ih; simp at ih ⊢; (first | lia | omega)
      | cons _ _ => rw [dist] at ih; simp at ih ⊢; (first | lia | omega)
    | cons y b => rw [dist]; (first | lia | omega)
  | right y h ih =>
    rename_i a b c
    cases a with
    | nil => rw [dist] at ih ⊢; simp at ih ⊢; (first | lia | omega)
    | cons x a => rw [dist]; (first | lia | omega)
  | both x y h ih => rw [dist]; (first | lia | omega)
theorem dist_al (a b : List Nat) : Al a b (dist a b) := al_dist _ a b (Nat.le_refl _)
theorem al_append {a b a' b' : List Nat} {c c' : Int} (h : Al a b c) (h' : Al a' b' c') : Al (a ++ a') (b ++ b') (c + c') := by
  induction h with
  | nil => simpa using h'
  | left x h ih => rename_i c; have := Al.left x ih; rw [show c + 2 + c' = c + c' + 2 by (first | lia | omega)]; exact this
  | right y h ih => rename_i c; have := Al.right y ih; rw [show c + 2 + c' = c + c' + 2 by (first | lia | omega)]; exact this
  | both x y h ih => rename_i c; have := Al.both x y ih; rw [show c + subc x y + c' = c + c' + subc x y by (first | lia | omega)]; exact this
theorem al_reverse {a b : List Nat} {c : Int} (h : Al a b c) : Al a.reverse b.reverse c := by
  induction h with
  | nil => exact Al.nil
  | left x h ih => rw [List.reverse_cons]; have := al_append ih (Al.left x Al.nil); simpa using this
  | right y h ih => rw [List.reverse_cons]; have := al_append ih (Al.right y Al.nil); simpa using this
  | both x y h ih => rw [List.reverse_cons, List.reverse_cons]; have := al_append ih (Al.both x y Al.nil); simpa using this
theorem dist_reverse (a b : List Nat) : dist a.reverse b.reverse = dist a b := by
  have h1 := dist_le (al_reverse (dist_al a b))
  have h2 := dist_le (al_reverse (dist_al a.reverse b.reverse))
  rw [List.reverse_reverse, List.reverse_reverse] at h2
  (first | lia | omega)
theorem al_swap {a b : List Nat} {c : Int} (h : Al a b c) : Al b a c := by
  induction h with
  | nil => exact Al.nil
  | left x h ih => exact Al.right x ih
  | right y h ih => exact Al.left y ih
  | both x y h ih => rw [subc_comm]; exact Al.both y x ih
theorem dist_comm (a b : List Nat) : dist a b = dist b a := by
  have h1 := dist_le (al_swap (dist_al a b))
  have h2 := dist_le (al_swap (dist_al b a))
  (first | lia | omega)
/-- a sign less on one side costs at most 2 -/
theorem al_drop {a b : List Nat} {c : Int} (h : Al a b c) : ∀ y b', b = y :: b' → ∃ c', Al a b' c' ∧ c' ≤ c + 2 := by
  induction h with
  | nil => intro y b' e; cases e
  | left x h ih => intro y b' e; obtain ⟨c', h1, h2⟩ := ih y b' e; exact ⟨c' + 2, Al.left x h1, by (first | lia | omega)⟩
  | right y h ih => rename_i c; intro y' b' e; cases e; exact ⟨c, h, by (first | lia | omega)⟩
  | both x y h ih => rename_i c; intro y' b' e; cases e; exact ⟨c + 2, Al.left x h, by have := subc_nonneg x y; (first | lia | omega)⟩
theorem dist_drop (a : List Nat) (y : Nat) (b : List Nat) : dist a b ≤ dist a (y :: b) + 2 := by
  obtain ⟨c', h1, h2⟩ := al_drop (dist_al a (y :: b)) y b rfl
  have := dist_le h1; (first | lia | omega)
theorem dist_same (x : Nat) (a b : List Nat) : dist (x :: a) (x :: b) = dist a b := by
  have h1 : dist (x :: a) (x :: b) ≤ dist a b := by
    have := dist_le (Al.both x x (dist_al a b)); rw [subc_self] at this; (first | lia | omega)
  have h2 := dist_drop a x b
  have h3 := dist_drop b x a
  rw [dist_comm b a, dist_comm b (x :: a)] at h3
  rw [dist, subc_self] at *
  (first | lia | omega)
theorem al_len {a b : List Nat} {c : Int} (h : Al a b c) : 2 * ((b.length : Int) - a.length) ≤ c ∧ 2 * ((a.length : Int) - b.length) ≤ c ∧ 0 ≤ c := by
  induction h with
  | nil => simp
  | left x h ih => simp only [List.length_cons] at *; (first | lia | omega)
  | right y h ih => simp only [List.length_cons] at *; (first | lia | omega)
  | both x y h ih => have := subc_nonneg x y; simp only [List.length_cons] at *; (first | lia | omega)
theorem dist_len (a b : List Nat) : 2 * ((b.length : Int) - a.length) ≤ dist a b ∧ 2 * ((a.length : Int) - b.length) ≤ dist a b ∧ 0 ≤ dist a b := al_len (dist_al a b)
theorem al_split {a b : List Nat} {c : Int} (h : Al a b c) : ∀ b1 b2, b = b1 ++ b2 → ∃ a1 a2 c1 c2, a = a1 ++ a2 ∧ Al a1 b1 c1 ∧ Al a2 b2 c2 ∧ c = c1 + c2 := by
  induction h with
  | nil =>
    intro b1 b2 e
    obtain ⟨rfl, rfl⟩ : b1 = [] ∧ b2 = [] := by simpa using e.symm
    exact ⟨[], [], 0, 0, rfl, Al.nil, Al.nil, rfl⟩
  | left x h ih =>
    intro b1 b2 e
    obtain ⟨a1, a2, c1, c2, rfl, h1, h2, rfl⟩ := ih b1 b2 e
    exact ⟨x :: a1, a2, c1 + 2, c2, rfl, Al.left x h1, h2, by (first | lia | omega)⟩
  | right y h ih =>
    rename_i a b c
    intro b1 b2 e
    cases b1 with
    | nil => exact ⟨[], a, 0, c + 2, rfl, Al.nil, by rw [List.nil_append] at e; rw [← e]; exact Al.right y h, by (first | lia | omega)⟩
    | cons z b1 =>
      rw [List.cons_append] at e; cases e
      obtain ⟨a1, a2, c1, c2, rfl, h1, h2, rfl⟩ := ih b1 b2 rfl
      exact ⟨a1, a2, c1 + 2, c2, rfl, Al.right y h1, h2, by (first | lia | omega)⟩
  | both x y h ih =>
    rename_i a b c
    intro b1 b2 e
    cases b1 with
    | nil => exact ⟨[], x :: a, 0, c + subc x y, rfl, Al.nil, by rw [List.nil_append] at e; rw [← e]; exact Al.both x y h, by (first | lia | omega)⟩
    | cons z b1 =>
      rw [List.cons_append] at e; cases e
      obtain ⟨a1, a2, c1, c2, rfl, h1, h2, rfl⟩ := ih b1 b2 rfl
      exact ⟨x :: a1, a2, c1 + subc x y, c2, rfl, Al.both x y h1, h2, by (first | lia | omega)⟩
end Mine
end
noncomputable section
namespace Mine
theorem dist_cp : ∀ (a b : List Nat), dist (a.drop (cp a b)) (b.drop (cp a b)) = dist a b
  | x :: a, y :: b => by
    unfold cp
    by_cases h : x = y
    · rw [if_pos h, List.drop_succ_cons, List.drop_succ_cons, dist_cp a b, h, dist_same]
    · rw [if_neg h]; rfl
  | [], b => by simp [cp]
  | x :: a, [] => by simp [cp]
theorem dist_suf (a b : List Nat) : dist (a.take (a.length - suf a b)) (b.take (b.length - suf a b)) = dist a b := by
  have e : ∀ (l : List Nat) (k : Nat), l.take (l.length - k) = (l.reverse.drop k).reverse := fun l k => by rw [List.drop_reverse, List.reverse_reverse]
  rw [e, e, dist_reverse]
  unfold suf
  rw [dist_cp, dist_reverse]
theorem dist_snoc (a b : List Nat) (x y : Nat) : dist (a ++ [x]) (b ++ [y]) = min (min (dist a (b ++ [y])) (dist (a ++ [x]) b) + 2) (dist a b + subc x y) := by
  have h := dist_reverse (a ++ [x]) (b ++ [y])
  have h1 := dist_reverse a (b ++ [y])
  have h2 := dist_reverse (a ++ [x]) b
  have h3 := dist_reverse a b
  rw [List.reverse_append, List.reverse_append] at h
  rw [List.reverse_append] at h1 h2
  simp only [List.reverse_cons, List.reverse_nil, List.nil_append, List.cons_append] at h h1 h2
  rw [dist] at h
  (first | lia | omega)
theorem dist_nil_left (b : List Nat) : dist [] b = 2 * b.length := by rw [dist]
theorem dist_nil_right (a : List Nat) : dist a [] = 2 * a.length := by
  rw [dist_comm, dist_nil_left]
noncomputable def rowR (b1 : List Nat) : List Nat → List Nat → List Int
  | a1, [] => []
  | a1, x :: as => dist (a1 ++ [x]) b1 :: rowR b1 (a1 ++ [x]) as
theorem inner_row (y : Nat) (b1 : List Nat) : ∀ (as a1 : List Nat) (re : Int), (∀ x r, min (min re r + 2) (dist a1 b1 + subc y x) = min (min (dist a1 (b1 ++ [y])) r + 2) (dist a1 b1 + subc y x)) → inner y as (rowR b1 a1 as) (dist a1 b1) re = rowR (b1 ++ [y]) a1 as
  | [], a1, re, _ => by simp [inner, rowR]
  | x :: as, a1, re, h => by
    simp only [rowR, inner]
    have e : min (min re (dist (a1 ++ [x]) b1) + 2) (dist a1 b1 + subc y x) = dist (a1 ++ [x]) (b1 ++ [y]) := by
      rw [h, dist_snoc, subc_comm y x]
    rw [e]
    congr 1
    exact inner_row y b1 as (a1 ++ [x]) _ fun x' r => rfl
theorem inner_start (y : Nat) (b1 a : List Nat) : inner y a (rowR b1 [] a) (2 * b1.length) (2 * b1.length) = rowR (b1 ++ [y]) [] a := by
  have := inner_row y b1 a [] (2 * b1.length) fun x r => by
    rw [dist_nil_left, dist_nil_left]
    have := subc_le y x
    have := subc_nonneg y x
    simp only [List.length_append, List.length_cons, List.length_nil]
    (first | lia | omega)
  rw [dist_nil_left] at this
  exact this
theorem row_init : ∀ (as a1 : List Nat), rowR [] a1 as = (List.range as.length).map fun (i : Nat) => 2 * ((a1.length : Int) + (i : Int) + 1)
  | [], a1 => rfl
  | x :: as, a1 => by
    simp only [rowR]
    rw [dist_nil_right, row_init as (a1 ++ [x]), List.length_cons, List.range_succ_eq_map, List.map_cons, List.map_map]
    congr 1
    · simp
    · apply List.map_congr_left
      intro i _
      simp only [Function.comp, List.length_append, List.length_cons, List.length_nil]
      (first | lia | omega)
theorem row_init0 (a : List Nat) : init2 a.length = rowR [] [] a := by
  rw [row_init]
  unfold init2
  apply List.map_congr_left
  intro i _
  simp only [List.length_nil]
  (first | lia | omega)
theorem row_last (b1 : List Nat) : ∀ (as a1 : List Nat) (z : Int), as ≠ [] → (rowR b1 a1 as).getLastD z = dist (a1 ++ as) b1
  | [], a1, z, h => absurd rfl h
  | [x], a1, z, _ => by simp [rowR]
  | x :: x' :: as, a1, z, _ => by
    have := row_last b1 (x' :: as) (a1 ++ [x]) (dist (a1 ++ [x]) b1) (by simp)
    simp only [rowR, List.getLastD_cons] at this ⊢
    rw [this]; simp
theorem row_mem (b1 : List Nat) : ∀ (as a1 u v : List Nat), as = u ++ v → u ≠ [] → dist (a1 ++ u) b1 ∈ rowR b1 a1 as
  | as, a1, [], v, _, h => absurd rfl h
  | as, a1, [x], v, e, _ => by subst e; simp [rowR]
  | as, a1, x :: x' :: u, v, e, _ => by
    subst e
    simp only [List.cons_append, rowR]
    have := row_mem b1 (x' :: u ++ v) (a1 ++ [x]) (x' :: u) v rfl (by simp)
    refine List.mem_cons_of_mem _ ?_
    simp only [List.append_assoc, List.cons_append, List.nil_append, rowR] at this ⊢
    exact this
theorem mn_le {l : List Int} {v : Int} (h : v ∈ l) : mn l ≤ v := by
  unfold mn
  have key : ∀ (l : List Int) (z : Int), l.foldl min z ≤ z ∧ ∀ v ∈ l, l.foldl min z ≤ v := fun l => by
    induction l with
    | nil => intro z; simp
    | cons x l ih =>
      intro z
      obtain ⟨h1, h2⟩ := ih (min z x)
      simp only [List.foldl_cons]
      refine ⟨by (first | lia | omega), fun v hv => ?_⟩
      rcases List.mem_cons.mp hv with rfl | hv
      · (first | lia | omega)
      · exact h2 v hv
  exact (key l _).2 v h
theorem mn_row {a b b1 bs : List Nat} (hb : b = b1 ++ bs) (ha : a ≠ []) (h1 : b1 ≠ []) : mn (rowR b1 [] a) ≤ dist a b := by
  obtain ⟨u, v, c1, c2, e, h2, h3, h4⟩ := al_split (dist_al a b) b1 bs hb
  have h5 := dist_le h2
  have h6 := (al_len h3).2.2
  by_cases hu : u = []
  · subst hu
    obtain ⟨x, a', rfl⟩ : ∃ x a', a = x :: a' := by cases a with | nil => exact absurd rfl ha | cons x a' => exact ⟨x, a', rfl⟩
    obtain ⟨y, b', rfl⟩ : ∃ y b', b1 = y :: b' := by cases b1 with | nil => exact absurd rfl h1 | cons y b' => exact ⟨y, b', rfl⟩
    have h7 := mn_le (row_mem (y :: b') (x :: a') [] [x] a' rfl (by simp))
    have h8 := dist_le (Al.both x y (al_right b'))
    have h9 := subc_le x y
    rw [dist_nil_left] at h5
    simp only [List.length_cons, List.nil_append] at *
    (first | lia | omega)
  · have h7 := mn_le (row_mem b1 a [] u v e hu)
    rw [List.nil_append] at h7
    (first | lia | omega)
theorem rows_dist {a b : List Nat} {m : Int} (ha : a ≠ []) (hm : dist a b ≤ m + 1) : ∀ (bs b1 : List Nat) (res : Int), b = b1 ++ bs → (bs = [] → res = dist a b) → rowsGo a m bs b1.length (rowR b1 [] a) res = dist a b
  | [], b1, res, hb, hr => by rw [rowsGo]; exact hr rfl
  | y :: bs, b1, res, hb, _ => by
    rw [rowsGo, inner_start]
    have hb' : b = (b1 ++ [y]) ++ bs := by rw [hb]; simp
    have h1 := mn_row hb' ha (by simp)
    split
    · (first | lia | omega)
    · have := rows_dist ha hm bs (b1 ++ [y]) ((rowR (b1 ++ [y]) [] a).getLastD 0) hb' fun e => by
        rw [row_last _ _ _ _ ha]
        rw [e] at hb'
        rw [hb']; simp
      simpa using this
theorem levIn_dist {a b : List Nat} {m : Int} (ha : a ≠ []) (hb : b ≠ []) (hm : dist a b ≤ m + 1) : levIn a b m = dist a b := by
  unfold levIn
  have hl := (dist_len a b).1
  split
  · (first | lia | omega)
  · rw [row_init0]
    exact rows_dist ha hm b [] 0 rfl fun e => absurd e hb
theorem levT_dist {a b : List Nat} {m : Int} (hm : dist a b ≤ m + 1) : levT a b m = dist a b := by
  unfold levT
  split
  · rename_i h
    rcases h with h | h
    · rw [h, dist_nil_left]; simp
    · rw [h, dist_nil_right]; simp
  · rename_i h
    have ha : a ≠ [] := fun e => h (.inl e)
    have hb : b ≠ [] := fun e => h (.inr e)
    split
    · rw [dist_comm a b] at hm ⊢; exact levIn_dist hb ha hm
    · exact levIn_dist ha hb hm
theorem lev_dist {a b : List Nat} {m : Int} (hm : dist a b ≤ m + 1) : lev a b m = dist a b := by
  unfold lev
  split
  · rename_i h
    subst h
    have h1 := dist_cp a a
    have h2 : ∀ a : List Nat, dist a a = 0 := fun a => by
      induction a with
      | nil => rw [dist]; rfl
      | cons x a ih => rw [dist_same, ih]
    exact (h2 a).symm
  · rw [levT_dist]
    · rw [dist_suf, dist_cp]
    · rw [dist_suf, dist_cp]; exact hm
/-- as many signs fewer as it must be: one word's signs stand in the other one, in order -/
theorem al_sub {a b : List Nat} {c : Int} (h : Al a b c) : c = 2 * ((b.length : Int) - a.length) → a.Sublist b := by
  induction h with
  | nil => intro _; exact List.Sublist.refl _
  | left x h ih => intro e; have := (al_len h).1; simp only [List.length_cons] at e; (first | lia | omega)
  | right y h ih => intro e; refine List.Sublist.cons _ (ih ?_); simp only [List.length_cons] at e; (first | lia | omega)
  | both x y h ih =>
    intro e
    have h1 := (al_len h).1
    have h2 := subc_nonneg x y
    simp only [List.length_cons] at e
    have h3 : subc x y = 0 := by (first | lia | omega)
    have h4 : x = y := by
      unfold subc at h3
      split at h3
      · assumption
      · split at h3 <;> (first | lia | omega)
    subst h4
    exact List.Sublist.cons_cons _ (ih (by (first | lia | omega)))
theorem sub_al {a b : List Nat} (h : a.Sublist b) : Al a b (2 * ((b.length : Int) - a.length)) := by
  induction h with
  | slnil => exact Al.nil
  | cons y h ih =>
    rename_i l1 l2
    have := Al.right y ih
    have e : 2 * (((y :: l2).length : Int) - l1.length) = 2 * ((l2.length : Int) - l1.length) + 2 := by simp only [List.length_cons]; (first | lia | omega)
    rw [e]; exact this
  | cons_cons y h ih =>
    rename_i l1 l2
    have := Al.both y y ih
    rw [subc_self, Int.add_zero] at this
    have e : 2 * (((y :: l2).length : Int) - (y :: l1).length) = 2 * ((l2.length : Int) - l1.length) := by simp only [List.length_cons]; (first | lia | omega)
    rw [e]; exact this
theorem dist_sub (a b : List Nat) : dist a b = 2 * ((b.length : Int) - a.length) ↔ a.Sublist b := by
  constructor
  · exact fun h => al_sub (dist_al a b) h
  · intro h
    have h1 := dist_le (sub_al h)
    have h2 := (dist_len a b).1
    (first | lia | omega)
end Mine
end
noncomputable section
namespace Mine
theorem gain_sub {c x : Nat} (hc : c ∈ syms) (hx : x ∈ syms) : gain c x = 2 - subc c x := by
  have : ∀ c ∈ syms, ∀ x ∈ syms, gain c x = 2 - subc c x := by decide
  exact this c hc x hx
theorem getD_take {l : List Nat} {k : Nat} (h : k < l.length) : l.take (k + 1) = l.take k ++ [l.getD k 0] := by
  rw [List.take_add_one, List.getD_eq_getElem?_getD, List.getElem?_eq_getElem h]; rfl
/-- what a way says -/
noncomputable def WayOk (other u : List Nat) (p : Nat × Int) : Prop := p.1 ≤ other.length ∧ Al u (other.take p.1) (p.2 - 2 * ((other.length : Int) - p.1))
theorem way_step {other u : List Nat} {c : Nat} (hc : c ∈ syms) (ho : ∀ x ∈ other, x ∈ syms) {ways : List (Nat × Int)} (h : ∀ p ∈ ways, WayOk other u p) : ∀ p ∈ wstep other ways c, WayOk other (u ++ [c]) p := fun p hp => by
  unfold wstep at hp
  rcases List.mem_append.mp hp with hp | hp
  · obtain ⟨q, hq, rfl⟩ := List.mem_map.mp hp
    obtain ⟨h1, h2⟩ := h q hq
    refine ⟨h1, ?_⟩
    have := al_append h2 (Al.left c Al.nil)
    rw [List.append_nil] at this
    simp only
    rw [show q.2 + 2 - 2 * ((other.length : Int) - q.1) = q.2 - 2 * ((other.length : Int) - q.1) + (0 + 2) by (first | lia | omega)]
    exact this
  · obtain ⟨q, hq, hp⟩ := List.mem_flatMap.mp hp
    obtain ⟨h1, h2⟩ := h q hq
    unfold laidFrom at hp
    obtain ⟨k, hk, rfl⟩ := List.mem_map.mp hp
    simp only [List.mem_range'_1] at hk
    have hlt : k < other.length := by (first | lia | omega)
    have hx : other.getD k 0 ∈ syms := by rw [List.getD_eq_getElem?_getD, List.getElem?_eq_getElem hlt]; exact ho _ (List.getElem_mem hlt)
    refine ⟨hlt, ?_⟩
    have h3 := al_append h2 (al_append (al_right ((other.drop q.1).take (k - q.1))) (Al.both c (other.getD k 0) Al.nil))
    have e1 : other.take q.1 ++ ((other.drop q.1).take (k - q.1) ++ [other.getD k 0]) = other.take (k + 1) := by
      rw [getD_take hlt, ← List.append_assoc]
      congr 1
      rw [← List.take_append_drop q.1 (other.take k), List.take_take, List.drop_take]
      congr 1
      rw [Nat.min_eq_left hk.1]
    have e2 : ((other.drop q.1).take (k - q.1)).length = k - q.1 := by simp; (first | lia | omega)
    rw [e1, e2] at h3
    simp only [List.nil_append] at h3 ⊢
    rw [gain_sub hc hx]
    have e3 : q.2 - (2 - subc c (other.getD k 0)) - 2 * ((other.length : Int) - ((k + 1 : Nat) : Int)) = q.2 - 2 * ((other.length : Int) - q.1) + (2 * ((k - q.1 : Nat) : Int) + (0 + subc c (other.getD k 0))) := by (first | lia | omega)
    rw [e3]; exact h3
theorem ways_ok {other : List Nat} (ho : ∀ x ∈ other, x ∈ syms) : ∀ (one u : List Nat) (ways : List (Nat × Int)), (∀ c ∈ one, c ∈ syms) → (∀ p ∈ ways, WayOk other u p) → ∀ p ∈ one.foldl (wstep other) ways, WayOk other (u ++ one) p
  | [], u, ways, _, h => by simpa using h
  | c :: one, u, ways, hs, h => by
    rw [List.foldl_cons, show u ++ c :: one = (u ++ [c]) ++ one by simp]
    exact ways_ok ho one (u ++ [c]) _ (fun x hx => hs x (by simp [hx])) (way_step (hs c (by simp)) ho h)
theorem al_cons {a b : List Nat} {c : Int} (h : Al a b c) : ∀ x a', a = x :: a' → (∃ c', Al a' b c' ∧ c' + 2 ≤ c) ∨ ∃ b1 y b2 c', b = b1 ++ y :: b2 ∧ Al a' b2 c' ∧ 2 * (b1.length : Int) + subc x y + c' ≤ c := by
  induction h with
  | nil => intro x a' e; cases e
  | left x h ih => rename_i c; intro x' a' e; cases e; exact .inl ⟨c, h, by (first | lia | omega)⟩
  | right y h ih =>
    intro x a' e
    rcases ih x a' e with ⟨c', h1, h2⟩ | ⟨b1, z, b2, c', rfl, h1, h2⟩
    · exact .inl ⟨c' + 2, Al.right y h1, by (first | lia | omega)⟩
    · exact .inr ⟨y :: b1, z, b2, c', rfl, h1, by simp only [List.length_cons]; (first | lia | omega)⟩
  | both x y h ih => rename_i a b c; intro x' a' e; cases e; exact .inr ⟨[], y, b, c, rfl, h, by simp; (first | lia | omega)⟩
theorem ways_all {other : List Nat} (ho : ∀ x ∈ other, x ∈ syms) : ∀ (one : List Nat) (ways : List (Nat × Int)) (k0 : Nat) (p0 c : Int), (∀ c ∈ one, c ∈ syms) → (k0, p0) ∈ ways → k0 ≤ other.length → Al one (other.drop k0) c → ∃ p ∈ one.foldl (wstep other) ways, p.2 ≤ p0 - 2 * ((other.length : Int) - k0) + c
  | [], ways, k0, p0, c, _, hm, hk, ha => by
    have := (al_len ha).1
    simp only [List.length_drop, List.length_nil] at this
    exact ⟨(k0, p0), hm, by simp only; (first | lia | omega)⟩
  | x :: one, ways, k0, p0, c, hs, hm, hk, ha => by
    rw [List.foldl_cons]
    have hx := hs x (by simp)
    rcases al_cons ha x one rfl with ⟨c', h1, h2⟩ | ⟨b1, y, b2, c', e, h1, h2⟩
    · obtain ⟨p, hp, hl⟩ := ways_all ho one (wstep other ways x) k0 (p0 + 2) c' (fun z hz => hs z (by simp [hz])) (by
        unfold wstep; exact List.mem_append_left _ (List.mem_map.mpr ⟨(k0, p0), hm, rfl⟩)) hk h1
      exact ⟨p, hp, by (first | lia | omega)⟩
    · have hlen : other.length - k0 = b1.length + (b2.length + 1) := by rw [← List.length_drop, e]; simp
      have hlt : k0 + b1.length < other.length := by (first | lia | omega)
      have hy : other.getD (k0 + b1.length) 0 = y := by
        have : (other.drop k0)[b1.length]? = some y := by rw [e]; simp
        rw [List.getElem?_drop] at this
        rw [List.getD_eq_getElem?_getD, this]; rfl
      have hys : y ∈ syms := by rw [← hy, List.getD_eq_getElem?_getD, List.getElem?_eq_getElem hlt]; exact ho _ (List.getElem_mem hlt)
      have hd : other.drop (k0 + b1.length + 1) = b2 := by
        rw [Nat.add_assoc, ← List.drop_drop, e, ← List.drop_drop]; simp
      obtain ⟨p, hp, hl⟩ := ways_all ho one (wstep other ways x) (k0 + b1.length + 1) (p0 - gain x y) c' (fun z hz => hs z (by simp [hz])) (by
        unfold wstep
        refine List.mem_append_right _ (List.mem_flatMap.mpr ⟨(k0, p0), hm, ?_⟩)
        unfold laidFrom
        refine List.mem_map.mpr ⟨k0 + b1.length, ?_, by rw [hy]⟩
        simp only [List.mem_range'_1]; (first | lia | omega)) (by (first | lia | omega)) (by rw [hd]; exact h1)
      refine ⟨p, hp, ?_⟩
      rw [gain_sub hx hys] at hl
      (first | lia | omega)
theorem price_dist {one other : List Nat} (h1 : ∀ c ∈ one, c ∈ syms) (h2 : ∀ c ∈ other, c ∈ syms) : IsMin (dist one other) ((waysOf one other).map (·.2)) := by
  have hok := ways_ok h2 one [] [(0, 2 * (other.length : Int))] h1 (by
    intro p hp
    rw [List.mem_singleton.mp hp]
    exact ⟨Nat.zero_le _, by simpa using Al.nil⟩)
  have low : ∀ p ∈ waysOf one other, dist one other ≤ p.2 := fun p hp => by
    obtain ⟨h3, h4⟩ := hok p hp
    rw [List.nil_append] at h4
    have h5 := al_append h4 (al_right (other.drop p.1))
    rw [List.append_nil, List.take_append_drop, List.length_drop] at h5
    have := dist_le h5
    (first | lia | omega)
  obtain ⟨p, hp, hl⟩ := ways_all h2 one [(0, 2 * (other.length : Int))] 0 (2 * other.length) (dist one other) h1 (by simp) (Nat.zero_le _) (by simpa using dist_al one other)
  have heq : p.2 = dist one other := by
    have := low p hp
    simp at hl
    (first | lia | omega)
  refine ⟨?_, ?_⟩
  · rw [← heq]; exact List.mem_map.mpr ⟨p, hp, rfl⟩
  · intro n hn
    obtain ⟨q, hq, rfl⟩ := List.mem_map.mp hn
    exact low q hq
/-- the distance of small words is below 99 -/
theorem dist_small {a b : List Nat} (ha : a.length ≤ 5) (hb : b.length ≤ 5) : dist a b ≤ 20 := by
  have := dist_le (al_append (al_left a) (al_right b))
  simp only [List.append_nil, List.nil_append] at this
  (first | lia | omega)
end Mine
end
noncomputable section
namespace Mine
/-- the short word's signs stand in the text, in order, with gaps at P's places alone -/
inductive Fit (P : Nat → Bool) : Nat → List Nat → List Nat → Prop
  | fin {i g} : (g ≠ [] → P i = true) → Fit P i [] g
  | hit {i s g} (c : Nat) : Fit P (i + 1) s g → Fit P i (c :: s) (c :: g)
  | skip {i c s g} (x : Nat) : P i = true → Fit P i (c :: s) g → Fit P i (c :: s) (x :: g)
/-- pieces with anything between them -/
noncomputable def Dec : List (List Nat) → List Nat → Prop
  | [], g => False
  | [p], g => g = p
  | p :: q :: r, g => ∃ u v, g = p ++ u ++ v ∧ Dec (q :: r) v
noncomputable def pcs (P : Nat → Bool) : Nat → List Nat → List (List Nat)
  | i, [] => if P i then [[], []] else [[]]
  | i, c :: s => if P i then [] :: (c :: (pcs P (i + 1) s).headD []) :: (pcs P (i + 1) s).tail else (c :: (pcs P (i + 1) s).headD []) :: (pcs P (i + 1) s).tail
noncomputable def tokR (P : Nat → Bool) : Nat → List Nat → List Nat
  | i, [] => if P i then dots else []
  | i, c :: s => (if P i then dots else []) ++ c :: tokR P (i + 1) s
theorem pcs_ne (P : Nat → Bool) (i : Nat) (s : List Nat) : ∃ h t, pcs P i s = h :: t := by
  cases s with
  | nil => unfold pcs; split <;> exact ⟨_, _, rfl⟩
  | cons c s => unfold pcs; split <;> exact ⟨_, _, rfl⟩
theorem glue_cons (c : Nat) (h : List Nat) (t : List (List Nat)) : glue3 ((c :: h) :: t) = c :: glue3 (h :: t) := by
  cases t <;> simp [glue3]
theorem glue_pcs (P : Nat → Bool) : ∀ (s : List Nat) (i : Nat), glue3 (pcs P i s) = tokR P i s
  | [], i => by unfold pcs tokR; split <;> simp [glue3]
  | c :: s, i => by
    obtain ⟨h, t, e⟩ := pcs_ne P (i + 1) s
    have ih := glue_pcs P s (i + 1)
    rw [e] at ih
    unfold pcs tokR
    rw [e]
    simp only [List.headD_cons, List.tail_cons]
    split
    · show glue3 ([] :: (c :: h) :: t) = _
      simp only [glue3]
      rw [glue_cons, ih]; simp
    · rw [glue_cons, ih]; simp
theorem pcs_dot (P : Nat → Bool) : ∀ (s : List Nat) (i : Nat), 46 ∉ s → ∀ p ∈ pcs P i s, 46 ∉ p
  | [], i, _ => by unfold pcs; split <;> simp
  | c :: s, i, h => by
    obtain ⟨h0, t, e⟩ := pcs_ne P (i + 1) s
    have ih := pcs_dot P s (i + 1) (fun hm => h (by simp [hm]))
    rw [e] at ih
    have hc : 46 ≠ c := fun e => h (by simp [e])
    have hh : 46 ∉ c :: h0 := fun hm => by
      rcases List.mem_cons.mp hm with hm | hm
      · exact hc hm
      · exact ih h0 (by simp) hm
    unfold pcs
    rw [e]
    simp only [List.headD_cons, List.tail_cons]
    intro p hp
    split at hp
    · rcases List.mem_cons.mp hp with rfl | hp
      · simp
      · rcases List.mem_cons.mp hp with rfl | hp
        · exact hh
        · exact ih p (by simp [hp])
    · rcases List.mem_cons.mp hp with rfl | hp
      · exact hh
      · exact ih p (by simp [hp])
theorem dec_cons {c : Nat} {h : List Nat} {t : List (List Nat)} {g : List Nat} : Dec ((c :: h) :: t) g ↔ ∃ g', g = c :: g' ∧ Dec (h :: t) g' := by
  cases t with
  | nil => simp only [Dec]; constructor
           · rintro rfl; exact ⟨h, rfl, rfl⟩
           · rintro ⟨g', rfl, rfl⟩; rfl
  | cons q r =>
    simp only [Dec]
    constructor
    · rintro ⟨u, v, rfl, hd⟩; exact ⟨h ++ u ++ v, by simp, u, v, rfl, hd⟩
    · rintro ⟨g', rfl, u, v, rfl, hd⟩; exact ⟨u, v, by simp, hd⟩
theorem dec_gap {h : List Nat} {t : List (List Nat)} {g : List Nat} : Dec ([] :: h :: t) g ↔ ∃ u v, g = u ++ v ∧ Dec (h :: t) v := by
  simp only [Dec, List.nil_append]
theorem fit_gap {P : Nat → Bool} {i c : Nat} {s : List Nat} (hP : P i = true) : ∀ (u v : List Nat), Fit P i (c :: s) v → Fit P i (c :: s) (u ++ v)
  | [], v, h => h
  | x :: u, v, h => Fit.skip x hP (fit_gap hP u v h)
theorem fit_inv {P : Nat → Bool} {i c : Nat} {s g : List Nat} (h : Fit P i (c :: s) g) : ∃ u v, g = u ++ c :: v ∧ (u ≠ [] → P i = true) ∧ Fit P (i + 1) s v := by
  generalize hs : c :: s = s' at h
  induction h with
  | fin _ => cases hs
  | hit c' h ih => cases hs; exact ⟨[], _, rfl, fun h => absurd rfl h, h⟩
  | skip x hP h ih =>
    obtain ⟨u, v, rfl, _, hf⟩ := ih hs
    cases hs
    exact ⟨x :: u, v, rfl, fun _ => hP, hf⟩
theorem dec_fit (P : Nat → Bool) : ∀ (s : List Nat) (i : Nat) (g : List Nat), Dec (pcs P i s) g ↔ Fit P i s g
  | [], i, g => by
    unfold pcs
    split
    · rename_i hP
      constructor
      · intro _; exact Fit.fin fun _ => hP
      · intro _; exact dec_gap.mpr ⟨g, [], by simp, rfl⟩
    · rename_i hP
      constructor
      · intro h; simp only [Dec] at h; subst h; exact Fit.fin fun h => absurd rfl h
      · intro h
        cases h with
        | fin h =>
          simp only [Dec]
          cases g with
          | nil => rfl
          | cons x g => exact absurd (h (by simp)) hP
  | c :: s, i, g => by
    obtain ⟨h0, t, e⟩ := pcs_ne P (i + 1) s
    have ih := dec_fit P s (i + 1)
    rw [e] at ih
    unfold pcs
    rw [e]
    simp only [List.headD_cons, List.tail_cons]
    split
    · rename_i hP
      rw [dec_gap]
      constructor
      · rintro ⟨u, v, rfl, hd⟩
        obtain ⟨g', rfl, hd2⟩ := dec_cons.mp hd
        exact fit_gap hP u _ (Fit.hit c ((ih g').mp hd2))
      · intro h
        obtain ⟨u, v, rfl, _, hf⟩ := fit_inv h
        exact ⟨u, c :: v, rfl, dec_cons.mpr ⟨v, rfl, (ih v).mpr hf⟩⟩
    · rename_i hP
      rw [dec_cons]
      constructor
      · rintro ⟨g', rfl, hd⟩; exact Fit.hit c ((ih g').mp hd)
      · intro h
        obtain ⟨u, v, rfl, hu, hf⟩ := fit_inv h
        cases u with
        | nil => exact ⟨v, rfl, (ih v).mpr hf⟩
        | cons x u => exact absurd (hu (by simp)) hP
/-- pieces in the middle -/
noncomputable def Mid : List (List Nat) → List Nat → Prop
  | [], _ => True
  | p :: ps, t => ∃ u v, t = u ++ p ++ v ∧ Mid ps v
theorem mid_more : ∀ {ps : List (List Nat)} {t : List Nat} (x : List Nat), Mid ps t → Mid ps (x ++ t)
  | [], _, _, _ => trivial
  | p :: ps, t, x, ⟨u, v, e, h⟩ => ⟨x ++ u, v, by rw [e]; simp, h⟩
theorem mid_dec (q : List Nat) : ∀ (mid : List (List Nat)) (g : List Nat), (∃ u v, g = u ++ v ∧ Dec (mid ++ [q]) v) ↔ ∃ t, g = t ++ q ∧ Mid mid t
  | [], g => by
    simp only [List.nil_append, Dec, Mid, and_true]
    constructor
    · rintro ⟨u, v, rfl, rfl⟩; exact ⟨u, rfl⟩
    · rintro ⟨t, rfl⟩; exact ⟨t, q, rfl, rfl⟩
  | m :: mid, g => by
    have ih := mid_dec q mid
    have hd : ∀ v, Dec (m :: (mid ++ [q])) v ↔ ∃ u' v', v = m ++ u' ++ v' ∧ Dec (mid ++ [q]) v' := fun v => by
      cases mid <;> exact Iff.rfl
    constructor
    · rintro ⟨u, v, rfl, h⟩
      obtain ⟨u', v', rfl, h2⟩ := (hd v).mp h
      obtain ⟨t, e, hm⟩ := (ih (u' ++ v')).mp ⟨u', v', rfl, h2⟩
      exact ⟨u ++ m ++ t, by rw [List.append_assoc m, e]; simp, u, t, rfl, hm⟩
    · rintro ⟨t, rfl, u, v, rfl, hm⟩
      obtain ⟨u', v', e, h2⟩ := (ih (v ++ q)).mpr ⟨v, rfl, hm⟩
      exact ⟨u, m ++ u' ++ v', by rw [List.append_assoc m, ← e]; simp, (hd _).mpr ⟨u', v', rfl, h2⟩⟩
theorem emLoop_mid {got : List Nat} {e : Nat} (he : e ≤ got.length) : ∀ (ws : List (List Nat)) (s : Nat), s ≤ e → (emLoop got e ws s = true ↔ Mid ws ((got.take e).drop s))
  | [], s, _ => by simp [emLoop, Mid]
  | p :: ws, s, hs => by
    have hitsub : ∀ i, hit got p e i = true ↔ i + p.length ≤ e ∧ ((got.take e).drop i).take p.length = p := fun i => by
      unfold hit
      simp only [Bool.and_eq_true, decide_eq_true_eq, beq_iff_eq]
      constructor
      · rintro ⟨h1, h2⟩
        refine ⟨h1, ?_⟩
        rw [List.drop_take, List.take_take, Nat.min_eq_left (by (first | lia | omega))]; exact h2
      · rintro ⟨h1, h2⟩
        rw [List.drop_take, List.take_take, Nat.min_eq_left (by (first | lia | omega))] at h2
        exact ⟨h1, h2⟩
    unfold emLoop
    cases hf : fnd got p s e with
    | none =>
      simp only [Bool.false_eq_true, false_iff]
      rintro ⟨u, v, eq, _⟩
      have h1 := fnd_none hf (s + u.length) (by (first | lia | omega))
      have hl := congrArg List.length eq
      simp only [List.length_drop, List.length_take, List.length_append] at hl
      have h2 : hit got p e (s + u.length) = true := by
        rw [hitsub]
        refine ⟨by (first | lia | omega), ?_⟩
        rw [← List.drop_drop, eq]; simp
      rw [h2] at h1; cases h1
    | some i =>
      obtain ⟨h1, h2, h3, h4⟩ := fnd_some hf
      have hi : hit got p e i = true := by unfold hit; simp [h2, h3]
      have hi2 := ((hitsub i).mp hi).2
      simp only
      rw [emLoop_mid he ws (i + p.length) (by (first | lia | omega))]
      constructor
      · intro hm
        refine ⟨((got.take e).drop s).take (i - s), (got.take e).drop (i + p.length), ?_, hm⟩
        have e1 : (got.take e).drop s = ((got.take e).drop s).take (i - s) ++ (got.take e).drop i := by
          conv => lhs; rw [← List.take_append_drop (i - s) ((got.take e).drop s)]
          rw [List.drop_drop]; congr 2; (first | lia | omega)
        have e2 : (got.take e).drop i = p ++ (got.take e).drop (i + p.length) := by
          conv => lhs; rw [← List.take_append_drop p.length ((got.take e).drop i)]
          rw [hi2, List.drop_drop]
        conv => lhs; rw [e1, e2]
        simp
      · rintro ⟨u, v, eq, hm⟩
        have hl := congrArg List.length eq
        simp only [List.length_drop, List.length_take, List.length_append] at hl
        have hge : i ≤ s + u.length := by
          rcases Nat.lt_or_ge (s + u.length) i with h | h
          · have h5 := h4 (s + u.length) (by (first | lia | omega)) h
            have h6 : hit got p e (s + u.length) = true := by
              rw [hitsub]
              refine ⟨by (first | lia | omega), ?_⟩
              rw [← List.drop_drop, eq]; simp
            rw [h6] at h5; cases h5
          · exact h
        have hv : v = (got.take e).drop (s + u.length + p.length) := by
          rw [Nat.add_assoc, ← List.drop_drop, eq, ← List.drop_drop]; simp
        have e3 : (got.take e).drop (i + p.length) = ((got.take e).drop (i + p.length)).take (s + u.length - i) ++ v := by
          conv => lhs; rw [← List.take_append_drop (s + u.length - i) ((got.take e).drop (i + p.length))]
          rw [List.drop_drop, hv]; congr 2; (first | lia | omega)
        rw [e3]
        exact mid_more _ hm
end Mine
end
noncomputable section
namespace Mine
theorem mid_nil {ws : List (List Nat)} {t : List Nat} : Mid ([] :: ws) t ↔ Mid ws t := by
  constructor
  · rintro ⟨u, v, rfl, h⟩; rw [List.append_nil]; exact mid_more u h
  · intro h; exact ⟨[], t, rfl, h⟩
theorem mid_snoc : ∀ {ws : List (List Nat)} {t : List Nat}, Mid (ws ++ [[]]) t ↔ Mid ws t
  | [], t => ⟨fun _ => trivial, fun _ => ⟨t, [], by simp, trivial⟩⟩
  | w :: ws, t => by
    constructor
    · rintro ⟨u, v, e, h⟩; exact ⟨u, v, e, mid_snoc.mp h⟩
    · rintro ⟨u, v, e, h⟩; exact ⟨u, v, e, mid_snoc.mpr h⟩
theorem mid_lead {p q : List Nat} {mid : List (List Nat)} {t : List Nat} : Mid (lead p ++ (mid ++ lead q)) t ↔ Mid mid t := by
  have h1 : Mid (lead p ++ (mid ++ lead q)) t ↔ Mid (mid ++ lead q) t := by
    unfold lead
    split
    · exact mid_nil
    · exact Iff.rfl
  rw [h1]
  unfold lead
  split
  · exact mid_snoc
  · rw [List.append_nil]
theorem em_dec (p : List Nat) (mid : List (List Nat)) (q got : List Nat) : em p mid q got = true ↔ Dec (p :: (mid ++ [q])) got := by
  have hd : Dec (p :: (mid ++ [q])) got ↔ ∃ t, got = p ++ t ++ q ∧ Mid mid t := by
    have h0 : Dec (p :: (mid ++ [q])) got ↔ ∃ u v, got = p ++ u ++ v ∧ Dec (mid ++ [q]) v := by cases mid <;> exact Iff.rfl
    rw [h0]
    constructor
    · rintro ⟨u, v, rfl, h⟩
      obtain ⟨t, e, hm⟩ := (mid_dec q mid (u ++ v)).mp ⟨u, v, rfl, h⟩
      exact ⟨t, by rw [List.append_assoc, e]; simp, hm⟩
    · rintro ⟨t, rfl, hm⟩
      obtain ⟨u, v, e, h⟩ := (mid_dec q mid (t ++ q)).mpr ⟨t, rfl, hm⟩
      exact ⟨u, v, by rw [List.append_assoc, e]; simp, h⟩
  rw [hd]
  unfold em
  simp only [Bool.and_eq_true, decide_eq_true_eq, List.isPrefixOf_iff_prefix, List.isSuffixOf_iff_suffix]
  constructor
  · rintro ⟨⟨⟨⟨a, ha⟩, ⟨b, hb⟩⟩, hl⟩, hm⟩
    rw [emLoop_mid (by (first | lia | omega)) _ _ (by (first | lia | omega)), mid_lead] at hm
    refine ⟨_, ?_, hm⟩
    have e1 : got.take (got.length - q.length) = b := by rw [← hb]; simp
    have e2 : b.take p.length = p := by
      have : p.length ≤ b.length := by rw [← hb] at hl; simp at hl; (first | lia | omega)
      have h1 : got.take p.length = p := by rw [← ha]; simp
      rw [← hb, List.take_append_of_le_length this] at h1
      exact h1
    rw [e1]
    conv => rhs; rw [← e2]
    rw [e2]
    conv => lhs; rw [← hb]
    congr 1
    conv => lhs; rw [← List.take_append_drop p.length b, e2]
  · rintro ⟨t, rfl, hm⟩
    refine ⟨⟨⟨⟨t ++ q, by simp⟩, ⟨p ++ t, rfl⟩⟩, by simp only [List.length_append]; (first | lia | omega)⟩, ?_⟩
    rw [emLoop_mid (by (first | lia | omega)) _ _ (by simp only [List.length_append]; (first | lia | omega)), mid_lead]
    have e1 : (p ++ t ++ q).take ((p ++ t ++ q).length - q.length) = p ++ t := by
      rw [List.length_append (bs := q), Nat.add_sub_cancel, List.take_left']
      rfl
    rw [e1]
    simpa using hm
theorem sub_range {k j n : Nat} {K : List Nat} (hK : (k :: K).Sublist (List.range' j (n - j))) : j ≤ k ∧ k < n ∧ K.Sublist (List.range' (k + 1) (n - (k + 1))) := by
  have hk : k ∈ List.range' j (n - j) := hK.subset (by simp)
  simp only [List.mem_range'_1] at hk
  refine ⟨hk.1, by (first | lia | omega), ?_⟩
  have er : List.range' j (n - j) = List.range' j (k - j) ++ k :: List.range' (k + 1) (n - (k + 1)) := by
    have e2 : List.range' k ((n - (k + 1)) + 1) = k :: List.range' (k + 1) (n - (k + 1)) := List.range'_succ ..
    rw [← e2, show List.range' k ((n - (k + 1)) + 1) = List.range' (j + (k - j)) ((n - (k + 1)) + 1) by congr 1; (first | lia | omega), List.range'_append_1]
    congr 1; (first | lia | omega)
  rw [er] at hK
  have hnk : ∀ (l : List Nat), k ∉ l → ∀ r, (k :: K).Sublist (l ++ r) → (k :: K).Sublist r := fun l => by
    induction l with
    | nil => intro _ r h; exact h
    | cons x l ih =>
      intro hn r h
      rw [List.cons_append] at h
      cases h with
      | cons _ h => exact ih (fun hm => hn (by simp [hm])) r h
      | cons_cons _ h => exact absurd (by simp) hn
  have := hnk _ (by simp only [List.mem_range'_1]; (first | lia | omega)) _ hK
  cases this with
  | cons _ h =>
    have : k ∈ List.range' (k + 1) (n - (k + 1)) := h.subset (by simp)
    simp only [List.mem_range'_1] at this
    (first | lia | omega)
  | cons_cons _ h => exact h
/-- the gaps of a choice of places -/
noncomputable def GapOK (P : Nat → Bool) (n : Nat) : Nat → Nat → List Nat → Prop
  | i, j, [] => j < n → P i = true
  | i, j, k :: K => (j < k → P i = true) ∧ GapOK P n (i + 1) (k + 1) K
theorem fit_kept (P : Nat → Bool) (g : List Nat) : ∀ (s : List Nat) (i j : Nat), j ≤ g.length → (Fit P i s (g.drop j) ↔ ∃ K : List Nat, K.Sublist (List.range' j (g.length - j)) ∧ K.map (fun k => g.getD k 0) = s ∧ GapOK P g.length i j K)
  | [], i, j, hj => by
    constructor
    · intro h
      cases h with
      | fin h => exact ⟨[], List.nil_sublist _, rfl, fun hlt => h (by simp; (first | lia | omega))⟩
    · rintro ⟨K, _, hm, hg⟩
      obtain rfl : K = [] := by simpa using hm
      exact Fit.fin fun h => hg (by simp at h; (first | lia | omega))
  | c :: s, i, j, hj => by
    constructor
    · intro h
      obtain ⟨u, v, e, hu, hf⟩ := fit_inv h
      have hlen : g.length - j = u.length + (v.length + 1) := by rw [← List.length_drop, e]; simp
      have hv : g.drop (j + u.length + 1) = v := by rw [Nat.add_assoc, ← List.drop_drop, e, ← List.drop_drop]; simp
      have hc : g.getD (j + u.length) 0 = c := by
        have : (g.drop j)[u.length]? = some c := by rw [e]; simp
        rw [List.getElem?_drop] at this
        rw [List.getD_eq_getElem?_getD, this]; rfl
      obtain ⟨K, hK, hm, hg⟩ := (fit_kept P g s (i + 1) (j + u.length + 1) (by (first | lia | omega))).mp (by rw [hv]; exact hf)
      refine ⟨(j + u.length) :: K, ?_, by rw [List.map_cons, hc, hm], fun hlt => hu (by intro e; rw [e] at hlt; simp at hlt), hg⟩
      have er : List.range' j (g.length - j) = List.range' j u.length ++ (j + u.length) :: List.range' (j + u.length + 1) (g.length - (j + u.length + 1)) := by
        rw [show g.length - j = u.length + ((g.length - (j + u.length + 1)) + 1) by (first | lia | omega), ← List.range'_append_1, List.range'_succ]
      rw [er]
      exact (List.Sublist.cons_cons _ hK).trans (List.sublist_append_right _ _)
    · rintro ⟨K, hK, hm, hg⟩
      cases K with
      | nil => simp at hm
      | cons k K =>
        rw [List.map_cons] at hm
        injection hm with hc hm
        obtain ⟨hjk0, hlt, hK2⟩ := sub_range hK
        have hf := (fit_kept P g s (i + 1) (k + 1) hlt).mpr ⟨K, hK2, hm, hg.2⟩
        have ed : g.drop j = (g.drop j).take (k - j) ++ c :: g.drop (k + 1) := by
          conv => lhs; rw [← List.take_append_drop (k - j) (g.drop j)]
          congr 1
          rw [List.drop_drop, show j + (k - j) = k by (first | lia | omega), List.drop_eq_getElem_cons hlt, ← hc, List.getD_eq_getElem?_getD, List.getElem?_eq_getElem hlt]
          rfl
        rw [ed]
        by_cases hjk : j < k
        · exact fit_gap (hg.1 hjk) _ _ (Fit.hit c hf)
        · have : k - j = 0 := by (first | lia | omega)
          rw [this, List.take_zero, List.nil_append]
          exact Fit.hit c hf
theorem gap_ends (P : Nat → Bool) (n : Nat) : ∀ (K : List Nat) (i j : Nat), K.Sublist (List.range' j (n - j)) → j ≤ n → ((∀ p, p ≤ K.length → 1 < (((j : Int) - 1) :: (K.map (fun (k : Nat) => (k : Int)) ++ [(n : Int)])).getD (p + 1) 0 - (((j : Int) - 1) :: (K.map (fun (k : Nat) => (k : Int)) ++ [(n : Int)])).getD p 0 → P (i + p) = true) ↔ GapOK P n i j K)
  | [], i, j, _, hj => by
    simp only [GapOK, List.map_nil, List.nil_append, List.length_nil]
    constructor
    · intro h hlt; have := h 0 (Nat.le_refl _) (by simp; (first | lia | omega)); simpa using this
    · intro h p hp hl; obtain rfl : p = 0 := by (first | lia | omega)
      simp at hl; exact h (by (first | lia | omega))
  | k :: K, i, j, hK, hj => by
    obtain ⟨hjk0, hlt, hK2⟩ := sub_range hK
    have ih := gap_ends P n K (i + 1) (k + 1) hK2 (by (first | lia | omega))
    have ek : (((k + 1 : Nat) : Int) - 1) = (k : Int) := by (first | lia | omega)
    rw [ek] at ih
    simp only [GapOK, ← ih, List.map_cons, List.cons_append]
    constructor
    · intro h
      refine ⟨fun hlt => ?_, fun p hp hl => ?_⟩
      · have := h 0 (Nat.zero_le _) (by simp; (first | lia | omega)); simpa using this
      · have := h (p + 1) (by simp; (first | lia | omega)) (by simpa using hl)
        rw [show i + 1 + p = i + (p + 1) by (first | lia | omega)]; exact this
    · rintro ⟨h1, h2⟩ p hp hl
      cases p with
      | zero => simp at hl; simpa using h1 (by (first | lia | omega))
      | succ p =>
        have := h2 p (by simp at hp; (first | lia | omega)) (by simpa using hl)
        rw [show i + (p + 1) = i + 1 + p by (first | lia | omega)]; exact this
end Mine
end
noncomputable section
set_option maxRecDepth 100000
namespace Mine
theorem filter_of_sub {K l : List Nat} (h : K.Sublist l) : l.Nodup → l.filter (fun k => decide (k ∈ K)) = K := by
  induction h with
  | slnil => intro _; rfl
  | cons y h ih =>
    intro hn
    rw [List.nodup_cons] at hn
    rw [List.filter_cons_of_neg (by simpa using fun hm => hn.1 (h.subset hm))]
    exact ih hn.2
  | cons_cons y h ih =>
    intro hn
    rw [List.nodup_cons] at hn
    rw [List.filter_cons_of_pos (by simp)]
    congr 1
    conv => rhs; rw [← ih hn.2]
    apply List.filter_congr
    intro x hx
    have : x ≠ y := fun e => hn.1 (e ▸ hx)
    simp [this]
theorem mask_of (f : Nat → Bool) (n : Nat) (hn : n ≤ 5) : ∃ mask, mask < 2 ^ n ∧ ∀ k, k < n → bt (mask : Nat) k = f k := by
  have h5 : ∀ b0 b1 b2 b3 b4 : Bool, ∃ m, m < 32 ∧ bt (m : Nat) 0 = b0 ∧ bt (m : Nat) 1 = b1 ∧ bt (m : Nat) 2 = b2 ∧ bt (m : Nat) 3 = b3 ∧ bt (m : Nat) 4 = b4 := by decide +kernel
  have h4 : ∀ b0 b1 b2 b3 : Bool, ∃ m, m < 16 ∧ bt (m : Nat) 0 = b0 ∧ bt (m : Nat) 1 = b1 ∧ bt (m : Nat) 2 = b2 ∧ bt (m : Nat) 3 = b3 := by decide +kernel
  have h3 : ∀ b0 b1 b2 : Bool, ∃ m, m < 8 ∧ bt (m : Nat) 0 = b0 ∧ bt (m : Nat) 1 = b1 ∧ bt (m : Nat) 2 = b2 := by decide +kernel
  have h2 : ∀ b0 b1 : Bool, ∃ m, m < 4 ∧ bt (m : Nat) 0 = b0 ∧ bt (m : Nat) 1 = b1 := by decide +kernel
  have h1 : ∀ b0 : Bool, ∃ m, m < 2 ∧ bt (m : Nat) 0 = b0 := by decide +kernel
  match n, hn with
  | 0, _ => exact ⟨0, by simp, fun k hk => by (first | lia | omega)⟩
  | 1, _ =>
    obtain ⟨m, hm, e0⟩ := h1 (f 0)
    exact ⟨m, hm, fun k hk => by
      have : k = 0 := by (first | lia | omega)
      subst this; exact e0⟩
  | 2, _ =>
    obtain ⟨m, hm, e0, e1⟩ := h2 (f 0) (f 1)
    exact ⟨m, hm, fun k hk => by
      have : k = 0 ∨ k = 1 := by (first | lia | omega)
      rcases this with rfl | rfl <;> assumption⟩
  | 3, _ =>
    obtain ⟨m, hm, e0, e1, e2⟩ := h3 (f 0) (f 1) (f 2)
    exact ⟨m, hm, fun k hk => by
      have : k = 0 ∨ k = 1 ∨ k = 2 := by (first | lia | omega)
      rcases this with rfl | rfl | rfl <;> assumption⟩
  | 4, _ =>
    obtain ⟨m, hm, e0, e1, e2, e3⟩ := h4 (f 0) (f 1) (f 2) (f 3)
    exact ⟨m, hm, fun k hk => by
      have : k = 0 ∨ k = 1 ∨ k = 2 ∨ k = 3 := by (first | lia | omega)
      rcases this with rfl | rfl | rfl | rfl <;> assumption⟩
  | 5, _ =>
    obtain ⟨m, hm, e0, e1, e2, e3, e4⟩ := h5 (f 0) (f 1) (f 2) (f 3) (f 4)
    exact ⟨m, hm, fun k hk => by
      have : k = 0 ∨ k = 1 ∨ k = 2 ∨ k = 3 ∨ k = 4 := by (first | lia | omega)
      rcases this with rfl | rfl | rfl | rfl | rfl <;> assumption⟩
theorem kept_sub (n : Nat) (mask : Int) : (keptOf n mask).Sublist (List.range' 0 (n - 0)) := by
  unfold keptOf
  rw [Nat.sub_zero, ← List.range_eq_range']
  exact List.filter_sublist
theorem kept_all {n : Nat} (hn : n ≤ 5) {K : List Nat} (h : K.Sublist (List.range' 0 (n - 0))) : ∃ mask, mask < 2 ^ n ∧ keptOf n (mask : Nat) = K := by
  rw [Nat.sub_zero, ← List.range_eq_range'] at h
  obtain ⟨m, hm, hb⟩ := mask_of (fun k => decide (k ∈ K)) n hn
  refine ⟨m, hm, ?_⟩
  rw [← filter_of_sub h List.nodup_range]
  unfold keptOf
  apply List.filter_congr
  intro k hk
  rw [hb k (by simpa using hk)]
theorem gaps_ok (P : Nat → Bool) (n m : Nat) (K : List Nat) (hK : K.Sublist (List.range' 0 (n - 0))) (hl : K.length = m) : (∀ x ∈ gapsOf m (endsOf n K), P x = true) ↔ GapOK P n 0 0 K := by
  rw [← gap_ends P n K 0 0 hK (Nat.zero_le _)]
  have e : endsOf n K = (((0 : Nat) : Int) - 1) :: (K.map (fun (k : Nat) => (k : Int)) ++ [(n : Int)]) := by unfold endsOf; simp
  rw [← e]
  unfold gapsOf
  constructor
  · intro h p hp hlt
    rw [Nat.zero_add]
    exact h p (List.mem_filter.mpr ⟨by simp; (first | lia | omega), by simpa using hlt⟩)
  · intro h x hx
    obtain ⟨h1, h2⟩ := List.mem_filter.mp hx
    have := h x (by simp at h1; (first | lia | omega)) (by simpa using h2)
    rwa [Nat.zero_add] at this
/-- some need lies within the places just if the word fits -/
theorem needs_fit (P : Nat → Bool) (s g : List Nat) (hg : g.length ≤ 5) : (∃ need ∈ needsOf s g, ∀ x ∈ need, P x = true) ↔ Fit P 0 s g := by
  have hk := fit_kept P g s 0 0 (Nat.zero_le _)
  rw [List.drop_zero] at hk
  rw [hk]
  constructor
  · rintro ⟨need, hm, hP⟩
    unfold needsOf at hm
    obtain ⟨mask, _, hn⟩ := List.mem_filterMap.mp hm
    unfold needOf at hn
    split at hn
    · rename_i hs
      cases hn
      refine ⟨keptOf g.length mask, kept_sub _ _, hs, (gaps_ok P g.length s.length _ (kept_sub _ _) (by rw [← hs]; simp)).mp hP⟩
    · cases hn
  · rintro ⟨K, hK, hs, hgap⟩
    obtain ⟨mask, hlt, hm⟩ := kept_all hg hK
    refine ⟨gapsOf s.length (endsOf g.length K), ?_, (gaps_ok P g.length s.length K hK (by rw [← hs]; simp)).mpr hgap⟩
    unfold needsOf
    refine List.mem_filterMap.mpr ⟨mask, by simpa using hlt, ?_⟩
    unfold needOf
    rw [hm, if_pos hs]
/-- all places: the word fits just if its signs stand in the text, in order -/
theorem fit_all {s g : List Nat} {i : Nat} : Fit (fun _ => true) i s g ↔ s.Sublist g := by
  constructor
  · intro h
    induction h with
    | fin _ => exact List.nil_sublist _
    | hit c h ih => exact List.Sublist.cons_cons _ ih
    | skip x _ h ih => exact List.Sublist.cons _ ih
  · intro h
    induction h generalizing i with
    | slnil => exact Fit.fin fun _ => rfl
    | cons y h ih =>
      rename_i l1 l2
      cases l1 with
      | nil => exact Fit.fin fun _ => rfl
      | cons c s => exact Fit.skip y rfl ih
    | cons_cons y h ih => exact Fit.hit y ih
end Mine
end
noncomputable section
set_option maxRecDepth 100000
namespace Mine
/-- a sort's questions answered by an oracle -/
noncomputable def okT {α : Type} (f : Nat → Nat → Bool) (n : Nat) : KasT α → Option α
  | .ret a => some a
  | .ask i j k => if i < n ∧ j < n then okT f n (k (f i j)) else none
theorem kas_oracle {α : Type} {cmp : Nat → Nat → (Bool → Shared → Prop) → Shared → Prop} {f : Nat → Nat → Bool} {n : Nat} {Inv : Shared → Prop}
    (hc : ∀ i j C s, i < n → j < n → Inv s → (∀ s', Inv s' → C (f i j) s') → cmp i j C s) : ∀ (t : KasT α) (r : α), okT f n t = some r → ∀ (s : Shared) (Q : α → Shared → Prop), Inv s → (∀ s', Inv s' → Q r s') → t.kasWp cmp Q s
  | .ret a, r, h, s, Q, hi, hq => by
    simp only [okT, Option.some.injEq] at h
    subst h
    exact hq s hi
  | .ask i j k, r, h, s, Q, hi, hq => by
    simp only [okT] at h
    split at h
    · rename_i hij
      exact hc i j _ s hij.1 hij.2 hi fun s' hi' => kas_oracle hc (k (f i j)) r h s' Q hi' hq
    · cases h
/-- choices of m places, by the binary figures of a number -/
noncomputable def choice (m : Nat) (mask : Nat) : List Nat := (List.range m).filter fun p => bt mask p
noncomputable def keyLt (a b : List Nat) : Bool := decide (a.length < b.length) || (decide (a.length = b.length) && decide (a < b))
noncomputable def order2 : Array Nat := #[0, 1, 2, 3]
noncomputable def order3 : Array Nat := #[0, 1, 2, 4, 3, 5, 6, 7]
noncomputable def order4 : Array Nat := #[0, 1, 2, 4, 8, 3, 5, 9, 6, 10, 12, 7, 11, 13, 14, 15]
end Mine
end
noncomputable section
set_option maxRecDepth 100000
namespace Mine
open AutoSeq1 (wpAny_loadPart')
open MeetsSeq
noncomputable def lexL : List Int → List Int → Bool
  | [], [] => false
  | [], _ :: _ => true
  | _ :: _, [] => false
  | x :: xs, y :: ys => if x = y then lexL xs ys else decide (x < y)
theorem lt_loop (l b : Addr) (items items2 : Array Value) (n n2 : Nat) (xs ys : List Int) (h1 : items.size = xs.length) (h2 : items2.size = ys.length) (hlen : xs.length = ys.length) (hx : ∀ j, j < xs.length → ∃ t, items[j]? = some (.int (xs.getD j 0) t)) (hy : ∀ j, j < ys.length → ∃ t, items2[j]? = some (.int (ys.getD j 0) t)) (k : Nat) :
    ∀ i : Nat, items.size - i = k → Meets (Builtin.«list.__eq__.loop» ⟨[.ref l, .ref b, rawInt i, rawInt 0], []⟩)
      (fun _ R s => s.heap.get? l = some { cls := .type "list", dict := none, data := .seq items n, slots := #[] } ∧ s.heap.get? b = some { cls := .type "list", dict := none, data := .seq items2 n2, slots := #[] } ∧
        R (.ok (.ret (.bool (lexL (xs.drop i) (ys.drop i))))) s) := by
  induction k with
  | zero =>
    intro i hk prog w A R s h
    obtain ⟨hp, g, d, tk, os⟩ := s; obtain ⟨hl, hb, h⟩ := h
    wp_walk using wpAny_loadPart' hl, wpAny_loadPart' hb
    have hi1 : items[((i : Nat) : Int).toNat]? = none := by simp; (first | lia | omega)
    have hi2 : items2[((i : Nat) : Int).toNat]? = none := by simp; (first | lia | omega)
    have hd : xs.drop i = [] := List.drop_eq_nil_of_le (by (first | lia | omega))
    have hd2 : ys.drop i = [] := List.drop_eq_nil_of_le (by (first | lia | omega))
    rw [hd, hd2] at h
    rw [hi1, hi2]
    wp_walk using wpAny_loadPart' hl, wpAny_loadPart' hb
    show R (.ok (.ret (.bool (decide (items.size < items2.size))))) _
    rw [show decide (items.size < items2.size) = lexL [] [] by simp [lexL]; (first | lia | omega)]
    exact h
  | succ k ih =>
    intro i hk prog w A R s h
    obtain ⟨hp, g, d, tk, os⟩ := s; obtain ⟨hl, hb, h⟩ := h
    wp_walk using wpAny_loadPart' hl, wpAny_loadPart' hb
    have hlt : i < xs.length := by (first | lia | omega)
    have hlt2 : i < ys.length := by (first | lia | omega)
    obtain ⟨t, ht⟩ := hx i hlt
    obtain ⟨u, hu⟩ := hy i hlt2
    have hi1 : items[((i : Nat) : Int).toNat]? = some (.int (xs.getD i 0) t) := by simpa using ht
    have hi2 : items2[((i : Nat) : Int).toNat]? = some (.int (ys.getD i 0) u) := by simpa using hu
    have hc : ((i : Int) + 1) = ((i + 1 : Nat) : Int) := by push_cast; rfl
    have hd : xs.drop i = xs.getD i 0 :: xs.drop (i + 1) := by rw [List.drop_eq_getElem_cons hlt, List.getD_eq_getElem?_getD, List.getElem?_eq_getElem hlt]; rfl
    have hd2 : ys.drop i = ys.getD i 0 :: ys.drop (i + 1) := by rw [List.drop_eq_getElem_cons hlt2, List.getD_eq_getElem?_getD, List.getElem?_eq_getElem hlt2]; rfl
    rw [hd, hd2] at h
    simp only [lexL] at h
    rw [hi1, hi2]
    refine wpAny_bind (wpAny_eqBool_int ?_)
    by_cases he : xs.getD i 0 = ys.getD i 0
    · rw [if_pos he] at h
      rw [beq_iff_eq.mpr he]
      wp_walk
      rw [hc]
      exact ⟨plainId_quiet MeetsSeq3.plain_eq_loop _, codeAny_builtin MeetsSeq3.entry_eq_loop (by
        rw [Around.under_plainId MeetsSeq3.plain_eq_loop _]
        exact ih (i + 1) (by (first | lia | omega)) prog w A R _ ⟨hl, hb, h⟩)⟩
    · rw [if_neg he] at h
      rw [beq_eq_false_iff_ne.mpr he]
      wp_walk using wpAny_loadPart' hl, wpAny_loadPart' hb
      rw [hi1, hi2]
      show wpAny (model prog w) A.in1 (do let v ← compareOp .Lt (.int (xs.getD i 0) t) (.int (ys.getD i 0) u); ret v) _ _ _
      refine wpAny_bind (PyProof.Rows.lt_int ?_)
      exact wpAny_pure h
theorem list_lt (l b : Addr) (items items2 : Array Value) (n n2 : Nat) (xs ys : List Int) (h1 : items.size = xs.length) (h2 : items2.size = ys.length) (hlen : xs.length = ys.length) (hx : ∀ j, j < xs.length → ∃ t, items[j]? = some (.int (xs.getD j 0) t)) (hy : ∀ j, j < ys.length → ∃ t, items2[j]? = some (.int (ys.getD j 0) t)) :
    Meets (Builtin.«list.__lt__» ⟨[.ref l, .ref b], []⟩)
      (fun _ R s => s.heap.get? l = some { cls := .type "list", dict := none, data := .seq items n, slots := #[] } ∧ s.heap.get? b = some { cls := .type "list", dict := none, data := .seq items2 n2, slots := #[] } ∧
        R (.ok (.ret (.bool (lexL xs ys)))) s) := by
  intro prog w A R s h
  obtain ⟨hp, g, d, tk, os⟩ := s; obtain ⟨hl, hb, h⟩ := h
  have f3 := AutoSeq1.sub_list_list
  wp_walk using wpAny_loadPart' hl, wpAny_loadPart' hb
  exact ⟨plainId_quiet MeetsSeq3.plain_eq_loop _, codeAny_builtin MeetsSeq3.entry_eq_loop (by
    rw [Around.under_plainId MeetsSeq3.plain_eq_loop _]
    exact lt_loop l b items items2 n n2 xs ys h1 h2 hlen hx hy _ 0 rfl prog w A R _ ⟨hl, hb, h⟩)⟩
theorem lt_lists {w : World} {A : Around} {s : Shared} {Q : Value → Shared → Prop} {E : Value → Shared → Prop} {l b : Addr} {items items2 : Array Value} {xs ys : List Int} (hl : s.heap.PlainList l items) (hb : s.heap.PlainList b items2) (h1 : IntsAre items.toList xs) (h2 : IntsAre items2.toList ys) (hlen : xs.length = ys.length) (hu : A.units < cLine)
    (h : Q (.bool (lexL xs ys)) s) : wpAny (MW w) A (compareOp .Lt (.ref l) (.ref b)) Q E s := by
  obtain ⟨n, ho⟩ := hl
  obtain ⟨n2, ho2⟩ := hb
  have hin : ∀ {vs : List Value} {zs : List Int}, IntsAre vs zs → vs.length = zs.length ∧ ∀ j, j < zs.length → ∃ t, vs[j]? = some (.int (zs.getD j 0) t) := fun {vs zs} r => by
    induction r with
    | nil => exact ⟨rfl, fun j hj => by simp at hj⟩
    | cons z t r ih =>
      refine ⟨by simp [ih.1], fun j hj => ?_⟩
      cases j with
      | zero => exact ⟨t, by simp⟩
      | succ j => obtain ⟨t', e⟩ := ih.2 j (by simpa using hj); exact ⟨t', by simpa using e⟩
  obtain ⟨a1, a2⟩ := hin h1
  obtain ⟨b1, b2⟩ := hin h2
  exact richCompare_meets_room (op := .Lt) ⟨_, ho, rfl⟩ ⟨_, ho2, rfl⟩ F.slot_list_lt F.entry_list_lt (F.args_list_lt_2 _ _) (list_lt l b items items2 n n2 xs ys (by simpa using a1) (by simpa using b1) hlen (fun j hj => by simpa using a2 j hj) (fun j hj => by simpa using b2 j hj))
    ⟨ho, ho2, show Value.bool (lexL xs ys) ≠ Value.notImplemented ∧ Q (.bool (lexL xs ys)) s from ⟨(fun x => nomatch x), h⟩⟩ hu
end Mine
end
noncomputable section
set_option maxRecDepth 100000
namespace Mine
noncomputable def kl (a : Int) (ns : List Int) (b : Int) (ms : List Int) : Bool := if a = b then (if ns = ms then false else lexL ns ms) else decide (a < b)
theorem key_lt {w : World} {A : Around} {s : Shared} {V : Addr → Prop} {Q : Bool → Shared → Prop} {E : Value → Shared → Prop} {v v' : Value} {a b : Int} {ns ms : List Int} (r1 : Rep V s.heap (.tup [.int a, .list (ns.map PV.int)]) v) (r2 : Rep V s.heap (.tup [.int b, .list (ms.map PV.int)]) v')
    (hl : a = b → ns.length = ms.length) (hu : A.units + 64 < cLine) (h : Q (kl a ns b ms) s) : wpAny (MW w) A (keyLt' (tuples' true) v v') Q E s := by
  obtain ⟨x, vs, rfl, _, hx, rs⟩ := rep_tup r1
  obtain ⟨y, us, rfl, _, hy, rs'⟩ := rep_tup r2
  obtain ⟨p, q, rfl, rp, rq⟩ := reps_two rs
  obtain ⟨p', q', rfl, rp', rq'⟩ := reps_two rs'
  obtain ⟨t, rfl⟩ := rep_int rp
  obtain ⟨u, rfl⟩ := rep_int rp'
  obtain ⟨l, ls, rfl, _, pl, rl⟩ := rep_list rq
  obtain ⟨l', ls', rfl, _, pl', rl'⟩ := rep_list rq'
  refine kat_lt hx rfl hy rfl ?_
  show KatLex _ w A true _ Q [(.int a t, .int b u), (.ref l, .ref l')] 0 s
  refine kat_cons (wpAny_eqBool_int ?_)
  by_cases hab : a = b
  · rw [beq_iff_eq.mpr hab]
    refine kat_yes (kat_cons ?_)
    have pyi : ∀ zs : List Int, PV.pys (zs.map PV.int) = some (zs.map PyData.int) := fun zs => by
      induction zs with
      | nil => rfl
      | cons z zs ih => simp [PV.pys, PV.py, ih]
    obtain ⟨as, ra⟩ := rq.reads (dt := .list (ns.map PyData.int)) (by simp [PV.py, pyi])
    obtain ⟨bs, rb⟩ := rq'.reads (dt := .list (ms.map PyData.int)) (by simp [PV.py, pyi])
    have cl : ∀ zs : List Int, PyData.canLay0 (.list (zs.map PyData.int)) = true ∧ PyData.depth (.list (zs.map PyData.int)) = 1 := fun zs => by
      induction zs with
      | nil => exact ⟨rfl, rfl⟩
      | cons z zs ih =>
        simp only [PyData.canLay0, PyData.depth, List.map_cons, PyData.canLayAll0, PyData.depthAll, Bool.true_and] at ih ⊢
        exact ⟨ih.1, by (first | lia | omega)⟩
    refine SeqAt.eqBoolOverData _ w A _ s _ _ _ _ as bs _ ra rb (cl ns).1 (cl ms).1 (by rw [(cl ns).2, (cl ms).2]; show A.units + min 1 1 < cLine; (first | lia | omega)) ?_
    rw [show PyData.eqv (.list (ns.map PyData.int)) (.list (ms.map PyData.int)) = decide (ns = ms) from ked_eqvAll ns ms]
    by_cases hnm : ns = ms
    · rw [decide_eq_true hnm]
      refine kat_yes (kat_nil ?_)
      have : kl a ns b ms = false := by unfold kl; rw [if_pos hab, if_pos hnm]
      rw [this] at h
      exact h
    · rw [decide_eq_false hnm]
      refine kat_no ?_
      show wpAny _ A (oneLt' false (.ref l) (.ref l')) Q _ s
      refine kat_one _ _ (lt_lists pl pl' (reps_ints rl) (reps_ints rl') (hl hab) (by (first | lia | omega)) ?_)
      have : kl a ns b ms = lexL ns ms := by unfold kl; rw [if_pos hab, if_neg hnm]
      rw [this] at h
      exact h
  · rw [beq_eq_false_iff_ne.mpr hab]
    refine kat_no ?_
    show wpAny _ A (oneLt' true (.int a t) (.int b u)) Q _ s
    refine oneLt_int ?_
    have : kl a ns b ms = decide (a < b) := by unfold kl; rw [if_neg hab]
    rw [this] at h
    exact h
end Mine
end
noncomputable section
set_option maxRecDepth 100000
set_option maxHeartbeats 1000000
namespace Mine
noncomputable def kv (k : Int × List Int) : PV := .tup [.int k.1, .list (k.2.map PV.int)]
theorem sort_tail {w : World} {A : Around} {s : Shared} {P : PySem.Fin → Shared → Prop} {E : Value → Shared → Prop} {a kS : Addr} {keys : Array Value} {e e1 : Nat} {st : SortSt} (hk : s.heap.get? kS = some (seqObj "list" keys e)) (ha : s.heap.get? a = some (seqObj "list" #[] e1)) (hka : kS ≠ a) (hz : keys.size ≤ 100) (hz2 : (arrOf st).size ≤ 100) (hf : failedOf st = none)
    (h : ∀ h', (∀ b o, b ≠ a → b ≠ kS → s.heap.get? b = some o → h'.get? b = some o) → h'.PlainList a ((arrOf st).map (·.2)) → P (.done (.ret .none)) { s with heap := h' }) : wpAny (MW w) A (ksk_tail a false e1 (.ref kS) st) P E s := by
  have s1 := Heap.SameBut.update s.heap kS (Obj.mapSeq fun _ => (#[] : Array Value))
  have na1 : (s.heap.update kS (Obj.mapSeq fun _ => (#[] : Array Value))).get? a = some (seqObj "list" #[] e1) := (s1.2 a hka.symm).trans ha
  have s2 := Heap.SameBut.update (s.heap.update kS (Obj.mapSeq fun _ => (#[] : Array Value))) a (Obj.mapSeq fun _ => (arrOf st).map (·.2))
  unfold ksk_tail
  try dsimp only
  refine wpAny_bind (listUpdate_at hk rfl ?_ (by rw [sizeLine_eq]; (first | lia | omega)) (Nat.zero_le _))
  refine wpAny_bind (wpAny_letGo ?_)
  refine wpAny_bind (seqEpoch_at na1 rfl ?_)
  simp only [Bool.false_eq_true, if_false]
  refine wpAny_bind (listUpdate_at na1 rfl ?_ (Nat.zero_le _) (by simp only [Array.size_map]; rw [sizeLine_eq]; (first | lia | omega)))
  rw [hf]
  simp only [bne_self_eq_false, Bool.false_eq_true, if_false]
  exact wpAny_pure (h _ (fun b o h1 h2 e => (s2.2 b h1).trans ((s1.2 b h2).trans e)) ⟨_, get?_update_seq na1 fun _ => (arrOf st).map (·.2)⟩)
theorem sort_end {w : World} {A : Around} {s : Shared} {V : Addr → Prop} {P : PySem.Fin → Shared → Prop} {E : Value → Shared → Prop} {a kS : Addr} {keys vs : List Value} {e e1 : Nat} {kk : List (Int × List Int)} {ord : Array Nat} (hk : s.heap.get? kS = some (seqObj "list" keys.toArray e)) (ha : s.heap.get? a = some (seqObj "list" #[] e1)) (hka : kS ≠ a)
    (rk : Reps V s.heap (kk.map kv) keys) (hl : vs.length = kk.length) (h2 : 2 ≤ kk.length) (h64 : kk.length < 64) (hu : A.units + 64 < cLine)
    (hlen : ∀ (i j : Nat) (x y : Int × List Int), kk[i]? = some x → kk[j]? = some y → x.1 = y.1 → x.2.length = y.2.length)
    (hord : okT (fun i j => kl (kk.getD i (0, [])).1 (kk.getD i (0, [])).2 (kk.getD j (0, [])).1 (kk.getD j (0, [])).2) kk.length (kas_sort kk.length) = some ord)
    (h : ∀ h', (∀ b o, b ≠ a → b ≠ kS → s.heap.get? b = some o → h'.get? b = some o) → h'.PlainList a (ord.map fun i => vs.getD i .none) → P (.done (.ret .none)) { s with heap := h' }) : wpAny (MW w) A (ksk_end a false vs.toArray e1 (.ref kS) keys.toArray) P E s := by
  have hkl : keys.length = kk.length := by rw [rk.length]; simp
  have hz : (keys.toArray.zip vs.toArray).size = kk.length := by simp [hkl, hl]
  unfold ksk_end
  try dsimp only
  simp only [Bool.false_eq_true, if_false]
  have hn2 : ¬ vs.toArray.size < 2 := by simp; (first | lia | omega)
  rw [if_neg hn2, if_neg hn2]
  have tups : ∀ {ks : List (Int × List Int)} {us : List Value}, Reps V s.heap (ks.map kv) us → ∃ fs : List Value, KatTups s.heap us fs ∧ fs.length = ks.length ∧ ∀ f ∈ fs, ∃ i t, f = .int i t := fun {ks} => by
    induction ks with
    | nil => intro us r; rw [reps_nil r]; exact ⟨[], KatTups.nil, rfl, fun f hf => by cases hf⟩
    | cons k ks ih =>
      intro us r
      obtain ⟨v, us', rfl, r1, r2⟩ := reps_cons r
      obtain ⟨fs, t1, t2, t3⟩ := ih r2
      obtain ⟨x, ws, rfl, _, hx, rs⟩ := rep_tup r1
      obtain ⟨p, q, rfl, rp, rq⟩ := reps_two rs
      obtain ⟨t, rfl⟩ := rep_int rp
      exact ⟨.int k.1 t :: fs, KatTups.cons hx rfl rfl (by simp) t1, by simp [t2], fun f hf => by
        rcases List.mem_cons.mp hf with rfl | hf
        · exact ⟨_, _, rfl⟩
        · exact t3 f hf⟩
  obtain ⟨fs, t1, t2, t3⟩ := tups rk
  refine wpAny_bind (kat_kind (T := .type "int") t1 (by (first | lia | omega)) (fun f hf => by obtain ⟨i, t, rfl⟩ := t3 f hf; exact Looks.of_pure rfl) rfl ?_)
  have e1' : (SortSt.mk' (tuples' (Value.type "int" != Value.type "tuple")) (keys.toArray.zip vs.toArray) #[] 7 none) = kas_st (tuples' true) (keys.toArray.zip vs.toArray) (List.toArray (List.range (keys.toArray.zip vs.toArray).size)) := by
    unfold kas_st; rw [kas_range]; rfl
  rw [e1', hz]
  refine wpAny_bind ?_
  have item : ∀ i, i < kk.length → ∃ k v, kk[i]? = some k ∧ Rep V s.heap (kv k) v ∧ kas_item (keys.toArray.zip vs.toArray) i = (v, vs.getD i .none) := fun i hi => by
    obtain ⟨v, hv, rv⟩ := rk.get (i := i) (p := kv kk[i]) (by simp [hi])
    refine ⟨kk[i], v, by simp [hi], rv, ?_⟩
    rw [kat_item (by (first | lia | omega)) i]
    congr 1
    rw [List.getD_eq_getElem?_getD, hv]; rfl
  refine kas_runs (it := keys.toArray.zip vs.toArray) (κ := tuples' true) (n := kk.length) (G := fun p' s' => p' = ord ∧ s' = s) (Q := fun _ st' s' => wpAny (MW w) A (ksk_tail a false e1 (.ref kS) st') P E s') h2 h64 (fun p' st' s' hp ha' hf' hG => ?_) ?_
  · obtain ⟨rfl, rfl⟩ := hG
    refine sort_tail hk ha hka (by simp; (first | lia | omega)) (by rw [ha', Array.size_map]; (first | lia | omega)) hf' fun h' k1 k2 => h h' k1 ?_
    rw [ha', Array.map_map] at k2
    have em : p'.map ((fun x => x.2) ∘ kas_item (keys.toArray.zip vs.toArray)) = p'.map fun i => vs.getD i .none := by
      apply Array.map_congr_left
      intro i hi
      show (kas_item (keys.toArray.zip vs.toArray) i).2 = _
      rw [kat_item (by (first | lia | omega)) i]
    rw [em] at k2
    exact k2
  · refine kas_oracle (Inv := fun s' => s' = s) (fun i j C s' hi hj hs hC => ?_) _ ord hord s _ rfl fun s' hs => ⟨rfl, hs⟩
    subst hs
    obtain ⟨k, v, hk1, rv, e2⟩ := item i hi
    obtain ⟨k', v', hk2, rv', e3⟩ := item j hj
    unfold kas_cmp
    rw [e2, e3]
    refine key_lt rv rv' (hlen i j k k' hk1 hk2) hu ?_
    have g1 : kk.getD i (0, []) = k := by rw [List.getD_eq_getElem?_getD, hk1]; rfl
    have g2 : kk.getD j (0, []) = k' := by rw [List.getD_eq_getElem?_getD, hk2]; rfl
    have := hC s' rfl
    simp only [g1, g2] at this
    exact this
end Mine
end
noncomputable section
set_option maxRecDepth 100000
set_option maxHeartbeats 1000000
namespace Mine
/-- a callee that lies in the heap at q -/
noncomputable def FcH (w : World) (d : Nat) (q : Addr) (ls : List (Addr × Obj)) (p k : PV) : Prop :=
  ∀ (V : Addr → Prop) (A : Around) (s : Shared) (Q : Value → Shared → Prop) (E : Value → Shared → Prop) (x : Value), (∀ y ∈ ls, s.heap.get? y.1 = some y.2) → Base w s.heap → Room A d → Alive V s.heap → Rep V s.heap p x →
    (∀ cv h' tk, Stays s.heap h' → Rep V h' k cv → Q cv { s with heap := h', toks := tk }) → wpAny (MW w) A (call (.ref q) [x]) Q E s
theorem sort_tree {w : World} {d : Nat} {A : Around} {s : Shared} {V : Addr → Prop} {P : PySem.Fin → Shared → Prop} {E : Value → Shared → Prop} {a q : Addr} {ls : List (Addr × Obj)} {hb : Heap} {vs : List Value} {n : Nat} {xs : List PV} {kk : List (Int × List Int)} {ord : Array Nat}
    (b0 : Base w hb) (b1 : Stays hb s.heap) (b2 : ∀ b o, hb.get? b = some o → b ≠ a) (rm : Room A d) (al : Alive V s.heap) (va : V a) (ha : s.heap.get? a = some (seqObj "list" vs.toArray n)) (rs : Reps V s.heap xs vs) (hq : ∀ y ∈ ls, s.heap.get? y.1 = some y.2) (hqa : ∀ y ∈ ls, y.1 ≠ a)
    (hf : ∀ (i : Nat) (p : PV) (k : Int × List Int), xs[i]? = some p → kk[i]? = some k → FcH w d q ls p (kv k))
    (hl : xs.length = kk.length) (h2 : 2 ≤ kk.length) (h64 : kk.length < 64) (hlen : ∀ (i j : Nat) (x y : Int × List Int), kk[i]? = some x → kk[j]? = some y → x.1 = y.1 → x.2.length = y.2.length)
    (hord : okT (fun i j => kl (kk.getD i (0, [])).1 (kk.getD i (0, [])).2 (kk.getD j (0, [])).1 (kk.getD j (0, [])).2) kk.length (kas_sort kk.length) = some ord)
    (h : ∀ h' tk, (∀ b o, b ≠ a → s.heap.get? b = some o → h'.get? b = some o) → h'.PlainList a (ord.map fun i => vs.getD i .none) → P (.done (.ret .none)) { s with heap := h', toks := tk }) : wpAny (MW w) A (ksk_tree a (.ref q) false) P E s := by
  have hvl : vs.length = kk.length := by rw [rs.length, hl]
  have s1 := Heap.SameBut.update s.heap a (Obj.mapSeq fun _ => (#[] : Array Value))
  obtain ⟨e1, ho1⟩ : ∃ e1, (s.heap.update a (Obj.mapSeq fun _ => (#[] : Array Value))).get? a = some (seqObj "list" #[] e1) := ⟨_, get?_update_seq ha fun _ => #[]⟩
  unfold ksk_tree
  refine wpAny_bind (listItems_at ha rfl ?_)
  refine wpAny_bind (listUpdate_at ha rfl ?_ (by rw [List.size_toArray, sizeLine_eq]; (first | lia | omega)) (Nat.zero_le _))
  refine wpAny_bind (seqEpoch_at ho1 rfl ?_)
  refine wpAny_bind (wpAny_newTuple ?_ (by show vs.length ≤ _; rw [sizeLine_eq]; (first | lia | omega)))
  refine wpAny_bind (wpAny_newList ?_ (Nat.zero_le _))
  refine wpAny_holding ?_
  generalize hH : ((s.heap.update a (Obj.mapSeq fun _ => (#[] : Array Value))).push (seqObj "tuple" vs.toArray 0)) = H1
  have kp1 : ∀ b o, b ≠ a → s.heap.get? b = some o → H1.get? b = some o := fun b o hb e => hH ▸ Heap.get?_push_of_some _ ((s1.2 b hb).trans e)
  have a1 : H1.get? a = some (seqObj "list" #[] e1) := hH ▸ Heap.get?_push_of_some _ ho1
  have nS : s.heap.get? H1.objs.size = none := by
    cases e : s.heap.get? H1.objs.size with
    | none => rfl
    | some o =>
      exfalso
      by_cases hba : H1.objs.size = a
      · have := Heap.lt_size a1; rw [← hba] at this; exact Nat.lt_irrefl _ this
      · have := Heap.lt_size (kp1 _ o hba e); exact Nat.lt_irrefl _ this
  have hka : H1.objs.size ≠ a := fun hba => by have := Heap.lt_size a1; rw [← hba] at this; exact Nat.lt_irrefl _ this
  generalize hkS : H1.objs.size = kS at *
  show wpAny (MW w) A (ksk_rest a (.ref q) false vs.toArray e1 (.ref kS)) P E { s with heap := H1.push (seqObj "list" #[] 0) }
  unfold ksk_rest
  refine wpAny_bind (wpAny_rule ?_)
  rw [List.forIn_toArray]
  refine wpAny_bind (ksk_fold (fun i s' => ∃ h' tk keys e, s' = { s with heap := h', toks := tk } ∧ h'.get? kS = some (seqObj "list" (List.toArray keys) e) ∧ h'.get? a = some (seqObj "list" #[] e1) ∧ (∀ b o, b ≠ a → s.heap.get? b = some o → h'.get? b = some o) ∧ Reps (fun b => V b ∨ b = kS) h' ((kk.map kv).take i) keys) vs 0 _
    ⟨_, s.toks, [], 0, rfl, hkS ▸ Heap.get?_push_size _ rfl, Heap.get?_push_of_some _ a1, fun b o hb e => Heap.get?_push_of_some _ (kp1 b o hb e), by simpa using Reps.nil⟩ ?step ?done)
  case step =>
    rintro j x s' hx ⟨h', tk, keys, e, rfl, hk, hha, hkp, hr⟩
    simp only [Nat.zero_add] at hr ⊢
    have hj : j < vs.length := (List.getElem?_eq_some_iff.mp hx).1
    obtain ⟨k, hkj⟩ : ∃ k, kk[j]? = some k := ⟨_, List.getElem?_eq_getElem (by (first | lia | omega))⟩
    obtain ⟨p, hpj⟩ : ∃ p, xs[j]? = some p := ⟨_, List.getElem?_eq_getElem (by (first | lia | omega))⟩
    obtain ⟨x', hx', rx⟩ := rs.get hpj
    rw [hx] at hx'; cases hx'
    have rx' : Rep (fun b => V b ∨ b = kS) h' p x := rx.mono fun b o nb eb => ⟨fun hv => hv.elim nb (fun hbk => (by rw [hbk, nS] at eb; cases eb)), hkp b o (fun hba => nb (hba ▸ va)) eb⟩
    have alh : Alive (fun b => V b ∨ b = kS) h' := fun b hv => by
      rcases hv with hv | rfl
      · by_cases hba : b = a
        · subst hba; exact ⟨_, hha⟩
        · obtain ⟨o, eo⟩ := al b hv; exact ⟨o, hkp b o hba eo⟩
      · exact ⟨_, hk⟩
    have bh : Base w h' := b0.stays fun b o eb => hkp b o (b2 b o eb) (b1 b o eb)
    have hkl : keys.length ≤ kk.length := by rw [hr.length]; simp; (first | lia | omega)
    refine wpAny_bind (wpAny_attempt (hf j p k hpj hkj _ A { s with heap := h', toks := tk } _ _ x (fun y hy => hkp y.1 y.2 (hqa y hy) (hq y hy)) bh rm alh rx' fun cv h2 tk2 st2 rc => ?_))
    try dsimp only
    have hk2 := st2 _ _ hk
    have sb := Heap.SameBut.update h2 kS (Obj.mapSeq (·.push cv))
    refine wpAny_bind (listUpdate_at (s := { s with heap := h2, toks := tk2 }) hk2 rfl ?_ (by simp; rw [sizeLine_eq]; (first | lia | omega)) (by simp; rw [sizeLine_eq]; (first | lia | omega)))
    obtain ⟨c2, hc2⟩ : ∃ c2, (h2.update kS (Obj.mapSeq (·.push cv))).get? kS = some (seqObj "list" (List.toArray (keys ++ [cv])) c2) := ⟨if ((List.toArray keys).push cv).size == (List.toArray keys).size then e else e + 1, (get?_update_seq hk2 (·.push cv)).trans (by rw [show List.toArray (keys ++ [cv]) = (List.toArray keys).push cv by simp])⟩
    refine wpAny_pure ⟨rfl, _, tk2, keys ++ [cv], c2, rfl, hc2, (sb.2 a (Ne.symm hka)).trans (st2 _ _ hha), fun b o hb eb => (sb.2 b fun hbk => (by rw [hbk, nS] at eb; cases eb)).trans (st2 _ _ (hkp b o hb eb)), ?_⟩
    have et : (kk.map kv).take (j + 1) = (kk.map kv).take j ++ [kv k] := by rw [List.take_add_one, List.getElem?_map, hkj]; rfl
    rw [et]
    exact ((hr.stays st2).append (Reps.cons rc Reps.nil)).mono fun b o nb eb => ⟨nb, (sb.2 b fun hbk => nb (.inr hbk)).trans eb⟩
  case done =>
    rintro s' ⟨h', tk, keys, e, rfl, hk, hha, hkp, hr⟩
    rw [Nat.zero_add, List.take_of_length_le (by simp; (first | lia | omega))] at hr
    try dsimp only
    refine wpAny_bind (listItems_at (s := { s with heap := h', toks := tk }) hk rfl ?_)
    refine sort_end (s := { s with heap := h', toks := tk }) hk hha hka hr hvl h2 h64 (by have := rm.un; (first | lia | omega)) hlen hord fun h3 k3 pl3 => h h3 tk (fun b o hb eb => k3 b o hb (fun hbk => by rw [hbk, nS] at eb; cases eb) (hkp b o hb eb)) pl3
end Mine
end
noncomputable section
set_option maxRecDepth 100000
set_option maxHeartbeats 1000000
namespace Mine
open PySem.Calls
theorem cells_none : ∀ (names : List (Str × NameKind)) (n : Nat) (acc : List (Str × Addr)) (h : Heap), names.filter (fun y => y.2 == .cell) = [] → cellsFrom n names acc = acc ∧ pushCells h names = h
  | [], n, acc, h, _ => ⟨rfl, rfl⟩
  | (y, k) :: r, n, acc, h, e => by
    cases hk : k == NameKind.cell with
    | true => rw [List.filter_cons_of_pos (by simpa using hk)] at e; cases e
    | false =>
      rw [List.filter_cons_of_neg (by simp [hk])] at e
      unfold cellsFrom pushCells
      rw [hk]
      simp only [Bool.false_eq_true, if_false]
      exact cells_none r n acc h e
theorem cells_one {x : Str} : ∀ (names : List (Str × NameKind)) (n : Nat) (acc : List (Str × Addr)) (h : Heap), names.filter (fun y => y.2 == .cell) = [(x, .cell)] → cellsFrom n names acc = (x, n) :: acc ∧ pushCells h names = h.push { cls := .type "cell", data := .cell none }
  | [], n, acc, h, e => by cases e
  | (y, k) :: r, n, acc, h, e => by
    cases hk : k == NameKind.cell with
    | true =>
      rw [List.filter_cons_of_pos (by simpa using hk)] at e
      injection e with e1 e2
      cases e1
      unfold cellsFrom pushCells
      rw [hk]
      simp only [if_true]
      exact cells_none r _ _ _ e2
    | false =>
      rw [List.filter_cons_of_neg (by simp [hk])] at e
      unfold cellsFrom pushCells
      rw [hk]
      simp only [Bool.false_eq_true, if_false]
      exact cells_one r n acc h e
noncomputable def compOK1 (Γv : List (Str × Bool)) (scope : Scope) (x : Str) (cn globs : List Str) : Bool :=
  scope.kind == .function && scope.names.filter (fun y => y.2 == .cell) == [(x, .cell)] && scope.names.all (fun y => y.2 != .local || scope.names.lookup y.1 == some .local) &&
  (scope.names.lookup x == some .cell && (x == ("__debug__" : Str)) == false && (x == ("__classdict__" : Str)) == false) &&
  cn.all (fun y => scope.names.lookup y == some .free && Γv.contains (y, true) && y != x) && scope.names.all (fun y => y.2 != .free || cn.contains y.1) &&
  globs.all (fun y => scope.names.lookup y == some .globalImplicit)
structure CompS1 (Γv : List (Str × Bool)) (scope : Scope) (x : Str) (cn globs : List Str) : Prop where
  kind : scope.kind = .function
  one : scope.names.filter (fun y => y.2 == .cell) = [(x, .cell)]
  names : ∀ y ∈ scope.names, y.2 = .local → scope.names.lookup y.1 = some .local
  tx : scope.names.lookup x = some .cell ∧ (x == ("__debug__" : Str)) = false ∧ (x == ("__classdict__" : Str)) = false
  cf : ∀ y ∈ cn, scope.names.lookup y = some .free ∧ (y, true) ∈ Γv ∧ y ≠ x
  fr : ∀ y ∈ scope.names, y.2 = .free → y.1 ∈ cn
  gl : ∀ y ∈ globs, scope.names.lookup y = some .globalImplicit
theorem CompS1.of {Γv : List (Str × Bool)} {scope : Scope} {x : Str} {cn globs : List Str} (h : compOK1 Γv scope x cn globs = true) : CompS1 Γv scope x cn globs := by
  unfold compOK1 at h
  simp only [Bool.and_eq_true, List.all_eq_true, beq_iff_eq, bne_iff_ne, Bool.or_eq_true, List.contains_iff_mem] at h
  obtain ⟨⟨⟨⟨⟨⟨h1, h2⟩, h3⟩, h4⟩, h5⟩, h6⟩, h7⟩ := h
  refine ⟨h1, h2, fun y hy hl => ?_, ⟨h4.1.1, h4.1.2, h4.2⟩, fun y hy => ⟨(h5 y hy).1.1, (h5 y hy).1.2, (h5 y hy).2⟩, fun y hy hf => ?_, h7⟩
  · rcases h3 y hy with h | h
    · exact absurd hl h
    · exact h
  · rcases h6 y hy with h | h
    · exact absurd hf h
    · exact h
noncomputable def cxc1 (x : Str) (cn globs : List Str) : Cx := ⟨(x, true) :: cn.map (·, true), globs⟩
section
variable {w : World} {d : Nat} {Γ : Cx} {vals : List Sl}
theorem cenv_ok1 {env : Env} {V V' : Addr → Prop} {scope : Scope} {x : Str} {cn globs : List Str} {tv : PV} {cv : List PV} {cl : List (Str × Addr)} {C K : Addr} {h₁ h : Heap} {c0 : Value}
    (ok : EnvOK w env Γ vals V h₁) (S : CompS1 Γ.vars scope x cn globs) (caps : Caps Γ vals cn cv) (hcl : ∀ x a, cl.lookup x = some a → env.cells.lookup x = some a) (hcl2 : ∀ y ∈ scope.names, y.2 = .free → (cl.lookup y.1).isSome = true)
    (st : Stays h₁ h) (hV' : ∀ b, V' b → V b ∨ h₁.get? b = none) (al : Alive V' h) (hK : h.IsCell K (some c0)) (rK : Rep V' h tv c0) :
    EnvOK w (compEnvC scope ((x, K) :: cl) C env) (cxc1 x cn globs) (.val tv :: cv.map Sl.val) V' h where
  kind := S.kind
  glb := ok.glb
  bln := ok.bln
  gk := fun y hy => by
    show (relabel scope env).names.lookup y = _
    rw [relabel, lookup_relabel, S.gl y hy]; rfl
  base := ok.base.stays st
  al := al
  nm := fun y c hy => by
    rcases List.mem_cons.mp hy with e | h1
    · cases e; exact S.tx.2
    · obtain ⟨z, hz, e⟩ := List.mem_map.mp h1; cases e; exact ok.nm y true (S.cf y hz).2.1
  cel := fun y hy => by
    rcases List.mem_cons.mp hy with e | h1
    · cases e
      refine ⟨.inl ?_, K, by simp [compEnvC]⟩
      show (relabel scope env).names.lookup x = _
      rw [relabel, lookup_relabel, S.tx.1]; rfl
    · obtain ⟨z, hz, e⟩ := List.mem_map.mp h1; cases e
      have hf := (S.cf y hz).1
      obtain ⟨u, hu, rfl, hu2⟩ := lookup_free hf
      obtain ⟨a, ha⟩ := Option.isSome_iff_exists.mp (hcl2 u hu hu2)
      refine ⟨?_, a, ?_⟩
      · show (relabel scope env).names.lookup u.1 = _ ∨ (relabel scope env).names.lookup u.1 = _
        rw [relabel, lookup_relabel, hf]
        simp only [Option.map_some]
        split
        · exact .inl rfl
        · exact .inr rfl
      · show List.lookup u.1 ((x, K) :: cl) = some a
        rw [List.lookup_cons, beq_eq_false_iff_ne.mpr (S.cf u.1 hz).2.2]; exact ha
  slot := fun i y c p h1 h2 => by
    cases i with
    | zero =>
      simp only [cxc1, List.getElem?_cons_zero, Option.some.injEq] at h1 h2
      cases h1; cases h2
      refine ⟨c0, ?_, rK⟩
      obtain ⟨o, e1, e2⟩ := hK
      unfold Loads
      simp only [if_true]
      refine ⟨.inl ?_, K, o, by simp [compEnvC], e1, e2⟩
      show (relabel scope env).names.lookup x = _
      rw [relabel, lookup_relabel, S.tx.1]; rfl
    | succ i =>
      simp only [cxc1, List.getElem?_cons_succ, List.getElem?_map, Option.map_eq_some_iff] at h1 h2
      obtain ⟨z, hy, e⟩ := h1; cases e
      obtain ⟨q, hq, e⟩ := h2; cases e
      obtain ⟨j, cc, g1, g2⟩ := (caps.get _ y p hy hq).idx
      obtain ⟨cv', hl, r⟩ := ok.slot j y cc p g1 g2
      have hxm := List.mem_of_getElem? hy
      have hf := (S.cf y hxm).1
      obtain ⟨z, hz, rfl, hz2⟩ := lookup_free hf
      obtain ⟨a, ha⟩ := Option.isSome_iff_exists.mp (hcl2 z hz hz2)
      have ha' := hcl _ _ ha
      refine ⟨cv', ?_, r.mono fun b o nb e => ⟨fun hb => (hV' b hb).elim nb fun hn => (by rw [hn] at e; cases e), st b o e⟩⟩
      unfold Loads
      simp only [if_true]
      refine ⟨?_, ?_⟩
      · show (relabel scope env).names.lookup z.1 = _ ∨ (relabel scope env).names.lookup z.1 = _
        rw [relabel, lookup_relabel, hf]
        simp only [Option.map_some]
        split
        · exact .inl rfl
        · exact .inr rfl
      · unfold Loads at hl
        have hcc := (ok.cel z.1 (S.cf z.1 hxm).2.1).1
        cases cc with
        | false =>
          simp only [Bool.false_eq_true, if_false] at hl
          exfalso
          rcases hcc with h | h <;> rw [h] at hl <;> cases hl.1
        | true =>
          simp only [if_true] at hl
          obtain ⟨_, b, o, hb, ho, hd⟩ := hl
          rw [ha'] at hb
          cases hb
          refine ⟨a, o, ?_, st _ _ ho, hd⟩
          show List.lookup z.1 ((x, K) :: cl) = some a
          rw [List.lookup_cons, beq_eq_false_iff_ne.mpr (S.cf z.1 hxm).2.2]; exact ha
  owns := fun i y c xs h1 h2 => by
    exfalso
    cases i with
    | zero => simp at h2
    | succ i =>
      rw [List.getElem?_cons_succ] at h2
      obtain ⟨_, _, e⟩ := List.mem_map.mp (List.mem_of_getElem? h2); cases e
end
end Mine
end
noncomputable section
set_option maxRecDepth 100000
set_option maxHeartbeats 1000000
namespace Mine
open PySem.Calls
/-- what one item gives, its name a cell -/
noncomputable def Elem1 (w : World) (d : Nat) (Γc : Cx) (cv : List PV) (ifs : List Expr) (elt : Expr) (q : PV) (r : Option PV) : Prop :=
  match r with
    | none => Ands w d Γc (.val q :: cv.map Sl.val) ifs false
    | some p => Ands w d Γc (.val q :: cv.map Sl.val) ifs true ∧ Ev w d Γc (.val q :: cv.map Sl.val) elt p
section
variable {w : World} {d : Nat} {Γ : Cx} {vals vals' : List Sl} {P : Out → Prop}
theorem comp_core1 {env : Env} {V : Addr → Prop} {A : Around} {E : Value → Shared → Prop} {s₂ : Shared} {h₁ : Heap} {scope : Scope} {x : Str} {px : Pos} {cn globs : List Str} {cv : List PV} {cl : List (Str × Addr)} {elt iter : Expr} {ifs : List Expr} {pos : Pos} {I : Addr} {fp wr : List Addr} {items : List PV} {St : Nat → Heap → Prop}
    {f : PV → Option PV} {RR : Value → Addr → Result → Shared → Prop}
    (ok : EnvOK w env Γ vals V h₁) (rm : Room A d) (S : CompS1 Γ.vars scope x cn globs) (caps : Caps Γ vals cn cv) (hcl : ∀ x a, cl.lookup x = some a → env.cells.lookup x = some a) (hcl2 : ∀ y ∈ scope.names, y.2 = .free → (cl.lookup y.1).isSome = true)
    (it : It w A V h₁ (.Name x px) I fp wr items St s₂.heap) (hz : items.length ≤ sizeLine) (hel : ∀ q ∈ items, Elem1 w d (cxc1 x cn globs) cv ifs elt q (f q))
    (hRR : ∀ D C h' tk m' ys, h₁.get? D = none → h₁.get? C = none → s₂.heap.get? D = none → s₂.heap.get? C = none → D ≠ C → h'.Ns C m' → h'.PlainList D (List.toArray ys) → Reps (fun b => V b ∨ b = C ∨ b = D) h' (items.filterMap f) ys → Stays h₁ h' → RR (.ref D) C (.ok .next) { s₂ with heap := h', toks := tk }) :
    wpAny (MW w) A (newList []) (fun acc s₃ => wpAny (MW w) A (newFunctionEnv scope env.globals cl [] env.qual none .none (some env)) (fun cenv s₄ =>
      codeAny (MW w) A (.compStart (.ListComp elt [⟨.Name x px, iter, ifs, 0⟩] scope pos) 0 (.ref I) acc { cenv with scope := relabel scope env }) (RR acc cenv.locals) s₄) E s₃) E s₂ := by
  refine wpAny_newObj_type ?_
  try dsimp only
  generalize hH2 : s₂.heap.push { cls := .type "list", dict := none, data := .seq ([] : List Value).toArray } = H2
  simp only [newFunctionEnv, Option.isSome_some, if_true]
  refine wpAny_bind (wpAny_alloc ?_)
  try dsimp only
  refine wpAny_bind (wpAny_layCells _ (fun name kind cells => by cases hkc : kind == NameKind.cell <;> simp [hkc]) _ _ _ _ ?_)
  try dsimp only
  generalize hH3 : H2.push { cls := .type "dict", data := .dict #[] } = H3
  obtain ⟨c1, c2⟩ := cells_one scope.names H3.objs.size cl H3 S.one
  rw [c1, c2]
  simp only [List.forIn_nil]
  refine wpAny_bind (wpAny_pure (wpAny_pure ?_))
  try dsimp only
  have hC : H2.objs.size = s₂.heap.objs.size + 1 := by rw [← hH2, Heap.size_push]
  have hK : H3.objs.size = H2.objs.size + 1 := by rw [← hH3, Heap.size_push]
  have hns3 : H3.Ns H2.objs.size (fun _ => none) := hH3 ▸ Heap.Ns.new H2 (.type "dict")
  generalize hh0 : H3.push { cls := .type "cell", data := .cell none } = h0
  have hcell0 : h0.IsCell H3.objs.size none := hh0 ▸ ⟨_, Heap.get?_push_size _ rfl, rfl⟩
  have hns0 : h0.Ns H2.objs.size (fun _ => none) := hh0 ▸ hns3.push _
  have acc3 : h0.get? s₂.heap.objs.size = some { cls := .type "list", dict := none, data := .seq ([] : List Value).toArray } := hh0 ▸ Heap.get?_push_of_some _ (hH3 ▸ Heap.get?_push_of_some _ (hH2 ▸ Heap.get?_push_size _ rfl))
  have old : Stays s₂.heap h0 := fun b o e => hh0 ▸ Heap.get?_push_of_some _ (hH3 ▸ Heap.get?_push_of_some _ (hH2 ▸ Heap.get?_push_of_some _ e))
  generalize hKe : H3.objs.size = K at *
  generalize hCe : H2.objs.size = C at *
  generalize hDe : s₂.heap.objs.size = D at *
  have hDC : D ≠ C := by rw [hC]; exact Nat.ne_of_lt (Nat.lt_succ_self _)
  have hKC : K ≠ C := by rw [hK]; exact Nat.ne_of_gt (Nat.lt_succ_self _)
  have hKD : K ≠ D := by rw [hK, hC]; exact Nat.ne_of_gt (Nat.lt_succ_of_lt (Nat.lt_succ_self _))
  have nD : s₂.heap.get? D = none := hDe ▸ size_new _
  have nC : s₂.heap.get? C = none := by
    cases e : s₂.heap.get? C with
    | none => rfl
    | some o => have := Heap.lt_size e; rw [hDe, hC] at this; exact absurd this (Nat.not_lt.mpr (Nat.le_succ _))
  have nK : s₂.heap.get? K = none := by
    cases e : s₂.heap.get? K with
    | none => rfl
    | some o => have := Heap.lt_size e; rw [hDe, hK, hC] at this; exact absurd this (Nat.not_lt.mpr (Nat.le_succ_of_le (Nat.le_succ _)))
  have n1 : ∀ {b : Addr}, s₂.heap.get? b = none → h₁.get? b = none := fun {b} h => by
    cases e : h₁.get? b with
    | none => rfl
    | some o => have := it.st _ _ e; rw [h] at this; cases this
  have hacc : h0.PlainList D (List.toArray []) := ⟨0, acc3⟩
  have hKf : K ∉ fp := fun hm => by obtain ⟨o, e⟩ := it.alv _ _ it.s0 _ hm; rw [nK] at e; cases e
  have hKw : K ∉ wr := fun h => hKf (it.W.sub _ h)
  have hDf : D ∉ fp := fun hm => by obtain ⟨o, e⟩ := it.alv _ _ it.s0 _ hm; rw [nD] at e; cases e
  have hCf : C ∉ fp := fun hm => by obtain ⟨o, e⟩ := it.alv _ _ it.s0 _ hm; rw [nC] at e; cases e
  have hCw : C ∉ wr := fun h => hCf (it.W.sub _ h)
  have hDw : D ∉ wr := fun h => hDf (it.W.sub _ h)
  let V' : Addr → Prop := fun b => V b ∨ b = C ∨ b = D ∨ b ∈ wr ∨ b = K
  have loop : ∀ s₃ : Shared, s₃ = { s₂ with heap := h0 } →
      codeAny (MW w) A (.compLoop (.ListComp elt [⟨.Name x px, iter, ifs, 0⟩] scope pos) 0 (.ref I) (.ref D) (compEnvC scope ((x, K) :: cl) C env)) (RR (.ref D) C) s₃ := by
    rintro s₃ rfl
    refine compLoop_any (fun k s' => ∃ h' tk m' ys i, s' = { s₂ with heap := h', toks := tk } ∧ St i h' ∧ h'.PlainList D (List.toArray ys) ∧ h'.Ns C m' ∧ (∃ c0, h'.IsCell K c0) ∧ Reps V' h' ((items.take i).filterMap f) ys ∧ Stays h₁ h' ∧ i ≤ items.length ∧ k = items.length + 1 - i) ?_ (items.length + 1)
      ⟨h0, _, _, [], 0, rfl, it.W.frame _ _ _ it.s0 fun b _ o e => old b o e, hacc, hns0, ⟨_, hcell0⟩, by simpa using Reps.nil, it.st.trans old, Nat.zero_le _, rfl⟩
    rintro k s' ⟨H, tk, m', ys, i, rfl, hst', hacc', hn', ⟨c0, hcel⟩, hF, hk, hi, rfl⟩
    by_cases hlt : i < items.length
    · refine it.W.item i _ _ _ hlt hst' fun v h2 tk2 hP hst2 hk2 => ?_
      obtain ⟨q, hq, rq⟩ := hP
      have hr := hel q (List.mem_of_getElem? hq)
      have st2 : Stays h₁ h2 := fun b o e => hk2 b o (fun hb => by rw [it.wr0 b hb] at e; cases e) (hk b o e)
      have hn2 : h2.Ns C m' := hn'.at' fun o e => hk2 _ o hCw e
      have hcel2 : h2.IsCell K c0 := let ⟨o, e1, e2⟩ := hcel; ⟨o, hk2 _ o hKw e1, e2⟩
      refine it.go (i + 1) _ v _ _ hst2 ?_
      have nV' : ∀ b o, ¬ V b → h₁.get? b = some o → ¬ V' b := fun b o nb e hb => by
        rcases hb with hb | rfl | rfl | hb | rfl
        · exact nb hb
        · rw [n1 nC] at e; cases e
        · rw [n1 nD] at e; cases e
        · rw [it.wr0 b hb] at e; cases e
        · rw [n1 nK] at e; cases e
      have rq2 : Rep V' h2 q v := rq.mono fun b o nb e => ⟨nV' b o nb e, st2 b o e⟩
      refine wpAny_assign_Name (wpAny_storeName_cell (env := compEnvC scope ((x, K) :: cl) C env) S.kind (by
        show (relabel scope env).names.lookup x = _
        rw [relabel, lookup_relabel, S.tx.1]; rfl) (by simp [compEnvC]) hcel2 fun h3 hv3 hs3 => ?_)
      have hk3 : ∀ b o, b ≠ K → h2.get? b = some o → h3.get? b = some o := fun b o hb e => (hs3.2 b hb).trans e
      have st3 : Stays h₁ h3 := fun b o e => hk3 b o (fun h => by rw [h, n1 nK] at e; cases e) (st2 b o e)
      have hst3 : St (i + 1) h3 := it.W.frame _ _ _ hst2 fun b hb o e => hk3 b o (fun (h : b = K) => hKf (h ▸ hb)) e
      have hacc3 : h3.PlainList D (List.toArray ys) := (hacc'.at fun o e => hk2 _ o hDw e).at fun o e => hk3 _ o (Ne.symm hKD) e
      have hn3 : h3.Ns C m' := hn2.at' fun o e => hk3 _ o (Ne.symm hKC) e
      have hF3 : Reps V' h3 ((items.take i).filterMap f) ys := hF.mono fun b o nb e => ⟨nb, hk3 b o (fun h => nb (.inr (.inr (.inr (.inr h))))) (hk2 b o (fun h => nb (.inr (.inr (.inr (.inl h))))) e)⟩
      have rq3 : Rep V' h3 q v := rq2.mono fun b o nb e => ⟨nb, hk3 b o (fun h => nb (.inr (.inr (.inr (.inr h))))) e⟩
      have al3 : Alive V' h3 := fun b hb => by
        rcases hb with hb | rfl | rfl | hb | rfl
        · obtain ⟨o, e⟩ := ok.al b hb; exact ⟨o, st3 _ _ e⟩
        · obtain ⟨o, _, _, e, _⟩ := hn3; exact ⟨o, e⟩
        · obtain ⟨n, e⟩ := hacc3; exact ⟨_, e⟩
        · exact it.alv _ _ hst3 b (it.W.sub b hb)
        · obtain ⟨o, e, _⟩ := hv3; exact ⟨o, e⟩
      have cok : EnvOK w (compEnvC scope ((x, K) :: cl) C env) (cxc1 x cn globs) (.val q :: cv.map Sl.val) V' h3 :=
        cenv_ok1 ok S caps hcl hcl2 st3 (fun b hb => hb.elim .inl fun hb => .inr (by
          rcases hb with rfl | rfl | hb | rfl
          · exact n1 nC
          · exact n1 nD
          · exact it.wr0 b hb
          · exact n1 nK)) al3 hv3 rq3
      have hce : ∀ {g : Heap}, Stays h3 g → ∃ c0, g.IsCell K c0 := fun {g} sg => let ⟨o, e1, e2⟩ := hv3; ⟨_, o, sg _ _ e1, e2⟩
      have htk : (items.take (i + 1)).filterMap f = (items.take i).filterMap f ++ (f q).toList := by
        rw [List.take_add_one, hq, List.filterMap_append]
        cases hfq : f q <;> simp [hfq]
      cases hfq : f q with
      | none =>
        rw [hfq] at hr htk
        refine hr.tests _ V' A _ _ _ cok rm fun h4 tk4 st4 => ?_
        simp only [Bool.false_eq_true, if_false]
        refine ⟨items.length + 1 - (i + 1), by (first | lia | omega), h4, tk4, m', ys, i + 1, rfl, it.W.frame _ _ _ hst3 fun b _ o e => st4 b o e, hacc3.at fun o e => st4 _ _ e, hn3.keeps st4, hce st4, ?_, st3.trans st4, hlt, rfl⟩
        rw [htk]
        simpa using hF3.stays st4
      | some p =>
        rw [hfq] at hr htk
        refine hr.1.tests _ V' A _ _ _ cok rm fun h4 tk4 st4 => ?_
        simp only [if_true]
        refine hr.2 _ V' A _ _ _ (cok.stays st4) rm fun c h5 tk5 st5 rc => ?_
        have hys : (List.toArray ys).size ≤ sizeLine := by
          have e1 := hF3.length
          have e2 : ((items.take i).filterMap f).length ≤ (items.take i).length := List.length_filterMap_le _ _
          rw [List.length_take] at e2
          rw [List.size_toArray]; (first | lia | omega)
        refine wpAny_list_append_plain (hsz := hys) ((hacc3.at fun o e => st4 _ _ e).at fun o e => st5 _ _ e) fun h6 hl6 hs6 => ?_
        refine ⟨items.length + 1 - (i + 1), by (first | lia | omega), h6, tk5, m', ys ++ [c], i + 1, rfl, ?_, ?_, ?_, ?_, ?_, ?_, hlt, rfl⟩
        · exact it.W.frame _ _ _ hst3 fun b hb o e => (hs6.2 b fun h => hDf (h ▸ hb)).trans (st5 _ _ (st4 _ _ e))
        · simpa using hl6
        · exact ((hn3.keeps st4).keeps st5).sameBut hs6 (Ne.symm hDC)
        · obtain ⟨c9, o, e1, e2⟩ := hce (st4.trans st5); exact ⟨c9, o, (hs6.2 K hKD).trans e1, e2⟩
        · rw [htk]
          have rr : Reps V' h5 ((items.take i).filterMap f ++ [p]) (ys ++ [c]) := ((hF3.stays st4).stays st5).append (Reps.cons rc Reps.nil)
          exact rr.mono fun b o nb e => ⟨nb, (hs6.2 b fun h => nb (.inr (.inr (.inl h)))).trans e⟩
        · exact fun b o e => (hs6.2 b fun h => by rw [h, n1 nD] at e; cases e).trans (st5 _ _ (st4 _ _ (st3 _ _ e)))
    · have hin : i = items.length := by (first | lia | omega)
      subst hin
      refine it.W.done _ _ _ hst' fun h2 tk2 hk2 => ?_
      rw [List.take_length] at hF
      exact hRR D C h2 tk2 m' ys (n1 nD) (n1 nC) nD nC hDC (hn'.at' fun o e => hk2 _ o hCw e) (hacc'.at fun o e => hk2 _ o hDw e)
        (hF.mono fun b o nb e => ⟨fun h => nb (h.elim .inl fun h => .inr (h.elim .inl fun h => .inr (.inl h))), hk2 b o (fun h => nb (.inr (.inr (.inr (.inl h))))) e⟩)
        (fun b o e => hk2 b o (fun hb => by rw [it.wr0 b hb] at e; cases e) (hk b o e))
  exact codeAny_compStart_list (loop _ rfl) (it.W.self 0 _ _ _ (it.W.frame _ _ _ it.s0 fun b _ o e => old b o e) (loop _ rfl))
end
end Mine
end
noncomputable section
set_option maxRecDepth 100000
set_option maxHeartbeats 1000000
namespace Mine
open PySem.Calls
section
variable {w : World} {d : Nat} {Γ : Cx} {vals vals' : List Sl} {P : Out → Prop}
/-- y = [... for x ...] into a local name, on one line; x is a cell of the comprehension -/
theorem ExS.assignComp1 {y x : Str} {py px apos : Pos} {elt iter : Expr} {ifs : List Expr} {scope : Scope} {pos : Pos} {p : PV} {items : List PV} {cn globs : List Str} {cv : List PV} (f : PV → Option PV) (h1 : Ev w d Γ vals iter p) (hit : Iter w (.Name x px) p items)
    (caps : Caps Γ vals cn cv) (hel : ∀ q ∈ items, Elem1 w d (cxc1 x cn globs) cv ifs elt q (f q)) (hS : compOK1 Γ.vars scope x cn globs = true) (hz : items.length ≤ sizeLine) (hx : (y, false) ∈ Γ.vars) (pt : Put Γ.vars vals y (.own (items.filterMap f)) vals') (hp : P (.next vals'))
    (hl : (py.line == pos.line) = true := by rfl) (hsc : (scope.names.any fun u => u.1 == y && (u.2 == .local || u.2 == .cell)) = false := by rfl)
    (hs : ∀ env x, foldedSetIterable iter env x = pure x := by intro _ _; rfl) :
    ExS w d Γ vals (.Assign [.Name y py] (.ListComp elt [⟨.Name x px, iter, ifs, 0⟩] scope pos) apos) P := fun env V₀ oa A s Q E z rm k => by
  have S := CompS1.of hS
  have ok := z.ok
  obtain ⟨cl, e1, e2, e3⟩ := closureFor_ok (env := env) (scope := scope) fun y hy hf => (ok.cel y.1 (S.cf y.1 (S.fr y hy hf)).2.1).2
  have hb : env.blockKind = .function := by unfold Env.blockKind; rw [z.ok.kind]; rfl
  have hsw : swapsWith (.ListComp elt [⟨.Name x px, iter, ifs, 0⟩] scope pos) (some (.Name y py)) apos.line env = pure true := by
    unfold swapsWith
    simp only [hb, z.kd y hx]
    show pure (((ScopeKind.function == .function && some NameKind.local == some .local) && py.line == pos.line) && !(scope.names.any fun u => u.1 == y && (u.2 == .local || u.2 == .cell))) = pure true
    rw [hl, hsc]; rfl
  rw [exec_Assign_Name_used _ _ _ _ hsw]
  refine wpAny_bind (wpAny_standAt (wpAny_bind ?_))
  show wpAny (MW w) A (do let _ ← comprehension (.ListComp elt [⟨.Name x px, iter, ifs, 0⟩] scope pos) scope env (firstIterPos [⟨.Name x px, iter, ifs, 0⟩] pos) (newList []) (firstAsync [⟨.Name x px, iter, ifs, 0⟩]) (firstIter [⟨.Name x px, iter, ifs, 0⟩] env) (some (PySem.assign (.Name y py) env))) _ E s
  refine wpAny_bind ?_
  refine wpAny_comprehension_free (use := some (PySem.assign (.Name y py) env)) rfl (hs env) e1 S.kind S.names (h1 env _ A s _ _ ok rm fun a h' tk st r => hit _ A _ _ _ a rm.hh (ok.stays st).al r fun I fp wr St h2 tk2 it => ?_)
  refine comp_core1 (RR := fun acc C => compPost (MW w) A E (some (PySem.assign (.Name y py) env)) _ acc C) (ok.stays st) rm S caps e2 e3 it hz hel ?_
  intro D C h3 tk3 m' ys nD nC _ _ hDC hn hpl hr st3
  have old : ∀ {b : Addr}, h'.get? b = none → s.heap.get? b = none := fun {b} h => by
    cases e : s.heap.get? b with
    | none => rfl
    | some o => have := st _ _ e; rw [h] at this; cases this
  have sta : Stays s.heap h3 := st.trans st3
  obtain ⟨m, hns⟩ := z.ns
  have hCL : C ≠ env.locals := fun h => by
    obtain ⟨o, _, _, e, _⟩ := hns
    have := old nC; rw [h, e] at this; cases this
  have hDL : D ≠ env.locals := fun h => by
    obtain ⟨o, _, _, e, _⟩ := hns
    have := old nD; rw [h, e] at this; cases this
  show wpAny (MW w) A (PySem.assign (.Name y py) env (.ref D)) _ E _
  refine wpAny_assign_Name (wpAny_storeName_local (z.kd y hx) (hns.keeps sta) (fun h4 hn4 hs4 => ?_) (fnkind z.ok.kind))
  refine ⟨m', hn.at' fun o e => (hs4.2 C hCL).trans e, fun h5 hs5 => ?_⟩
  have kp0 : ∀ b o, b ≠ env.locals → b ≠ C → h3.get? b = some o → h5.get? b = some o := fun b o h1 h2 e => (hs5.2 b h2).trans ((hs4.2 b h1).trans e)
  obtain ⟨z5, stp⟩ := z.ownCore (h' := h5) (a := D) (vs := ys) hx pt (old nD) hns (hn4.at' fun o e => (hs5.2 _ (Ne.symm hCL)).trans e)
    (fun b o hb e => kp0 b o hb (fun h => by rw [h, old nC] at e; cases e) (sta b o e)) (hpl.at fun o e => kp0 _ o hDL hDC e)
    (hr.mono fun b o nb e => ⟨fun h => nb (h.elim .inl fun h => .inr (.inr h)), kp0 b o (fun h => nb (.inl (.inr (.inl h)))) (fun h => nb (.inr (.inl h))) e⟩)
  exact wpAny_pure (wpAny_pure (k (.next vals') .next _ h5 _ hp ⟨rfl, z5⟩ stp))
theorem ExS.assignComp1M {α : Type} {y x : Str} {py px apos : Pos} {elt iter : Expr} {ifs : List Expr} {scope : Scope} {pos : Pos} {p : PV} {cn globs : List Str} {cv : List PV} (xs : List α) (g : α → PV) (r : α → Option PV) (hi : ∀ a b, g a = g b → a = b) (h1 : Ev w d Γ vals iter p) (hit : Iter w (.Name x px) p (xs.map g))
    (caps : Caps Γ vals cn cv) (hel : ∀ a ∈ xs, Elem1 w d (cxc1 x cn globs) cv ifs elt (g a) (r a)) (hS : compOK1 Γ.vars scope x cn globs = true) (hz : xs.length ≤ sizeLine) (hx : (y, false) ∈ Γ.vars) (pt : Put Γ.vars vals y (.own (xs.filterMap r)) vals') (hp : P (.next vals'))
    (hl : (py.line == pos.line) = true := by rfl) (hsc : (scope.names.any fun u => u.1 == y && (u.2 == .local || u.2 == .cell)) = false := by rfl)
    (hs : ∀ env x, foldedSetIterable iter env x = pure x := by intro _ _; rfl) :
    ExS w d Γ vals (.Assign [.Name y py] (.ListComp elt [⟨.Name x px, iter, ifs, 0⟩] scope pos) apos) P := by
  rw [← viaG_map r hi xs] at pt
  refine ExS.assignComp1 (viaG g r) h1 hit caps (fun q hq => ?_) hS (by simpa using hz) hx pt hp hl hsc hs
  obtain ⟨a, ha, rfl⟩ := List.mem_map.mp hq
  rw [viaG_at r hi]
  exact hel a ha
end
end Mine
end
noncomputable section
set_option maxRecDepth 100000
set_option maxHeartbeats 1000000
namespace Mine
open PySem.Calls
theorem FcH.lam {w : World} {d : Nat} {q c' : Addr} {name qual : Str} {params : Arguments} {body : Expr} {scope : Scope} {pm ctv : Value} {oc : Obj} {vs : Array Value} {t : Tok} {x : Str} {p k : PV} {globs : List Str}
    (hd : oc.data = .fields vs) (hv : vs[1]? = some (.str qual t))
    (hbind : ∀ v, bindArgs (kla_fn name qual params body scope [] pm (.ref c') ctv) ⟨[v], []⟩ = pure [(x, v)])
    (hx : scope.names.lookup x = some .local) (hk : scope.kind = .function) (hco : scope.isCoroutine = false) (hgen : scope.isGenerator = false) (hcell : ∀ y ∈ scope.names, y.2 ≠ .cell) (hg : ∀ y ∈ globs, scope.names.lookup y = some .globalImplicit)
    (hn : (x == ("__debug__" : Str)) = false ∧ (x == ("__classdict__" : Str)) = false)
    (hev : Ev w d ⟨[(x, false)], globs⟩ [.val p] body k) :
    FcH w (d + 1) q [(q, kla_obj name qual params body scope [] pm c' ctv), (c', oc)] p k := fun V A s Q E x0 hls b rm al rp kk => by
  obtain ⟨mean, mg, mb, X, T⟩ := id b
  refine wpAny_call ?_
  refine kla_callFunE (o := kla_obj name qual params body scope [] pm c' ctv) (by have := rm.dep; (first | lia | omega)) (hls (q, _) (by simp)) rfl hco hgen rfl ⟨c', oc, vs, t, rfl, hls (c', oc) (by simp), hd, hv⟩ ?_
  rw [hbind]
  refine wpAny_pure (wpAny_newFunctionEnv hcell (fun y hy => by rw [List.mem_singleton.mp hy]; exact hx) (fun h₁ hns hsb => ⟨T.nolimit.fresh _ hsb, ?_⟩) hk)
  have st1 : Stays s.heap h₁ := fun b o e => (hsb.2 b (Nat.ne_of_lt (Heap.lt_size e))).trans (Heap.get?_push_of_some _ e)
  refine kla_codeExpr ?_
  refine hev _ V _ _ _ _ ⟨hk, rfl, rfl, hg, b.stays st1, fun b hb => ?_, fun y c hy => ?_, fun y hy => ?_, fun i y c p' hi hp => ?_, fun i y c xs hi hp => ?_⟩ ⟨rm.hh, ?_, ?_⟩ fun cv h' tk st r => ?_
  · obtain ⟨o, e⟩ := al b hb; exact ⟨o, st1 _ _ e⟩
  · cases List.mem_singleton.mp hy; exact hn
  · cases List.mem_singleton.mp hy
  · cases i with
    | zero =>
      simp at hi hp
      obtain ⟨rfl, rfl⟩ := hi
      subst hp
      refine ⟨x0, ?_, rp.stays st1⟩
      unfold Loads
      simp only [Bool.false_eq_true, if_false]
      exact ⟨hx, _, hns, by simp⟩
    | succ i => simp at hi
  · cases i with
    | zero => simp at hp
    | succ i => simp at hi
  · show A.depth + 1 + d < recursionLimit
    have := rm.dep; (first | lia | omega)
  · show A.units + 3 + 20 * d + 100 < cLine
    have := rm.un; (first | lia | omega)
  · exact kk cv h' tk (st1.trans st) r
/-- o.sort(key=e) -/
theorem Call_sort {w : World} {A : Around} {s : Shared} {env : Env} {Q : Value → Shared → Prop} {E : Value → Shared → Prop} {o e : Expr} {apos pos kp : Pos} 
    (hbase : attributeBase o "sort" env (eval o env) = eval o env) (hline : (apos.endLine == pos.line) = true)
    (h : wpAny (MW w) A (eval o env) (fun ov s₁ => ∃ a n vs, ov = .ref a ∧ s₁.heap.get? a = some (seqObj "list" vs n) ∧
      wpAny (MW w) A (eval e env) (fun f s₂ => wpAny (MW w) A (call (.builtin "list.sort") [.ref a] [("key", f)]) Q E s₂) E s₁) E s) :
    wpAny (MW w) A (eval (.Call (.Attribute o "sort" apos) [] [⟨some "key", e, kp⟩] pos) env) Q E s := by
  rw [arm_eval_Call, hbase]
  refine wpAny_bind (wpAny_mono h (fun ov s₁ h₁ => ?_) fun _ _ e => e)
  obtain ⟨a, n, vs, rfl, ho, hc⟩ := h₁
  refine wpAny_bind (wpAny_standAt ?_)
  have hform : methodCallForm (([] : List Expr).length + [(⟨some "key", e, kp⟩ : Keyword)].length) (backTo pos (starEach [] env)) (backToKw pos (keywordEach [⟨some "key", e, kp⟩] env)) = true := rfl
  have hpos : methodCallPos true o env apos pos = pure pos := by unfold methodCallPos; simp [hline]
  unfold methodCall
  rw [hform]
  refine wpAny_bind (wpAny_holding (getMethod_builtin ⟨_, ho, rfl⟩ F.plainAttrs_list F.slot_list_sort F.type_list_sort (fun b e => by cases e; exact ⟨_, ho, rfl⟩) ?_))
  refine wpAny_bind (wpAny_of_eq hpos ?_)
  refine callWith_of (P := fun _ => True) rfl (fun h _ => ⟨.machine, .inr (.inl rfl), Looks.of_pure rfl⟩) ?_
  refine evalArgs_kw2_nil rfl (kwAll_cons (wpAny_mono hc (fun f s₂ hf => kwAll_nil ⟨trivial, hf⟩) fun _ _ x => x))
theorem Reps.pick {V : Addr → Prop} {h : Heap} {xs : List PV} {vs : List Value} (r : Reps V h xs vs) : ∀ (l : List Nat), (∀ i ∈ l, i < xs.length) → Reps V h (l.map fun i => xs.getD i .none) (l.map fun i => vs.getD i .none)
  | [], _ => Reps.nil
  | i :: l, hl => by
    have hi := hl i List.mem_cons_self
    obtain ⟨v, hv, rv⟩ := r.get (List.getElem?_eq_getElem hi)
    simp only [List.map_cons]
    refine Reps.cons ?_ (Reps.pick r l fun j hj => hl j (List.mem_cons_of_mem _ hj))
    rw [List.getD_eq_getElem?_getD, List.getD_eq_getElem?_getD, hv, List.getElem?_eq_getElem hi]
    exact rv
/-- the table of a def whose one lambda or def stands at pos -/
noncomputable def TabX (c P : Addr) (qual : Str) (pos : Pos) (h : Heap) : Prop := h.get? P = some (tabObj #[]) ∨ ∃ c' oc vs t, c' ≠ P ∧ h.get? P = some (tabObj #[rawInt pos.line, rawInt pos.col, .ref c']) ∧ h.get? c' = some oc ∧ oc.data = .fields vs ∧ vs[1]? = some (.str qual t)
/-- making the lambda -/
theorem make_lam {w : World} {A : Around} {s : Shared} {env : Env} {Q : Value → Shared → Prop} {E : Value → Shared → Prop} {c P : Addr} {qual : Str} {hb : Heap} {params : Arguments} {body : Expr} {scope : Scope} {pos : Pos} {clos : List (Str × Addr)}
    (b0 : Base w hb) (b1 : Stays hb s.heap) (hP0 : hb.get? P = none) (C : CodeHd hb c P) (hcode : env.code = .ref c) (hge : env.globals = mainGlobals) (hq : env.qual ++ "<lambda>" = qual) (hcl : closureFor scope env = pure clos) (hdef : defaultsOf params env = ([], [])) (tab : TabX c P qual pos s.heap)
    (h : ∀ c' oc vs t pm ctv q h' tk, (∀ b o, b ≠ P → s.heap.get? b = some o → h'.get? b = some o) → h'.get? P = some (tabObj #[rawInt pos.line, rawInt pos.col, .ref c']) → h'.get? q = some (kla_obj "<lambda>" qual params body scope clos pm c' ctv) → h'.get? c' = some oc → oc.data = .fields vs → vs[1]? = some (.str qual t) → s.heap.get? q = none → c' ≠ P → q ≠ P →
      (s.heap.get? c' = none ∨ (s.heap.get? c' = some oc ∧ s.heap.get? P = some (tabObj #[rawInt pos.line, rawInt pos.col, .ref c']))) → Q (.ref q) { s with heap := h', toks := tk }) :
    wpAny (MW w) A (eval (.Lambda params body scope pos) env) Q E s := by
  subst hq
  refine kla_eval hdef ?_
  obtain ⟨mean, mg, mb, X, T⟩ := id b0
  have hgs := T.g.keeps b1
  have hPs : ∃ ps, s.heap.get? P = some (tabObj ps) := by
    rcases tab with h | ⟨_, _, _, _, _, h, _⟩
    · exact ⟨_, h⟩
    · exact ⟨_, h⟩
  obtain ⟨ps, hP⟩ := hPs
  obtain ⟨bm, ob, q1, q2, q3, q4, q5, q6⟩ := T.bmain
  have hgP : mainGlobals ≠ P := fun q => by
    obtain ⟨o, es, ep, e, hd, _⟩ := hgs
    rw [q, hP] at e; cases e; cases hd
  have hbP : bm ≠ P := fun q => by
    have e := b1 _ _ q3
    rw [q, hP] at e; cases e; cases q4
  have hbG : bm ≠ mainGlobals := fun q => by
    obtain ⟨o, es, ep, e, hd, _⟩ := T.g
    rw [q, e] at q3; cases q3; rw [hd] at q6; cases q6
  have hPlt := Heap.lt_size hP
  rcases tab with tb | ⟨c', oc, vs, t, hcP, tb, hoc, hd, hv⟩
  · refine kla_makeFunction (mg := mg) hcl hge hgs hcode (C.keeps b1) tb trivial rfl hgP ⟨bm, ob, q1, q2, hbG, hbP, b1 _ _ q3, q4, q5, q6⟩ fun c' ctv h' tk hx hge' hlt hrec htb => ?_
    obtain ⟨c₂, oc, vs, t, e2, hoc, hd, hv⟩ := hrec
    cases e2
    have hcP : c' ≠ P := Nat.ne_of_gt (Nat.lt_of_lt_of_le hPlt hge')
    have hqP : h'.objs.size ≠ P := Nat.ne_of_gt (Nat.lt_trans (Nat.lt_of_lt_of_le hPlt hge') hlt)
    refine h c' oc vs t _ ctv h'.objs.size _ tk (fun b o hb e => Heap.get?_push_of_some _ (hx b o hb e)) (Heap.get?_push_of_some _ htb) (Heap.get?_push_size _ rfl) (Heap.get?_push_of_some _ hoc) hd hv (Heap.get?_none_of_le ?_) hcP hqP (.inl (Heap.get?_none_of_le hge'))
    exact Nat.le_of_lt (Nat.lt_of_le_of_lt hge' hlt)
  · refine kla_makeFunctionHit (mg := mg) (cv := .ref c') hcl hge hgs hcode (C.keeps b1) tb trivial (by simp [codeAmong, rawInt]) ⟨bm, ob, q1, q2, hbG, hbP, b1 _ _ q3, q4, q5, q6⟩ fun ctv h' tk hk hsz => ?_
    refine h c' oc vs t _ ctv h'.objs.size _ tk (fun b o hb e => Heap.get?_push_of_some _ (hk b o e)) (Heap.get?_push_of_some _ (hk _ _ tb)) (Heap.get?_push_size _ rfl) (Heap.get?_push_of_some _ (hk _ _ hoc)) hd hv (Heap.get?_none_of_le hsz) hcP (Nat.ne_of_gt (Nat.lt_of_lt_of_le hPlt hsz)) (.inr ⟨hoc, tb⟩)
end Mine
end
noncomputable section
set_option maxRecDepth 100000
set_option maxHeartbeats 1000000
namespace Mine
open PySem.Calls
/-- x.sort(key=lambda ..) on an own list -/
theorem sort_stmt {w : World} {d : Nat} {Γ : Cx} {vals vals' : List Sl} {A : Around} {s : Shared} {env : Env} {V₀ : Addr → Prop} {oa : List (Str × Addr)} {Q : Flow → Shared → Prop} {E : Value → Shared → Prop} {c P : Addr} {qual : Str} {hb : Heap} {params : Arguments} {body : Expr} {scope : Scope} {x y : Str} {lpos px apos cpos pos kp : Pos} {globs : List Str} {kk : List (Int × List Int)} {ord : Array Nat}
    (z : St w Γ env V₀ oa vals s.heap) (rm : Room A (d + 1 + 1)) (hx : At Γ.vars vals x (.own (kk.map fun k => .list (k.2.map PV.int)))) (pt : Put Γ.vars vals x (.own (ord.toList.map fun i => (kk.map fun k => PV.list (k.2.map PV.int)).getD i .none)) vals')
    (b0 : Base w hb) (b1 : Stays hb s.heap) (b2 : ∀ b o, hb.get? b = some o → ¬ Own env oa b) (hP0 : hb.get? P = none) (hVP : V₀ P) (C : CodeHd hb c P) (hcode : env.code = .ref c) (hq : env.qual ++ "<lambda>" = qual) (tab : TabX c P qual lpos s.heap) (hno : ∀ c', s.heap.get? P = some (tabObj #[rawInt lpos.line, rawInt lpos.col, .ref c']) → ¬ Own env oa c')
    (hdef : ∀ env, defaultsOf params env = ([], [])) (hcl : ∀ env, closureFor scope env = pure [])
    (hbind : ∀ c' pm ctv v, bindArgs (kla_fn "<lambda>" qual params body scope [] pm (.ref c') ctv) ⟨[v], []⟩ = pure [(y, v)])
    (hy : scope.names.lookup y = some .local) (hk : scope.kind = .function) (hco : scope.isCoroutine = false) (hgen : scope.isGenerator = false) (hcell : ∀ y ∈ scope.names, y.2 ≠ .cell) (hg : ∀ y ∈ globs, scope.names.lookup y = some .globalImplicit)
    (hn : (y == ("__debug__" : Str)) = false ∧ (y == ("__classdict__" : Str)) = false)
    (hev : ∀ k ∈ kk, Ev w d ⟨[(y, false)], globs⟩ [.val (.list (k.2.map PV.int))] body (kv k))
    (h2 : 2 ≤ kk.length) (h64 : kk.length < 64) (hlen : ∀ (i j : Nat) (x y : Int × List Int), kk[i]? = some x → kk[j]? = some y → x.1 = y.1 → x.2.length = y.2.length)
    (hord : okT (fun i j => kl (kk.getD i (0, [])).1 (kk.getD i (0, [])).2 (kk.getD j (0, [])).1 (kk.getD j (0, [])).2) kk.length (kas_sort kk.length) = some ord) (hol : ∀ i ∈ ord.toList, i < kk.length)
    (hbs : ∀ env, attributeBase (.Name x px) "sort" env (eval (.Name x px) env) = eval (.Name x px) env := by intro _; rfl) (hline : (apos.endLine == cpos.line) = true := by rfl)
    (hsw : ∀ env, swapsWith (.Call (.Attribute (.Name x px) "sort" apos) [] [⟨some "key", .Lambda params body scope lpos, kp⟩] cpos) none pos.line env = pure false := by intro _; rfl)
    (k : ∀ h' tk, St w Γ env V₀ oa vals' h' → (∀ h2, (∀ b o, ¬ Own env oa b → h'.get? b = some o → h2.get? b = some o) → TabX c P qual lpos h2) → (∀ b o, b ≠ P → ¬ Own env oa b → s.heap.get? b = some o → h'.get? b = some o) → Q .next { s with heap := h', toks := tk }) :
    wpAny (MW w) A (exec (.Expr (.Call (.Attribute (.Name x px) "sort" apos) [] [⟨some "key", .Lambda params body scope lpos, kp⟩] cpos) pos) env) Q E s := by
  obtain ⟨a, vs, ma, l, pl, r, hm⟩ := z.ownAt hx
  have hin : interactive env = false := by unfold interactive; rw [z.ok.kind]; rfl
  refine wpAny_Expr ?_ hin (hsw env)
  refine Call_sort (hbs env) hline ?_
  obtain ⟨n, ho⟩ := id pl
  refine loads_name z.ok.kind (z.ok.nm x false hm) l ⟨a, n, List.toArray vs, rfl, ho, ?_⟩
  refine make_lam b0 b1 hP0 C hcode z.ok.glb hq (hcl env) (hdef env) tab fun c' oc cvs t pm ctv q h' tk kp' tab' hq' hoc hd hv hqn hcP hqP hc' => ?_
  have haP : a ≠ P := fun h => z.v0 P hVP (h ▸ .inr (.inr ⟨x, ma⟩))
  have hst : Stays hb h' := fun b o e => kp' b o (fun h => by rw [h, hP0] at e; cases e) (b1 b o e)
  have ha' := kp' a _ haP ho
  have z' : St w Γ env V₀ oa vals h' := z.vol (hb := hb) (fun b o nb e => kp' b o (fun h => nb (h ▸ hVP)) e) (fun b hb' => by
    by_cases hbP : b = P
    · subst hbP
      exact ⟨_, tab'⟩
    · obtain ⟨o, e⟩ := z.ok.al b (.inl hb'); exact ⟨o, kp' b o hbP e⟩) b0 hst b2
  have r' : Reps (Vol env V₀ oa) h' (kk.map fun k => PV.list (k.2.map PV.int)) vs := r.mono fun b o nb e => ⟨nb, kp' b o (fun h => nb (.inl (h ▸ hVP))) e⟩
  refine wpAny_call_entry_kw F.slot_list_sort ⟨_, ha', rfl⟩ F.entry_list_sort ?_ (ksk_l1 _ _)
  rw [show (Builtin.«list.sort» ⟨[.ref a], [("key", .ref q)]⟩) = ksk_tree a (.ref q) false from ksk_t1 q a]
  have hca : c' ≠ a := fun h => by
    rcases hc' with e | e
    · rw [h, ho] at e; cases e
    · have e := e.1; rw [h, ho] at e; cases e; cases hd
  have rm1 : Room A.in1 (d + 1) := ⟨rm.hh, (by have := rm.dep; show A.depth + (d + 1) < _; (first | lia | omega)), (by have := rm.un; show A.units + 1 + _ + _ < _; (first | lia | omega))⟩
  refine sort_tree (d := d + 1) (V := Vol env V₀ oa) (kk := kk) (ls := [(q, kla_obj "<lambda>" qual params body scope [] pm c' ctv), (c', oc)]) b0 hst (fun b o e hba => b2 b o e (hba ▸ .inr (.inr ⟨x, ma⟩))) rm1 z'.ok.al (.inr (.inr (.inr ⟨x, ma⟩))) ha' r' (fun y hy => ?_) (fun y hy => ?_) (fun i p k' hp hk' => ?_) (by simp) h2 h64 hlen hord fun h3 tk3 kp3 pl3 => ?_
  · rcases List.mem_cons.mp hy with rfl | hy
    · exact hq'
    · cases List.mem_singleton.mp hy; exact hoc
  · rcases List.mem_cons.mp hy with rfl | hy
    · exact fun (h : q = a) => by rw [h, ho] at hqn; cases hqn
    · cases List.mem_singleton.mp hy; exact hca
  · rw [List.getElem?_map, hk'] at hp
    cases hp
    exact FcH.lam hd hv (fun v => hbind c' pm ctv v) hy hk hco hgen hcell hg hn (hev k' (List.mem_of_getElem? hk'))
  · refine ⟨.none, rfl, ?_⟩
    have l' : Loads env h' x false (.ref a) := by
      unfold Loads at l ⊢
      simp only [Bool.false_eq_true, if_false] at l ⊢
      obtain ⟨k1, m1, n1, e1⟩ := l
      exact ⟨k1, m1, n1.at' fun o e => kp' _ o (fun h => z.v0 P hVP (h ▸ .inl rfl)) e, e1⟩
    have pick := (r'.mono (V' := Vol env V₀ oa) (h' := h3) fun b o nb e => ⟨nb, kp3 b o (fun h => nb (h ▸ .inr (.inr (.inr ⟨x, ma⟩)))) e⟩).pick ord.toList (fun i hi => by simpa using hol i hi)
    obtain ⟨z3, stp⟩ := z'.change (h' := h3) (us := ord.toList.map fun i => vs.getD i .none) hx pt l' ma (fun b o hb e => kp3 b o hb e) (by
      have e : (ord.map fun i => vs.getD i Value.none) = List.toArray (ord.toList.map fun i => vs.getD i Value.none) := by rw [← Array.toList_map, Array.toArray_toList]
      rw [← e]; exact pl3) pick
    have kpP : ∀ b o, h'.get? b = some o → b ≠ a → h3.get? b = some o := fun b o e hb => kp3 b o hb e
    refine k h3 tk3 z3 ?_ fun b o hbP nb e => kp3 b o (fun h => nb (h ▸ .inr (.inr ⟨x, ma⟩))) (kp' b o hbP e)
    intro h4 kp4
    have nP : ¬ Own env oa P := z.v0 P hVP
    have nc : ¬ Own env oa c' := by
      rcases hc' with e | ⟨e, e2⟩
      · intro ho'
        obtain ⟨o, eo⟩ := z.ok.al c' (.inr ho')
        rw [e] at eo; cases eo
      · exact hno c' e2
    exact .inr ⟨c', oc, cvs, t, hcP, kp4 _ _ nP (kpP P _ tab' (Ne.symm haP)), kp4 _ _ nc (kpP c' _ hoc hca), hd, hv⟩
end Mine
end
noncomputable section
set_option maxRecDepth 100000
namespace Mine
noncomputable def zl (l : List Nat) : List Int := l.map fun (k : Nat) => (k : Int)
noncomputable def kkOf (m : Nat) : List (Int × List Int) := (List.range (2 ^ m)).map fun (mask : Nat) => (((keptOf m mask).length : Int), zl (keptOf m mask))
noncomputable def ordOf (m : Nat) : Array Nat := if m = 2 then order2 else if m = 3 then order3 else order4
noncomputable def sel (m : Nat) : List (List Nat) := (ordOf m).toList.map fun (i : Nat) => keptOf m i
theorem sortsK2 : okT (fun i j => kl ((kkOf 2).getD i (0, [])).1 ((kkOf 2).getD i (0, [])).2 ((kkOf 2).getD j (0, [])).1 ((kkOf 2).getD j (0, [])).2) (kkOf 2).length (kas_sort (kkOf 2).length) = some (ordOf 2) := by decide +kernel
theorem sortsK3 : okT (fun i j => kl ((kkOf 3).getD i (0, [])).1 ((kkOf 3).getD i (0, [])).2 ((kkOf 3).getD j (0, [])).1 ((kkOf 3).getD j (0, [])).2) (kkOf 3).length (kas_sort (kkOf 3).length) = some (ordOf 3) := by decide +kernel
theorem sortsK4 : okT (fun i j => kl ((kkOf 4).getD i (0, [])).1 ((kkOf 4).getD i (0, [])).2 ((kkOf 4).getD j (0, [])).1 ((kkOf 4).getD j (0, [])).2) (kkOf 4).length (kas_sort (kkOf 4).length) = some (ordOf 4) := by decide +kernel
theorem sortsK {m : Nat} (h : m = 2 ∨ m = 3 ∨ m = 4) : okT (fun i j => kl ((kkOf m).getD i (0, [])).1 ((kkOf m).getD i (0, [])).2 ((kkOf m).getD j (0, [])).1 ((kkOf m).getD j (0, [])).2) (kkOf m).length (kas_sort (kkOf m).length) = some (ordOf m) := by
  rcases h with rfl | rfl | rfl
  · exact sortsK2
  · exact sortsK3
  · exact sortsK4
theorem ord_lt {m : Nat} (h : m = 2 ∨ m = 3 ∨ m = 4) : ∀ i ∈ (ordOf m).toList, i < 2 ^ m := by
  rcases h with rfl | rfl | rfl <;> decide +kernel
theorem sel_len {m : Nat} (h : m = 2 ∨ m = 3 ∨ m = 4) : (sel m).length ≤ 16 := by
  rcases h with rfl | rfl | rfl <;> decide +kernel
theorem kk_get {m : Nat} {i : Nat} {x : Int × List Int} (h : (kkOf m)[i]? = some x) : x.1 = x.2.length := by
  unfold kkOf at h
  rw [List.getElem?_map, Option.map_eq_some_iff] at h
  obtain ⟨mask, _, rfl⟩ := h
  simp [zl]
theorem kk_pv (m : Nat) : (kkOf m).map (fun k => PV.list (k.2.map PV.int)) = (List.range (2 ^ m)).map fun (mask : Nat) => nl (keptOf m mask) := by
  unfold kkOf
  rw [List.map_map]
  refine List.map_congr_left fun mask _ => ?_
  simp [nl, zl, ni]
theorem kk_sel {m : Nat} (h : m = 2 ∨ m = 3 ∨ m = 4) : ((ordOf m).toList.map fun i => ((kkOf m).map fun k => PV.list (k.2.map PV.int)).getD i .none) = (sel m).map nl := by
  rw [kk_pv]
  unfold sel
  rw [List.map_map]
  refine List.map_congr_left fun i hi => ?_
  have hlt := ord_lt h i hi
  rw [List.getD_eq_getElem?_getD, List.getElem?_map, List.getElem?_eq_getElem (by simpa using hlt)]
  simp
noncomputable def pieceOf (P : Nat → Bool) (s : List Nat) (p : Nat) : List Nat := (if P p then dots else []) ++ (s.drop p).take 1
theorem pieces_tok (P : Nat → Bool) : ∀ (s : List Nat) (i : Nat), ((List.range' i (s.length + 1)).map fun p => (if P p then dots else []) ++ (s.drop (p - i)).take 1).flatten = tokR P i s
  | [], i => by unfold tokR; simp [List.range'_succ]
  | c :: s, i => by
    have ih := pieces_tok P s (i + 1)
    unfold tokR
    rw [List.length_cons, List.range'_succ, List.map_cons, List.flatten_cons, ← ih]
    have e : ((List.range' (i + 1) (s.length + 1)).map fun p => (if P p then dots else []) ++ ((c :: s).drop (p - i)).take 1) = (List.range' (i + 1) (s.length + 1)).map fun p => (if P p then dots else []) ++ (s.drop (p - (i + 1))).take 1 := by
      refine List.map_congr_left fun p hp => ?_
      have : i + 1 ≤ p := by
        rw [List.mem_range'] at hp
        obtain ⟨j, _, rfl⟩ := hp; (first | lia | omega)
      rw [show p - i = (p - (i + 1)) + 1 by (first | lia | omega), List.drop_succ_cons]
    rw [e]
    simp
theorem pieces_tok0 (P : Nat → Bool) (s : List Nat) : ((List.range (s.length + 1)).map (pieceOf P s)).flatten = tokR P 0 s := by
  rw [← pieces_tok P s 0, List.range_eq_range']
  unfold pieceOf
  simp
noncomputable def pin (places : List Nat) (p : Nat) : Bool := decide (p ∈ places)
noncomputable def fitB (places : List Nat) (needs : List (List Nat)) : Bool := !(needs.filter fun need => (need.filter fun p => !pin places p).isEmpty).isEmpty
noncomputable def rowOf (short long : List Nat) (places : List Nat) : Row3 := (tokR (pin places) 0 short, fitB places (needsOf short long), fitB places (needsOf short long.dropLast))
theorem in_pin (k : Nat) (places : List Nat) : KTD.inNums (k : Int) (zl places) = pin places k := by
  unfold pin zl
  induction places with
  | nil => simp [KTD.inNums]
  | cons x l ih =>
    simp only [List.map_cons, KTD.inNums, ih]
    by_cases h : x = k
    · subst h; simp
    · have h3 : (k = x) = False := by simp; (first | lia | omega)
      simp [h3]
      intro h'
      exfalso; (first | lia | omega)
theorem fitB_iff (places : List Nat) (s g : List Nat) (hg : g.length ≤ 5) : fitB places (needsOf s g) = true ↔ Fit (pin places) 0 s g := by
  rw [← needs_fit (pin places) s g hg]
  unfold fitB
  have key : ∀ need : List Nat, (need.filter fun p => !pin places p).isEmpty = true ↔ ∀ x ∈ need, pin places x = true := fun need => by
    rw [List.isEmpty_iff, List.filter_eq_nil_iff]
    constructor
    · intro h x hx
      cases hp : pin places x with
      | true => rfl
      | false => exact absurd (by simp [hp]) (h x hx)
    · intro h x hx
      simp [h x hx]
  constructor
  · intro h
    have hne : (needsOf s g).filter (fun need => (need.filter fun p => !pin places p).isEmpty) ≠ [] := fun e => by rw [e] at h; cases h
    obtain ⟨need, hn⟩ := List.exists_mem_of_ne_nil _ hne
    exact ⟨need, (List.mem_filter.mp hn).1, (key need).mp (List.mem_filter.mp hn).2⟩
  · rintro ⟨need, hn, h⟩
    have hm : need ∈ (needsOf s g).filter (fun need => (need.filter fun p => !pin places p).isEmpty) := List.mem_filter.mpr ⟨hn, (key need).mpr h⟩
    cases e : (needsOf s g).filter (fun need => (need.filter fun p => !pin places p).isEmpty) with
    | nil => rw [e] at hm; cases hm
    | cons => rfl
theorem nl_ok (need : List Nat) : (nl need).ok = true ∧ (nl need).dep ≤ 1 := by
  unfold nl
  induction need with
  | nil => exact ⟨rfl, by simp [PV.dep, PV.deps]⟩
  | cons k need ih =>
    simp only [PV.ok, PV.oks, PV.dep, PV.deps, List.map_cons, ni, Bool.true_and] at ih ⊢
    exact ⟨ih.1, by (first | lia | omega)⟩
theorem nls_ok (needs : List (List Nat)) : PV.oks (needs.map nl) = true ∧ PV.deps (needs.map nl) ≤ 1 := by
  induction needs with
  | nil => exact ⟨rfl, by simp [PV.deps]⟩
  | cons k needs ih =>
    have := nl_ok k
    simp only [PV.oks, PV.deps, List.map_cons, this.1, ih.1, Bool.true_and] at ih ⊢
    exact ⟨trivial, by (first | lia | omega)⟩
theorem nis_ok (l : List Nat) : PV.oks (l.map ni) = true ∧ PV.deps (l.map ni) ≤ 1 := by
  induction l with
  | nil => exact ⟨rfl, by simp [PV.deps]⟩
  | cons k l ih =>
    simp only [PV.oks, PV.ok, PV.deps, PV.dep, List.map_cons, ni, Bool.true_and] at ih ⊢
    exact ⟨ih.1, by (first | lia | omega)⟩
end Mine
end
noncomputable section
set_option maxRecDepth 100000
set_option maxHeartbeats 2000000
namespace Mine
open PySem.Calls
structure Ghost (w : World) (hb : Heap) : Prop where
  base : Base w hb
  n1 : hb.get? 120 = none
  n2 : hb.get? 86 = none
  c1 : CodeHd hb 122 120
  c2 : CodeHd hb 90 86
noncomputable abbrev lamPos : Pos := ⟨201, 21, 201, 57⟩
noncomputable abbrev lamQual : Str := "_law_rows.<locals>.<lambda>"
noncomputable def Tab120 (h : Heap) : Prop := TabX 122 120 lamQual lamPos h
theorem nl_inj : ∀ a b, nl a = nl b → a = b := fun a b h => by
  simp only [nl, PV.list.injEq] at h
  exact List.map_inj_right (fun x y e => ni_inj x y e) |>.mp h
theorem tok_len (P : Nat → Bool) : ∀ (s : List Nat) (i : Nat), (tokR P i s).length ≤ 4 * s.length + 3
  | [], i => by unfold tokR; split <;> simp [dots]
  | c :: s, i => by
    have ih := tok_len P s (i + 1)
    unfold tokR
    rw [List.length_append, List.length_cons, List.length_cons]
    have h3 : (if P i then dots else []).length ≤ 3 := by split <;> simp [dots]
    (first | lia | omega)
theorem rows_call (w : World) (d : Nat) (short long : List Nat) (h1 : 1 ≤ short.length) (hs : short.length ≤ 3) (hg : long.length ≤ 5) (hs2 : ∀ c ∈ short, c < 128) (hg2 : ∀ c ∈ long, c < 128)
    {V : Addr → Prop} {A : Around} {s : Shared} {Q : Value → Shared → Prop} {E : Value → Shared → Prop} {cvs : List Value} {hb : Heap}
    (gh : Ghost w hb) (b1 : Stays hb s.heap) (hV : V 120) (rm : Room A (d + 1 + 1 + 1 + 1)) (al : Alive V s.heap) (rp : Reps V s.heap [.str (S short), .str (S long)] cvs) (tab : Tab120 s.heap)
    (k : ∀ cv h' tk, (∀ b o, b ≠ 120 → s.heap.get? b = some o → h'.get? b = some o) → Tab120 h' → Rep V h' (.list ((sel (short.length + 1)).map fun pl => rowV (rowOf short long pl))) cv → Q cv { s with heap := h', toks := tk }) :
    wpAny (MW w) A (call (.ref 123) cvs) Q E s := by
  obtain ⟨v1, v2, rfl, r1, r2⟩ := reps_two rp
  refine withK (w := w) ?_
  k_fill
  intro _
  refine entry (d := d + 1 + 1 + 1) (Γ := ⟨[("short", true), ("long", false), ("spots", true), ("choices", false), ("needs", false), ("rows", false), ("places", true), ("token", false), ("fits", false), ("some", false)], ["range", "len", "_law_needs"]⟩) (ns := ["short", "long"]) (by k_is) (by k_is) (by decide) rfl rfl (gh.base.stays b1) rm al rp ?_
  intro env h₁ tk E' z st nO rm' _ hcode hqual
  simp only [List.map_cons, List.map_nil, List.drop_succ_cons, List.drop_zero, List.length_cons, List.length_nil, List.cons_append, List.nil_append, Nat.zero_add, Nat.reduceAdd] at z
  generalize hm : short.length + 1 = m at *
  have hm3 : m = 2 ∨ m = 3 ∨ m = 4 := by (first | lia | omega)
  have hp16 : 2 ^ m ≤ 16 := by rcases hm3 with h | h | h <;> rw [h] <;> decide
  obtain ⟨q1, q2⟩ := range_small (n := m) (by (first | lia | omega))
  obtain ⟨p1, p2⟩ := range_small (n := 2 ^ m) (by (first | lia | omega))
  refine wpAny_execs_cons ((ExS.assign (P := fun o => o = .next [.val (.str (S short)), .val (.str (S long)), .val (.range 0 (m : Int) 1), .un, .un, .un, .un, .un, .un, .un]) (Ev.call (by simp) (g_range w) (KeptC.typ _) (EvL.cons (Ev.is (Ev.bin (Ev.call (by simp) (g_len w) (KeptC.blt _) (EvL.cons (Ev.name (by walk_at "at")) EvL.nil) (Fc.lenS (small (by (first | lia | omega))))) Ev.int Bo.addI) (show _ = PV.int (m : Int) by rw [← hm]; simp)) EvL.nil) Fc.range1) (by walk_at "put") rfl) env V [] _ _ _ _ z rm' ?_)
  intro out fl oa1 h2 tk2 hp ok stp1
  subst hp
  obtain ⟨rfl, z2⟩ := ok
  dsimp only
  have hfm : (List.range (2 ^ m)).filterMap (fun (mask : Nat) => some (nl (keptOf m mask))) = (kkOf m).map fun k => PV.list (k.2.map PV.int) := by rw [kk_pv]; simp
  refine wpAny_execs_cons ((ExS.assignComp1M (P := fun o => o = .next [.val (.str (S short)), .val (.str (S long)), .val (.range 0 (m : Int) 1), .own ((kkOf m).map fun k => PV.list (k.2.map PV.int)), .un, .un, .un, .un, .un, .un]) (p := .range 0 ((2 ^ m : Nat) : Int) 1) (cn := ["spots"]) (globs := []) (cv := [.range 0 (m : Int) 1]) (List.range (2 ^ m)) ni (fun (mask : Nat) => some (nl (keptOf m mask))) ni_inj ?_ (by rw [← rangeL_ni]; exact Iter.range p1 p2) (Caps.cons (by walk_at "at") Caps.nil) (fun mask hmask => ⟨Ands.nil, EvF.ev ?_⟩) (by decide) (small (by simp; (first | lia | omega))) (by simp) (by rw [hfm]; walk_at "put") rfl) env V oa1 _ _ _ _ z2 rm' ?_)
  · refine Ev.call (by simp) (g_range w) (KeptC.typ _) (EvL.cons (Ev.is (Ev.bin Ev.int (Ev.call (by simp) (g_len w) (KeptC.blt _) (EvL.cons (Ev.name (by walk_at "at")) EvL.nil) (Fc.lenR (by (first | lia | omega)))) (Bo.powI (by (first | lia | omega)) ?_)) ?_) EvL.nil) Fc.range1
    · have e : Builtin.Int.intBits 2 = 2 := by decide +kernel
      rw [e]; (first | lia | omega)
    · rw [Int.toNat_natCast]; simp
  · show EvF w _ _ _ _ ((keptOf m (mask : Int)).map ni)
    rw [show (keptOf m (mask : Int)).map ni = (List.range m).filterMap fun k => if bt (mask : Int) k then some (ni k) else none by rw [filter_fm]; rfl]
    refine EvF.compM (tn := ["p"]) (cn := ["mask"]) (globs := []) (cv := [.int (mask : Int)]) (List.range m) ni _ ni_inj (Ev.name (by walk_at "at")) (by rw [← rangeL_ni]; exact Iter.range q1 q2) (Caps.cons (by walk_at "at") Caps.nil) (fun k hk => ⟨[ni k], rfl, Asg.name, ?_⟩) (by decide) (small (by simp; (first | lia | omega)))
    cases hb' : bt (mask : Int) k with
    | true => exact ⟨Ands.one (Tr.is (Tr.val (Ev.bin (Ev.bin (Ev.name (by walk_at "at")) (Ev.name (by walk_at "at")) (Bo.shrI (by (first | lia | omega)))) Ev.int Bo.andI) Th.int) (by exact hb')), Ev.name (by walk_at "at")⟩
    | false => exact Ands.one (Tr.is (Tr.val (Ev.bin (Ev.bin (Ev.name (by walk_at "at")) (Ev.name (by walk_at "at")) (Bo.shrI (by (first | lia | omega)))) Ev.int Bo.andI) Th.int) (by exact hb'))
  intro out fl oa2 h3 tk3 hp ok stp2
  subst hp
  obtain ⟨rfl, z3⟩ := ok
  dsimp only
  have stp := stp1.trans stp2
  have nO2 : ∀ b o, s.heap.get? b = some o → ¬ Own env oa2 b := fun b o e ho => by
    rcases ho with ho | ho | ⟨y, ho⟩
    · exact nO b o e (.inl ho)
    · exact nO b o e (.inr (.inl ho))
    · rcases stp.fr y b ho with ho | ho
      · cases ho
      · rw [st b o e] at ho; cases ho
  have st3 : Stays s.heap h3 := fun b o e => stp.kp b o (nO b o e) (st b o e)
  have tab3 : Tab120 h3 := by
    rcases tab with tb | ⟨c', oc, vs, t, g1, tb, g2, g3, g4⟩
    · exact .inl (st3 _ _ tb)
    · exact .inr ⟨c', oc, vs, t, g1, st3 _ _ tb, st3 _ _ g2, g3, g4⟩
  refine wpAny_execs_cons (sort_stmt (d := d + 1) (c := 122) (P := 120) (x := "choices") (y := "places") (globs := ["len"]) (kk := kkOf m) (ord := ordOf m) (hb := hb) (qual := lamQual) (lpos := lamPos) z3 rm' (by walk_at "at") (by walk_at "put") gh.base (b1.trans st3) (fun b o e => nO2 b o (b1 b o e)) gh.n1 hV gh.c1 hcode (by rw [hqual]; rfl) tab3 ?_ (fun _ => rfl) (fun _ => rfl) (fun _ _ _ _ => rfl) rfl rfl rfl rfl (by decide) (by decide) ⟨rfl, rfl⟩ (fun kx hkx => ?_) ?_ ?_ ?_ (sortsK hm3) ?_ (k := ?_))
  · intro c' e
    rcases tab with tb | ⟨c2, oc, vs, t, g1, tb, g2, g3, g4⟩
    · have := st3 _ _ tb
      rw [e] at this
      have := congrArg (fun o : Option Obj => o.map (·.data)) this
      simp [tabObj] at this
    · have := st3 _ _ tb
      rw [e] at this
      have := congrArg (fun o : Option Obj => o.map (·.data)) this
      simp [tabObj] at this
      subst this
      exact nO2 _ _ g2
  · obtain ⟨mask, hmk, rfl⟩ := List.mem_map.mp hkx
    refine Ev.is (Ev.tup (EvL.cons (Ev.call (by simp) (g_len w) (KeptC.blt _) (EvL.cons (Ev.name (by walk_at "at")) EvL.nil) (Fc.lenL (small ?_))) (EvL.cons (Ev.name (by walk_at "at")) EvL.nil)) two_small) ?_
    · have := keptOf_len (n := m) (mask := (mask : Int)); simp [zl]; (first | lia | omega)
    · simp [kv, zl]
  · simp only [kkOf, List.length_map, List.length_range]
    rcases hm3 with h | h | h <;> rw [h] <;> decide
  · simp only [kkOf, List.length_map, List.length_range]
    (first | lia | omega)
  · intro i j x y hx hy hxy
    have e1 := kk_get hx
    have e2 := kk_get hy
    (first | lia | omega)
  · intro i hi
    simp only [kkOf, List.length_map, List.length_range]
    exact ord_lt hm3 i hi
  intro h4 tk4 z4 tab4 kp4
  dsimp only
  rw [kk_sel hm3] at z4
  have hz16 := sel_len hm3
  have hpl : ∀ l ∈ sel m, l.length ≤ 4 := fun l hl => by
    obtain ⟨i, _, rfl⟩ := List.mem_map.mp hl
    have := keptOf_len (n := m) (mask := (i : Int)); (first | lia | omega)
  refine (show Ex w (d + 1 + 1 + 1) _ _ _ (fun o => o = .ret (.list ((sel m).map fun pl => rowV (rowOf short long pl)))) from ?_) env V oa2 _ _ _ _ z4 rm' ?_
  · refine Ex.freeze (x := "choices") (by walk_at "at") (by walk_at "put") ?_
    refine Ex.cons (ExS.assign (p := .list [.list ((needsOf short long).map nl), .list ((needsOf short long.dropLast).map nl)]) (EvF.ev (EvF.list (EvL.cons (Ev.call (by simp) (GVal.glob (v := .ref 118) (by k_is) rfl) (KeptC.fn (by k_is)) (EvL.cons (Ev.name (by walk_at "at")) (EvL.cons (Ev.name (by walk_at "at")) EvL.nil)) (needs_spec w (d + 1 + 1) short long hs hg hs2 hg2)) (EvL.cons (Ev.call (by simp) (GVal.glob (v := .ref 118) (by k_is) rfl) (KeptC.fn (by k_is)) (EvL.cons (Ev.name (by walk_at "at")) (EvL.cons (Ev.is (Ev.slice (Ev.name (by walk_at "at")) EvO.none (EvO.int (Ev.neg Ev.int)) (small (by (first | lia | omega)))) ?_) EvL.nil)) (needs_spec w (d + 1 + 1) short long.dropLast hs (by simp; (first | lia | omega)) hs2 (fun c hc => hg2 c ((List.dropLast_sublist long).subset hc)))) EvL.nil)) (small (by simp)))) (by walk_at "put") ?_)
    · rw [show (-1 : Int) = -((1 : Nat) : Int) by rfl, psl_neg (by (first | lia | omega)), List.dropLast_eq_take]
    generalize hN1 : needsOf short long = N1
    generalize hN2 : needsOf short long.dropLast = N2
    have hrow : ∀ pl, rowOf short long pl = (tokR (pin pl) 0 short, fitB pl N1, fitB pl N2) := fun pl => by unfold rowOf; rw [hN1, hN2]
    have hn1 : N1.length ≤ 32 := by
      rw [← hN1]
      refine Nat.le_trans (List.length_filterMap_le _ _) ?_
      rw [List.length_range]
      exact Nat.pow_le_pow_right (by (first | lia | omega)) hg
    have hn2 : N2.length ≤ 32 := by
      rw [← hN2]
      refine Nat.le_trans (List.length_filterMap_le _ _) ?_
      rw [List.length_range]
      exact Nat.pow_le_pow_right (n := 2) (i := long.dropLast.length) (j := 5) (by (first | lia | omega)) (show long.dropLast.length ≤ 5 by simp; (first | lia | omega))
    have hnn : ∀ g : List Nat, ∀ need ∈ needsOf short g, need.length ≤ 4 := fun g need hneed => by
      obtain ⟨mask, _, e⟩ := List.mem_filterMap.mp hneed
      unfold needOf at e
      split at e
      · cases e
        refine Nat.le_trans (List.length_filter_le _ _) ?_
        simp; (first | lia | omega)
      · cases e
    have hnn1 : ∀ need ∈ N1, need.length ≤ 4 := by rw [← hN1]; exact hnn _
    have hnn2 : ∀ need ∈ N2, need.length ≤ 4 := by rw [← hN2]; exact hnn _
    refine Ex.cons (ExS.assignOwn (EvF.list EvL.nil (small (by simp))) (by simp) (by walk_at "put") ?_)
    refine Ex.seq (fun out => ∃ x1 x2 x3 x4 : Sl, out = .next [.val (.str (S short)), .val (.str (S long)), .val (.range 0 (m : Int) 1), .val (.list ((sel m).map nl)), .val (.list [.list (N1.map nl), .list (N2.map nl)]), .own ((sel m).map fun pl => rowV (rowOf short long pl)), x1, x2, x3, x4]) (ExS.loop (p := .list ((sel m).map nl)) (items := (sel m).map nl) (Ev.name (by walk_at "at")) Iter.list ?_) ?_ (fun p h => by obtain ⟨_, _, _, _, h⟩ := h; cases h) (fun p h => by obtain ⟨_, _, _, _, h⟩ := h; cases h) (fun p h => by obtain ⟨_, _, _, _, h⟩ := h; cases h)
    · obtain ⟨D, hD⟩ : ∃ D : List (List Nat), D = [] := ⟨_, rfl⟩
      obtain ⟨R, hR⟩ : ∃ R : List (List Nat), R = sel m := ⟨_, rfl⟩
      have g1 : ∀ f : List Nat → PV, (sel m).map f = (D ++ R).map f := fun f => by rw [hD, hR]; rfl
      have g2 : D.length + R.length ≤ 16 := by rw [hD, hR]; simpa using hz16
      have g3 : ∀ l ∈ R, l.length ≤ 4 := by rw [hR]; exact hpl
      rw [g1 fun pl => rowV (rowOf short long pl)]
      obtain ⟨cho, hcho⟩ : ∃ cho, cho = (sel m).map nl := ⟨_, rfl⟩
      rw [← hcho]
      generalize hT : [Sl.un, Sl.un, Sl.un, Sl.un] = tl
      obtain ⟨x1, x2, x3, x4, hT'⟩ : ∃ x1 x2 x3 x4 : Sl, tl = [x1, x2, x3, x4] := ⟨_, _, _, _, hT.symm⟩
      clear hT
      subst hT'
      refine LoopP.is (items' := R.map nl) (vals' := [.val (.str (S short)), .val (.str (S long)), .val (.range 0 (m : Int) 1), .val (.list cho), .val (.list [.list (N1.map nl), .list (N2.map nl)]), .own (D.map fun pl => rowV (rowOf short long pl)), x1, x2, x3, x4]) ?_ (by rw [hcho, hR]) (by rw [hD]; rfl)
      clear g1 hR hD hcho
      induction R generalizing D x1 x2 x3 x4 with
      | nil => exact ⟨x1, x2, x3, x4, by simp⟩
      | cons pl R ih =>
        have hl4 := g3 pl List.mem_cons_self
        refine ⟨_, AsgS.name (by walk_at "put"), ?_⟩
        have hzl : nl pl = .list ((zl pl).map PV.int) := by simp [nl, zl, ni]
        refine Ex.cons (ExS.assign (p := .str (S (tokR (pin pl) 0 short))) (Ev.meth (p := .str (S [])) (ps := [.list (((List.range m).map (pieceOf (pin pl) short)).map fun l => PV.str (S l))]) ?_ HasT.str meth_join (EvL.cons (EvF.ev ?_) EvL.nil) ?_) (by walk_at "put") ?_)
        · exact Ev.is Ev.str (by rfl)
        · rw [show ((List.range m).map (pieceOf (pin pl) short)).map (fun l => PV.str (S l)) = (List.range m).filterMap fun p => some (PV.str (S (pieceOf (pin pl) short p))) by simp]
          refine EvF.compM (tn := ["p"]) (cn := ["places", "short"]) (globs := []) (cv := [nl pl, .str (S short)]) (List.range m) ni _ ni_inj (Ev.name (by walk_at "at")) (by rw [← rangeL_ni]; exact Iter.range q1 q2) (Caps.cons (by walk_at "at") (Caps.cons (by walk_at "at") Caps.nil)) (fun p hp => ⟨[ni p], rfl, Asg.name, Ands.nil, ?_⟩) (by decide) (small (by simp; (first | lia | omega)))
          refine Ev.is (Ev.bin (p := .str (S (if pin pl p then dots else []))) (Ev.ite (c := pin pl p) ?_ (fun h => ?_) (fun h => ?_)) (Ev.slice (Ev.name (by walk_at "at")) (EvO.int (Ev.name (by walk_at "at"))) (EvO.int (Ev.bin (Ev.name (by walk_at "at")) Ev.int Bo.addI)) (small (by (first | lia | omega)))) (Bo.addS (small ?_))) ?_
          · exact Tr.is (Tr.cmp (Ev.name (by walk_at "at")) (Ev.is (Ev.name (by walk_at "at")) hzl) Co.inL) (in_pin p pl)
          · rw [h]; exact Ev.is Ev.str (by rfl)
          · rw [h]; exact Ev.is Ev.str (by rfl)
          · have := psl_le short (some (p : Int)) (some ((p : Int) + 1))
            rw [S_len, S_len]
            have h3 : (if pin pl p then dots else []).length ≤ 3 := by split <;> simp [dots]
            (first | lia | omega)
          · rw [S_add]
            refine congrArg (fun l => PV.str (S l)) ?_
            unfold pieceOf
            refine congrArg (fun l => (if pin pl p = true then dots else []) ++ l) ?_
            rw [show ((p : Int) + 1) = ((p + 1 : Nat) : Int) by (first | lia | omega), psl_nn]
            have hp' : p < m := by simpa using hp
            rw [show min p short.length = p by (first | lia | omega)]
            by_cases hpe : p < short.length
            · rw [show min (p + 1) short.length - p = 1 by (first | lia | omega)]
            · rw [List.drop_eq_nil_of_le (by (first | lia | omega))]; simp
        · rw [← pieces_tok0, hm]
          exact Fc.join rfl (by rw [← hm, pieces_tok0]; have := tok_len (pin pl) short 0; (first | lia | omega))
        refine Ex.cons (ExS.assignOwn (EvF.list EvL.nil (small (by simp))) (by simp) (by walk_at "put") ?_)
        refine Ex.seq (fun out => ∃ y : Sl, out = .next [.val (.str (S short)), .val (.str (S long)), .val (.range 0 (m : Int) 1), .val (.list cho), .val (.list [.list (N1.map nl), .list (N2.map nl)]), .own (D.map fun pl => rowV (rowOf short long pl)), .val (nl pl), .val (.str (S (tokR (pin pl) 0 short))), .own [.bool (fitB pl N1), .bool (fitB pl N2)], y]) (ExS.loop (p := .list [.list (N1.map nl), .list (N2.map nl)]) (items := [.list (N1.map nl), .list (N2.map nl)]) (Ev.name (by walk_at "at")) Iter.list ?_) ?_ (fun p h => by obtain ⟨_, h⟩ := h; cases h) (fun p h => by obtain ⟨_, h⟩ := h; cases h) (fun p h => by obtain ⟨_, h⟩ := h; cases h)
        · refine ⟨_, AsgS.name (by walk_at "put"), Ex.cons (ExS.append (p := .bool (fitB pl N1)) (by walk_at "at") (Ev.is (Ev.cmp (EvF.ev (EvF.compM (tn := ["need"]) (cn := ["places"]) (globs := []) (cv := [nl pl]) N1 nl (fun need => if (need.filter fun p => !pin pl p).isEmpty then some (nl need) else none) nl_inj (Ev.name (by walk_at "at")) Iter.list (Caps.cons (by walk_at "at") Caps.nil) (fun need hneed => ⟨[nl need], rfl, Asg.name, ?_⟩) (by decide) (small (by (first | lia | omega))))) (EvF.ev (EvF.list EvL.nil (small (by simp)))) (Co.neNil (by rw [filter_fm]; exact (nls_ok _).1) (by rw [filter_fm]; have := (nls_ok (N1.filter fun need => (need.filter fun p => !pin pl p).isEmpty)).2; (first | lia | omega)))) (show _ = PV.bool (fitB pl N1) by rw [filter_fm]; unfold fitB; rw [List.isEmpty_map])) (small (by simp)) (by walk_at "put") (Ex.nil ⟨_, AsgS.name (by walk_at "put"), Ex.cons (ExS.append (p := .bool (fitB pl N2)) (by walk_at "at") (Ev.is (Ev.cmp (EvF.ev (EvF.compM (tn := ["need"]) (cn := ["places"]) (globs := []) (cv := [nl pl]) N2 nl (fun need => if (need.filter fun p => !pin pl p).isEmpty then some (nl need) else none) nl_inj (Ev.name (by walk_at "at")) Iter.list (Caps.cons (by walk_at "at") Caps.nil) (fun need hneed => ⟨[nl need], rfl, Asg.name, ?_⟩) (by decide) (small (by (first | lia | omega))))) (EvF.ev (EvF.list EvL.nil (small (by simp)))) (Co.neNil (by rw [filter_fm]; exact (nls_ok _).1) (by rw [filter_fm]; have := (nls_ok (N2.filter fun need => (need.filter fun p => !pin pl p).isEmpty)).2; (first | lia | omega)))) (show _ = PV.bool (fitB pl N2) by rw [filter_fm]; unfold fitB; rw [List.isEmpty_map])) (small (by simp)) (by walk_at "put") (Ex.nil ⟨_, rfl⟩))⟩))⟩
          · have hnl := hnn1 need hneed
            cases hc : (need.filter fun p => !pin pl p).isEmpty with
            | true => exact ⟨Ands.one (Tr.is (Tr.is (Tr.cmp (EvF.ev (EvF.compM (tn := ["p"]) (cn := ["places"]) (globs := []) (cv := [nl pl]) need ni (fun p => if !pin pl p then some (ni p) else none) ni_inj (Ev.name (by walk_at "at")) Iter.list (Caps.cons (by walk_at "at") Caps.nil) (fun p hp => ⟨[ni p], rfl, Asg.name, by
              cases hpp : pin pl p with
              | false => exact ⟨Ands.one (Tr.is (Tr.cmp (Ev.name (by walk_at "at")) (Ev.is (Ev.name (by walk_at "at")) hzl) Co.notInL) (by rw [in_pin, hpp]; rfl)), Ev.name (by walk_at "at")⟩
              | true => exact Ands.one (Tr.is (Tr.cmp (Ev.name (by walk_at "at")) (Ev.is (Ev.name (by walk_at "at")) hzl) Co.notInL) (by rw [in_pin, hpp]; rfl))⟩) (by decide) (small (by (first | lia | omega))))) (EvF.ev (EvF.list EvL.nil (small (by simp)))) (Co.eqNil (by rw [filter_fm]; exact (nis_ok _).1) (by rw [filter_fm]; have := (nis_ok (need.filter fun p => !pin pl p)).2; (first | lia | omega)))) (by rw [filter_fm, List.isEmpty_map])) hc), Ev.name (by walk_at "at")⟩
            | false => exact Ands.one (Tr.is (Tr.is (Tr.cmp (EvF.ev (EvF.compM (tn := ["p"]) (cn := ["places"]) (globs := []) (cv := [nl pl]) need ni (fun p => if !pin pl p then some (ni p) else none) ni_inj (Ev.name (by walk_at "at")) Iter.list (Caps.cons (by walk_at "at") Caps.nil) (fun p hp => ⟨[ni p], rfl, Asg.name, by
              cases hpp : pin pl p with
              | false => exact ⟨Ands.one (Tr.is (Tr.cmp (Ev.name (by walk_at "at")) (Ev.is (Ev.name (by walk_at "at")) hzl) Co.notInL) (by rw [in_pin, hpp]; rfl)), Ev.name (by walk_at "at")⟩
              | true => exact Ands.one (Tr.is (Tr.cmp (Ev.name (by walk_at "at")) (Ev.is (Ev.name (by walk_at "at")) hzl) Co.notInL) (by rw [in_pin, hpp]; rfl))⟩) (by decide) (small (by (first | lia | omega))))) (EvF.ev (EvF.list EvL.nil (small (by simp)))) (Co.eqNil (by rw [filter_fm]; exact (nis_ok _).1) (by rw [filter_fm]; have := (nis_ok (need.filter fun p => !pin pl p)).2; (first | lia | omega)))) (by rw [filter_fm, List.isEmpty_map])) hc)
          · have hnl := hnn2 need hneed
            cases hc : (need.filter fun p => !pin pl p).isEmpty with
            | true => exact ⟨Ands.one (Tr.is (Tr.is (Tr.cmp (EvF.ev (EvF.compM (tn := ["p"]) (cn := ["places"]) (globs := []) (cv := [nl pl]) need ni (fun p => if !pin pl p then some (ni p) else none) ni_inj (Ev.name (by walk_at "at")) Iter.list (Caps.cons (by walk_at "at") Caps.nil) (fun p hp => ⟨[ni p], rfl, Asg.name, by
              cases hpp : pin pl p with
              | false => exact ⟨Ands.one (Tr.is (Tr.cmp (Ev.name (by walk_at "at")) (Ev.is (Ev.name (by walk_at "at")) hzl) Co.notInL) (by rw [in_pin, hpp]; rfl)), Ev.name (by walk_at "at")⟩
              | true => exact Ands.one (Tr.is (Tr.cmp (Ev.name (by walk_at "at")) (Ev.is (Ev.name (by walk_at "at")) hzl) Co.notInL) (by rw [in_pin, hpp]; rfl))⟩) (by decide) (small (by (first | lia | omega))))) (EvF.ev (EvF.list EvL.nil (small (by simp)))) (Co.eqNil (by rw [filter_fm]; exact (nis_ok _).1) (by rw [filter_fm]; have := (nis_ok (need.filter fun p => !pin pl p)).2; (first | lia | omega)))) (by rw [filter_fm, List.isEmpty_map])) hc), Ev.name (by walk_at "at")⟩
            | false => exact Ands.one (Tr.is (Tr.is (Tr.cmp (EvF.ev (EvF.compM (tn := ["p"]) (cn := ["places"]) (globs := []) (cv := [nl pl]) need ni (fun p => if !pin pl p then some (ni p) else none) ni_inj (Ev.name (by walk_at "at")) Iter.list (Caps.cons (by walk_at "at") Caps.nil) (fun p hp => ⟨[ni p], rfl, Asg.name, by
              cases hpp : pin pl p with
              | false => exact ⟨Ands.one (Tr.is (Tr.cmp (Ev.name (by walk_at "at")) (Ev.is (Ev.name (by walk_at "at")) hzl) Co.notInL) (by rw [in_pin, hpp]; rfl)), Ev.name (by walk_at "at")⟩
              | true => exact Ands.one (Tr.is (Tr.cmp (Ev.name (by walk_at "at")) (Ev.is (Ev.name (by walk_at "at")) hzl) Co.notInL) (by rw [in_pin, hpp]; rfl))⟩) (by decide) (small (by (first | lia | omega))))) (EvF.ev (EvF.list EvL.nil (small (by simp)))) (Co.eqNil (by rw [filter_fm]; exact (nis_ok _).1) (by rw [filter_fm]; have := (nis_ok (need.filter fun p => !pin pl p)).2; (first | lia | omega)))) (by rw [filter_fm, List.isEmpty_map])) hc)
        · rintro v ⟨y, hv⟩
          cases hv
          refine Ex.freeze (x := "fits") (by walk_at "at") (by walk_at "put") ?_
          refine Ex.cons (ExS.append (p := rowV (rowOf short long pl)) (by walk_at "at") (Ev.is (EvF.ev (FcF_add (EvF.ev (EvF.list (EvL.cons (Ev.name (by walk_at "at")) EvL.nil) (small (by simp)))) (Ev.name (by walk_at "at")) (small (by simp)))) ?_) (small (by simp at g2 ⊢; (first | lia | omega))) (by walk_at "put") (Ex.nil ?_))
          · rw [hrow]; rfl
          · have e1 : ∀ f : List Nat → PV, (D ++ pl :: R).map f = ((D ++ [pl]) ++ R).map f := fun f => by simp
            have e2 : (D.map fun pl => rowV (rowOf short long pl)) ++ [rowV (rowOf short long pl)] = (D ++ [pl]).map fun pl => rowV (rowOf short long pl) := by simp
            rw [e1, e2]
            refine ih (D ++ [pl]) ?_ (fun l hl => g3 l (List.mem_cons_of_mem _ hl)) _ _ _ _
            simp at g2 ⊢; (first | lia | omega)
    · rintro v ⟨x1, x2, x3, x4, hv⟩
      cases hv
      refine Ex.freeze (x := "rows") (by walk_at "at") (by walk_at "put") ?_
      exact Ex.cons (ExS.ret (Ev.name (by walk_at "at")) rfl)
  · intro out fl oa5 h5 tk5 hp ok stp5
    subst hp
    obtain ⟨cv, rfl, r⟩ := ok
    dsimp only
    refine k cv h5 tk5 (fun b o hb e => stp5.kp b o (nO2 b o e) (kp4 b o hb (nO2 b o e) (st3 b o e))) (tab4 h5 fun b o nb e => stp5.kp b o nb e) r
end Mine
end
noncomputable section
set_option maxRecDepth 100000
set_option maxHeartbeats 2000000
namespace Mine
open PySem.Calls
theorem kx_set (w : World) : findIn (hd.heap_39 w.params) (.ref 66) "__setattr__" = some (some (.builtin "object.__setattr__")) := by
  refine withK (w := w) ?_
  k_fill
  intro _
  k_is
theorem kx_over (w : World) : plainOver (hd.heap_39 w.params) 66 = true := by
  refine withK (w := w) ?_
  k_fill
  intro _
  k_is
theorem kx_dict (w : World) : hasDictIn (hd.heap_39 w.params) 66 = true := by
  refine withK (w := w) ?_
  k_fill
  intro _
  k_is
theorem kx_ga (w : World) : findIn (hd.heap_39 w.params) (.ref 66) "__getattribute__" = some (some (.builtin "object.__getattribute__")) := by
  refine withK (w := w) ?_
  k_fill
  intro _
  k_is
theorem kx_gk (w : World) : findIn (hd.heap_39 w.params) (.ref 66) "__getattr__" = some none := by
  refine withK (w := w) ?_
  k_fill
  intro _
  k_is
theorem kx_lineno (w : World) : findIn (hd.heap_39 w.params) (.ref 66) "lineno" = some none := by
  refine withK (w := w) ?_
  k_fill
  intro _
  k_is
theorem kx_instream (w : World) : findIn (hd.heap_39 w.params) (.ref 66) "instream" = some none := by
  refine withK (w := w) ?_
  k_fill
  intro _
  k_is
theorem kx_whitespace (w : World) : findIn (hd.heap_39 w.params) (.ref 66) "whitespace" = some none := by
  refine withK (w := w) ?_
  k_fill
  intro _
  k_is
theorem kx_pushback (w : World) : findIn (hd.heap_39 w.params) (.ref 66) "pushback" = some none := by
  refine withK (w := w) ?_
  k_fill
  intro _
  k_is
theorem kx_read (w : World) : findIn (hd.heap_39 w.params) (.ref 66) "read" = some none := by
  refine withK (w := w) ?_
  k_fill
  intro _
  k_is
theorem kx_get (w : World) : findIn (hd.heap_39 w.params) (.ref 66) "get_token" = some (some (.ref 56)) ∧ typeIn (hd.heap_39 w.params) (.ref 56) = some (.type "function") := by
  refine withK (w := w) ?_
  k_fill
  intro _
  exact ⟨by k_is, by k_is⟩
theorem kx_push (w : World) : findIn (hd.heap_39 w.params) (.ref 66) "push_token" = some (some (.ref 63)) ∧ typeIn (hd.heap_39 w.params) (.ref 63) = some (.type "function") := by
  refine withK (w := w) ?_
  k_fill
  intro _
  exact ⟨by k_is, by k_is⟩
theorem kx_char (w : World) : findIn (hd.heap_39 w.params) (.ref 66) "_read_char" = some (some (.ref 49)) ∧ typeIn (hd.heap_39 w.params) (.ref 49) = some (.type "function") ∧ specialIn (hd.heap_39 w.params) (.ref 49) "__get__" = some (some (.builtin "function.__get__")) ∧ takesIn (hd.heap_39 w.params) (.ref 49) = some false := by
  refine withK (w := w) ?_
  k_fill
  intro _
  exact ⟨by k_is, by k_is, by k_is, by k_is⟩
theorem kx_init (w : World) : findIn (hd.heap_39 w.params) (.ref 66) "__init__" = some (some (.ref 42)) ∧ typeIn (hd.heap_39 w.params) (.ref 42) = some (.type "function") ∧ makesIn (hd.heap_39 w.params) 66 = true := by
  refine withK (w := w) ?_
  k_fill
  intro _
  exact ⟨by k_is, by k_is, by k_is⟩
/-- an object of the lexer's class -/
structure ObjD (h : Heap) (x dx : Addr) (m : Str → Option Value) : Prop where
  at_ : h.get? x = some (instObj 66 dx)
  ns : h.Ns1 dx m
theorem ns_look {h : Heap} {a : Addr} {m : Str → Option Value} (hn : h.Ns1 a m) : ∃ o, h.get? a = some o ∧ ∀ name, lookIn name o = some (m name) := by
  obtain ⟨o, es, ep, e, hd, hk, _, hf⟩ := hn
  refine ⟨o, e, fun name => ?_⟩
  have hr : es.toList.any (·.refKey) = false := by
    rw [List.any_eq_false]
    intro e he
    obtain ⟨n, t, h⟩ := hk e (Array.mem_toList_iff.mp he)
    simp [DictEntry.refKey, h]
  have := hf name
  simp only [nsFind, findBy] at this
  unfold lookIn
  rw [hd]
  dsimp only
  rw [← this, ← Array.find?_toList]
  cases hfd : es.toList.find? (fun x => x.key.isStr name) with
  | some en => rfl
  | none => rw [hr]; rfl
theorem ObjD.inst {h : Heap} {x dx : Addr} {m : Str → Option Value} (I : ObjD h x dx m) : ∃ od, InstAt h x (instObj 66 dx) 66 (some od) ∧ h.get? dx = some od ∧ ∀ name, lookIn name od = some (m name) := by
  obtain ⟨o, e, hl⟩ := ns_look I.ns
  exact ⟨o, ⟨I.at_, rfl, rfl, e⟩, e, hl⟩
section
variable {w : World} {A : Around} {s : Shared} {E : Value → Shared → Prop} {x dx : Addr} {m : Str → Option Value} {name : Str}
theorem Base.X {w : World} {h : Heap} (b : Base w h) : (hd.heap_39 w.params).In h := let ⟨_, _, _, X, _⟩ := b; X
theorem get_attr {Q : Value → Shared → Prop} {v : Value} {expr : Bool} (b : Base w s.heap) (I : ObjD s.heap x dx m) (hf : findIn (hd.heap_39 w.params) (.ref 66) name = some none) (hm : m name = some v) (hv : handedIn v = true) (h : Q v { s with toks := s.toks + 1 }) :
    wpAny (MW w) A (getAttr (.ref x) name expr) Q E s := by
  obtain ⟨od, J, _, hl⟩ := I.inst
  exact get_value b.X J (kx_ga w) (findObj_own (kx_dict w) hf rfl (by rw [hl, hm])) hv h
theorem set_attr {Q : Unit → Shared → Prop} {v : Value} {ns : List Str} (b : Base w s.heap) (I : ObjD s.heap x dx m) (hf : findIn (hd.heap_39 w.params) (.ref 66) name = some none) (hw : Within (fun y => if y = name then some v else m y) ns) (hz : ns.length ≤ 100)
    (h : ∀ h' tk, h'.Ns1 dx (fun y => if y = name then some v else m y) → Heap.SameBut dx s.heap h' → Q () { s with heap := h', toks := tk }) : wpAny (MW w) A (setAttr (.ref x) name v) Q E s := by
  obtain ⟨od, J, hod, hl⟩ := I.inst
  refine set_plain b.X J (kx_set w) ?_
  refine osa_open (s := { s with toks := s.toks + 1 }) b.X J (kx_over w) (r := none) (by unfold takerIn; rw [hf]; rfl) fun bb => ?_
  obtain ⟨cd, hc, hd'⟩ := any_some (kx_dict w)
  have b' : Base w ({ s with toks := s.toks + 1 } : Shared).heap := b
  have I' : ObjD ({ s with toks := s.toks + 1 } : Shared).heap x dx m := I
  generalize hs1 : ({ s with toks := s.toks + 1 } : Shared) = s1 at *
  dsimp only
  refine wpAny_bind (wpAny_pure (wpAny_bind (wpAny_bind (wpAny_loadPart I'.at_ (wpAny_bind ((looks_clsIn b'.X hc).here ?_))))))
  rw [hd']
  refine wpAny_pure (a := some dx) (wpAny_bind (wpAny_pure (wpAny_bind ?_)))
  refine wpAny_nsSet1 I'.ns fun h' hn' hs' => ?_
  obtain ⟨o, es, ep, e1, e2, e3⟩ := hn'.count hw
  refine wpAny_bind (wpAny_lookBehind e1 (by rw [e2]; exact pastItsLine_dict (by rw [sizeLine_eq]; (first | lia | omega))) ?_)
  subst hs1
  exact wpAny_pure (h h' _ hn' hs')
theorem get_meth {Q : Value × List Value → Shared → Prop} {f : Addr} {pl : Sem Bool} (b : Base w s.heap) (I : ObjD s.heap x dx m) (hf : findIn (hd.heap_39 w.params) (.ref 66) name = some (some (.ref f)) ∧ typeIn (hd.heap_39 w.params) (.ref f) = some (.type "function")) (hm : m name = none) (h : Q (.ref f, [.ref x]) s) :
    wpAny (MW w) A (getMethod (.ref x) name pl) Q E s := by
  obtain ⟨od, J, _, hl⟩ := I.inst
  exact method_fn b.X J (kx_ga w) (kx_gk w) hf.1 hf.2 (by show (lookIn name od).map _ = _; rw [hl, hm]; rfl) h
theorem get_meth_own {Q : Value × List Value → Shared → Prop} {v : Value} {pl : Sem Bool} (b : Base w s.heap) (I : ObjD s.heap x dx m) (hf : findIn (hd.heap_39 w.params) (.ref 66) name = some none) (hm : m name = some v) (hv : handedIn v = true) (h : Q (v, []) { s with toks := s.toks + 1 }) :
    wpAny (MW w) A (getMethod (.ref x) name pl) Q E s := by
  obtain ⟨od, J, _, hl⟩ := I.inst
  exact method_usual b.X J (kx_ga w) (kx_gk w) hf rfl (get_attr b I hf hm hv h)
/-- a bound method -/
theorem get_bound {Q : Value → Shared → Prop} {f : Addr} {expr : Bool} (b : Base w s.heap) (I : ObjD s.heap x dx m)
    (hf : findIn (hd.heap_39 w.params) (.ref 66) name = some (some (.ref f)) ∧ typeIn (hd.heap_39 w.params) (.ref f) = some (.type "function") ∧ specialIn (hd.heap_39 w.params) (.ref f) "__get__" = some (some (.builtin "function.__get__")) ∧ takesIn (hd.heap_39 w.params) (.ref f) = some false) (hc : copiedNames.contains name = false) (hm : m name = none)
    (h : Q (.ref s.heap.objs.size) { s with heap := s.heap.push (methodObj (.ref f) (.ref x)), toks := s.toks + 1 }) : wpAny (MW w) A (getAttr (.ref x) name expr) Q E s := by
  obtain ⟨od, J, _, hl⟩ := I.inst
  exact get_bind b.X J (kx_ga w) (findObj_fn (kx_dict w) hf.1 hf.2.2.1 hf.2.2.2 hc (by rw [hl, hm])) (kx_gk w)
    (wpAny_call (fn_get (s := { s with toks := s.toks + 1 }) b.X hf.2.1 (handed_on rfl h)))
end
end Mine
end
noncomputable section
set_option maxRecDepth 100000
set_option maxHeartbeats 2000000
namespace Mine
open PySem.Calls
theorem ci_next : Slot "callable_iterator" "__next__" "callable_iterator.__next__" :=
  .of (owner := "callable_iterator") (n := "__next__") (by rw [typeLookup_type, builtinLookup_eq_fast]; kernel_rfl) (by decide +kernel) (by decide +kernel) (by decide +kernel)
    (by first | exact .inl (by decide +kernel) | exact .inr (by decide +kernel)) (by rw [isSubtype_type]; kernel_rfl)
theorem ci_entry : entryFor table "callable_iterator.__next__" = some Builtin.«callable_iterator.__next__» := entryFor_of_tree (by kernel_rfl)
theorem ci_args (a : Value) : argsOk "callable_iterator.__next__" ⟨[a], []⟩ := by unfold argsOk; kernel_rfl
theorem ci_iter : Slot "callable_iterator" "__iter__" "callable_iterator.__iter__" :=
  .of (owner := "callable_iterator") (n := "__iter__") (by rw [typeLookup_type, builtinLookup_eq_fast]; kernel_rfl) (by decide +kernel) (by decide +kernel) (by decide +kernel)
    (by first | exact .inl (by decide +kernel) | exact .inr (by decide +kernel)) (by rw [isSubtype_type]; kernel_rfl)
theorem ci_iter_entry : entryFor table "callable_iterator.__iter__" = some Builtin.«dict_keyiterator.__iter__» :=
  entryFor_alias (id' := "dict_keyiterator.__iter__") (by kernel_rfl) rfl (by decide +kernel) (by kernel_rfl)
theorem ci_iter_args (a : Value) : argsOk "callable_iterator.__iter__" ⟨[a], []⟩ := by unfold argsOk; kernel_rfl
noncomputable abbrev ciObj (f : Value) (t : Tok) : Obj := { cls := .type "callable_iterator", data := .fields #[f, .str (S []) t, .bool false] }
section
variable {w : World} {A : Around} {s : Shared} {E : Value → Shared → Prop}
theorem wp_borrowed {f : Value} {pos : List Value} {Q : Value → Shared → Prop} (h : wpAny (MW w) A (call f pos) Q E s) : wpAny (MW w) A (callBorrowed f pos) Q E s := fun Γ p hΓ => by
  have h1 := h Γ p hΓ
  unfold call at h1
  rw [Sem.wp_runValue] at h1
  unfold callBorrowed
  rw [Sem.wp]
  refine wpCode_mono (fun r s' h' => ?_) h1
  rcases r with e | (v | _ | _ | _)
  · exact h'
  · exact h'.elim
  · exact h'.elim
  · exact h'.elim
  · exact h'
theorem borrows_meth {mq fn : Addr} {self : Value} {o : Obj} {fd : FuncData} {Q : Bool → Shared → Prop} (hm : s.heap.get? mq = some (methodObj (.ref fn) self)) (hf : s.heap.get? fn = some o) (hd : o.data = .func fd) (h : Q true s) : wpAny (MW w) A (borrowsExactly (.ref mq)) Q E s := by
  unfold borrowsExactly
  refine wpAny_bind (wpAny_load hm ?_)
  dsimp only
  rw [if_pos (by decide)]
  refine wpAny_bind (wpAny_load hf ?_)
  rw [hd]
  exact wpAny_pure h
theorem iter_ci {it : Addr} {f : Value} {t : Tok} {Q : Value → Shared → Prop} (hit : s.heap.get? it = some (ciObj f t)) (h : Q (.ref it) s) : wpAny (MW w) A (pyIter (.ref it)) Q E s := by
  refine wpAny_pyIter_slot ⟨_, hit, rfl⟩ ci_iter (wpAny_call_entry ci_iter ⟨_, hit, rfl⟩ ci_iter_entry ?_ (ci_iter_args _))
  show wpAny _ _ (ret (.ref it)) _ _ s
  exact wpAny_pure ⟨_, rfl, "callable_iterator", _, ⟨_, hit, rfl⟩, ci_next.lookup, h⟩
theorem next_ci {it mq fn : Addr} {self : Value} {t : Tok} {Q : Option Value → Shared → Prop} (hh : A.handled = none) (hit : s.heap.get? it = some (ciObj (.ref mq) t)) (hm : s.heap.get? mq = some (methodObj (.ref fn) self)) (hf : ∃ o fd, s.heap.get? fn = some o ∧ o.data = .func fd)
    (h : codeAny (MW w) A.in1 (.call (.ref fn) ⟨[self], []⟩) (fun r s₁ => ∃ l u, r = .ok (.ret (.str (S l) u)) ∧ s₁.heap.get? it = some (ciObj (.ref mq) t) ∧ s₁.heap.get? mq = some (methodObj (.ref fn) self) ∧ (∃ o fd, s₁.heap.get? fn = some o ∧ o.data = .func fd) ∧
      (l ≠ [] → Q (some (.str (S l) u)) s₁) ∧ (l = [] → ∀ h' o, Heap.ExtBut it s₁.heap h' → h'.get? it = some o → Q none { s₁ with heap := h' })) s) : wpAny (MW w) A (pyNext (.ref it)) Q E s := by
  obtain ⟨o, fd, hfo, hfd⟩ := hf
  unfold pyNext
  refine wpAny_bind (wpAny_attempt (wpAny_callSpecial?_slot (name := Str.ofString "__next__") ⟨_, hit, rfl⟩ ci_next
    (wpAny_call_entry ci_next ⟨_, hit, rfl⟩ ci_entry ?_ (ci_args _))))
  unfold Builtin.«callable_iterator.__next__»
  show wpAny _ _ (field (.ref it) 2 >>= _) _ _ s
  refine wpAny_bind (wpAny_field hit rfl (x := .bool false) rfl ?_)
  rw [if_neg (by decide)]
  refine wpAny_bind (wpAny_field hit rfl (x := .ref mq) rfl ?_)
  refine wpAny_bind (wpAny_attempt ?_)
  unfold callOutOfASlot
  refine wpAny_bind (borrows_meth hm hfo hfd ?_)
  simp only [if_true]
  refine wp_borrowed (wpAny_call (method_call hm (codeAny_mono h fun r s₁ hr => ?_)))
  obtain ⟨l, u, rfl, hit1, hm1, ⟨o1, fd1, hfo1, hfd1⟩, hne, hnil⟩ := hr
  dsimp only
  refine wpAny_bind (wpAny_field hit1 rfl (x := .bool false) rfl ?_)
  rw [if_neg (by decide)]
  refine wpAny_bind (wpAny_field hit1 rfl (x := .str (S []) t) rfl ?_)
  refine wpAny_bind (wpAny_holding (wpAny_eqBool_str ?_))
  by_cases hl : l = []
  · subst hl
    rw [if_neg (by simp)]
    refine wpAny_bind (wpAny_rule ?_)
    show wpAny _ _ (((do slotLetsGo "callable_iterator.__next__" (← field (.ref it) 0) _; setField (.ref it) 0 .none; setField (.ref it) 1 .none; setField (.ref it) 2 (.bool true)) : Sem Unit) >>= _) _ _ _
    refine wpAny_bind (wpAny_bind (wpAny_field hit1 rfl (x := .ref mq) rfl (wpAny_bind ?_)))
    unfold slotLetsGo
    dsimp only
    refine wpAny_bind (borrows_meth hm1 hfo1 hfd1 ?_)
    simp only [if_true]
    refine wpAny_pure ?_
    have g0 := Heap.SameBut.update s₁.heap it (Obj.mapFields (·.setIfInBounds 0 Value.none))
    refine wpAny_bind (wpAny_setField hit1 rfl (by simp) ?_)
    generalize hH1 : s₁.heap.update it (Obj.mapFields (·.setIfInBounds 0 Value.none)) = H1 at g0 ⊢
    have e1 : H1.get? it = some { cls := .type "callable_iterator", data := .fields #[.none, .str (S []) t, .bool false] } := hH1 ▸ Heap.get?_update_self _ hit1 rfl
    have g1 := Heap.SameBut.update H1 it (Obj.mapFields (·.setIfInBounds 1 Value.none))
    refine wpAny_bind (wpAny_setField e1 rfl (by simp) ?_)
    dsimp only
    generalize hH2 : H1.update it (Obj.mapFields (·.setIfInBounds 1 Value.none)) = H2 at g1 ⊢
    have e2 : H2.get? it = some { cls := .type "callable_iterator", data := .fields #[.none, .none, .bool false] } := hH2 ▸ Heap.get?_update_self _ e1 rfl
    have g2 := Heap.SameBut.update H2 it (Obj.mapFields (·.setIfInBounds 2 (Value.bool true)))
    refine wpAny_setField e2 rfl (by simp) ?_
    dsimp only
    generalize hH3 : H2.update it (Obj.mapFields (·.setIfInBounds 2 (Value.bool true))) = H3 at g2 ⊢
    have e3 : H3.get? it = some { cls := .type "callable_iterator", data := .fields #[.none, .none, .bool true] } := hH3 ▸ Heap.get?_update_self _ e2 rfl
    have kp : ∀ b o, b ≠ it → s₁.heap.get? b = some o → H3.get? b = some o := fun b o hb e => (g2.2 b hb).trans ((g1.2 b hb).trans ((g0.2 b hb).trans e))
    show wpAny _ _ (newExc (.type "StopIteration") [] >>= _) _ _ _
    refine wpAny_bind ?_
    simp only [newExc, newTuple]
    refine wpAny_bind (wpAny_newObj_type ?_ (by size_fits))
    refine wpAny_bind (m := firstArgMember _ _) (wpAny_of_eq (a := Value.none) (by first | rfl | (simp only [firstArgMember]; rfl)) ?_)
    refine wpAny_newObj_type ?_ (by size_fits)
    simp only [raiseNew]
    refine wpAny_bind (wpAny_handled ?_)
    rw [show A.in1.handled = none from hh]
    refine wpAny_bind (wpAny_pure (wpAny_throw ?_))
    refine wpAny_bind (wpAny_isInstance (T := "StopIteration") (b := true) ⟨_, Heap.get?_push_size _ rfl, rfl⟩ isSubtype_stop ?_)
    exact wpAny_pure (hnil rfl _ _ (fun b o hb e => Heap.get?_push_of_some _ (Heap.get?_push_of_some _ (kp b o hb e))) (Heap.get?_push_of_some _ (Heap.get?_push_of_some _ e3)))
  · rw [if_pos (by simp; exact fun e => hl (by have := S_inj.mp e; exact this.symm))]
    exact wpAny_pure ⟨_, rfl, wpAny_pure (hne hl)⟩
end
end Mine
end
noncomputable section
set_option maxRecDepth 100000
set_option maxHeartbeats 2000000
namespace Mine
open PySem.Calls
section
variable {w : World} {A : Around} {s : Shared} {E : Value → Shared → Prop}
theorem pop_first {D : Addr} {v : Value} {vs : List Value} {u : Tok} {Q : Value → Shared → Prop} (hl : s.heap.PlainList D (List.toArray (v :: vs))) (hz : vs.length < 1000)
    (h : ∀ h', Heap.SameBut D s.heap h' → h'.PlainList D (List.toArray vs) → Q v { s with heap := h' }) : wpAny (MW w) A (call (.builtin "list.pop") [.ref D, .int 0 u]) Q E s := by
  obtain ⟨n, ho⟩ := hl
  have up := IsL.update (n := n) ho (·.eraseIdxIfInBounds 0)
  have hpl : (s.heap.update D (Obj.mapSeq fun xs => xs.eraseIdxIfInBounds 0)).PlainList D (List.toArray vs) := ⟨_, by simpa using up⟩
  refine call_meets PySem.F.slot_list_pop ⟨_, ho, rfl⟩ PySem.F.entry_list_pop (PySem.F.args_list_pop_2 _ _) (PySem.MeetsSeq.list_pop_at D _ n 0 u 0 v rfl (by simp [seqIndex?]) (by simp) (by rw [List.size_toArray, sizeLine_eq]; simp; (first | lia | omega))) ⟨ho, h _ (Heap.SameBut.update ..) hpl⟩
theorem del_first (vs : List Value) : (vs.zipIdx.filterMap fun (x, k) => if (decide ((0 : Int) ≤ (k : Nat)) && decide (((k : Nat) : Int) < max 0 (min 1 (vs.length : Int))) && (((k : Nat) : Int) - 0) % 1 == 0) = true then none else some x) = vs.drop 1 := by
  cases vs with
  | nil => rfl
  | cons v vs =>
    have h1 : max (0 : Int) (min 1 ((v :: vs).length : Int)) = 1 := by simp; (first | lia | omega)
    rw [h1, List.zipIdx_cons]
    simp only [List.filterMap_cons, List.drop_succ_cons, List.drop_zero]
    have h2 : ∀ (l : List Value) (n : Nat), 0 < n → (l.zipIdx n).filterMap (fun (x, k) => if (decide ((0 : Int) ≤ (k : Nat)) && decide (((k : Nat) : Int) < 1) && (((k : Nat) : Int) - 0) % 1 == 0) = true then none else some x) = l := by
      intro l
      induction l with
      | nil => intro n _; rfl
      | cons x l ih =>
        intro n hn
        rw [List.zipIdx_cons, List.filterMap_cons]
        have : decide (((n : Nat) : Int) < 1) = false := by simp; (first | lia | omega)
        simp only [this, Bool.and_false, Bool.false_and, Bool.false_eq_true, if_false]
        rw [ih (n + 1) (by (first | lia | omega))]
    have h3 := h2 vs 1 (by (first | lia | omega))
    simp only [Nat.zero_add]
    rw [h3]
    simp
theorem del_slice {D sl : Addr} {vs : List Value} {u : Tok} {Q : Unit → Shared → Prop} (hl : s.heap.PlainList D (List.toArray vs)) (hs : s.heap.get? sl = some { cls := .type "slice", data := .fields #[.none, .int 1 u, .none] }) (hz : vs.length < 1000)
    (h : ∀ h', Heap.SameBut D s.heap h' → h'.PlainList D (List.toArray (vs.drop 1)) → Q () { s with heap := h' }) : wpAny (MW w) A (delItem (.ref D) (.ref sl)) Q E s := by
  obtain ⟨n, ho⟩ := hl
  refine wpAny_delItem_slot ⟨_, ho, rfl⟩ (by decide) F.slot_list_delitem (wpAny_call_entry F.slot_list_delitem ⟨_, ho, rfl⟩ F.entry_list_delitem ?_ (F.args_list_delitem_2 _ _))
  unfold Builtin.«list.__delitem__»
  refine wpAny_bind (wpAny_of_eq (a := (.ref D, [.ref sl])) (by first | rfl | kernel_rfl) ?_)
  dsimp only
  refine wpAny_bind (m := Builtin.List.listSubscript? (.ref sl)) ?_
  unfold Builtin.List.listSubscript?
  refine wpAny_bind (wpAny_specialOf (T := "slice") ⟨_, hs, rfl⟩ slice_no_index ?_)
  simp only [Option.isNone_none, if_true]
  refine wpAny_pure ?_
  dsimp only
  refine wpAny_bind (wpAny_typeOf (T := "slice") ⟨_, hs, rfl⟩ ?_)
  rw [if_neg (by decide)]
  rw [listSliceParts_eq]
  refine wpAny_bind (wpAny_bind (wpAny_field hs rfl (x := .none) rfl (wpAny_bind (wpAny_listPart .none ?_))))
  rw [if_neg (by decide)]
  refine wpAny_bind (wpAny_field hs rfl (x := .none) rfl (wpAny_bind (wpAny_listPart .none ?_)))
  refine wpAny_bind (wpAny_field hs rfl (x := .int 1 u) rfl (wpAny_bind (wpAny_listPart (.int 1 u) (wpAny_pure ?_))))
  dsimp only
  refine wpAny_bind (listItems_at ho rfl ?_)
  refine wpAny_bind (wpAny_of_eq (sliceIndices_raw none (some 1) none (List.toArray vs).size (by intro h; cases h)) ?_)
  dsimp only
  refine wpAny_bind (wpAny_rule ?_)
  have hsz : (List.toArray vs).size ≤ sizeLine := by rw [List.size_toArray, sizeLine_eq]; (first | lia | omega)
  have upd : ∀ f : Array Value → Array Value, f (List.toArray vs) = List.toArray (vs.drop 1) → (s.heap.update D (Obj.mapSeq f)).PlainList D (List.toArray (vs.drop 1)) := fun f e => by
    have := get?_update_seq (n := n) ho f
    rw [e] at this
    exact ⟨_, this⟩
  refine wpAny_bind (listUpdate_at ho rfl ?_ hsz ?_)
  · refine wpAny_bind (wpAny_letGo (wpAny_pure ⟨_, rfl, h _ (Heap.SameBut.update ..) (upd _ ?_)⟩))
    exact congrArg List.toArray (del_first vs)
  · exact Nat.le_trans (Nat.le_of_eq (congrArg Array.size (congrArg List.toArray (del_first vs)))) (by rw [List.size_toArray, List.length_drop, sizeLine_eq]; (first | lia | omega))
end
end Mine
end
noncomputable section
set_option maxRecDepth 100000
set_option maxHeartbeats 2000000
namespace Mine
open PySem.Calls
section
variable {w : World} {A : Around} {s : Shared} {E : Value → Shared → Prop} {env : Env}
theorem iter_kind : builtinKind "iter" = none := by decide +kernel
theorem iter_plain : plainId "iter" = true := by decide +kernel
theorem iter_entry : entryFor table "iter" = some Builtin.«iter» := entryFor_of_tree (by kernel_rfl)
theorem iter_args (a b : Value) : argsOk "iter" ⟨[a, b], []⟩ := by unfold argsOk; kernel_rfl
theorem meth_callable : ∃ r, typeLookup (.type "method") "__call__" = pure (some r) := ⟨.builtin "method.__call__", by rw [typeLookup_type, builtinLookup_eq_fast]; kernel_rfl⟩
theorem call_iter2 {mq : Addr} {f self : Value} {t : Tok} {Q : Value → Shared → Prop} (hm : s.heap.get? mq = some (methodObj f self)) (h : Q (.ref s.heap.objs.size) { s with heap := s.heap.push (ciObj (.ref mq) t) }) :
    wpAny (MW w) A (call (.builtin "iter") [.ref mq, .str (S []) t]) Q E s := by
  refine Calls.call_function_entry iter_kind iter_plain iter_entry (iter_args _ _) ?_
  unfold Builtin.«iter»
  refine wpAny_bind (wpAny_of_eq (a := [.ref mq, .str (S []) t]) (by first | rfl | kernel_rfl) ?_)
  dsimp only
  obtain ⟨r, hr⟩ := meth_callable
  refine wpAny_bind (wpAny_specialOf (T := "method") ⟨_, hm, rfl⟩ hr ?_)
  simp only [Option.isNone_some, Bool.false_eq_true, if_false]
  refine wpAny_bind (wpAny_rule ?_)
  exact wpAny_bind (wpAny_newObj_type (wpAny_pure ⟨_, rfl, h⟩) (by size_fits))
/-- o.name(args) -/
theorem Call_meth {o : Expr} {name : Str} {apos pos : Pos} {args : List Expr} {Q : Value → Shared → Prop}
    (hbase : attributeBase o name env (eval o env) = eval o env)
    (hfew : ((backTo pos (starEach args env)).all (fun x => !x.1) && (backToKw pos (keywordEach [] env)).all (fun x => x.1.isSome)
      && decide (args.length + ([] : List Keyword).length + (if ([] : List Keyword).isEmpty then 0 else 1) < 30)) = true)
    (hline : (apos.endLine == pos.line) = true)
    (h : wpAny (MW w) A (eval o env) (fun ov s₁ => ∀ pl, wpAny (MW w) A (getMethod ov name pl) (fun r s₂ => wpAny (MW w) A (callWith pos r.1 r.2 (backTo pos (starEach args env)) []) Q E s₂) E s₁) E s) :
    wpAny (MW w) A (eval (.Call (.Attribute o name apos) args [] pos) env) Q E s := by
  rw [arm_eval_Call, hbase]
  refine wpAny_bind (wpAny_mono h (fun ov s₁ h₁ => ?_) fun _ _ e => e)
  refine wpAny_bind (wpAny_standAt ?_)
  have hform : methodCallForm (args.length + ([] : List Keyword).length) (backTo pos (starEach args env)) (backToKw pos (keywordEach [] env)) = true := hfew
  have hpos : methodCallPos true o env apos pos = pure pos := by unfold methodCallPos; simp [hline]
  unfold methodCall
  rw [hform]
  refine wpAny_bind (wpAny_holding (wpAny_mono (h₁ _) (fun r s₂ h₂ => ?_) fun _ _ e => e))
  exact wpAny_bind (wpAny_of_eq hpos h₂)
/-- a function that lies in the heap -/
noncomputable def KeptH (w : World) (f : Addr) (h : Heap) : Prop := ∃ o fd, h.get? f = some o ∧ o.data = .func fd
theorem keeps_H {f : Addr} (h : Heap) (X : KeptH w f h) : ∃ k, (k = Keeper.frame ∨ k = Keeper.machine ∨ k = Keeper.boundFrame) ∧ Looks (MW w) h (keeperOf (.ref f)) k := by
  obtain ⟨⟨c, d, dt, sl⟩, fd, ho, hd⟩ := X
  dsimp only at hd
  subst hd
  exact ⟨.frame, .inl rfl, (Looks.ld (part := none) ho).andThen .now⟩
end
/-- texts -/
inductive Txts : List (List Nat) → List Value → Prop
  | nil : Txts [] []
  | cons {l ls t vs} : Txts ls vs → Txts (l :: ls) (.str (S l) t :: vs)
theorem Txts.reps {V : Addr → Prop} {h : Heap} {ls : List (List Nat)} {vs : List Value} (x : Txts ls vs) : Reps V h (ls.map fun l => PV.str (S l)) vs := by
  induction x with
  | nil => exact Reps.nil
  | cons _ ih => exact Reps.cons mk_str ih
theorem Txts.of {V : Addr → Prop} {h : Heap} : ∀ {ls : List (List Nat)} {vs : List Value}, Reps V h (ls.map fun l => PV.str (S l)) vs → Txts ls vs
  | [], vs, r => by rw [reps_nil r]; exact .nil
  | l :: ls, vs, r => by
    obtain ⟨v, us, rfl, r1, r2⟩ := reps_cons r
    obtain ⟨t, rfl⟩ := rep_str r1
    exact .cons (Txts.of r2)
theorem Txts.length {ls : List (List Nat)} {vs : List Value} (x : Txts ls vs) : vs.length = ls.length := by
  induction x with
  | nil => rfl
  | cons _ ih => simp [ih]
theorem Txts.drop1 {ls : List (List Nat)} {vs : List Value} (x : Txts ls vs) : Txts (ls.drop 1) (vs.drop 1) := by
  cases x with
  | nil => exact .nil
  | cons x => exact x
theorem Txts.snoc {ls : List (List Nat)} {vs : List Value} {l : List Nat} {t : Tok} (x : Txts ls vs) : Txts (ls ++ [l]) (vs ++ [.str (S l) t]) := by
  induction x with
  | nil => exact .cons .nil
  | cons _ ih => exact .cons ih
/-- the lexer's addresses: the object, its dict, its pushback, the stream, its dict, hand, its code, the cell, the signs -/
structure Lx where
  x : Addr
  dx : Addr
  p : Addr
  i1 : Addr
  d1 : Addr
  H : Addr
  c : Addr
  K : Addr
  g : Addr
noncomputable def Lx.Mut (L : Lx) (b : Addr) : Prop := b = L.dx ∨ b = L.p ∨ b = L.g
structure Lx.Ok (L : Lx) : Prop where
  sep : L.dx ≠ L.p ∧ L.dx ≠ L.g ∧ L.p ≠ L.g
  nx : ¬ L.Mut L.x
  ni : ¬ L.Mut L.i1
  nd : ¬ L.Mut L.d1
  nH : ¬ L.Mut L.H
  nc : ¬ L.Mut L.c
  nK : ¬ L.Mut L.K
noncomputable def wsS : List Nat := [10, 9, 13, 32]
noncomputable def attrs : List Str := ["lineno", "instream", "whitespace", "pushback", "read"]
noncomputable def one (c : Nat) : List Nat := [c]
/-- what hand does, whatever lies around -/
noncomputable def HandC (w : World) (L : Lx) (oH oc oK : Obj) : Prop :=
  ∀ (A : Around) (s : Shared) (R : Result → Shared → Prop) (rest : List Nat) (vs : List Value) (u : Tok), s.heap.get? L.H = some oH → s.heap.get? L.c = some oc → s.heap.get? L.K = some oK → Base w s.heap → Room A 2 →
    s.heap.PlainList L.g (List.toArray vs) → Txts (rest.map one) vs → rest.length < 1000 → (∀ c ∈ rest, c < 128) →
    (∀ h' tk t vs', (∀ b o, b ≠ L.g → s.heap.get? b = some o → h'.get? b = some o) → h'.PlainList L.g (List.toArray vs') → Txts ((rest.drop 1).map one) vs' → R (.ok (.ret (.str (S (rest.take 1)) t))) { s with heap := h', toks := tk }) →
    codeAny (MW w) A (.call (.ref L.H) ⟨[.int 1 u], []⟩) R s
structure LexS (w : World) (h : Heap) (L : Lx) : Prop where
  inst : h.get? L.x = some (instObj 66 L.dx)
  obj1 : ∃ m1, ObjD h L.i1 L.d1 m1 ∧ m1 "read" = some (.ref L.H)
  fn : ∃ oH oc oK fd, h.get? L.H = some oH ∧ h.get? L.c = some oc ∧ h.get? L.K = some oK ∧ oH.data = .func fd ∧ HandC w L oH oc oK
structure LexD (h : Heap) (L : Lx) (rest : List Nat) (ln : Int) (pb : List (List Nat)) : Prop where
  dict : ∃ m t1 t2, h.Ns1 L.dx m ∧ m "lineno" = some (.int ln t1) ∧ m "instream" = some (.ref L.i1) ∧ m "whitespace" = some (.str (S wsS) t2) ∧ m "pushback" = some (.ref L.p) ∧ Within m attrs
  pbl : ∃ vs, h.PlainList L.p (List.toArray vs) ∧ Txts pb vs
  sgn : ∃ vs, h.PlainList L.g (List.toArray vs) ∧ Txts (rest.map one) vs
theorem ObjD.keep {h h' : Heap} {x dx : Addr} {m : Str → Option Value} (I : ObjD h x dx m) (hx : ∀ o, h.get? x = some o → h'.get? x = some o) (hd : ∀ o, h.get? dx = some o → h'.get? dx = some o) : ObjD h' x dx m := ⟨hx _ I.at_, I.ns.at hd⟩
theorem LexS.keep {w : World} {h h' : Heap} {L : Lx} (x : LexS w h L) (ok : L.Ok) (k : ∀ b o, ¬ L.Mut b → h.get? b = some o → h'.get? b = some o) : LexS w h' L where
  inst := k _ _ ok.nx x.inst
  obj1 := let ⟨m1, I, e⟩ := x.obj1; ⟨m1, I.keep (fun o e => k _ o ok.ni e) (fun o e => k _ o ok.nd e), e⟩
  fn := let ⟨oH, oc, oK, fd, a, b, c, d, e⟩ := x.fn; ⟨oH, oc, oK, fd, k _ _ ok.nH a, k _ _ ok.nc b, k _ _ ok.nK c, d, e⟩
theorem LexD.keep {h h' : Heap} {L : Lx} {rest : List Nat} {ln : Int} {pb : List (List Nat)} (x : LexD h L rest ln pb) (k : ∀ b o, L.Mut b → h.get? b = some o → h'.get? b = some o) : LexD h' L rest ln pb where
  dict := let ⟨m, t1, t2, a, r⟩ := x.dict; ⟨m, t1, t2, a.at fun o e => k _ o (.inl rfl) e, r⟩
  pbl := let ⟨vs, a, r⟩ := x.pbl; ⟨vs, a.at fun o e => k _ o (.inr (.inl rfl)) e, r⟩
  sgn := let ⟨vs, a, r⟩ := x.sgn; ⟨vs, a.at fun o e => k _ o (.inr (.inr rfl)) e, r⟩
theorem LexD.alive {h : Heap} {L : Lx} {rest : List Nat} {ln : Int} {pb : List (List Nat)} (x : LexD h L rest ln pb) : Alive L.Mut h := fun b hb => by
  rcases hb with rfl | rfl | rfl
  · obtain ⟨m, _, _, ⟨o, _, _, e, _⟩, _⟩ := x.dict; exact ⟨o, e⟩
  · obtain ⟨vs, ⟨n, e⟩, _⟩ := x.pbl; exact ⟨_, e⟩
  · obtain ⟨vs, ⟨n, e⟩, _⟩ := x.sgn; exact ⟨_, e⟩
/-- the lexer in a heap that grew from hb -/
structure Lex (w : World) (hb h : Heap) (L : Lx) (rest : List Nat) (ln : Int) (pb : List (List Nat)) : Prop where
  ok : L.Ok
  b0 : Base w hb
  b1 : Stays hb h
  b2 : ∀ b, L.Mut b → hb.get? b = none
  S : LexS w h L
  D : LexD h L rest ln pb
  z1 : rest.length < 1000
  z2 : ∀ c ∈ rest, c < 128
  z3 : pb.length < 500
theorem Lex.base {w : World} {hb h : Heap} {L : Lx} {rest : List Nat} {ln : Int} {pb : List (List Nat)} (x : Lex w hb h L rest ln pb) : Base w h := x.b0.stays x.b1
theorem Lex.stays {w : World} {hb h h' : Heap} {L : Lx} {rest : List Nat} {ln : Int} {pb : List (List Nat)} (x : Lex w hb h L rest ln pb) (k : Stays h h') : Lex w hb h' L rest ln pb :=
  ⟨x.ok, x.b0, x.b1.trans k, x.b2, x.S.keep x.ok fun b o _ e => k b o e, x.D.keep fun b o _ e => k b o e, x.z1, x.z2, x.z3⟩
/-- what a lexer call leaves as it is -/
noncomputable def Lx.Kp (L : Lx) (h h' : Heap) : Prop := ∀ b o, ¬ L.Mut b → h.get? b = some o → h'.get? b = some o
theorem Lx.Kp.trans {L : Lx} {a b c : Heap} (x : L.Kp a b) (y : L.Kp b c) : L.Kp a c := fun d o n e => y d o n (x d o n e)
theorem Lex.upd {w : World} {hb h h' : Heap} {L : Lx} {rest rest' : List Nat} {ln ln' : Int} {pb pb' : List (List Nat)} (x : Lex w hb h L rest ln pb) (k : L.Kp h h') (D : LexD h' L rest' ln' pb') (z1 : rest'.length < 1000) (z2 : ∀ c ∈ rest', c < 128) (z3 : pb'.length < 500) : Lex w hb h' L rest' ln' pb' :=
  ⟨x.ok, x.b0, fun b o e => k b o (fun hm => by rw [x.b2 b hm] at e; cases e) (x.b1 b o e), x.b2, x.S.keep x.ok k, D, z1, z2, z3⟩
/-- a frame's state after a lexer call -/
theorem Lex.st {w : World} {Γ : Cx} {env : Env} {V : Addr → Prop} {oa : List (Str × Addr)} {vals : List Sl} {hb h h' : Heap} {L : Lx} {rest : List Nat} {ln : Int} {pb : List (List Nat)} (z : St w Γ env V oa vals h) (hV : ∀ b, L.Mut b → V b) (k : L.Kp h h') (x : Lex w hb h' L rest ln pb)
    (hb2 : ∀ b o, hb.get? b = some o → ¬ Own env oa b) : St w Γ env V oa vals h' :=
  z.vol (hb := hb) (fun b o nb e => k b o (fun hm => nb (hV b hm)) e) (fun b hv => by
    by_cases hm : L.Mut b
    · exact x.D.alive b hm
    · obtain ⟨o, e⟩ := z.ok.al b (.inl hv); exact ⟨o, k b o hm e⟩) x.b0 x.b1 hb2
end Mine
end
noncomputable section
set_option maxRecDepth 100000
set_option maxHeartbeats 2000000
namespace Mine
open PySem.Calls
/-- the lexer's state; things that lie as they are -/
structure LV where
  rest : List Nat
  ln : Int
  pb : List (List Nat)
  fz : List (Addr × Obj)
/-- alike but for what lies as it is -/
noncomputable def LV.same (a b : LV) : Prop := a.rest = b.rest ∧ a.ln = b.ln ∧ a.pb = b.pb
noncomputable def nlOf (l : List Nat) : Int := if l.head? = some 10 then 1 else 0
noncomputable def LV.read (Λ : LV) : LV := ⟨Λ.rest.drop 1, Λ.ln + nlOf Λ.rest, Λ.pb, Λ.fz⟩
noncomputable def Lx.All (L : Lx) (b : Addr) : Prop := L.Mut b ∨ b = L.x ∨ b = L.i1 ∨ b = L.d1 ∨ b = L.H ∨ b = L.c ∨ b = L.K
noncomputable abbrev LexV (w : World) (hb h : Heap) (L : Lx) (Λ : LV) : Prop := Lex w hb h L Λ.rest Λ.ln Λ.pb
/-- a frame -/
structure Fx where
  d : Nat
  Γ : Cx
  env : Env
  V : Addr → Prop
  h0 : Heap
  hb : Heap
  L : Lx
  A : Around
structure LS (w : World) (f : Fx) (oa : List (Str × Addr)) (vals : List Sl) (Λ : LV) (h : Heap) : Prop where
  st : St w f.Γ f.env f.V oa vals h
  lx : LexV w f.hb h f.L Λ
  va : ∀ b, f.L.All b → f.V b
  kp : f.L.Kp f.h0 h
  no : ∀ b o, f.h0.get? b = some o → ¬ Own f.env oa b
  b0 : Stays f.hb f.h0
  fz : ∀ x ∈ Λ.fz, h.get? x.1 = some x.2 ∧ f.V x.1 ∧ ¬ f.L.All x.1 ∧ f.h0.get? x.1 = none
  rm : Room f.A f.d
theorem LexS.keepA {w : World} {h h' : Heap} {L : Lx} (x : LexS w h L) (k : ∀ b o, L.All b → h.get? b = some o → h'.get? b = some o) : LexS w h' L where
  inst := k _ _ (.inr (.inl rfl)) x.inst
  obj1 := let ⟨m1, I, e⟩ := x.obj1; ⟨m1, I.keep (fun o e => k _ o (.inr (.inr (.inl rfl))) e) (fun o e => k _ o (.inr (.inr (.inr (.inl rfl)))) e), e⟩
  fn := let ⟨oH, oc, oK, fd, a, b, c, d, e⟩ := x.fn; ⟨oH, oc, oK, fd, k _ _ (.inr (.inr (.inr (.inr (.inl rfl))))) a, k _ _ (.inr (.inr (.inr (.inr (.inr (.inl rfl)))))) b, k _ _ (.inr (.inr (.inr (.inr (.inr (.inr rfl)))))) c, d, e⟩
theorem Lex.keepA {w : World} {hb h h' : Heap} {L : Lx} {rest : List Nat} {ln : Int} {pb : List (List Nat)} (x : Lex w hb h L rest ln pb) (k : ∀ b o, L.All b → h.get? b = some o → h'.get? b = some o) (s : Stays hb h') : Lex w hb h' L rest ln pb :=
  ⟨x.ok, x.b0, s, x.b2, x.S.keepA k, x.D.keep fun b o hm e => k b o (.inl hm) e, x.z1, x.z2, x.z3⟩
section
variable {w : World} {f : Fx} {oa oa' : List (Str × Addr)} {vals vals' : List Sl} {Λ Λ' Λ'' : LV} {h h' : Heap}
/-- what a step of the frame itself leaves of the lexer -/
theorem LS.stepG (z : LS w f oa vals Λ h) (p : Step f.env oa h oa' h') :
    LexV w f.hb h' f.L Λ ∧ f.L.Kp f.h0 h' ∧ (∀ b o, f.h0.get? b = some o → ¬ Own f.env oa' b) ∧ (∀ x ∈ Λ.fz, h'.get? x.1 = some x.2 ∧ f.V x.1 ∧ ¬ f.L.All x.1 ∧ f.h0.get? x.1 = none) := by
  refine ⟨z.lx.keepA (fun b o hb e => p.kp b o (z.st.v0 b (z.va b hb)) e) fun b o e => p.kp b o (z.no b o (z.b0 b o e)) (z.lx.b1 b o e), fun b o nm e => p.kp b o (z.no b o e) (z.kp b o nm e), fun b o e ho => ?_, fun x hx => ?_⟩
  · rcases ho with ho | ho | ⟨y, ho⟩
    · exact z.no b o e (.inl ho)
    · exact z.no b o e (.inr (.inl ho))
    · rcases p.fr y b ho with ho | ho
      · exact z.no b o e (.inr (.inr ⟨y, ho⟩))
      · by_cases hm : f.L.Mut b
        · obtain ⟨o', e'⟩ := z.lx.D.alive b hm
          rw [ho] at e'; cases e'
        · rw [z.kp b o hm e] at ho; cases ho
  · obtain ⟨a, v, n, m⟩ := z.fz x hx
    exact ⟨p.kp _ _ (z.st.v0 _ v) a, v, n, m⟩
theorem LS.step (z : LS w f oa vals Λ h) (x : St w f.Γ f.env f.V oa' vals' h') (p : Step f.env oa h oa' h') : LS w f oa' vals' Λ h' :=
  let ⟨a, b, c, d⟩ := z.stepG p
  ⟨x, a, z.va, b, c, z.b0, d, z.rm⟩
theorem LS.stays (z : LS w f oa vals Λ h) (k : Stays h h') : LS w f oa vals Λ h' := z.step (z.st.stays k) (Step.stays k)
theorem LS.hno (z : LS w f oa vals Λ h) : ∀ b o, f.hb.get? b = some o → ¬ Own f.env oa b := fun b o e => z.no b o (z.b0 b o e)
/-- after a call that changed the lexer -/
theorem LS.call (z : LS w f oa vals Λ h) (k : f.L.Kp h h') (x : LexV w f.hb h' f.L Λ') (hf : Λ'.fz = Λ.fz) : LS w f oa vals Λ' h' where
  st := x.st z.st (fun b hm => z.va b (.inl hm)) k z.hno
  lx := x
  va := z.va
  kp := z.kp.trans k
  no := z.no
  b0 := z.b0
  fz := fun y hy => by
    rw [hf] at hy
    obtain ⟨a, v, n, m⟩ := z.fz y hy
    exact ⟨k _ _ (fun hm => n (.inl hm)) a, v, n, m⟩
  rm := z.rm
noncomputable def OutL (w : World) (f : Fx) (oa : List (Str × Addr)) (h : Heap) (Λ : LV) : Out → Flow → Prop
  | .next v, fl => fl = .next ∧ LS w f oa v Λ h
  | .cont v, fl => fl = .cont ∧ LS w f oa v Λ h
  | .brk v, fl => fl = .brk ∧ LS w f oa v Λ h
  | .ret p, fl => ∃ cv, fl = .ret cv ∧ Rep f.V h p cv ∧ LexV w f.hb h f.L Λ ∧ f.L.Kp f.h0 h ∧ ∀ x ∈ Λ.fz, h.get? x.1 = some x.2
noncomputable def ExL (w : World) (f : Fx) (vals : List Sl) (Λ : LV) (ss : List Stmt) (P : Out → LV → Prop) : Prop :=
  ∀ (oa : List (Str × Addr)) (s : Shared) (Q : Flow → Shared → Prop) (E : Value → Shared → Prop), LS w f oa vals Λ s.heap →
    (∀ out fl oa' h' tk Λ', P out Λ' → OutL w f oa' h' Λ' out fl → Q fl { s with heap := h', toks := tk }) → wpAny (MW w) f.A (execs ss f.env) Q E s
noncomputable def ExSL (w : World) (f : Fx) (vals : List Sl) (Λ : LV) (st : Stmt) (P : Out → LV → Prop) : Prop :=
  ∀ (oa : List (Str × Addr)) (s : Shared) (Q : Flow → Shared → Prop) (E : Value → Shared → Prop), LS w f oa vals Λ s.heap →
    (∀ out fl oa' h' tk Λ', P out Λ' → OutL w f oa' h' Λ' out fl → Q fl { s with heap := h', toks := tk }) → wpAny (MW w) f.A (exec st f.env) Q E s
noncomputable def EvX (w : World) (f : Fx) (vals : List Sl) (Λ : LV) (e : Expr) (p : PV) (Λ' : LV) : Prop :=
  ∀ (oa : List (Str × Addr)) (s : Shared) (Q : Value → Shared → Prop) (E : Value → Shared → Prop), LS w f oa vals Λ s.heap →
    (∀ cv h' tk, LS w f oa vals Λ' h' → Rep (Vol f.env f.V oa) h' p cv → Q cv { s with heap := h', toks := tk }) → wpAny (MW w) f.A (eval e f.env) Q E s
noncomputable def TrX (w : World) (f : Fx) (vals : List Sl) (Λ : LV) (e : Expr) (b : Bool) (Λ' : LV) : Prop :=
  ∀ (oa : List (Str × Addr)) (s : Shared) (Q : Bool → Shared → Prop) (E : Value → Shared → Prop), LS w f oa vals Λ s.heap →
    (∀ h' tk, LS w f oa vals Λ' h' → Q b { s with heap := h', toks := tk }) → wpAny (MW w) f.A (isTrue e f.env (eval e f.env)) Q E s
theorem EvX.of {e : Expr} {p : PV} (h : Ev w f.d f.Γ vals e p) : EvX w f vals Λ e p Λ := fun oa s Q E z k => h f.env _ f.A s Q E z.st.ok z.rm fun cv h' tk st r => k cv h' tk (z.stays st) r
theorem TrX.of {e : Expr} {b : Bool} (h : Tr w f.d f.Γ vals e b) : TrX w f vals Λ e b Λ := fun oa s Q E z k => h f.env _ f.A s Q E z.st.ok z.rm fun h' tk st => k h' tk (z.stays st)
variable {P : Out → LV → Prop}
theorem ExL.nil (h : P (.next vals) Λ) : ExL w f vals Λ [] P := fun oa s Q E z k => wpAny_execs_nil (k (.next vals) .next oa s.heap s.toks Λ h ⟨rfl, z⟩)
theorem ExL.cons {st : Stmt} {ss : List Stmt} (h : ExSL w f vals Λ st fun out Λ' => match out with | .next v => ExL w f v Λ' ss P | o => P o Λ') : ExL w f vals Λ (st :: ss) P := fun oa s Q E z k =>
  wpAny_execs_cons (h oa s _ _ z fun out fl oa' h' tk Λ' hp ok => by
    cases out with
    | next v => obtain ⟨rfl, z'⟩ := ok; exact hp oa' _ _ _ z' fun out fl oa2 h2 tk2 Λ2 hp2 ok2 => k out fl oa2 h2 tk2 Λ2 hp2 ok2
    | cont v => obtain ⟨rfl, z'⟩ := ok; exact k (.cont v) _ oa' _ _ _ hp ⟨rfl, z'⟩
    | brk v => obtain ⟨rfl, z'⟩ := ok; exact k (.brk v) _ _ _ _ _ hp ⟨rfl, z'⟩
    | ret p => obtain ⟨cv, rfl, r⟩ := ok; exact k (.ret p) _ oa' _ _ _ hp ⟨cv, rfl, r⟩)
theorem ExL.mono {ss : List Stmt} {P' : Out → LV → Prop} (h : ExL w f vals Λ ss P) (hp : ∀ o l, P o l → P' o l) : ExL w f vals Λ ss P' := fun oa s Q E z k => h oa s Q E z fun out fl oa' h' tk Λ' p => k out fl oa' h' tk Λ' (hp out Λ' p)
theorem ExSL.mono {st : Stmt} {P' : Out → LV → Prop} (h : ExSL w f vals Λ st P) (hp : ∀ o l, P o l → P' o l) : ExSL w f vals Λ st P' := fun oa s Q E z k => h oa s Q E z fun out fl oa' h' tk Λ' p => k out fl oa' h' tk Λ' (hp out Λ' p)
theorem ExL.one {st : Stmt} {ss : List Stmt} {v : List Sl} {Λ1 : LV} (h : ExSL w f vals Λ st fun o l => o = .next v ∧ l = Λ1) (hn : ExL w f v Λ1 ss P) : ExL w f vals Λ (st :: ss) P :=
  ExL.cons (h.mono fun o l hp => by obtain ⟨rfl, rfl⟩ := hp; exact hn)
theorem ExSL.pure {st : Stmt} {P' : Out → Prop} (h : ExS w f.d f.Γ vals st P') (hp : ∀ o, P' o → P o Λ) : ExSL w f vals Λ st P := fun oa s Q E z k =>
  h f.env f.V oa f.A s Q E z.st z.rm fun out fl oa' h' tk p ok stp => by
    obtain ⟨g1, g2, _, g4⟩ := z.stepG stp
    refine k out fl oa' h' tk Λ (hp out p) ?_
    cases out with
    | next v => exact ⟨ok.1, z.step ok.2 stp⟩
    | cont v => exact ⟨ok.1, z.step ok.2 stp⟩
    | brk v => exact ⟨ok.1, z.step ok.2 stp⟩
    | ret p => obtain ⟨cv, e, r⟩ := ok; exact ⟨cv, e, r, g1, g2, fun x hx => (g4 x hx).1⟩
theorem ExL.pure1 {st : Stmt} {ss : List Stmt} {v : List Sl} (h : ExS w f.d f.Γ vals st fun o => o = .next v) (hn : ExL w f v Λ ss P) : ExL w f vals Λ (st :: ss) P :=
  ExL.one (ExSL.pure h fun o e => ⟨e, rfl⟩) hn
theorem ExSL.assign {x : Str} {px pos : Pos} {e : Expr} {p : PV} (h : EvX w f vals Λ e p Λ') (pt : Put f.Γ.vars vals x (.val p) vals') (hp : P (.next vals') Λ') (he : noComp e = true := by rfl) : ExSL w f vals Λ (.Assign [.Name x px] e pos) P := fun oa s Q E z k =>
  wpAny_Assign_Name (h oa s _ _ z fun cv h' tk z1 r => z1.st.store pt r fun h2 tk2 z2 stp => k (.next vals') .next oa h2 tk2 Λ' hp ⟨rfl, z1.step z2 stp⟩) (swaps_false he)
theorem ExSL.ite {t : Expr} {a b : List Stmt} {pos : Pos} {c : Bool} (h : TrX w f vals Λ t c Λ') (h1 : c = true → ExL w f vals Λ' a P) (h2 : c = false → ExL w f vals Λ' b P) : ExSL w f vals Λ (.If t a b pos) P := fun oa s Q E z k =>
  wpAny_If (h oa s _ _ z fun h' tk z1 => by
    cases c with
    | true => simp only [if_true]; exact h1 rfl oa _ _ _ z1 fun out fl oa2 h2 tk2 Λ2 hp ok => k out fl oa2 h2 tk2 Λ2 hp ok
    | false => simp only [Bool.false_eq_true, if_false]; exact h2 rfl oa _ _ _ z1 fun out fl oa2 h2 tk2 Λ2 hp ok => k out fl oa2 h2 tk2 Λ2 hp ok)
theorem ExSL.ret {e : Expr} {pos : Pos} {p : PV} (h : EvX w f vals Λ e p Λ') (hp : P (.ret p) Λ') : ExSL w f vals Λ (.Return (some e) pos) P := fun oa s Q E z k =>
  wpAny_Return_some (h oa s _ _ z fun cv h' tk z1 r => k (.ret p) (.ret cv) oa h' tk Λ' hp ⟨cv, rfl, r.mono fun b o nb e => ⟨fun hb => nb (.inl hb), e⟩, z1.lx, z1.kp, fun x hx => (z1.fz x hx).1⟩)
/-- a contract of a function that takes the lexer -/
noncomputable def LCall (w : World) (d : Nat) (fn : Addr) (args : List (List Nat)) (hb : Heap) (L : Lx) (Λ Λ' : LV) (p : PV) : Prop :=
  ∀ (A : Around) (s : Shared) (R : Result → Shared → Prop) (V : Addr → Prop) (cvs : List Value), LexV w hb s.heap L Λ → Room A d → (∀ b, L.All b → V b) → Alive V s.heap → Txts args cvs →
    (∀ cv h' tk, L.Kp s.heap h' → LexV w hb h' L Λ' → Rep V h' p cv → R (.ok (.ret cv)) { s with heap := h', toks := tk }) → codeAny (MW w) A (.call (.ref fn) ⟨.ref L.x :: cvs, []⟩) R s
theorem mk_fn {V : Addr → Prop} {h : Heap} {a : Addr} : Rep V h (.fn a) (.ref a) := by unfold Rep; rfl
theorem rep_fn {V : Addr → Prop} {h : Heap} {a : Addr} {v : Value} (r : Rep V h (.fn a) v) : v = .ref a := by unfold Rep at r; exact r
theorem LCall.of {name qual : Str} {params : Arguments} {body : List Stmt} {scope : Scope} {dV kV doc pm cdv ct oc : Value} {an od : Option Addr} {osl : Array (Option Value)} {a : Addr} {d : Nat} {hb : Heap} {L : Lx} (Γ : Cx) (ns : List Str) {args : List (List Nat)} {p : PV}
    (ho : (hd.heap_39 w.params).lookup a = some ⟨oc, od, .func (fnOf name qual params body scope dV kV doc pm an cdv ct), osl⟩) (hcd : codeIn (hd.heap_39 w.params) cdv qual = true)
    (hok : entryOK scope Γ ns = true) (hbind : ∀ cvs : List Value, cvs.length = ns.length → bindArgs (fnOf name qual params body scope dV kV doc pm an cdv ct) ⟨cvs, []⟩ = pure (ns.zip cvs)) (hl : args.length + 1 = ns.length)
    (hx : ∀ env V h0 A, (∀ b, L.All b → V b) → ExL w ⟨d, Γ, env, V, h0, hb, L, A⟩ (.val (.fn L.x) :: args.map (fun l => Sl.val (.str (S l))) ++ (Γ.vars.drop ns.length).map fun _ => Sl.un) Λ body fun o l => l.same Λ' ∧ (o = .ret p ∨ ((∃ v, o = .next v) ∧ p = .none))) (hfz : Λ.fz = []) : LCall w (d + 1) a args hb L Λ Λ' p := by
  intro A s R V cvs lx rm hV al ht k
  have rp : Reps V s.heap (.fn L.x :: args.map fun l => PV.str (S l)) (.ref L.x :: cvs) := Reps.cons mk_fn ht.reps
  refine entryC ho hcd hok (hbind _ (by simp only [List.length_cons]; rw [ht.length, hl])) (by simp only [List.length_cons, List.length_map]; exact hl) lx.base rm al rp fun env h₁ tk E' z st nO rm' _ _ _ => ?_
  have ev : (List.map Sl.val (.fn L.x :: args.map fun l => PV.str (S l))) = .val (.fn L.x) :: args.map (fun l => Sl.val (.str (S l))) := by simp
  rw [ev] at z
  refine hx env V s.heap (A.deeper env) hV [] { s with heap := h₁, toks := tk } _ _ ⟨z, lx.stays st, hV, fun b o _ e => st b o e, nO, lx.b1, ?_, rm'⟩ ?_
  · intro x hx
    rw [hfz] at hx; cases hx
  · intro out fl oa' h' tk' Λ1 hp ok
    obtain ⟨⟨q1, q2, q3⟩, hp⟩ := hp
    have cast : LexV w hb h' L Λ1 → LexV w hb h' L Λ' := fun g => by unfold LexV at *; rwa [q1, q2, q3] at g
    rcases hp with rfl | ⟨⟨v, rfl⟩, rfl⟩
    · obtain ⟨cv, rfl, r, g1, g2, _⟩ := ok
      exact k cv h' tk' g2 (cast g1) r
    · obtain ⟨rfl, z1⟩ := ok
      exact k .none h' tk' z1.kp (cast z1.lx) mk_none
end
end Mine
end
noncomputable section
set_option maxRecDepth 100000
set_option maxHeartbeats 2000000
namespace Mine
open PySem.Calls
section
variable {w : World} {f : Fx} {oa : List (Str × Addr)} {vals vals' : List Sl} {Λ Λ' : LV} {P : Out → LV → Prop}
theorem lex_attr {hb h : Heap} {L : Lx} {Λ : LV} (x : LexV w hb h L Λ) : ∃ m t1 t2, ObjD h L.x L.dx m ∧ m "lineno" = some (.int Λ.ln t1) ∧ m "instream" = some (.ref L.i1) ∧ m "whitespace" = some (.str (S wsS) t2) ∧ m "pushback" = some (.ref L.p) ∧ Within m attrs :=
  let ⟨m, t1, t2, a, r⟩ := x.D.dict; ⟨m, t1, t2, ⟨x.S.inst, a⟩, r⟩
theorem no_attr {m : Str → Option Value} (h : Within m attrs) {name : Str} (hn : name ∉ attrs) : m name = none := by
  cases e : m name with
  | none => rfl
  | some v => exact absurd (h name (by rw [e]; simp)) hn
theorem LS.load {x : Str} {p : PV} {px : Pos} {s : Shared} {Q : Value → Shared → Prop} {E : Value → Shared → Prop} (z : LS w f oa vals Λ s.heap) (hx : At f.Γ.vars vals x (.val p)) (k : ∀ cv, Rep (Vol f.env f.V oa) s.heap p cv → Q cv s) : wpAny (MW w) f.A (eval (.Name x px) f.env) Q E s := by
  obtain ⟨i, c, h1, h2⟩ := hx.idx
  obtain ⟨cv, l, r⟩ := z.st.ok.slot i x c p h1 h2
  exact loads_name z.st.ok.kind (z.st.ok.nm x c (List.mem_of_getElem? h1)) l (k cv r)
/-- x.whitespace -/
theorem EvX.ws {x : Str} {px pos : Pos} (hx : At f.Γ.vars vals x (.val (.fn f.L.x))) : EvX w f vals Λ (.Attribute (.Name x px) "whitespace" pos) (.str (S wsS)) Λ := fun oa s Q E z k => by
  refine Attribute_name (z.load hx fun cv r => ?_)
  obtain rfl := rep_fn r
  obtain ⟨m, t1, t2, I, _, _, e, _⟩ := lex_attr z.lx
  exact get_attr z.st.ok.base I (kx_whitespace w) e rfl (k _ s.heap _ z mk_str)
theorem EvX.meth0 {x name : Str} {px apos pos : Pos} {fn : Addr} {p : PV} (hx : At f.Γ.vars vals x (.val (.fn f.L.x)))
    (hm : findIn (hd.heap_39 w.params) (.ref 66) name = some (some (.ref fn)) ∧ typeIn (hd.heap_39 w.params) (.ref fn) = some (.type "function")) (hn : name ∉ attrs) (hk : KeptC w (.ref fn)) (hc : LCall w f.d fn [] f.hb f.L Λ Λ' p) (hf : Λ'.fz = Λ.fz)
    (hbase : attributeBase (.Name x px) name f.env (eval (.Name x px) f.env) = eval (.Name x px) f.env := by rfl) (hline : (apos.endLine == pos.line) = true := by rfl)
    (hfew : ((backTo pos (starEach [] f.env)).all (fun x => !x.1) && (backToKw pos (keywordEach [] f.env)).all (fun x => x.1.isSome)
      && decide (([] : List Expr).length + ([] : List Keyword).length + (if ([] : List Keyword).isEmpty then 0 else 1) < 30)) = true := by rfl) :
    EvX w f vals Λ (.Call (.Attribute (.Name x px) name apos) [] [] pos) p Λ' := fun oa s Q E z k => by
  refine Call_meth hbase hfew hline (z.load hx fun cv r => ?_)
  obtain rfl := rep_fn r
  intro pl
  obtain ⟨m, t1, t2, I, _, _, _, _, hw⟩ := lex_attr z.lx
  refine get_meth z.st.ok.base I hm (no_attr hw hn) ?_
  refine callWith_zero hk z.st.ok (wpAny_call (hc f.A s _ (Vol f.env f.V oa) [] z.lx z.rm (fun b hb => .inl (z.va b hb)) z.st.ok.al .nil fun cv h' tk kp lx r => ?_))
  exact k cv h' tk (z.call kp lx hf) r
theorem EvX.meth1 {x name : Str} {px apos pos : Pos} {fn : Addr} {p : PV} {e : Expr} {l : List Nat} (hx : At f.Γ.vars vals x (.val (.fn f.L.x)))
    (hm : findIn (hd.heap_39 w.params) (.ref 66) name = some (some (.ref fn)) ∧ typeIn (hd.heap_39 w.params) (.ref fn) = some (.type "function")) (hn : name ∉ attrs) (hk : KeptC w (.ref fn)) (ha : Ev w f.d f.Γ vals e (.str (S l))) (hc : LCall w f.d fn [l] f.hb f.L Λ Λ' p) (hf : Λ'.fz = Λ.fz)
    (hbase : attributeBase (.Name x px) name f.env (eval (.Name x px) f.env) = eval (.Name x px) f.env := by rfl) (hline : (apos.endLine == pos.line) = true := by rfl)
    (hfew : ((backTo pos (starEach [e] f.env)).all (fun x => !x.1) && (backToKw pos (keywordEach [] f.env)).all (fun x => x.1.isSome)
      && decide (([e] : List Expr).length + ([] : List Keyword).length + (if ([] : List Keyword).isEmpty then 0 else 1) < 30)) = true := by rfl)
    (he : ∀ env, starEach [e] env = (false, eval e env) :: starEach [] env := by intro _; rfl) (hp : ∀ env, (backTo pos (starEach [] env)).any (·.1) = false := by intro _; rfl) :
    EvX w f vals Λ (.Call (.Attribute (.Name x px) name apos) [e] [] pos) p Λ' := fun oa s Q E z k => by
  refine Call_meth hbase hfew hline (z.load hx fun cv r => ?_)
  obtain rfl := rep_fn r
  intro pl
  obtain ⟨m, t1, t2, I, _, _, _, _, hw⟩ := lex_attr z.lx
  refine get_meth z.st.ok.base I hm (no_attr hw hn) ?_
  refine callWith_any hk (EvL.cons ha EvL.nil he) z.st.ok z.rm (fun cvs h' tk st rs => ?_) (he f.env) (hp f.env)
  obtain ⟨v, rfl, rv⟩ := reps_one rs
  obtain ⟨t, rfl⟩ := rep_str rv
  have z1 := z.stays st
  refine wpAny_call (hc f.A { s with heap := h', toks := tk } _ (Vol f.env f.V oa) _ z1.lx z1.rm (fun b hb => .inl (z1.va b hb)) z1.st.ok.al (.cons .nil) fun cv h2 tk2 kp lx r => ?_)
  exact k cv h2 tk2 (z1.call kp lx hf) r
/-- self.instream.read(1) -/
theorem EvX.readS {x : Str} {px ip apos pos : Pos} {one' : Expr} (hx : At f.Γ.vars vals x (.val (.fn f.L.x))) (h1 : Ev w f.d f.Γ vals one' (.int 1)) (hd2 : 2 ≤ f.d)
    (hbase : attributeBase (.Attribute (.Name x px) "instream" ip) "read" f.env (eval (.Attribute (.Name x px) "instream" ip) f.env) = eval (.Attribute (.Name x px) "instream" ip) f.env := by rfl) (hline : (apos.endLine == pos.line) = true := by rfl)
    (hfew : ((backTo pos (starEach [one'] f.env)).all (fun x => !x.1) && (backToKw pos (keywordEach [] f.env)).all (fun x => x.1.isSome)
      && decide (([one'] : List Expr).length + ([] : List Keyword).length + (if ([] : List Keyword).isEmpty then 0 else 1) < 30)) = true := by rfl)
    (he : ∀ env, starEach [one'] env = (false, eval one' env) :: starEach [] env := by intro _; rfl) (hp : (backTo pos (starEach [] f.env)).any (·.1) = false := by rfl) :
    EvX w f vals Λ (.Call (.Attribute (.Attribute (.Name x px) "instream" ip) "read" apos) [one'] [] pos) (.str (S (Λ.rest.take 1))) ⟨Λ.rest.drop 1, Λ.ln, Λ.pb, Λ.fz⟩ := fun oa s Q E z k => by
  refine Call_meth hbase hfew hline (Attribute_name (z.load hx fun cv r => ?_))
  obtain rfl := rep_fn r
  obtain ⟨m, t1, t2, I, _, e, _, _, _⟩ := lex_attr z.lx
  refine get_attr z.st.ok.base I (kx_instream w) e rfl ?_
  intro pl
  obtain ⟨m1, I1, e1⟩ := z.lx.S.obj1
  refine get_meth_own (s := { s with toks := s.toks + 1 }) z.st.ok.base I1 (kx_read w) e1 rfl ?_
  obtain ⟨oH, oc, oK, fd, a1, a2, a3, a4, hh⟩ := z.lx.S.fn
  have h2 := (EvL.cons h1 EvL.nil he) pos f.env (Vol f.env f.V oa) f.A { s with toks := s.toks + 1 + 1 } (fun cvs s₁ => KeptH w f.L.H s₁.heap ∧ wpAny (MW w) f.A (call (.ref f.L.H) ([] ++ cvs)) Q E s₁) E z.st.ok z.rm fun cvs h' tk st rs => by
    obtain ⟨v, rfl, rv⟩ := reps_one rs
    obtain ⟨u, rfl⟩ := rep_int rv
    have z1 := z.stays st
    refine ⟨⟨oH, fd, st _ _ a1, a4⟩, ?_⟩
    obtain ⟨vs, pl1, tx⟩ := z1.lx.D.sgn
    refine wpAny_call (hh f.A { s with heap := h', toks := tk } _ Λ.rest vs u (st _ _ a1) (st _ _ a2) (st _ _ a3) z1.st.ok.base (z1.rm.le hd2) pl1 tx z1.lx.z1 z1.lx.z2 fun h3 tk3 t vs' kp pl3 tx3 => ?_)
    have kM : f.L.Kp h' h3 := fun b o nm e => kp b o (fun hb => nm (.inr (.inr hb))) e
    have ok := z1.lx.ok
    have lx3 : LexV w f.hb h3 f.L ⟨Λ.rest.drop 1, Λ.ln, Λ.pb, Λ.fz⟩ := z1.lx.upd kM ⟨?_, ?_, vs', pl3, tx3⟩ (by have := z1.lx.z1; simp; (first | lia | omega)) (fun c hc => z1.lx.z2 c (List.mem_of_mem_drop hc)) z1.lx.z3
    · exact k _ h3 tk3 (z1.call kM lx3 rfl) mk_str
    · obtain ⟨m, t1, t2, ns, r⟩ := z1.lx.D.dict
      exact ⟨m, t1, t2, ns.at fun o e => kp _ o ok.sep.2.1 e, r⟩
    · obtain ⟨vs, pl, r⟩ := z1.lx.D.pbl
      exact ⟨vs, pl.at fun o e => kp _ o ok.sep.2.2 e, r⟩
  rw [he f.env] at h2 ⊢
  exact callWith_of (by show ((false || (backTo pos (starEach [] f.env)).any (·.1)) || false) = false; rw [hp]; rfl) (fun h X => keeps_H h X) (evalArgs_plain h2)
/-- self.lineno += 1 -/
theorem ExSL.lineno {x : Str} {px tp pos : Pos} {e : Expr} {n : Int} (hx : At f.Γ.vars vals x (.val (.fn f.L.x))) (h1 : Ev w f.d f.Γ vals e (.int n)) (hp : P (.next vals) ⟨Λ.rest, Λ.ln + n, Λ.pb, Λ.fz⟩) : ExSL w f vals Λ (.AugAssign (.Attribute (.Name x px) "lineno" tp) .Add e pos) P := fun oa s Q E z k => by
  refine wpAny_AugAssign_AttributeAny (z.load hx fun cv r => ?_)
  obtain rfl := rep_fn r
  obtain ⟨m, t1, t2, I, e1, e2, e3, e4, hw⟩ := lex_attr z.lx
  refine get_attr z.st.ok.base I (kx_lineno w) e1 rfl ?_
  refine h1 f.env (Vol f.env f.V oa) f.A { s with toks := s.toks + 1 } _ _ z.st.ok z.rm fun cv h' tk st rc => ?_
  obtain ⟨u, rfl⟩ := rep_int rc
  have z1 := z.stays st
  refine wpAny_iadd_int ?_
  have I1 : ObjD h' f.L.x f.L.dx m := I.keep (fun o e => st _ o e) fun o e => st _ o e
  refine set_attr (s := { s with heap := h', toks := tk + 1 }) (ns := attrs) z1.st.ok.base I1 (kx_lineno w) (fun y hy => ?_) (by decide) fun h2 tk2 hn hs => ?_
  · by_cases h : y = "lineno"
    · subst h; decide
    · dsimp only at hy; rw [if_neg h] at hy; exact hw y hy
  have ok := z1.lx.ok
  have kM : f.L.Kp h' h2 := fun b o nm e => (hs.2 b fun hb => nm (.inl hb)).trans e
  have lx2 : LexV w f.hb h2 f.L ⟨Λ.rest, Λ.ln + n, Λ.pb, Λ.fz⟩ := z1.lx.upd kM ⟨⟨_, tk, t2, hn, by simp, ?_, ?_, ?_, fun y hy => ?_⟩, ?_, ?_⟩ z1.lx.z1 z1.lx.z2 z1.lx.z3
  · exact k (.next vals) .next oa h2 tk2 _ hp ⟨rfl, z1.call kM lx2 rfl⟩
  · rw [if_neg (by decide)]; exact e2
  · rw [if_neg (by decide)]; exact e3
  · rw [if_neg (by decide)]; exact e4
  · by_cases h : y = "lineno"
    · subst h; decide
    · dsimp only at hy; rw [if_neg h] at hy; exact hw y hy
  · obtain ⟨vs, pl, r⟩ := z1.lx.D.pbl
    exact ⟨vs, pl.at fun o e => (hs.2 _ (Ne.symm ok.sep.1)).trans e, r⟩
  · obtain ⟨vs, pl, r⟩ := z1.lx.D.sgn
    exact ⟨vs, pl.at fun o e => (hs.2 _ (Ne.symm ok.sep.2.1)).trans e, r⟩
end
set_option maxHeartbeats 8000000 in
theorem read_spec (w : World) (d : Nat) (hb : Heap) (L : Lx) (Λ : LV) (hf : Λ.fz = []) : LCall w (d + 2 + 1) 49 [] hb L Λ Λ.read (.str (S (Λ.rest.take 1))) := by
  refine withK (w := w) ?_
  k_fill
  intro _
  refine LCall.of ⟨[("self", false), ("ch", false)], []⟩ ["self"] (by k_is) (by k_is) (by decide) (by exact Mine.bind1 fun _ => rfl) rfl ?_ hf
  intro env V h0 A hV
  simp only [List.map_nil, List.drop_succ_cons, List.drop_zero, List.length_cons, List.length_nil, List.map_cons, List.cons_append, List.nil_append, Nat.zero_add]
  refine ExL.one (ExSL.assign (EvX.readS (by walk_at "at") Ev.int (by show 2 ≤ d + 2; (first | lia | omega))) (by walk_at "put") ⟨rfl, rfl⟩) ?_
  refine ExL.cons (ExSL.ite (c := decide (Λ.rest.take 1 = [10])) (TrX.of (Tr.is (Tr.cmp (Ev.name (by walk_at "at")) (Ev.is Ev.str (show _ = PV.str (S [10]) by rfl)) Co.eqS) (S_beq _ _))) (fun h => ?_) (fun h => ?_))
  · have hn : nlOf Λ.rest = 1 := by
      have := of_decide_eq_true h
      unfold nlOf
      cases hr : Λ.rest with
      | nil => rw [hr] at this; cases this
      | cons c r => rw [hr] at this; simp at this; simp [this]
    refine ExL.cons (ExSL.lineno (n := 1) (by walk_at "at") Ev.int (ExL.nil ?_))
    refine ExL.cons (ExSL.ret (EvX.of (Ev.name (by walk_at "at"))) ⟨⟨rfl, ?_, rfl⟩, .inl rfl⟩)
    unfold LV.read; rw [hn]
  · have hn : nlOf Λ.rest = 0 := by
      have := of_decide_eq_false h
      unfold nlOf
      cases hr : Λ.rest with
      | nil => rfl
      | cons c r => rw [hr] at this; simp at this; simp [this]
    refine ExL.nil (ExL.cons (ExSL.ret (EvX.of (Ev.name (by walk_at "at"))) ⟨⟨rfl, ?_, rfl⟩, .inl rfl⟩))
    unfold LV.read; rw [hn, Int.add_zero]
end Mine
end
noncomputable section
set_option maxRecDepth 100000
set_option maxHeartbeats 2000000
namespace Mine
open PySem.Calls
theorem read_any (w : World) (d : Nat) (hb : Heap) (L : Lx) (Λ : LV) : LCall w (d + 2 + 1) 49 [] hb L Λ Λ.read (.str (S (Λ.rest.take 1))) := read_spec w d hb L ⟨Λ.rest, Λ.ln, Λ.pb, []⟩ rfl
theorem LCall.up {w : World} {d e : Nat} {fn : Addr} {args : List (List Nat)} {hb : Heap} {L : Lx} {Λ Λ' : LV} {p : PV} (h : LCall w d fn args hb L Λ Λ' p) (hd : d ≤ e) : LCall w e fn args hb L Λ Λ' p := fun A s R V cvs lx rm => h A s R V cvs lx (rm.le hd)
theorem Room.in1 {A : Around} {d : Nat} (r : Room A (d + 1)) : Room A.in1 d := ⟨r.hh, by have := r.dep; show A.depth + d < _; (first | lia | omega), by have := r.un; show A.units + 1 + 20 * d + 100 < _; (first | lia | omega)⟩
theorem Lex.aliveA {w : World} {hb h : Heap} {L : Lx} {Λ : LV} (x : LexV w hb h L Λ) : Alive L.All h := fun b hb => by
  rcases hb with hb | hb | hb | hb | hb | hb | hb
  · exact x.D.alive b hb
  · rw [hb]; exact ⟨_, x.S.inst⟩
  · obtain ⟨m1, I, _⟩ := x.S.obj1; rw [hb]; exact ⟨_, I.at_⟩
  · obtain ⟨m1, I, _⟩ := x.S.obj1; obtain ⟨o, _, _, e, _⟩ := I.ns; rw [hb]; exact ⟨o, e⟩
  · obtain ⟨oH, oc, oK, fd, a, b, c, _⟩ := x.S.fn; rw [hb]; exact ⟨_, a⟩
  · obtain ⟨oH, oc, oK, fd, a, b, c, _⟩ := x.S.fn; rw [hb]; exact ⟨_, b⟩
  · obtain ⟨oH, oc, oK, fd, a, b, c, _⟩ := x.S.fn; rw [hb]; exact ⟨_, c⟩
section
variable {w : World} {f : Fx} {oa : List (Str × Addr)} {vals vals' : List Sl} {Λ Λ' : LV} {P : Out → LV → Prop}
theorem LS.new {h : Heap} (z : LS w f oa vals Λ h) {a : Addr} (hn : h.get? a = none) : ¬ f.L.All a ∧ f.h0.get? a = none := by
  have n1 : ¬ f.L.All a := fun hv => by obtain ⟨o, e⟩ := Lex.aliveA z.lx a hv; rw [hn] at e; cases e
  refine ⟨n1, ?_⟩
  cases e : f.h0.get? a with
  | none => rfl
  | some o => rw [z.kp a o (fun hm => n1 (.inl hm)) e] at hn; cases hn
/-- two new things, from now on kept as they are -/
theorem LS.wide2 {h h' : Heap} (z : LS w f oa vals Λ h) (st : Stays h h') {a b : Addr} {x y : Obj} (ha : h.get? a = none) (hb : h.get? b = none) (ea : h'.get? a = some x) (eb : h'.get? b = some y) :
    LS w { f with V := fun c => f.V c ∨ c ∈ [a, b] } oa vals ⟨Λ.rest, Λ.ln, Λ.pb, (a, x) :: (b, y) :: Λ.fz⟩ h' where
  st := z.st.wide st (fun c hc => by
    rcases List.mem_cons.mp hc with rfl | hc
    · exact ha
    · rw [List.mem_singleton.mp hc]; exact hb) (fun c hc => by
    rcases List.mem_cons.mp hc with rfl | hc
    · exact ⟨_, ea⟩
    · rw [List.mem_singleton.mp hc]; exact ⟨_, eb⟩)
  lx := z.lx.stays st
  va := fun c hc => .inl (z.va c hc)
  kp := fun c o n e => st c o (z.kp c o n e)
  no := z.no
  b0 := z.b0
  fz := fun p hp => by
    rcases List.mem_cons.mp hp with rfl | hp
    · exact ⟨ea, .inr (by simp), z.new ha⟩
    · rcases List.mem_cons.mp hp with rfl | hp
      · exact ⟨eb, .inr (by simp), z.new hb⟩
      · obtain ⟨q1, q2, q3⟩ := z.fz p hp
        exact ⟨st _ _ q1, .inl q2, q3⟩
  rm := z.rm
theorem g_iter (w : World) : GVal w "iter" (.builtin "iter") := by
  refine withK (w := w) ?_
  k_fill
  intro _
  exact GVal.blt (by k_is) (by with_unfolding_all rfl) (by decide) rfl
/-- y = iter(x._read_char, '') -/
theorem ExL.fiter {x y : Str} {npx px ap cp py pos : Pos} {em' : Expr} {ss : List Stmt} (hx : At f.Γ.vars vals x (.val (.fn f.L.x))) (hg : ("iter" : Str) ∈ f.Γ.globs) (h1 : Ev w f.d f.Γ vals em' (.str (S []))) (hP : ∀ o l, P o l → ∃ p, o = .ret p)
    (hn : ∀ it mq t V, (∀ b, f.V b → V b) → ∃ vals', Put f.Γ.vars vals y (.val (.fn it)) vals' ∧ ExL w { f with V := V } vals' ⟨Λ.rest, Λ.ln, Λ.pb, (it, ciObj (.ref mq) t) :: (mq, methodObj (.ref 49) (.ref f.L.x)) :: Λ.fz⟩ ss P)
    (he : ∀ env, starEach [.Attribute (.Name x px) "_read_char" ap, em'] env = (false, eval (.Attribute (.Name x px) "_read_char" ap) env) :: starEach [em'] env := by intro _; rfl) (he2 : ∀ env, starEach [em'] env = (false, eval em' env) :: starEach [] env := by intro _; rfl)
    (hp : (backTo cp (starEach [em'] f.env)).any (·.1) = false := by rfl) :
    ExL w f vals Λ (.Assign [.Name y py] (.Call (.Name "iter" npx) [.Attribute (.Name x px) "_read_char" ap, em'] [] cp) pos :: ss) P := fun oa s Q E z k => by
  refine wpAny_execs_cons (wpAny_Assign_Name ?_ (swaps_false rfl))
  obtain ⟨hd, gf⟩ := g_iter w
  obtain ⟨mg, mb, q1, q2, q3⟩ := gf _ z.st.ok.base
  refine wpAny_Call_NameR ?_
  have fin : wpAny (MW w) f.A (callWith cp (.builtin "iter") [] (backTo cp (starEach [.Attribute (.Name x px) "_read_char" ap, em'] f.env)) []) (fun v s₁ => wpAny (MW w) f.A (storeName f.env y v) (fun _ s₂ => wpAny (MW w) f.A (execs ss f.env) Q E s₂) E s₁) E s := by
    rw [he f.env]
    refine callWith_of (P := fun _ => True) (by show ((false || (backTo cp (starEach [em'] f.env)).any (·.1)) || false) = false; rw [hp]; rfl) (fun h _ => ⟨.machine, .inr (.inl rfl), Looks.of_pure rfl⟩) (evalArgs_plain (wpAny_items_cons (Attribute_name (z.load hx fun cv r => ?_)) rfl))
    obtain rfl := rep_fn r
    obtain ⟨m, t1, t2, I, _, _, _, _, hw⟩ := lex_attr z.lx
    refine get_bound z.st.ok.base I (kx_char w) (by decide) (no_attr hw (by decide)) ?_
    have z1 := z.stays (Stays.push s.heap (methodObj (.ref 49) (.ref f.L.x)))
    have h2 := (EvL.cons h1 EvL.nil he2) cp f.env (Vol f.env f.V oa) f.A { s with heap := s.heap.push (methodObj (.ref 49) (.ref f.L.x)), toks := s.toks + 1 }
    refine h2 _ _ z1.st.ok z.rm fun cvs h' tk st rs => ?_
    obtain ⟨v, rfl, rv⟩ := reps_one rs
    obtain ⟨t, rfl⟩ := rep_str rv
    refine ⟨trivial, ?_⟩
    refine call_iter2 (s := { s with heap := h', toks := tk }) (st _ _ (Heap.get?_push_size _ rfl)) ?_
    have sA : Stays s.heap (h'.push (ciObj (.ref s.heap.objs.size) t)) := ((Stays.push _ _).trans st).trans (Stays.push _ _)
    have nit : s.heap.get? h'.objs.size = none := new_of ((Stays.push _ _).trans st)
    have z2 := z.wide2 sA nit (size_new s.heap) (Heap.get?_push_size _ rfl) (Heap.get?_push_of_some _ (st _ _ (Heap.get?_push_size _ rfl)))
    obtain ⟨vals', pt, hx'⟩ := hn h'.objs.size s.heap.objs.size t (fun c => f.V c ∨ c ∈ [h'.objs.size, s.heap.objs.size]) fun b hb => .inl hb
    refine St.store (s := { s with heap := h'.push (ciObj (.ref s.heap.objs.size) t), toks := tk }) z2.st pt mk_fn fun h3 tk3 z3 stp => ?_
    refine hx' oa { s with heap := h3, toks := tk3 } Q E (z2.step z3 stp) fun out fl oa' h4 tk4 Λ4 hp4 ok => ?_
    obtain ⟨p, rfl⟩ := hP _ _ hp4
    obtain ⟨cv, rfl, r, g1, g2⟩ := ok
    exact k (.ret p) _ oa' h4 tk4 Λ4 hp4 ⟨cv, rfl, r.mono fun b o nb e => ⟨fun hv => nb (.inl hv), e⟩, g1, g2⟩
  rcases q3 with q3 | ⟨q3, q4⟩
  · exact Name_function_global z.st.ok.kind (z.st.ok.gk _ hg) (loadGlobal_global (by rw [z.st.ok.glb]; exact q1) q3 fin) hd
  · exact Name_function_global z.st.ok.kind (z.st.ok.gk _ hg) (loadGlobal_builtin (by rw [z.st.ok.glb]; exact q1) q3 (by rw [z.st.ok.bln]; exact q2) q4 fin) hd
/-- turns of a loop over the signs to come -/
noncomputable def CiP (w : World) (f : Fx) (x : Str) (body : List Stmt) (P : Out → LV → Prop) (it mq : Addr) (t : Tok) : Nat → List Sl → LV → Prop
  | 0, _, _ => False
  | n + 1, vals, Λ => (it, ciObj (.ref mq) t) ∈ Λ.fz ∧ (mq, methodObj (.ref 49) (.ref f.L.x)) ∈ Λ.fz ∧ (Λ.rest = [] → P (.next vals) ⟨[], Λ.ln, Λ.pb, []⟩) ∧
    ∀ c r, Λ.rest = c :: r → ∃ vals', Put f.Γ.vars vals x (.val (.str (S [c]))) vals' ∧ ExL w f vals' Λ.read body fun out Λ' => match out with
      | .next v => CiP w f x body P it mq t n v Λ'
      | .cont v => CiP w f x body P it mq t n v Λ'
      | .brk v => P (.next v) Λ'
      | .ret p => P (.ret p) Λ'
theorem ExSL.ci {x y : Str} {px py pos : Pos} {body : List Stmt} {it mq : Addr} {t : Tok} (n : Nat) (hy : At f.Γ.vars vals y (.val (.fn it))) (hd : 4 ≤ f.d) (lp : CiP w f x body P it mq t n vals Λ) : ExSL w f vals Λ (.For (.Name x px) (.Name y py) body [] pos) P := fun oa s Q E z k => by
  refine wpAny_For (z.load hy fun cv r => ?_) (fun x => rfl)
  obtain rfl := rep_fn r
  have hit : s.heap.get? it = some (ciObj (.ref mq) t) := by
    cases n with
    | zero => exact lp.elim
    | succ n => exact (z.fz _ lp.1).1
  refine iter_ci hit ?_
  refine codeAny_forLoop_any (fun n s' => ∃ h' tk oa' vs Λ', s' = { s with heap := h', toks := tk } ∧ LS w f oa' vs Λ' h' ∧ CiP w f x body P it mq t n vs Λ') ?_ n ⟨s.heap, s.toks, oa, vals, Λ, rfl, z, lp⟩
  rintro n s' ⟨h', tk, oa', vs, Λ', rfl, z', lp⟩
  cases n with
  | zero => exact lp.elim
  | succ n =>
    obtain ⟨f1, f2, l0, l1⟩ := lp
    obtain ⟨e1, v1, a1, b1⟩ := z'.fz _ f1
    obtain ⟨e2, v2, a2, b2⟩ := z'.fz _ f2
    have rm3 : Room f.A.in1 3 := Room.in1 (z'.rm.le hd)
    obtain ⟨o49, g49⟩ : ∃ o, h'.get? 49 = some o ∧ ∃ fd, o.data = .func fd := by
      obtain ⟨_, _, _, X, _⟩ := z'.st.ok.base
      refine withK (w := w) ?_
      k_fill
      intro _
      exact ⟨_, X 49 _ (by k_is), _, rfl⟩
    refine next_ci (s := { s with heap := h', toks := tk }) z'.rm.hh e1 e2 ⟨o49, g49.2.choose, g49.1, g49.2.choose_spec⟩ ?_
    refine read_any w 0 f.hb f.L Λ' f.A.in1 { s with heap := h', toks := tk } _ (Vol f.env f.V oa') [] z'.lx rm3 (fun b hb => .inl (z'.va b hb)) z'.st.ok.al .nil fun cv h2 tk2 kp lx r => ?_
    obtain ⟨u, rfl⟩ := rep_str r
    have z2 : LS w f oa' vs Λ'.read h2 := z'.call kp lx rfl
    refine ⟨Λ'.rest.take 1, u, rfl, (z2.fz _ f1).1, (z2.fz _ f2).1, ⟨o49, g49.2.choose, ?_, g49.2.choose_spec⟩, fun hne => ?_, fun hnil h3 o3 hx he3 => ?_⟩
    · obtain ⟨_, _, _, X, _⟩ := z2.st.ok.base
      obtain ⟨_, _, _, X', _⟩ := z'.st.ok.base
      refine kp 49 _ (fun hm => ?_) g49.1
      have hn := z'.lx.b2 _ hm
      obtain ⟨_, _, _, Xb, _⟩ := z'.lx.b0
      obtain ⟨ob, hob⟩ : ∃ o, f.hb.get? 49 = some o := by
        refine withK (w := w) ?_
        k_fill
        intro _
        exact ⟨_, Xb 49 _ (by k_is)⟩
      rw [hn] at hob; cases hob
    · cases hr : Λ'.rest with
      | nil => rw [hr] at hne; exact absurd rfl hne
      | cons c r =>
        obtain ⟨vals', pt, hb⟩ := l1 c r hr
        refine wpAny_pure (wpAny_assign_Name ?_)
        refine St.store (s := { s with heap := h2, toks := tk2 }) z2.st pt mk_str fun h3 tk3 z3 stp => ?_
        refine hb oa' { s with heap := h3, toks := tk3 } _ _ (z2.step z3 stp) fun out fl oa5 h5 tk5 Λ5 hp ok => ?_
        cases out with
        | next v => obtain ⟨rfl, z5⟩ := ok; exact ⟨n, by (first | lia | omega), h5, tk5, oa5, v, Λ5, rfl, z5, hp⟩
        | cont v => obtain ⟨rfl, z5⟩ := ok; exact ⟨n, by (first | lia | omega), h5, tk5, oa5, v, Λ5, rfl, z5, hp⟩
        | brk v => obtain ⟨rfl, z5⟩ := ok; exact k (.next v) .next oa5 h5 tk5 Λ5 hp ⟨rfl, z5⟩
        | ret p => obtain ⟨cv, rfl, r5⟩ := ok; exact k (.ret p) (.ret cv) oa5 h5 tk5 Λ5 hp ⟨cv, rfl, r5⟩
    · have hr : Λ'.rest = [] := by
        cases hr : Λ'.rest with
        | nil => rfl
        | cons c r => rw [hr] at hnil; cases hnil
      refine wpAny_execs_nil ?_
      have hp := l0 hr
      have er : Λ'.read.rest = [] := by unfold LV.read; rw [hr]; rfl
      have el : Λ'.read.ln = Λ'.ln := by unfold LV.read nlOf; rw [hr]; simp
      refine k (.next vs) .next oa' h3 tk2 _ hp ⟨rfl, ?_⟩
      have lx3 : Lex w f.hb h3 f.L Λ'.read.rest Λ'.read.ln Λ'.pb := z2.lx.keepA (fun b o hb e => hx b o (fun h => a1 (h ▸ hb)) e) fun b o e => hx b o (fun h => by
        have := z2.lx.b1 b o e
        have n0 := b1
        subst h
        rw [z2.b0 _ _ e] at n0; cases n0) (z2.lx.b1 b o e)
      rw [er, el] at lx3
      refine ⟨?_, lx3, z2.va, fun b o nm e => hx b o (fun h => by subst h; rw [b1] at e; cases e) (z2.kp b o nm e), z2.no, z2.b0, fun x hx => (by cases hx), z2.rm⟩
      refine z2.st.vol (hb := f.hb) (fun b o nv e => hx b o (fun h => nv (h ▸ v1)) e) (fun b hv => ?_) lx3.b0 lx3.b1 z2.hno
      by_cases hb : b = it
      · subst hb; exact ⟨o3, he3⟩
      · obtain ⟨o, e⟩ := z2.st.ok.al b (.inl hv); exact ⟨o, hx b o hb e⟩
end
end Mine
end
noncomputable section
set_option maxRecDepth 100000
set_option maxHeartbeats 2000000
namespace Mine
open PySem.Calls
theorem in_ws (c : Nat) : Txt.contains (S wsS) (S [c]) = decide (c = 10 ∨ c = 9 ∨ c = 13 ∨ c = 32) := by
  have : S [c] = (⟨#[c]⟩ : Str) := rfl
  unfold Txt.contains
  rw [this, StrLaws.found_one]
  simp [S, wsS]
section
variable {w : World} {f : Fx} {oa : List (Str × Addr)} {vals vals' : List Sl} {Λ Λ' : LV} {P : Out → LV → Prop}
theorem TrX.inWs {x y : Str} {px cp ap pos : Pos} {c : Nat} (hx : At f.Γ.vars vals x (.val (.fn f.L.x))) (hy : At f.Γ.vars vals y (.val (.str (S [c])))) : TrX w f vals Λ (.Compare (.Name y cp) [.In] [.Attribute (.Name x px) "whitespace" ap] pos) (decide (c = 10 ∨ c = 9 ∨ c = 13 ∨ c = 32)) Λ := fun oa s Q E z k =>
  wpAny_isTrue_Compare1 (z.load hy fun a ra => EvX.ws hx oa s _ _ z fun b h' tk z1 rb => by
    obtain ⟨t, rfl⟩ := rep_str ra
    obtain ⟨u, rfl⟩ := rep_str rb
    refine SB.contains (s := { s with heap := h', toks := tk }) (wpAny_truthy_bool ?_)
    rw [in_ws]
    exact k h' tk z1) (by with_unfolding_all rfl)
theorem TrX.is {e : Expr} {c c' : Bool} (h : TrX w f vals Λ e c Λ') (hc : c = c') : TrX w f vals Λ e c' Λ' := hc ▸ h
theorem TrX.pb {x : Str} {px pos : Pos} (hx : At f.Γ.vars vals x (.val (.fn f.L.x))) : TrX w f vals Λ (.Attribute (.Name x px) "pushback" pos) (!Λ.pb.isEmpty) Λ := fun oa s Q E z k => by
  refine wpAny_isTrue_value (Attribute_name (z.load hx fun cv r => ?_)) rfl
  obtain rfl := rep_fn r
  obtain ⟨m, t1, t2, I, _, _, _, e, _⟩ := lex_attr z.lx
  refine get_attr z.st.ok.base I (kx_pushback w) e rfl ?_
  obtain ⟨vs, pl, tx⟩ := z.lx.D.pbl
  have hn := tx.length
  refine wpAny_truthy_list (s := { s with toks := s.toks + 1 }) pl.isList (by simp only [List.size_toArray]; have := z.lx.z3; (first | lia | omega)) ?_
  have e : (!(List.toArray vs).isEmpty) = !Λ.pb.isEmpty := by
    generalize Λ.pb = pb at tx
    cases tx <;> rfl
  rw [e]
  exact k s.heap _ z
theorem EvX.pop {x : Str} {px ip apos pos : Pos} {e0 : Expr} {l : List Nat} {pb : List (List Nat)} (hx : At f.Γ.vars vals x (.val (.fn f.L.x))) (h0 : Ev w f.d f.Γ vals e0 (.int 0)) (hpb : Λ.pb = l :: pb)
    (hb : attributeBase (.Attribute (.Name x px) "pushback" ip) "pop" f.env (eval (.Attribute (.Name x px) "pushback" ip) f.env) = eval (.Attribute (.Name x px) "pushback" ip) f.env := by rfl)
    (hfew : ((backTo pos (starEach [e0] f.env)).all (fun x => !x.1) && (backToKw pos (keywordEach [] f.env)).all (fun x => x.1.isSome)
      && decide (([e0] : List Expr).length + ([] : List Keyword).length + (if ([] : List Keyword).isEmpty then 0 else 1) < 30)) = true := by rfl)
    (hline : (apos.endLine == pos.line) = true := by rfl)
    (he : ∀ env, starEach [e0] env = (false, eval e0 env) :: starEach [] env := by intro _; rfl) (hp : ∀ env, (backTo pos (starEach [] env)).any (·.1) = false := by intro _; rfl) :
    EvX w f vals Λ (.Call (.Attribute (.Attribute (.Name x px) "pushback" ip) "pop" apos) [e0] [] pos) (.str (S l)) ⟨Λ.rest, Λ.ln, pb, Λ.fz⟩ := fun oa s Q E z k => by
  refine wpAny_Call_method_lateS hb hfew hline (Attribute_name (z.load hx fun cv r => ?_))
  obtain rfl := rep_fn r
  obtain ⟨m, t1, t2, I, _, _, _, e, _⟩ := lex_attr z.lx
  refine get_attr z.st.ok.base I (kx_pushback w) e rfl ?_
  obtain ⟨vs, ⟨n, pl⟩, _⟩ := z.lx.D.pbl
  refine ⟨"list", "list.pop", F.plainAttrs_list, F.slot_list_pop, F.type_list_pop, ⟨_, pl, rfl⟩, fun b e => by cases e; exact ⟨_, pl, rfl⟩, ?_⟩
  refine callWith_any (s := { s with toks := s.toks + 1 }) (KeptC.blt _) (EvL.cons h0 EvL.nil he) z.st.ok z.rm (fun cvs h' tk st rs => ?_) (he f.env) (hp f.env)
  obtain ⟨v, rfl, rv⟩ := reps_one rs
  obtain ⟨u, rfl⟩ := rep_int rv
  have z1 := z.stays st
  obtain ⟨us, pl1, tx⟩ := z1.lx.D.pbl
  have hz := z1.lx.z3
  rw [hpb] at tx hz
  cases tx with
  | cons tx =>
    rename_i t us
    have ok := z1.lx.ok
    refine pop_first (s := { s with heap := h', toks := tk }) pl1 (by have := tx.length; simp at hz; (first | lia | omega)) fun h2 hs pl2 => ?_
    have kM : f.L.Kp h' h2 := fun b o nm e => (hs.2 b fun hb => nm (.inr (.inl hb))).trans e
    have lx2 : LexV w f.hb h2 f.L ⟨Λ.rest, Λ.ln, pb, Λ.fz⟩ := z1.lx.upd kM ⟨?_, ⟨us, pl2, tx⟩, ?_⟩ z1.lx.z1 z1.lx.z2 (by simp at hz ⊢; (first | lia | omega))
    · exact k _ h2 tk (z1.call kM lx2 rfl) mk_str
    · obtain ⟨m, t1, t2, ns, r⟩ := z1.lx.D.dict
      exact ⟨m, t1, t2, ns.at fun o e => (hs.2 _ ok.sep.1).trans e, r⟩
    · obtain ⟨vs, pl, r⟩ := z1.lx.D.sgn
      exact ⟨vs, pl.at fun o e => (hs.2 _ (Ne.symm ok.sep.2.2)).trans e, r⟩
theorem ExSL.push {x : Str} {px ip apos cpos pos : Pos} {e : Expr} {l : List Nat} (hx : At f.Γ.vars vals x (.val (.fn f.L.x))) (h : Ev w f.d f.Γ vals e (.str (S l))) (hz : Λ.pb.length < 499) (hp : P (.next vals) ⟨Λ.rest, Λ.ln, Λ.pb ++ [l], Λ.fz⟩)
    (hb : attributeBase (.Attribute (.Name x px) "pushback" ip) "append" f.env (eval (.Attribute (.Name x px) "pushback" ip) f.env) = eval (.Attribute (.Name x px) "pushback" ip) f.env := by rfl)
    (hfew : ((backTo cpos (starEach [e] f.env)).all (fun x => !x.1) && (backToKw cpos (keywordEach [] f.env)).all (fun x => x.1.isSome)
      && decide (([e] : List Expr).length + ([] : List Keyword).length + (if ([] : List Keyword).isEmpty then 0 else 1) < 30)) = true := by rfl)
    (hline : (apos.endLine == cpos.line) = true := by rfl)
    (htrees : backTo cpos (starEach [e] f.env) = [(false, eval e f.env)] := by rfl)
    (hsw : swapsWith (.Call (.Attribute (.Attribute (.Name x px) "pushback" ip) "append" apos) [e] [] cpos) none pos.line f.env = Pure.pure false := by rfl) :
    ExSL w f vals Λ (.Expr (.Call (.Attribute (.Attribute (.Name x px) "pushback" ip) "append" apos) [e] [] cpos) pos) P := fun oa s Q E z k => by
  have hin : interactive f.env = false := by unfold interactive; rw [z.st.ok.kind]; rfl
  refine wpAny_Expr ?_ hin hsw
  refine wpAny_Call_append hb hfew hline htrees (Attribute_name (z.load hx fun cv r => ?_))
  obtain rfl := rep_fn r
  obtain ⟨m, t1, t2, I, _, _, _, e, _⟩ := lex_attr z.lx
  refine get_attr z.st.ok.base I (kx_pushback w) e rfl ?_
  obtain ⟨vs, pl, tx⟩ := z.lx.D.pbl
  refine ⟨f.L.p, List.toArray vs, rfl, ?_, ?_⟩
  · obtain ⟨n, e⟩ := pl; exact ⟨_, n, e, rfl, rfl, rfl⟩
  · refine h f.env _ f.A { s with toks := s.toks + 1 } _ _ z.st.ok z.rm fun cv h' tk st rc => ?_
    obtain ⟨t, rfl⟩ := rep_str rc
    have z1 := z.stays st
    have ok := z1.lx.ok
    have pl' : h'.PlainList f.L.p (List.toArray vs) := pl.at fun o e => st _ _ e
    refine wpAny_list_append_plain (s := { s with heap := h', toks := tk }) pl' (fun h2 pl2 hs => ?_) (by rw [List.size_toArray, tx.length, sizeLine_eq]; (first | lia | omega))
    have kM : f.L.Kp h' h2 := fun b o nm e => (hs.2 b fun hb => nm (.inr (.inl hb))).trans e
    have lx2 : LexV w f.hb h2 f.L ⟨Λ.rest, Λ.ln, Λ.pb ++ [l], Λ.fz⟩ := z1.lx.upd kM ⟨?_, ⟨vs ++ [.str (S l) t], by simpa using pl2, tx.snoc⟩, ?_⟩ z1.lx.z1 z1.lx.z2 (by simp; (first | lia | omega))
    · exact k (.next vals) .next oa h2 tk _ hp ⟨rfl, z1.call kM lx2 rfl⟩
    · obtain ⟨m, t1, t2, ns, r⟩ := z1.lx.D.dict
      exact ⟨m, t1, t2, ns.at fun o e => (hs.2 _ ok.sep.1).trans e, r⟩
    · obtain ⟨vs, pl, r⟩ := z1.lx.D.sgn
      exact ⟨vs, pl.at fun o e => (hs.2 _ (Ne.symm ok.sep.2.2)).trans e, r⟩
theorem ExL.ends {st : Stmt} {ss : List Stmt} {p : PV} {Λe : LV} (h : ExSL w f vals Λ st fun o l => o = .ret p ∧ l = Λe) (hp : P (.ret p) Λe) : ExL w f vals Λ (st :: ss) P :=
  ExL.cons (h.mono fun o l q => by obtain ⟨rfl, rfl⟩ := q; exact hp)
theorem CiP.skip {x : Str} {B : List Stmt} {it mq : Addr} {t : Tok} {v0 : List Sl} {chs : Sl} {ws r : List Nat} {ln : Int} {pb : List (List Nat)} {fz : List (Addr × Obj)} (hw : ws = [] ∨ ws = [10]) (f1 : (it, ciObj (.ref mq) t) ∈ fz) (f2 : (mq, methodObj (.ref 49) (.ref f.L.x)) ∈ fz)
    (hput : ∀ s q, Put f.Γ.vars (v0 ++ [s]) x q (v0 ++ [q]))
    (h1 : ∀ n s, CiP w f x B P it mq t (n + 1) (v0 ++ [s]) ⟨r, ln + ws.length, pb, fz⟩)
    (h2 : ExL w f (v0 ++ [.val (.str (S [10]))]) ⟨r, ln + 1, pb, fz⟩ B fun o l => o = .cont (v0 ++ [.val (.str (S [10]))]) ∧ l = ⟨r, ln + 1, pb, fz⟩) : CiP w f x B P it mq t 2 (v0 ++ [chs]) ⟨ws ++ r, ln, pb, fz⟩ := by
  rcases hw with rfl | rfl
  · have := h1 1 chs
    simpa using this
  · refine ⟨f1, f2, fun h => by simp at h, fun c r' hr => ?_⟩
    simp at hr
    obtain ⟨rfl, rfl⟩ := hr
    refine ⟨_, hput _ _, h2.mono fun o l q => ?_⟩
    obtain ⟨rfl, rfl⟩ := q
    exact h1 0 _
end
theorem read_ne {c : Nat} {r : List Nat} {ln : Int} {pb : List (List Nat)} {fz : List (Addr × Obj)} (h : c ≠ 10) : LV.read ⟨c :: r, ln, pb, fz⟩ = ⟨r, ln, pb, fz⟩ := by
  unfold LV.read nlOf; simp [h]
theorem read_10 {r : List Nat} {ln : Int} {pb : List (List Nat)} {fz : List (Addr × Obj)} : LV.read ⟨10 :: r, ln, pb, fz⟩ = ⟨r, ln + 1, pb, fz⟩ := by
  unfold LV.read nlOf; simp
set_option maxHeartbeats 8000000 in
theorem push_spec (w : World) (d : Nat) (hb : Heap) (L : Lx) (Λ : LV) (l : List Nat) (hf : Λ.fz = []) (hz : Λ.pb.length < 499) : LCall w (d + 1) 63 [l] hb L Λ ⟨Λ.rest, Λ.ln, Λ.pb ++ [l], []⟩ .none := by
  refine withK (w := w) ?_
  k_fill
  intro _
  refine LCall.of ⟨[("self", false), ("token", false)], []⟩ ["self", "token"] (by k_is) (by k_is) (by decide) (by exact Mine.bind2 fun _ _ => rfl) rfl ?_ hf
  intro env V h0 A hV
  simp only [List.map_nil, List.drop_succ_cons, List.drop_zero, List.length_cons, List.length_nil, List.map_cons, List.cons_append, List.nil_append, Nat.zero_add]
  exact ExL.cons (ExSL.push (by walk_at "at") (Ev.name (by walk_at "at")) hz (ExL.nil ⟨⟨rfl, rfl, rfl⟩, .inr ⟨⟨_, rfl⟩, trivial⟩⟩))
theorem EvX.is {w : World} {f : Fx} {vals : List Sl} {Λ Λ1 Λ' : LV} {e : Expr} {p p' : PV} (h : EvX w f vals Λ e p Λ1) (hp : p = p') (hl : Λ1 = Λ') : EvX w f vals Λ e p' Λ' := hp ▸ hl ▸ h
theorem esc_first {c : Nat} (hc : c ∈ syms) (tail : List Nat) : ∃ c1 r1, esc c ++ tail = c1 :: r1 ∧ c1 ≠ 10 ∧ decide (c1 = 10 ∨ c1 = 9 ∨ c1 = 13 ∨ c1 = 32) = false ∧ c1 ≠ 34 ∧ c ≠ 10 ∧ ((c1 = 92 ∧ r1 = c :: tail) ∨ (c1 ≠ 92 ∧ c1 = c ∧ r1 = tail)) := by
  have key : ∀ c ∈ syms, (esc c = [92, c] ∧ c ≠ 10) ∨ (esc c = [c] ∧ c ≠ 10 ∧ c ≠ 92 ∧ c ≠ 34 ∧ decide (c = 10 ∨ c = 9 ∨ c = 13 ∨ c = 32) = false) := by decide
  rcases key c hc with ⟨e, h⟩ | ⟨e, h1, h2, h3, h4⟩
  · exact ⟨92, c :: tail, by rw [e]; rfl, by decide, by decide, by decide, h, .inl ⟨rfl, rfl⟩⟩
  · exact ⟨c, tail, by rw [e]; rfl, h1, h4, h3, h1, .inr ⟨h2, rfl, rfl⟩⟩
theorem one_eq (c k : Nat) : (S [c] == S [k]) = decide (c = k) := by rw [S_beq]; simp
/-- what one call of get_token takes off the text -/
noncomputable def TokOf (rest tok rest' : List Nat) (n : Int) : Prop :=
  ∃ ws r, (ws = [] ∨ ws = [10]) ∧ rest = ws ++ r ∧ ((r = [] ∧ tok = [] ∧ rest' = [] ∧ n = ws.length) ∨
    (tok ≠ [] ∧ tok.length ≤ 100 ∧ (∀ c ∈ tok, c ∈ syms) ∧ ((r = tok.flatMap esc ++ 10 :: rest' ∧ n = ws.length + 1) ∨ (r = 34 :: (tok.flatMap esc ++ 34 :: rest') ∧ n = ws.length))))
set_option maxHeartbeats 8000000 in
theorem get_spec (w : World) (d : Nat) (hb : Heap) (L : Lx) (Λ : LV) (tok rest' : List Nat) (n : Int) (pb' : List (List Nat)) (hf : Λ.fz = [])
    (h : (Λ.pb = tok :: pb' ∧ rest' = Λ.rest ∧ n = 0) ∨ (Λ.pb = [] ∧ pb' = [] ∧ TokOf Λ.rest tok rest' n)) : LCall w (d + 4 + 1) 56 [] hb L Λ ⟨rest', Λ.ln + n, pb', []⟩ (.str (S tok)) := by
  refine withK (w := w) ?_
  k_fill
  intro _
  refine LCall.of ⟨[("self", false), ("token", false), ("fiter", false), ("ch", false)], ["iter"]⟩ ["self"] (by k_is) (by k_is) (by decide) (by exact Mine.bind1 fun _ => rfl) rfl ?_ hf
  intro env V h0 A hV
  simp only [List.map_nil, List.drop_succ_cons, List.drop_zero, List.length_cons, List.length_nil, List.map_cons, List.cons_append, List.nil_append, Nat.zero_add]
  refine ExL.mono (P := fun o l => (⟨rest', Λ.ln + n, pb', []⟩ : LV).same l ∧ o = .ret (.str (S tok))) ?_ fun o l q => ⟨⟨q.1.1.symm, q.1.2.1.symm, q.1.2.2.symm⟩, .inl q.2⟩
  rcases h with ⟨hpb, rfl, rfl⟩ | ⟨hpb, rfl, ws, r0, hw, hr0, h⟩
  · refine ExL.cons (ExSL.ite (c := true) (TrX.is (TrX.pb (by walk_at "at")) (by rw [hpb]; rfl)) (fun _ => ?_) (fun h => by cases h))
    exact ExL.cons (ExSL.ret (EvX.pop (by walk_at "at") Ev.int hpb) ⟨⟨rfl, by simp, rfl⟩, rfl⟩)
  · refine ExL.cons (ExSL.ite (c := false) (TrX.is (TrX.pb (by walk_at "at")) (by rw [hpb]; rfl)) (fun h => by cases h) (fun _ => ExL.nil ?_))
    refine ExL.pure1 (ExS.assign (p := .str (S [])) (Ev.is Ev.str (by rfl)) (by walk_at "put") rfl) ?_
    refine ExL.fiter (by walk_at "at") (by simp) (Ev.is Ev.str (by rfl)) (fun o l q => ⟨_, q.2⟩) fun it mq t V' hV' => ⟨_, by walk_at "put", ?_⟩
    obtain ⟨rest, ln, pb, fz⟩ := Λ
    simp only at hpb hf h hr0
    subst hpb hf hr0
    generalize hfz : ([(it, ciObj (.ref mq) t), (mq, methodObj (.ref 49) (.ref L.x))] : List (Addr × Obj)) = fz
    have f1 : (it, ciObj (.ref mq) t) ∈ fz := by rw [← hfz]; simp
    have f2 : (mq, methodObj (.ref 49) (.ref L.x)) ∈ fz := by rw [← hfz]; simp
    clear hfz
    have kr : KeptC w (.ref 49) := KeptC.fn (by k_is)
    have hrd : ∀ Λ, LCall w (d + 4) 49 [] hb L Λ Λ.read (.str (S (Λ.rest.take 1))) := fun Λ => read_any w (d + 1) hb L Λ
    dsimp only
    refine ExL.cons (ExSL.ci (mq := mq) (t := t) 2 (by walk_at "at") (by show 4 ≤ d + 4; (first | lia | omega)) ?_)
    refine CiP.skip (v0 := [.val (.fn L.x), .val (.str (S [])), .val (.fn it)]) hw f1 f2 (fun s q => by simp only [List.cons_append, List.nil_append]; walk_at "put") (fun n' s => ?_) ?_
    · simp only [List.cons_append, List.nil_append]
      generalize hln : ln + (ws.length : Int) = ln1
      rcases h with ⟨rfl, rfl, rfl, rfl⟩ | ⟨hne, hlen, hsy, h⟩
      · refine ⟨f1, f2, fun _ => ?_, fun c r h => by cases h⟩
        exact ExL.cons (ExSL.ret (EvX.of (Ev.name (by walk_at "at"))) ⟨⟨rfl, hln, rfl⟩, rfl⟩)
      · rcases h with ⟨rfl, rfl⟩ | ⟨rfl, rfl⟩
        · obtain ⟨c0, tk0, rfl⟩ := List.exists_cons_of_ne_nil hne
          obtain ⟨c1, r1, e1, n10, nws, n34, nc, hcs⟩ := esc_first (hsy c0 (by simp)) (tk0.flatMap esc ++ 10 :: rest')
          rw [List.flatMap_cons, List.append_assoc, e1]
          refine ⟨f1, f2, fun h => (nomatch h), fun c r hr => ?_⟩
          cases hr
          refine ⟨_, by walk_at "put", ?_⟩
          rw [read_ne n10]
          refine ExL.cons (ExSL.ite (c := false) (TrX.is (TrX.inWs (by walk_at "at") (by walk_at "at")) nws) (fun h => by cases h) (fun _ => ExL.nil ?_))
          refine ExL.ends (p := .str (S (c0 :: tk0))) (Λe := ⟨rest', ln1 + 1, [], fz⟩) (ExSL.ite (c := false) (TrX.of (Tr.is (Tr.cmp (Ev.name (by walk_at "at")) (Ev.is Ev.str (show _ = PV.str (S [34]) by rfl)) Co.eqS) (by rw [one_eq]; exact decide_eq_false n34))) (fun h => by cases h) (fun _ => ?_)) ⟨⟨rfl, by show ln + _ = ln1 + 1; (first | lia | omega), rfl⟩, rfl⟩
          refine ExL.one (v := [.val (.fn L.x), .val (.str (S [])), .val (.fn it), .val (.str (S [c0]))]) (Λ1 := ⟨tk0.flatMap esc ++ 10 :: rest', ln1, [], fz⟩) (ExSL.ite (c := decide (c1 = 92)) (TrX.of (Tr.is (Tr.cmp (Ev.name (by walk_at "at")) (Ev.is Ev.str (show _ = PV.str (S [92]) by rfl)) Co.eqS) (one_eq _ _))) (fun h => ?_) (fun h => ?_)) ?_
          · have h := of_decide_eq_true h
            rcases hcs with ⟨_, rfl⟩ | ⟨h', _⟩
            · exact ExL.cons (ExSL.assign (EvX.is (EvX.meth0 (by walk_at "at") ⟨(kx_char w).1, (kx_char w).2.1⟩ (by decide) kr (hrd _) rfl) rfl (read_ne nc)) (by walk_at "put") (ExL.nil ⟨rfl, rfl⟩))
            · exact absurd h h'
          · have h := of_decide_eq_false h
            rcases hcs with ⟨h', _⟩ | ⟨_, rfl, rfl⟩
            · exact absurd h' h
            · exact ExL.nil ⟨rfl, rfl⟩
          · refine ExL.pure1 (ExS.aug (p := .str (S [])) (by walk_at "at") (Ev.name (by walk_at "at")) (Ip.addS (small (by simp))) (by walk_at "put") rfl) ?_
            refine ExL.ends (p := .str (S (c0 :: tk0))) (Λe := ⟨rest', ln1 + 1, [], fz⟩) (ExSL.ci (mq := mq) (t := t) (tk0.length + 1) (by walk_at "at") (by show 4 ≤ d + 4; (first | lia | omega)) ?_) ⟨rfl, rfl⟩
            have hP : c0 :: tk0 = ([] ++ [c0]) ++ tk0 := rfl
            have hl2 : ([] ++ [c0] : List Nat).length + tk0.length ≤ 100 := by simp at hlen ⊢; (first | lia | omega)
            have hs2 : ∀ c ∈ tk0, c ∈ syms := fun c hc => hsy c (by simp [hc])
            rw [hP]
            generalize ([] ++ [c0] : List Nat) = acc at hl2
            generalize Sl.val (PV.str (S [c0])) = chs
            clear hP e1 hcs n10 nws n34 nc hne hlen hsy
            induction tk0 generalizing acc chs with
            | nil =>
              rw [List.flatMap_nil, List.nil_append]
              refine ⟨f1, f2, fun h => (nomatch h), fun c r hr => ?_⟩
              cases hr
              refine ⟨_, by walk_at "put", ?_⟩
              rw [read_10]
              exact ExL.cons (ExSL.ite (c := true) (TrX.is (TrX.inWs (by walk_at "at") (by walk_at "at")) rfl) (fun _ => ExL.cons (ExSL.ret (EvX.of (Ev.name (by walk_at "at"))) ⟨by rw [List.append_nil], rfl⟩)) (fun h => by cases h))
            | cons c tk ih =>
              obtain ⟨c1, r1, e1, n10, nws, n34, nc, hcs⟩ := esc_first (hs2 c (by simp)) (tk.flatMap esc ++ 10 :: rest')
              rw [List.flatMap_cons, List.append_assoc, e1]
              refine ⟨f1, f2, fun h => (nomatch h), fun c' r hr => ?_⟩
              cases hr
              refine ⟨_, by walk_at "put", ?_⟩
              rw [read_ne n10]
              refine ExL.one (v := [.val (.fn L.x), .val (.str (S acc)), .val (.fn it), .val (.str (S [c]))]) (Λ1 := ⟨tk.flatMap esc ++ 10 :: rest', ln1, [], fz⟩) (ExSL.ite (c := false) (TrX.is (TrX.inWs (by walk_at "at") (by walk_at "at")) nws) (fun h => by cases h) (fun _ => ExL.cons (ExSL.ite (c := decide (c1 = 92)) (TrX.of (Tr.is (Tr.cmp (Ev.name (by walk_at "at")) (Ev.is Ev.str (show _ = PV.str (S [92]) by rfl)) Co.eqS) (one_eq _ _))) (fun h => ?_) (fun h => ?_)))) ?_
              · have h := of_decide_eq_true h
                rcases hcs with ⟨_, rfl⟩ | ⟨h', _⟩
                · exact ExL.cons (ExSL.assign (EvX.is (EvX.meth0 (by walk_at "at") ⟨(kx_char w).1, (kx_char w).2.1⟩ (by decide) kr (hrd _) rfl) rfl (read_ne nc)) (by walk_at "put") (ExL.nil (ExL.nil ⟨rfl, rfl⟩)))
                · exact absurd h h'
              · have h := of_decide_eq_false h
                rcases hcs with ⟨h', _⟩ | ⟨_, rfl, rfl⟩
                · exact absurd h' h
                · exact ExL.nil (ExL.nil ⟨rfl, rfl⟩)
              · simp only [List.length_cons] at hl2
                refine ExL.pure1 (ExS.aug (p := .str (S acc)) (by walk_at "at") (Ev.name (by walk_at "at")) (Ip.addS (small (by simp; (first | lia | omega)))) (by walk_at "put") rfl) ?_
                refine ExL.nil ?_
                have ea : acc ++ c :: tk = (acc ++ [c]) ++ tk := by simp
                rw [ea]
                exact ih (fun c hc => hs2 c (by simp [hc])) (acc ++ [c]) (by simp; (first | lia | omega)) _
        · refine ⟨f1, f2, fun h => (nomatch h), fun c r hr => ?_⟩
          cases hr
          refine ⟨_, by walk_at "put", ?_⟩
          rw [read_ne (by decide)]
          refine ExL.cons (ExSL.ite (c := false) (TrX.is (TrX.inWs (by walk_at "at") (by walk_at "at")) rfl) (fun h => by cases h) (fun _ => ExL.nil ?_))
          refine ExL.ends (p := .str (S tok)) (Λe := ⟨rest', ln1, [], fz⟩) (ExSL.ite (c := true) (TrX.of (Tr.is (Tr.cmp (Ev.name (by walk_at "at")) (Ev.is Ev.str (show _ = PV.str (S [34]) by rfl)) Co.eqS) (by rw [one_eq]; rfl))) (fun _ => ?_) (fun h => by cases h)) ⟨⟨rfl, hln, rfl⟩, rfl⟩
          refine ExL.ends (p := .str (S ([] ++ tok))) (Λe := ⟨rest', ln1, [], fz⟩) (ExSL.ci (mq := mq) (t := t) (tok.length + 1) (by walk_at "at") (by show 4 ≤ d + 4; (first | lia | omega)) ?_) ⟨rfl, rfl⟩
          generalize Sl.val (PV.str (S [34])) = chs
          have hl2 : ([] : List Nat).length + tok.length ≤ 100 := by simpa using hlen
          generalize ([] : List Nat) = acc at hl2 ⊢
          clear hne hlen hw hln
          induction tok generalizing acc chs with
          | nil =>
            rw [List.flatMap_nil, List.nil_append]
            refine ⟨f1, f2, fun h => (nomatch h), fun c r hr => ?_⟩
            cases hr
            refine ⟨_, by walk_at "put", ?_⟩
            rw [read_ne (by decide)]
            exact ExL.cons (ExSL.ite (c := true) (TrX.of (Tr.is (Tr.cmp (Ev.name (by walk_at "at")) (Ev.is Ev.str (show _ = PV.str (S [34]) by rfl)) Co.eqS) (by rw [one_eq]; rfl))) (fun _ => ExL.cons (ExSL.ret (EvX.of (Ev.name (by walk_at "at"))) ⟨by rw [List.append_nil], rfl⟩)) (fun h => by cases h))
          | cons c tk ih =>
            obtain ⟨c1, r1, e1, n10, nws, n34, nc, hcs⟩ := esc_first (hsy c (by simp)) (tk.flatMap esc ++ 34 :: rest')
            rw [List.flatMap_cons, List.append_assoc, e1]
            refine ⟨f1, f2, fun h => (nomatch h), fun c' r hr => ?_⟩
            cases hr
            refine ⟨_, by walk_at "put", ?_⟩
            rw [read_ne n10]
            refine ExL.one (v := [.val (.fn L.x), .val (.str (S acc)), .val (.fn it), .val (.str (S [c]))]) (Λ1 := ⟨tk.flatMap esc ++ 34 :: rest', ln1, [], fz⟩) (ExSL.ite (c := false) (TrX.of (Tr.is (Tr.cmp (Ev.name (by walk_at "at")) (Ev.is Ev.str (show _ = PV.str (S [34]) by rfl)) Co.eqS) (by rw [one_eq]; exact decide_eq_false n34))) (fun h => by cases h) (fun _ => ExL.cons (ExSL.ite (c := decide (c1 = 92)) (TrX.of (Tr.is (Tr.cmp (Ev.name (by walk_at "at")) (Ev.is Ev.str (show _ = PV.str (S [92]) by rfl)) Co.eqS) (one_eq _ _))) (fun h => ?_) (fun h => ?_)))) ?_
            · have h := of_decide_eq_true h
              rcases hcs with ⟨_, rfl⟩ | ⟨h', _⟩
              · exact ExL.cons (ExSL.assign (EvX.is (EvX.meth0 (by walk_at "at") ⟨(kx_char w).1, (kx_char w).2.1⟩ (by decide) kr (hrd _) rfl) rfl (read_ne nc)) (by walk_at "put") (ExL.nil (ExL.nil ⟨rfl, rfl⟩)))
              · exact absurd h h'
            · have h := of_decide_eq_false h
              rcases hcs with ⟨h', _⟩ | ⟨_, rfl, rfl⟩
              · exact absurd h' h
              · exact ExL.nil (ExL.nil ⟨rfl, rfl⟩)
            · simp only [List.length_cons] at hl2
              refine ExL.pure1 (ExS.aug (p := .str (S acc)) (by walk_at "at") (Ev.name (by walk_at "at")) (Ip.addS (small (by simp; (first | lia | omega)))) (by walk_at "put") rfl) ?_
              refine ExL.nil ?_
              have ea : acc ++ c :: tk = (acc ++ [c]) ++ tk := by simp
              rw [ea]
              exact ih (fun c hc => hsy c (by simp [hc])) _ (acc ++ [c]) (by simp; (first | lia | omega))
    · refine ExL.cons (ExSL.ite (c := true) (TrX.is (TrX.inWs (c := 10) (by simp only [List.cons_append, List.nil_append]; walk_at "at") (by simp only [List.cons_append, List.nil_append]; walk_at "at")) rfl) (fun _ => ?_) (fun h => by cases h))
      exact ExL.cons (ExSL.pure (P' := fun o => o = .cont _) (ExS.cont rfl) (fun o e => by subst e; exact ⟨rfl, rfl⟩))
end Mine
end
noncomputable section
set_option maxRecDepth 100000
set_option maxHeartbeats 2000000
namespace Mine
open PySem.Calls
/-- what the inner def does -/
theorem hand_C {w : World} {L : Lx} {name qual piece size signs : Str} {params : Arguments} {scope : Scope} {doc pm ctv : Value} {oc oK : Obj} {cvs : Array Value} {tq : Tok} {p1 p3 p4 p5 p6 p7 p8 p9 p10 p11 p12 p13 p14 p15 p16 : Pos} {e0 : Expr}
    (hsc : scope.kind = .function ∧ scope.isCoroutine = false ∧ scope.isGenerator = false) (hcell : ∀ x ∈ scope.names, x.2 ≠ .cell) (n1 : scope.names.lookup size = some .local) (n2 : scope.names.lookup piece = some .local) (n3 : scope.names.lookup signs = some .free)
    (d1 : (size == ("__debug__" : Str)) = false ∧ (size == ("__classdict__" : Str)) = false) (d2 : (piece == ("__debug__" : Str)) = false ∧ (piece == ("__classdict__" : Str)) = false) (d3 : (signs == ("__debug__" : Str)) = false ∧ (signs == ("__classdict__" : Str)) = false)
    (hne : size ≠ piece) (he0 : ∀ {d : Nat} {Γ : Cx} {vals : List Sl}, Ev w d Γ vals e0 (.str (S [])))
    (hbind : ∀ v, bindArgs (fnX name qual params [.Assign [.Name piece p1] (.Call (.Attribute e0 "join" p3) [.Subscript (.Name signs p4) (.Slice none (some (.Name size p5)) none p6) p7] [] p8) p9, .Delete [.Subscript (.Name signs p10) (.Slice none (some (.Name size p11)) none p12) p13] p14, .Return (some (.Name piece p15)) p16] scope [(signs, L.K)] .none .none doc pm none (.ref L.c) ctv) ⟨[v], []⟩ = pure [(size, v)])
    (hc : oc.data = .fields cvs ∧ cvs[1]? = some (.str qual tq)) (hK : oK.data = .cell (some (.ref L.g)))
    (hb1 : ∀ env, attributeBase e0 "join" env (eval e0 env) = eval e0 env) (hl1 : (p3.endLine == p8.line) = true) :
    HandC w L (fnMade name qual params [.Assign [.Name piece p1] (.Call (.Attribute e0 "join" p3) [.Subscript (.Name signs p4) (.Slice none (some (.Name size p5)) none p6) p7] [] p8) p9, .Delete [.Subscript (.Name signs p10) (.Slice none (some (.Name size p11)) none p12) p13] p14, .Return (some (.Name piece p15)) p16] scope [(signs, L.K)] doc pm L.c ctv) oc oK := by
  intro A s R rest vs u eH ec eK b rm pl tx hz h128 k
  obtain ⟨mean, mg, mb, X, T⟩ := id b
  refine codeAny_call_function (by have := rm.dep; (first | lia | omega)) eH rfl hsc.2.1 hsc.2.2 rfl ⟨L.c, oc, cvs, tq, rfl, ec, hc.1, hc.2⟩ ?_
  rw [hbind]
  refine wpAny_pure (wpAny_newFunctionEnv hcell (fun y hy => by rw [List.mem_singleton.mp hy]; exact n1) (fun h₁ hns hsb => ⟨T.nolimit.fresh _ hsb, codeAny_func ?_⟩) hsc.1)
  have st1 : Stays s.heap h₁ := fun b o e => (hsb.2 b (Nat.ne_of_lt (Heap.lt_size e))).trans (Heap.get?_push_of_some _ e)
  generalize henv : newEnv (fnX name qual params _ scope [(signs, L.K)] .none .none doc pm none (.ref L.c) ctv).scope s.heap.objs.size _ _ _ _ _ _ _ = env
  have eL : env.locals = s.heap.objs.size := by rw [← henv]; rfl
  have eS : env.scope = scope := by rw [← henv]; rfl
  have eG : env.globals = mainGlobals := by rw [← henv]; rfl
  have eB : env.builtins = builtinsNs := by rw [← henv]; rfl
  have eC : env.cells = [(signs, L.K)] := by rw [← henv]; rfl
  have kk : ∀ y, env.kindOf y = scope.names.lookup y := fun y => by unfold Env.kindOf; rw [eS]
  have hkf : env.scope.kind = .function := by rw [eS]; exact hsc.1
  have rm' : Room (A.deeper env) 1 := ⟨rm.hh, by show A.depth + 1 + 1 < _; have := rm.dep; (first | lia | omega), by show A.units + 3 + 20 * 1 + 100 < _; have := rm.un; (first | lia | omega)⟩
  obtain ⟨ng, eg⟩ := id pl
  have hgL : L.g ≠ s.heap.objs.size := Nat.ne_of_lt (Heap.lt_size eg)
  have tr : Reps (fun b => b = s.heap.objs.size) s.heap (rest.map fun c => PV.str (S [c])) vs := by
    have := tx.reps (V := fun b => b = s.heap.objs.size) (h := s.heap)
    rwa [List.map_map] at this
  have ldK : ∀ {h}, Stays s.heap h → Loads env h signs true (.ref L.g) := fun {h} st => by
    unfold Loads
    simp only [if_true]
    exact ⟨.inr ((kk signs).trans n3), L.K, oK, by rw [eC]; simp, st _ _ eK, hK⟩
  have ldS : ∀ {h m}, h.Ns env.locals m → m size = some (.int 1 u) → Loads env h size false (.int 1 u) := fun {h m} hn e => by
    unfold Loads
    simp only [Bool.false_eq_true, if_false]
    exact ⟨(kk size).trans n1, m, hn, e⟩
  have ok : ∀ {h m}, Stays s.heap h → h.Ns env.locals m → m size = some (.int 1 u) → EnvOK w env ⟨[(size, false), (signs, true)], []⟩ [.val (.int 1), .val (.list (rest.map fun c => PV.str (S [c])))] (fun b => b = s.heap.objs.size) h := fun {h m} st hn e => by
    refine ⟨hkf, eG, eB, fun x hx => (by cases hx), b.stays st, fun a ha => ?_, fun x c hx => ?_, fun x hx => ?_, fun i x c p hi hp => ?_, fun i x c xs hi hp => ?_⟩
    · obtain ⟨o, _, _, e, _⟩ := hn; rw [ha, ← eL]; exact ⟨o, e⟩
    · rcases List.mem_cons.mp hx with h | h
      · cases h; exact d1
      · cases List.mem_singleton.mp h; exact d3
    · rcases List.mem_cons.mp hx with h | h
      · cases h
      · cases List.mem_singleton.mp h; exact ⟨.inr ((kk signs).trans n3), L.K, by rw [eC]; simp⟩
    · match i with
      | 0 => simp at hi hp; obtain ⟨rfl, rfl⟩ := hi; subst hp; exact ⟨_, ldS hn e, mk_int⟩
      | 1 => simp at hi hp; obtain ⟨rfl, rfl⟩ := hi; subst hp; exact ⟨_, ldK st, Rep.mkList hgL (pl.at fun o e => st _ _ e) (tr.stays st)⟩
      | i + 2 => simp at hi
    · match i with
      | 0 => simp at hp
      | 1 => simp at hp
      | i + 2 => simp at hi
  have hns' : h₁.Ns env.locals (fun x => [(size, Value.int 1 u)].reverse.lookup x) := by rw [eL]; exact hns
  have ok1 := ok st1 hns' (by simp)
  have lsl1 : lsl (rest.map fun c => PV.str (S [c])) none (some 1) = ((rest.take 1).map one).map fun l => PV.str (S l) := by
    unfold lsl
    have : (some (1 : Int)).elim (rest.map fun c => PV.str (S [c])).length (clipAt (rest.map fun c => PV.str (S [c])).length) - (none : Option Int).elim 0 (clipAt (rest.map fun c => PV.str (S [c])).length) = min 1 rest.length := by
      simp only [Option.elim]
      have := clip_nat (n := (rest.map fun c => PV.str (S [c])).length) (a := 1)
      rw [List.length_map] at this
      simpa using this
    rw [this]
    simp only [Option.elim, List.drop_zero]
    cases rest with
    | nil => rfl
    | cons c r => simp [one]
  have fl : ((rest.take 1).map one).flatten = rest.take 1 := flat_one _
  refine wpAny_execs_cons (wpAny_Assign_Name ((Ev.meth (p := .str (S [])) (ps := [.list (((rest.take 1).map one).map fun l => PV.str (S l))]) he0 HasT.str meth_join (EvL.cons (EvF.ev (EvF.is (EvF.slice (Ev.name (At.there At.here)) EvO.none (EvO.int (Ev.name At.here)) (small (by simp; (first | lia | omega)))) lsl1)) EvL.nil) (Fc.join rfl (by rw [fl]; simp; (first | lia | omega))) hb1 (fun _ => rfl) hl1) env _ _ { s with heap := h₁, toks := _ } _ _ ok1 rm' fun cv h2 tk2 st2 r => ?_) (swaps_false rfl))
  obtain ⟨tp, rfl⟩ := rep_str r
  refine wpAny_storeName_local ((kk piece).trans n2) (hns'.keeps st2) (fun h3 hn3 hs3 => ?_) (fnkind hkf)
  have st3 : Stays s.heap h3 := fun b o e => (hs3.2 b (fun h => by rw [h, eL] at e; exact absurd (Heap.lt_size e) (Nat.lt_irrefl _))).trans (st2 b o (st1 b o e))
  have m3 : (fun y => if y = piece then some (Value.str (S ((rest.take 1).map one).flatten) tp) else [(size, Value.int 1 u)].reverse.lookup y) size = some (.int 1 u) := by
    dsimp only; rw [if_neg hne]; simp
  refine wpAny_execs_cons (wpAny_Delete (wpAny_deleteEach_cons (wpAny_delete_Subscript ?_)))
  refine loads_name hkf d3 (ldK st3) ?_
  refine wpAny_Slice (EvO.none env _ _ { s with heap := h3, toks := _ } _ _ (ok st3 hn3 m3) rm' fun vl h4 tk4 st4 q4 => ?_)
  have ok4 := (ok st3 hn3 m3).stays st4
  refine (loads_name hkf d1 ((ldS hn3 m3).stays st4) ?_)
  refine wpAny_pure ?_
  cases q4
  have st5 : Stays s.heap (h4.push { cls := .type "slice", data := .fields #[Value.none, .int 1 u, Value.none] }) := (st3.trans st4).trans (Stays.push _ _)
  refine del_slice (s := { s with heap := h4.push { cls := .type "slice", data := .fields #[Value.none, .int 1 u, Value.none] }, toks := tk4 }) (pl.at fun o e => st5 _ _ e) (Heap.get?_push_size _ rfl) (by rw [tx.length]; simpa using hz) fun h6 hs6 pl6 => ?_
  have hn6 : h6.Ns env.locals _ := ((hn3.keeps st4).keeps (Stays.push _ _)).sameBut hs6 (by rw [eL]; exact Ne.symm hgL)
  refine wpAny_deleteEach_nil (wpAny_execs_cons (wpAny_Return_some ?_))
  refine loads_name (c := false) (cv := .str (S ((rest.take 1).map one).flatten) tp) hkf d2 ?_ ?_
  · unfold Loads
    simp only [Bool.false_eq_true, if_false]
    exact ⟨(kk piece).trans n2, _, hn6, by simp⟩
  · rw [fl]
    have hd : ((rest.drop 1).map one) = (rest.map one).drop 1 := by rw [List.map_drop]
    exact k h6 tk4 tp _ (fun b o hb e => (hs6.2 b hb).trans (st5 b o e)) pl6 (by rw [hd]; exact tx.drop1)
section
variable {w : World} {d : Nat} {Γ : Cx} {vals : List Sl} {env : Env} {oa : List (Str × Addr)} {A : Around} {s : Shared} {hb : Heap} {x dx : Addr} {m : Str → Option Value} {V : Addr → Prop}
theorem ObjD.ne {h : Heap} (I : ObjD h x dx m) : x ≠ dx := fun e => by
  obtain ⟨o, es, _, e1, e2, _⟩ := I.ns
  rw [← e, I.at_] at e1
  cases e1; cases e2
theorem within_upd {y : Str} {v : Value} (hw : Within m attrs) (hy : y ∈ attrs) : Within (fun z => if z = y then some v else m z) attrs := fun z hz => by
  by_cases h : z = y
  · rw [h]; exact hy
  · dsimp only at hz; rw [if_neg h] at hz; exact hw z hz
/-- the second half of o.name = value -/
theorem set_half {name self : Str} {px : Pos} {cv : Value} {Q : Shared → Prop} {E : Value → Shared → Prop} (z : St w Γ env V oa vals s.heap) (I : ObjD s.heap x dx m) (hx : At Γ.vars vals self (.val (.fn x))) (hV : V dx)
    (kx : findIn (hd.heap_39 w.params) (.ref 66) name = some none) (hw : Within m attrs) (hy : name ∈ attrs) (b0 : Base w hb) (b1 : Stays hb s.heap) (bn : hb.get? dx = none) (b2 : ∀ b o, hb.get? b = some o → ¬ Own env oa b)
    (k : ∀ h' tk, St w Γ env V oa vals h' → ObjD h' x dx (fun z => if z = name then some cv else m z) → (∀ b o, b ≠ dx → s.heap.get? b = some o → h'.get? b = some o) → Stays hb h' → Q { s with heap := h', toks := tk }) :
    wpAny (MW w) A (eval (.Name self px) env) (fun ov s₂ => wpAny (MW w) A (setAttr ov name cv) (fun _ => Q) E s₂) E s := by
  obtain ⟨i, c, h1, h2⟩ := hx.idx
  obtain ⟨v, l, r⟩ := z.ok.slot i self c _ h1 h2
  obtain rfl := rep_fn r
  refine loads_name z.ok.kind (z.ok.nm self c (List.mem_of_getElem? h1)) l ?_
  refine set_attr (ns := attrs) z.ok.base I kx (within_upd hw hy) (by decide) fun h' tk hn hs => ?_
  have kp : ∀ b o, b ≠ dx → s.heap.get? b = some o → h'.get? b = some o := fun b o hb e => (hs.2 b hb).trans e
  have st : Stays hb h' := fun b o e => kp b o (fun h => by rw [h, bn] at e; cases e) (b1 b o e)
  refine k h' tk (z.vol (hb := hb) (fun b o nv e => kp b o (fun h => nv (h ▸ hV)) e) (fun b hv => ?_) b0 st b2) ⟨kp _ _ I.ne I.at_, hn⟩ kp st
  by_cases h : b = dx
  · obtain ⟨o, _, _, e, _⟩ := hn; rw [h]; exact ⟨o, e⟩
  · obtain ⟨o, e⟩ := z.ok.al b (.inl hv); exact ⟨o, kp b o h e⟩
end
set_option maxHeartbeats 8000000 in
theorem init_spec (w : World) (d : Nat) {x dx : Addr} {p : PV} {cv : Value} {hb : Heap} {A : Around} {s : Shared} {R : Result → Shared → Prop} (b0 : Base w hb) (b1 : Stays hb s.heap) (bn : hb.get? dx = none) (I : ObjD s.heap x dx fun _ => none) (rm : Room A (d + 1)) (rp : ∀ V h v, Rep V h p v ↔ v = cv)
    (k : ∀ h' tk m t1 t2 pa, (∀ b o, b ≠ dx → s.heap.get? b = some o → h'.get? b = some o) → ObjD h' x dx m → m "lineno" = some (.int 1 t1) → m "instream" = some cv → m "whitespace" = some (.str (S wsS) t2) → m "pushback" = some (.ref pa) → Within m attrs → s.heap.get? pa = none → h'.PlainList pa (List.toArray []) →
      R (.ok (.ret .none)) { s with heap := h', toks := tk }) : codeAny (MW w) A (.call (.ref 42) ⟨[.ref x, cv], []⟩) R s := by
  refine withK (w := w) ?_
  k_fill
  intro _
  refine entryC (d := d) (Γ := ⟨[("self", false), ("fp", false)], []⟩) (ns := ["self", "fp"]) (V := fun b => b = dx) (ps := [.fn x, p]) (by k_is) (by k_is) (by decide) rfl rfl (b0.stays b1) rm (fun b hb => ?_) (Reps.cons mk_fn (Reps.cons ((rp _ _ _).mpr rfl) Reps.nil)) ?_
  · obtain ⟨o, _, _, e, _⟩ := I.ns; rw [hb]; exact ⟨o, e⟩
  intro env h₁ tk E' z st nO rm' _ _ _
  simp only [List.map_nil, List.drop_succ_cons, List.drop_zero, List.length_cons, List.length_nil, List.map_cons, List.cons_append, List.nil_append, Nat.zero_add] at z
  have b2 : ∀ b o, hb.get? b = some o → ¬ Own env [] b := fun b o e => nO b o (b1 b o e)
  have I1 : ObjD h₁ x dx fun _ => none := I.keep (fun o e => st _ o e) fun o e => st _ o e
  have w0 : Within (fun _ => none : Str → Option Value) attrs := fun y hy => absurd rfl hy
  refine wpAny_execs_cons (plainObj_wpAny_Assign_Attribute (wpAny_Constant_int ?_))
  refine set_half (s := { s with heap := h₁, toks := _ }) (x := x) (dx := dx) (hb := hb) z I1 (by walk_at "at") rfl (kx_lineno w) w0 (by decide) b0 (b1.trans st) bn b2 fun h2 tk2 z2 I2 kp2 st2 => ?_
  refine wpAny_execs_cons (plainObj_wpAny_Assign_Attribute ((Ev.name (w := w) (d := d) (p := p) (by walk_at "at")) env _ _ { s with heap := h2, toks := tk2 } _ _ z2.ok rm' fun cv' h3 tk3 st3 r3 => ?_))
  obtain rfl := (rp _ _ _).mp r3
  have w1 := within_upd (v := .int 1 tk) w0 (y := "lineno") (by decide)
  refine set_half (s := { s with heap := h3, toks := _ }) (x := x) (dx := dx) (hb := hb) (z2.stays st3) (I2.keep (fun o e => st3 _ o e) fun o e => st3 _ o e) (by walk_at "at") rfl (kx_instream w) w1 (by decide) b0 (st2.trans st3) bn b2 fun h4 tk4 z4 I4 kp4 st4 => ?_
  have w2 := within_upd (v := cv') w1 (y := "instream") (by decide)
  refine wpAny_execs_cons (plainObj_wpAny_Assign_Attribute (wpAny_Constant_str ?_))
  refine set_half (s := { s with heap := h4, toks := _ }) (x := x) (dx := dx) (hb := hb) z4 I4 (by walk_at "at") rfl (kx_whitespace w) w2 (by decide) b0 st4 bn b2 fun h5 tk5 z5 I5 kp5 st5 => ?_
  have w3 := within_upd (v := .str (S wsS) tk4) w2 (y := "whitespace") (by decide)
  refine wpAny_execs_cons (plainObj_wpAny_Assign_Attribute ((EvF.list (w := w) (d := d) EvL.nil (small (by simp))) env _ _ { s with heap := h5, toks := tk5 } _ _ z5.ok rm' fun pa vs h6 tk6 st6 hn6 pl6 r6 => ?_))
  obtain rfl := reps_nil r6
  refine set_half (s := { s with heap := h6, toks := _ }) (x := x) (dx := dx) (hb := hb) (z5.stays st6) (I5.keep (fun o e => st6 _ o e) fun o e => st6 _ o e) (by walk_at "at") rfl (kx_pushback w) w3 (by decide) b0 (st5.trans st6) bn b2 fun h7 tk7 z7 I7 kp7 st7 => ?_
  have kpa : ∀ b o, b ≠ dx → s.heap.get? b = some o → h5.get? b = some o := fun b o hb e => kp5 b o hb (kp4 b o hb (st3 b o (kp2 b o hb (st b o e))))
  have hnp : s.heap.get? pa = none := by
    cases e : s.heap.get? pa with
    | none => rfl
    | some o =>
      by_cases h : pa = dx
      · obtain ⟨o', _, _, e', _⟩ := I5.ns; rw [h, e'] at hn6; cases hn6
      · rw [kpa pa o h e] at hn6; cases hn6
  have hpd : pa ≠ dx := fun h => by obtain ⟨o', _, _, e', _⟩ := I5.ns; rw [h, e'] at hn6; cases hn6
  refine wpAny_execs_nil ?_
  refine k h7 tk7 _ tk tk4 pa (fun b o hb e => kp7 b o hb (st6 b o (kpa b o hb e))) I7 ?_ ?_ ?_ ?_ (within_upd w3 (by decide)) hnp (pl6.at fun o e => kp7 _ o hpd e)
  · rw [if_neg (by decide), if_neg (by decide), if_neg (by decide), if_pos rfl]
  · rw [if_neg (by decide), if_neg (by decide), if_pos rfl]
  · rw [if_neg (by decide), if_pos rfl]; rfl
  · rw [if_pos rfl]
/-- a new object of the lexer's class -/
theorem make_inst (w : World) (d : Nat) {p : PV} {cv : Value} {hb : Heap} {A : Around} {s : Shared} {R : Result → Shared → Prop} (b0 : Base w hb) (b1 : Stays hb s.heap) (rm : Room A (d + 2)) (rp : ∀ V h v, Rep V h p v ↔ v = cv)
    (k : ∀ x dx pa h' tk m t1 t2, Stays s.heap h' → s.heap.get? x = none → s.heap.get? dx = none → s.heap.get? pa = none → x ≠ dx → pa ≠ dx → pa ≠ x → ObjD h' x dx m → m "lineno" = some (.int 1 t1) → m "instream" = some cv → m "whitespace" = some (.str (S wsS) t2) → m "pushback" = some (.ref pa) → Within m attrs → h'.PlainList pa (List.toArray []) →
      R (.ok (.ret (.ref x))) { s with heap := h', toks := tk }) : codeAny (MW w) A (.call (.ref 66) ⟨[cv], []⟩) R s := by
  obtain ⟨hh, g, dr, tk0, os⟩ := s
  have X := (b0.stays b1).X
  refine make_core (makes_of X (kx_init w).2.2) (looks_findIn X (kx_init w).1) (fun self => bind_fn X self (kx_init w).2.1) (.inl rfl) ?_
  have st : Stays hh ((hh.push emptyDict).push (instObj 66 hh.objs.size)) := (Stays.push _ _).trans (Stays.push _ _)
  have nd : hh.get? hh.objs.size = none := size_new _
  have nx : hh.get? (hh.objs.size + 1) = none := Heap.get?_none_of_le (Nat.le_succ _)
  have bd : hb.get? hh.objs.size = none := by
    cases e : hb.get? hh.objs.size with
    | none => rfl
    | some o => have := b1 _ _ e; rw [nd] at this; cases this
  have I : ObjD ((hh.push emptyDict).push (instObj 66 hh.objs.size)) (hh.objs.size + 1) hh.objs.size fun _ => none := by
    refine ⟨?_, ?_⟩
    · have := Heap.get?_push_size (hh.push emptyDict) (o := instObj 66 hh.objs.size) rfl
      rwa [Heap.size_push] at this
    · exact Heap.Ns1.of_empty ⟨emptyDict, #[], _, Heap.get?_push_of_some _ (Heap.get?_push_size _ rfl), rfl, fun e he => by simp at he, fun _ => rfl⟩
  refine init_spec w d (s := ⟨(hh.push emptyDict).push (instObj 66 hh.objs.size), g, dr, tk0, os⟩) b0 (b1.trans st) bd I ?_ rp fun h' tk m t1 t2 pa kp I' e1 e2 e3 e4 hw hn pl => ?_
  · refine ⟨rm.hh, ?_, ?_⟩
    · have e : Code.weight (.builtin "type.__call__" ⟨[.ref 66, cv], []⟩) = 1 := by with_unfolding_all rfl
      show A.depth + Code.weight (.builtin "type.__call__" ⟨[.ref 66, cv], []⟩) + (d + 1) < recursionLimit
      have := rm.dep; (first | lia | omega)
    · have e : Code.cUnits (.builtin "type.__call__" ⟨[.ref 66, cv], []⟩) = 1 := by with_unfolding_all rfl
      show A.units + Code.cUnits (.builtin "type.__call__" ⟨[.ref 66, cv], []⟩) + 20 * (d + 1) + 100 < cLine
      have := rm.un; (first | lia | omega)
  · refine ⟨rfl, ?_⟩
    have hne := I.ne
    have hnp : hh.get? pa = none := by
      cases e : hh.get? pa with
      | none => rfl
      | some o => rw [st _ _ e] at hn; cases hn
    have p1 : pa ≠ hh.objs.size := fun h => by
      obtain ⟨o, _, _, e, _⟩ := I.ns; rw [h, e] at hn; cases hn
    have p2 : pa ≠ hh.objs.size + 1 := fun h => by
      have := I.at_; rw [h, this] at hn; cases hn
    exact k _ _ pa h' tk m t1 t2 (fun b o e => kp b o (fun h => by rw [h, nd] at e; cases e) (st b o e)) nx nd hnp hne p1 p2 I' e1 e2 e3 e4 hw pl
end Mine
end
noncomputable section
set_option maxRecDepth 100000
set_option maxHeartbeats 2000000
namespace Mine
open PySem.Calls
/-- a call of a global function, whatever it does -/
theorem Call_glob {w : World} {d : Nat} {Γ : Cx} {vals : List Sl} {env : Env} {V : Addr → Prop} {A : Around} {s : Shared} {Q : Value → Shared → Prop} {E : Value → Shared → Prop} {x : Str} {np pos : Pos} {e : Expr} {es : List Expr} {ps : List PV} {f : Value} (g : x ∈ Γ.globs) (v : GVal w x f) (hk : KeptC w f) (ha : EvL w d Γ vals (e :: es) ps)
    (ok : EnvOK w env Γ vals V s.heap) (rm : Room A d) (h : ∀ cvs h' tk, Stays s.heap h' → Reps V h' ps cvs → wpAny (MW w) A (call f cvs) Q E { s with heap := h', toks := tk })
    (he : ∀ env, starEach (e :: es) env = (false, eval e env) :: starEach es env := by intro _; rfl) (hp : ∀ env, (backTo pos (starEach es env)).any (·.1) = false := by intro _; rfl) :
    wpAny (MW w) A (eval (.Call (.Name x np) (e :: es) [] pos) env) Q E s := by
  obtain ⟨hd, gf⟩ := v
  obtain ⟨mg, mb, h1, h2, h3⟩ := gf _ ok.base
  refine wpAny_Call_NameR ?_
  have fin : wpAny (MW w) A (callWith pos f [] (backTo pos (starEach (e :: es) env)) []) Q E s := callWith_any hk ha ok rm (fun cvs h' tk st r => h cvs h' tk st r) (he env) (hp env)
  rcases h3 with h3 | ⟨h3, h4⟩
  · exact Name_function_global ok.kind (ok.gk x g) (loadGlobal_global (by rw [ok.glb]; exact h1) h3 fin) hd
  · exact Name_function_global ok.kind (ok.gk x g) (loadGlobal_builtin (by rw [ok.glb]; exact h1) h3 (by rw [ok.bln]; exact h2) h4 fin) hd
theorem none_rep : ∀ (V : Addr → Prop) (h : Heap) (v : Value), Rep V h .none v ↔ v = .none := fun V h v => ⟨rep_none, fun e => e ▸ mk_none⟩
theorem fn_rep (a : Addr) : ∀ (V : Addr → Prop) (h : Heap) (v : Value), Rep V h (.fn a) v ↔ v = .ref a := fun V h v => ⟨rep_fn, fun e => e ▸ mk_fn⟩
set_option maxHeartbeats 8000000 in
theorem lexer_call (w : World) (d : Nat) (text : List Nat) (hz : text.length < 1000) (h128 : ∀ c ∈ text, c < 128) {V : Addr → Prop} {A : Around} {s : Shared} {Q : Value → Shared → Prop} {E : Value → Shared → Prop} {cvs : List Value} {hb : Heap}
    (gh : Ghost w hb) (b1 : Stays hb s.heap) (hV : V 86) (rm : Room A (d + 2 + 1)) (al : Alive V s.heap) (rp : Reps V s.heap [.str (S text)] cvs) (tab : s.heap.get? 86 = some (tabObj #[]))
    (k : ∀ L cv h' tk, (∀ b o, b ≠ 86 → s.heap.get? b = some o → h'.get? b = some o) → (∃ ps, h'.get? 86 = some (tabObj ps)) → LexV w hb h' L ⟨text, 1, [], []⟩ → (∀ b, L.All b → s.heap.get? b = none) → Rep (fun b => V b ∨ L.All b) h' (.tup [.fn L.x, .fn L.g]) cv → Q cv { s with heap := h', toks := tk }) :
    wpAny (MW w) A (call (.ref 91) cvs) Q E s := by
  obtain ⟨v1, rfl, r1⟩ := reps_one rp
  refine withK (w := w) ?_
  k_fill
  intro _
  refine entry (d := d + 2) (Γ := ⟨[("text", false), ("signs", true), ("hand", false), ("stream", false)], ["list", "_netrclex"]⟩) (ns := ["text"]) (by k_is) (by k_is) (by decide) rfl rfl (gh.base.stays b1) rm al rp ?_
  intro env h₁ tk E' z st nO rm' _ hcode hqual
  simp only [List.map_nil, List.drop_succ_cons, List.drop_zero, List.length_cons, List.length_nil, List.map_cons, List.cons_append, List.nil_append, Nat.zero_add] at z
  -- signs = list(text)
  refine wpAny_execs_cons (wpAny_Assign_Name ((EvF.call (xs := text.map fun c => PV.str (S [c])) (by simp) (g_list w) (KeptC.typ _) (EvL.cons (Ev.name (p := .str (S text)) (by walk_at "at")) EvL.nil) (FcF.listS (small (by (first | lia | omega))))) env _ _ { s with heap := h₁, toks := tk } _ _ z.ok rm' fun g vs h2 tk2 st2 hn2 pl2 r2 => ?_) (swaps_false rfl))
  refine St.store (s := { s with heap := h2, toks := tk2 }) (z.stays st2) (p := .fn g) (by walk_at "put") mk_fn fun h3 tk3 z3 stp3 => ?_
  have tx : Txts (text.map one) vs := by
    have : Reps (fun b => Vol env V [] b ∨ b = g) h2 ((text.map one).map fun l => PV.str (S l)) vs := by rw [List.map_map]; exact r2
    exact Txts.of this
  have gO : ¬ Own env [] g := fun h => z.ok.new hn2 (.inr h)
  have pl3 : h3.PlainList g (List.toArray vs) := pl2.at fun o e => stp3.kp _ _ gO e
  have st3 : Stays s.heap h3 := fun b o e => stp3.kp b o (nO b o e) (st2 b o (st b o e))
  obtain ⟨cv0, l0, r0⟩ := z3.ok.slot 1 "signs" true (.fn g) rfl rfl
  obtain rfl := rep_fn r0
  obtain ⟨_, K, oK, eK, eoK, edK⟩ : (env.kindOf "signs" = some .cell ∨ env.kindOf "signs" = some .free) ∧ ∃ a o, env.cells.lookup ("signs" : Str) = some a ∧ h3.get? a = some o ∧ o.data = .cell (some (.ref g)) := by
    unfold Loads at l0; simpa using l0
  -- def hand
  obtain ⟨mean, mg, mb, X, T⟩ := id gh.base
  have b3 : Stays hb h3 := b1.trans st3
  have hgs := T.g.keeps b3
  have tab3 := st3 _ _ tab
  obtain ⟨bm, ob, q1, q2, q3, q4, q5, q6⟩ := T.bmain
  have hgP : mainGlobals ≠ 86 := fun q => by
    obtain ⟨o, _, _, e, _⟩ := T.g
    rw [q, gh.n2] at e; cases e
  have hbP : bm ≠ 86 := fun q => by rw [q, gh.n2] at q3; cases q3
  have hbG : bm ≠ mainGlobals := fun q => by
    obtain ⟨o, es, ep, e, hd, _⟩ := T.g
    rw [q, e] at q3; cases q3; rw [hd] at q6; cases q6
  refine wpAny_execs_cons (nestDef_K rfl rfl rfl ?_)
  refine makeFunction_K (s := { s with heap := h3, toks := tk3 }) (mg := mg) (c := 90) (P := 86) (ps := #[]) (clos := [("signs", K)]) ?_ z3.ok.glb hgs hcode (gh.c2.keeps b3) tab3 trivial rfl hgP ⟨bm, ob, q1, q2, hbG, hbP, b3 _ _ q3, q4, q5, q6⟩ fun c' ctv doc h4 tk4 hx hge hlt hrec htb => ?_
  · unfold closureFor
    simp only [List.forIn_cons, List.forIn_nil]
    unfold cellOf
    rw [eK]
    rfl
  have e2' : ∃ oc cvs t0, h4.get? c' = some oc ∧ oc.data = .fields cvs ∧ cvs[1]? = some (.str (qualnameIn env "hand" "hand") t0) := by
    obtain ⟨c₂, oc, cvs, t, e2, hoc, hd, hv⟩ := hrec
    cases e2
    exact ⟨oc, cvs, t, hoc, hd, hv⟩
  obtain ⟨oc, ccs, tq, eoc, ecd, ecq⟩ := e2'
  generalize hoH : fnMade _ _ _ _ _ _ _ _ _ _ = oH
  have nO3 : ∀ b o, hb.get? b = some o → ¬ Own env [] b := fun b o e => nO b o (b1 b o e)
  have kp5 : ∀ b o, b ≠ 86 → h3.get? b = some o → (h4.push oH).get? b = some o := fun b o hb' e => Heap.get?_push_of_some _ (hx b o hb' e)
  have b5 : Stays hb (h4.push oH) := fun b o e => kp5 b o (fun h => by rw [h, gh.n2] at e; cases e) (b3 b o e)
  have z5 := z3.vol (hb := hb) (h' := h4.push oH) (fun b o nv e => kp5 b o (fun h => nv (h ▸ hV)) e) (fun b hv => by
    by_cases h : b = 86
    · rw [h]; exact ⟨_, Heap.get?_push_of_some _ htb⟩
    · obtain ⟨o, e⟩ := z3.ok.al b (.inl hv); exact ⟨o, kp5 b o h e⟩) gh.base b5 nO3
  refine St.store (s := { s with heap := h4.push oH, toks := tk4 }) z5 (p := .fn h4.objs.size) (by walk_at "put") mk_fn fun h6 tk6 z6 stp6 => ?_
  -- stream = _netrclex(None)
  have b6 : Stays hb h6 := fun b o e => stp6.kp b o (nO3 b o e) (b5 b o e)
  refine wpAny_execs_cons (wpAny_Assign_Name (Call_glob (s := { s with heap := h6, toks := tk6 }) (ps := [.none]) (by simp) (GVal.glob (v := .ref 66) (by k_is) rfl) (KeptC.fn (by k_is)) (EvL.cons Ev.none EvL.nil) z6.ok rm' fun cvs h7 tk7 st7 rs => ?_) (swaps_false rfl))
  obtain ⟨v7, rfl, r7⟩ := reps_one rs
  obtain rfl := rep_none r7
  refine wpAny_call (make_inst w d (s := { s with heap := h7, toks := tk7 }) gh.base (b6.trans st7) rm' none_rep fun i1 d1 pa1 h8 tk8 m1 t1 t2 st8 nx8 nd8 np8 _ _ _ I8 _ _ _ _ hw8 _ => ?_)
  have z7 := z6.stays st7
  have z8 := z7.wide (wr := [d1]) st8 (fun b hb => by rw [List.mem_singleton.mp hb]; exact nd8) (fun b hb => by
    obtain ⟨o, _, _, e, _⟩ := I8.ns
    rw [List.mem_singleton.mp hb]; exact ⟨o, e⟩)
  refine St.store (s := { s with heap := h8, toks := tk8 }) z8 (p := .fn i1) (by walk_at "put") mk_fn fun h9 tk9 z9 stp9 => ?_
  -- stream.read = hand
  refine wpAny_execs_cons (plainObj_wpAny_Assign_Attribute ((Ev.name (w := w) (d := d) (p := .fn h4.objs.size) (by walk_at "at")) env _ _ { s with heap := h9, toks := tk9 } _ _ z9.ok (rm'.le (by (first | lia | omega))) fun v10 h10 tk10 st10 r10 => ?_))
  obtain rfl := rep_fn r10
  have nOi : ¬ Own env [] i1 := fun h => z7.ok.new nx8 (.inr h)
  have nOd : ¬ Own env [] d1 := fun h => z7.ok.new nd8 (.inr h)
  have I10 : ObjD h10 i1 d1 m1 := I8.keep (fun o e => st10 _ o (stp9.kp _ o nOi e)) fun o e => st10 _ o (stp9.kp _ o nOd e)
  have b10 : Stays hb h10 := fun b o e => st10 b o (stp9.kp b o (nO3 b o e) (st8 b o (st7 b o (b6 b o e))))
  have bd1 : hb.get? d1 = none := by
    cases e : hb.get? d1 with
    | none => rfl
    | some o => rw [st7 _ _ (b6 _ _ e)] at nd8; cases nd8
  refine set_half (s := { s with heap := h10, toks := tk10 }) (hb := hb) (z9.stays st10) I10 (by walk_at "at") (.inr (by simp)) (kx_read w) hw8 (by decide) gh.base b10 bd1 nO3 fun h11 tk11 z11 I11 kp11 b11 => ?_
  -- return (_netrclex(stream), signs)
  refine wpAny_execs_cons (wpAny_Return_some (wpAny_Tuple (wpAny_items_cons (Call_glob (s := { s with heap := h11, toks := tk11 }) (ps := [.fn i1]) (by simp) (GVal.glob (v := .ref 66) (by k_is) rfl) (KeptC.fn (by k_is)) (EvL.cons (Ev.name (by walk_at "at")) EvL.nil) z11.ok rm' fun cvs h12 tk12 st12 rs => ?_) rfl)))
  obtain ⟨v12, rfl, r12⟩ := reps_one rs
  obtain rfl := rep_fn r12
  have b12 := b11.trans st12
  refine wpAny_call (make_inst w d (s := { s with heap := h12, toks := tk12 }) gh.base b12 rm' (fn_rep i1) fun x dx pa h13 tk13 m t3 t4 st13 nx nd np x1 x2 x3 I13 a1 a2 a3 a4 hw13 plp => ?_)
  refine wpAny_items_cons ((Ev.name (w := w) (d := d) (p := .fn g) (by walk_at "at")) env _ _ { s with heap := h13, toks := tk13 } _ _ (z11.stays (st12.trans st13)).ok (rm'.le (by (first | lia | omega))) fun v14 h14 tk14 st14 r14 => ?_) rfl
  obtain rfl := rep_fn r14
  refine wpAny_items_nil ⟨two_small, ?_⟩
  dsimp only
  generalize htup : ({ cls := .type "tuple", data := .seq _ } : Obj) = tup
  have s11F : Stays h11 h14 := (st12.trans st13).trans st14
  have s13F : Stays h13 h14 := st14
  have c7F : ∀ b o, ¬ Own env [] b → h7.get? b = some o → h14.get? b = some o := fun b o no e =>
    s11F b o (kp11 b o (fun h => by rw [h, nd8] at e; cases e) (st10 b o (stp9.kp b o no (st8 b o e))))
  have c7M : ∀ b o, ¬ Own env [] b → h7.get? b = some o → h12.get? b = some o := fun b o no e =>
    st12 b o (kp11 b o (fun h => by rw [h, nd8] at e; cases e) (st10 b o (stp9.kp b o no (st8 b o e))))
  have c57 : ∀ b o, ¬ Own env [] b → (h4.push oH).get? b = some o → h7.get? b = some o := fun b o no e => st7 b o (stp6.kp b o no e)
  have n86 : ¬ Own env [] 86 := fun h => z3.v0 86 hV h
  have c37 : ∀ b o, ¬ Own env [] b → h3.get? b = some o → ∃ o', h7.get? b = some o' := fun b o no e => by
    by_cases h : b = 86
    · rw [h]; exact ⟨_, c57 _ _ n86 (Heap.get?_push_of_some _ htb)⟩
    · exact ⟨o, c57 b o no (kp5 b o h e)⟩
  have a7 : ∀ b o, s.heap.get? b = some o → ∃ o', h7.get? b = some o' := fun b o e => c37 b o (nO b o e) (st3 b o e)
  have a12 : ∀ b o, s.heap.get? b = some o → ∃ o', h12.get? b = some o' := fun b o e => let ⟨o', e'⟩ := a7 b o e; ⟨o', c7M b o' (nO b o e) e'⟩
  have g7 : h7.PlainList g (List.toArray vs) := pl3.at fun o e => c57 g o gO (kp5 g o (fun h => by
    have := st _ _ tab
    rw [← h, hn2] at this; cases this) e)
  have H3 : h3.get? h4.objs.size = none := Heap.get?_none_of_le (Nat.le_of_lt (Nat.lt_of_le_of_lt hge hlt))
  have C3 : h3.get? c' = none := Heap.get?_none_of_le hge
  have HO : ¬ Own env [] h4.objs.size := fun h => z3.ok.new H3 (.inr h)
  have CO : ¬ Own env [] c' := fun h => z3.ok.new C3 (.inr h)
  have H7 : h7.get? h4.objs.size = some oH := c57 _ _ HO (Heap.get?_push_size _ (by rw [← hoH]; rfl))
  have C7 : h7.get? c' = some oc := c57 _ _ CO (Heap.get?_push_of_some _ eoc)
  obtain ⟨cvg, lg, rg⟩ := z11.ok.slot 1 "signs" true (.fn g) rfl rfl
  obtain rfl := rep_fn rg
  obtain ⟨_, K', oK', eK', eoK', edK'⟩ : (env.kindOf "signs" = some .cell ∨ env.kindOf "signs" = some .free) ∧ ∃ a o, env.cells.lookup ("signs" : Str) = some a ∧ h11.get? a = some o ∧ o.data = .cell (some (.ref g)) := by
    unfold Loads at lg; simpa using lg
  rw [eK] at eK'; cases eK'
  have KO : Own env [] K := .inr (.inl ⟨_, eK⟩)
  obtain ⟨ng, eg7⟩ := id g7
  have g12 := c7M _ _ gO eg7
  have ne12 : ∀ {b c : Addr} {o : Obj}, h12.get? b = some o → h12.get? c = none → b ≠ c := fun e n h => by rw [h, n] at e; cases e
  have i12 : ∃ o, h12.get? i1 = some o := ⟨_, st12 _ _ I11.at_⟩
  have d12 : ∃ o, h12.get? d1 = some o := let ⟨o, _, _, e, _⟩ := I11.ns; ⟨o, st12 _ _ e⟩
  have H12 := c7M _ _ HO H7
  have C12 := c7M _ _ CO C7
  have K12 := st12 _ _ eoK'
  obtain ⟨oi, i12⟩ := i12
  obtain ⟨od, d12⟩ := d12
  have ok : Lx.Ok ⟨x, dx, pa, i1, d1, h4.objs.size, c', K, g⟩ := by
    refine ⟨⟨Ne.symm x2, Ne.symm (ne12 g12 nd), Ne.symm (ne12 g12 np)⟩, ?_, ?_, ?_, ?_, ?_, ?_⟩
    · rintro (h | h | h)
      · exact x1 h
      · exact x3 h.symm
      · exact ne12 g12 nx h.symm
    · rintro (h | h | h)
      · exact ne12 i12 nd h
      · exact ne12 i12 np h
      · have : i1 = g := h
        rw [this, eg7] at nx8; cases nx8
    · rintro (h | h | h)
      · exact ne12 d12 nd h
      · exact ne12 d12 np h
      · have : d1 = g := h
        rw [this, eg7] at nd8; cases nd8
    · rintro (h | h | h)
      · exact ne12 H12 nd h
      · exact ne12 H12 np h
      · have : h4.objs.size = g := h
        obtain ⟨n3, eg3⟩ := id pl3
        rw [this, eg3] at H3; cases H3
    · rintro (h | h | h)
      · exact ne12 C12 nd h
      · exact ne12 C12 np h
      · have : c' = g := h
        obtain ⟨n3, eg3⟩ := id pl3
        rw [this, eg3] at C3; cases C3
    · rintro (h | h | h)
      · exact ne12 K12 nd h
      · exact ne12 K12 np h
      · have : K = g := h
        exact gO (this ▸ KO)
  have fresh : ∀ b, Lx.All ⟨x, dx, pa, i1, d1, h4.objs.size, c', K, g⟩ b → s.heap.get? b = none := fun b hb' => by
    have f12 : ∀ {b : Addr}, h12.get? b = none → s.heap.get? b = none := fun {b} n => by
      cases e : s.heap.get? b with
      | none => rfl
      | some o => obtain ⟨o', e'⟩ := a12 b o e; rw [n] at e'; cases e'
    have f7 : ∀ {b : Addr}, h7.get? b = none → s.heap.get? b = none := fun {b} n => by
      cases e : s.heap.get? b with
      | none => rfl
      | some o => obtain ⟨o', e'⟩ := a7 b o e; rw [n] at e'; cases e'
    have f3 : ∀ {b : Addr}, h3.get? b = none → s.heap.get? b = none := fun {b} n => by
      cases e : s.heap.get? b with
      | none => rfl
      | some o => rw [st3 b o e] at n; cases n
    rcases hb' with (h | h | h) | h | h | h | h | h | h
    · rw [h]; exact f12 nd
    · rw [h]; exact f12 np
    · have h : b = g := h
      rw [h]
      cases e : s.heap.get? g with
      | none => rfl
      | some o => rw [st _ _ e] at hn2; cases hn2
    · rw [h]; exact f12 nx
    · rw [h]; exact f7 nx8
    · rw [h]; exact f7 nd8
    · rw [h]; exact f3 H3
    · rw [h]; exact f3 C3
    · have h : b = K := h
      rw [h]
      cases e : s.heap.get? K with
      | none => rfl
      | some o => exact absurd KO (nO _ _ e)
  have bF : Stays hb h14 := b11.trans s11F
  obtain ⟨fd, hfd⟩ : ∃ fd, oH.data = .func fd := ⟨_, by rw [← hoH]⟩
  have lx : LexV w hb h14 ⟨x, dx, pa, i1, d1, h4.objs.size, c', K, g⟩ ⟨text, 1, [], []⟩ := by
    refine ⟨ok, gh.base, bF, fun b hm => ?_, ⟨s13F _ _ I13.at_, ⟨_, I11.keep (fun o e => s11F _ o e) (fun o e => s11F _ o e), by rw [if_pos rfl]⟩, oH, oc, oK', fd, c7F _ _ HO H7, c7F _ _ CO C7, s11F _ _ eoK', hfd, ?_⟩, ⟨⟨m, t3, t4, I13.ns.at fun o e => s13F _ o e, a1, a2, a3, a4, hw13⟩, ⟨[], plp.at fun o e => s13F _ o e, .nil⟩, ⟨vs, g7.at fun o e => c7F _ o gO e, tx⟩⟩, hz, h128, by simp⟩
    · have := fresh b (.inl hm)
      cases e : hb.get? b with
      | none => rfl
      | some o => rw [b1 _ _ e] at this; cases this
    · rw [← hoH]
      exact hand_C ⟨rfl, rfl, rfl⟩ (by decide) rfl rfl rfl ⟨rfl, rfl⟩ ⟨rfl, rfl⟩ ⟨rfl, rfl⟩ (by decide) (Ev.is Ev.str (by rfl)) (fun v => rfl) ⟨ecd, ecq⟩ edK' (fun _ => rfl) rfl
  refine k ⟨x, dx, pa, i1, d1, h4.objs.size, c', K, g⟩ _ _ tk14 (fun b o hne e => ?_) ⟨_, Heap.get?_push_of_some _ (c7F _ _ n86 (c57 _ _ n86 (Heap.get?_push_of_some _ htb)))⟩ (lx.stays (Stays.push _ _)) fresh ?_
  · exact Heap.get?_push_of_some _ <| c7F b o (nO b o e) (c57 b o (nO b o e) (kp5 b o hne (st3 b o e)))
  · have nt : h14.get? h14.objs.size = none := size_new _
    rw [← htup]
    refine Rep.mkTup (vs := [.ref x, .ref g]) (fun hv => ?_) (Heap.get?_push_size _ rfl) (Reps.cons mk_fn (Reps.cons mk_fn Reps.nil))
    have al14 : ∃ o, h14.get? h14.objs.size = some o := by
      rcases hv with hv | hv
      · obtain ⟨o, e⟩ := z11.ok.al _ (.inl (.inl hv))
        exact ⟨o, st14 _ _ (st13 _ _ (st12 _ _ e))⟩
      · exact Lex.aliveA lx _ hv
    obtain ⟨o, e⟩ := al14
    rw [nt] at e; cases e
end Mine
end
noncomputable section
set_option maxRecDepth 100000
set_option maxHeartbeats 2000000
namespace Mine
open PySem.Calls
/-- an iterator that is new -/
noncomputable def IterN (w : World) (T : Expr) (p : PV) (items : List PV) : Prop :=
  ∀ (V : Addr → Prop) (A : Around) (s : Shared) (Q : Value → Shared → Prop) (E : Value → Shared → Prop) (a : Value), A.handled = none → Alive V s.heap → Rep V s.heap p a →
    (∀ I wr St h' tk, It w A V s.heap T I wr wr items St h' → Q (.ref I) { s with heap := h', toks := tk }) → wpAny (MW w) A (pyIter a) Q E s
theorem IterN.range {w : World} {T : Expr} {a b c : Int} {n : Nat} (hsmall : Builtin.Range.small a b c = true) (hn : Builtin.Range.rangeSize a b c = n) : IterN w T (.range a b c) ((rangeL a c n).map PV.int) := fun V A s Q E v hh al r k => by
  obtain ⟨r, t, u, k1, rfl, nv, hr⟩ := rep_range r
  refine wpAny_pyIter_range hr hsmall ?_
  have W := Walks.range (prog := PR) (w := w) hh s.heap.objs.size a c n
  have e : n = ((rangeL a c n).map PV.int).length := by simp [rangeL]
  have h0 : IsRangeIter (s.heap.push { cls := .type "range_iterator", data := .fields #[rawInt a, rawInt (Builtin.Range.rangeSize a b c), rawInt c] }) s.heap.objs.size (a + ((0 : Nat) : Int) * c) ((n : Int) - ((0 : Nat) : Int)) c := by
    show IsRangeIter _ _ _ _ _
    rw [hn]
    simpa using Heap.get?_push_size _ rfl
  have W' := walks_imp (P' := fun i v => ∃ q, ((rangeL a c n).map PV.int)[i]? = some q ∧ Rep V s.heap q v) W fun i v hi hv => by
    obtain ⟨t', rfl⟩ := hv
    exact ⟨PV.int (a + i * c), by simp [rangeL, hi], mk_int⟩
  have W'' : Walks PR w A s.heap.objs.size [s.heap.objs.size] [s.heap.objs.size] ((rangeL a c n).map PV.int).length (fun i v => ∃ q, ((rangeL a c n).map PV.int)[i]? = some q ∧ Rep V s.heap q v) (fun i h => IsRangeIter h s.heap.objs.size (a + (i : Nat) * c) ((n : Int) - (i : Nat)) c) := by
    rw [← e]; exact W'
  refine k _ _ _ _ s.toks ⟨W'', fun i s' v Q' E' st q => ?_, Stays.push _ _, h0, fun b hb => ?_, fun i' h'' hst b hb => ?_, fun b hb => ?_⟩
  · exact go_fields st rfl rfl (by decide) q
  · rw [List.mem_singleton.mp hb]; exact size_new _
  · rw [List.mem_singleton.mp hb]; exact ⟨_, hst⟩
  · rw [List.mem_singleton.mp hb]; exact al.size
section
variable {w : World} {f : Fx} {oa : List (Str × Addr)} {vals vals' : List Sl} {Λ Λ' : LV} {P : Out → LV → Prop}
/-- turns of a while loop -/
noncomputable def WhP (w : World) (f : Fx) (test : Expr) (body : List Stmt) (P : Out → LV → Prop) : Nat → List Sl → LV → Prop
  | 0, _, _ => False
  | n + 1, vals, Λ => ∃ b, Tr w f.d f.Γ vals test b ∧ (b = false → P (.next vals) Λ) ∧ (b = true → ExL w f vals Λ body fun out Λ' => match out with
    | .next v => WhP w f test body P n v Λ'
    | .cont v => WhP w f test body P n v Λ'
    | .brk v => P (.next v) Λ'
    | .ret p => P (.ret p) Λ')
theorem ExSL.while {test : Expr} {body : List Stmt} {pos : Pos} (n : Nat) (lp : WhP w f test body P n vals Λ) : ExSL w f vals Λ (.While test body [] pos) P := fun oa s Q E z k => by
  refine wpAny_While ?_
  refine codeAny_whileLoop (fun n s' => ∃ h' tk oa' vs Λ', s' = { s with heap := h', toks := tk } ∧ LS w f oa' vs Λ' h' ∧ WhP w f test body P n vs Λ') ?_ n ⟨s.heap, s.toks, oa, vals, Λ, rfl, z, lp⟩
  rintro n s' ⟨h', tk, oa', vs, Λ', rfl, z', hl⟩
  cases n with
  | zero => exact hl.elim
  | succ n =>
    obtain ⟨b, ht, h0, h1⟩ := hl
    refine ht f.env _ f.A { s with heap := h', toks := tk } _ _ z'.st.ok z'.rm fun h2 tk2 st2 => ?_
    cases b with
    | false =>
      simp only [Bool.false_eq_true, if_false]
      exact wpAny_execs_nil (k (.next vs) .next oa' h2 tk2 Λ' (h0 rfl) ⟨rfl, z'.stays st2⟩)
    | true =>
      simp only [if_true]
      refine h1 rfl oa' { s with heap := h2, toks := tk2 } _ _ (z'.stays st2) fun out fl oa5 h5 tk5 Λ5 hp ok => ?_
      cases out with
      | next v => obtain ⟨rfl, z5⟩ := ok; exact ⟨n, by (first | lia | omega), h5, tk5, oa5, v, Λ5, rfl, z5, hp⟩
      | cont v => obtain ⟨rfl, z5⟩ := ok; exact ⟨n, by (first | lia | omega), h5, tk5, oa5, v, Λ5, rfl, z5, hp⟩
      | brk v => obtain ⟨rfl, z5⟩ := ok; exact k (.next v) .next oa5 h5 tk5 Λ5 hp ⟨rfl, z5⟩
      | ret p => obtain ⟨cv, rfl, r5⟩ := ok; exact k (.ret p) (.ret cv) oa5 h5 tk5 Λ5 hp ⟨cv, rfl, r5⟩
noncomputable def LV.at (Λ : LV) (fz : List (Addr × Obj)) : LV := ⟨Λ.rest, Λ.ln, Λ.pb, fz⟩
/-- turns of a for loop -/
noncomputable def LpP (w : World) (f : Fx) (T : Expr) (body : List Stmt) (P : Out → LV → Prop) : List PV → List Sl → LV → Prop
  | [], vals, Λ => P (.next vals) Λ
  | p :: ps, vals, Λ => ∃ vals', AsgS w f.d f.Γ T p vals vals' ∧ ∀ V fz, (∀ b, f.V b → V b) → ExL w { f with V := V } vals' (Λ.at fz) body fun out Λ' => Λ'.fz = fz ∧ match out with
    | .next v => LpP w f T body P ps v (Λ'.at Λ.fz)
    | .cont v => LpP w f T body P ps v (Λ'.at Λ.fz)
    | .brk v => P (.next v) (Λ'.at Λ.fz)
    | .ret p => P (.ret p) (Λ'.at Λ.fz)
theorem objs_at {h : Heap} : ∀ (l : List Addr), (∀ b ∈ l, ∃ o, h.get? b = some o) → ∃ os : List (Addr × Obj), (∀ x ∈ os, h.get? x.1 = some x.2 ∧ x.1 ∈ l) ∧ ∀ b ∈ l, ∃ o, (b, o) ∈ os
  | [], _ => ⟨[], fun _ h => (nomatch h), fun _ h => (nomatch h)⟩
  | b :: l, hl => by
    obtain ⟨o, e⟩ := hl b (by simp)
    obtain ⟨os, h1, h2⟩ := objs_at l fun c hc => hl c (List.mem_cons_of_mem _ hc)
    refine ⟨(b, o) :: os, fun x hx => ?_, fun c hc => ?_⟩
    · rcases List.mem_cons.mp hx with rfl | hx
      · exact ⟨e, by simp⟩
      · exact ⟨(h1 x hx).1, List.mem_cons_of_mem _ (h1 x hx).2⟩
    · rcases List.mem_cons.mp hc with rfl | hc
      · exact ⟨o, by simp⟩
      · obtain ⟨o', m⟩ := h2 c hc; exact ⟨o', List.mem_cons_of_mem _ m⟩
theorem ExSL.loop {T e : Expr} {body : List Stmt} {pos : Pos} {p : PV} {items : List PV} (h : Ev w f.d f.Γ vals e p) (it : IterN w T p items) (lp : LpP w f T body P items vals Λ) (flat : ∀ q ∈ items, ∀ V V' h h' v, Rep V h q v → Rep V' h' q v)
    (hs : ∀ env x, foldedSetIterable e env x = Pure.pure x := by intro _ _; rfl) : ExSL w f vals Λ (.For T e body [] pos) P := fun oa s Q E z k => by
  refine wpAny_For (h f.env _ f.A s _ _ z.st.ok z.rm fun cv h1 tk1 st1 r1 => ?_) (hs f.env)
  have z1 := z.stays st1
  refine it _ f.A _ _ _ cv z.rm.hh z1.st.ok.al r1 fun I wr St' h2 tk2 W => ?_
  have ha0 : ∀ b ∈ wr, ∃ o, h2.get? b = some o := fun b hb => W.alv 0 h2 W.s0 b hb
  have nA : ∀ b ∈ wr, ¬ f.L.All b := fun b hb hm => W.fpV b hb (.inl (z1.va b hm))
  have n0 : ∀ b ∈ wr, f.h0.get? b = none := fun b hb => (z1.new (W.wr0 b hb)).2
  -- the frame with the iterator
  have z2 : LS w { f with V := fun b => f.V b ∨ b ∈ wr } oa vals Λ h2 := ⟨St.wide z1.st W.st W.wr0 ha0, z1.lx.stays W.st, fun b hb => .inl (z1.va b hb), fun b o n e => W.st b o (z1.kp b o n e), z1.no, z1.b0, fun x hx => ⟨W.st _ _ (z1.fz x hx).1, .inl (z1.fz x hx).2.1, (z1.fz x hx).2.2⟩, z1.rm⟩
  have fV : ∀ x ∈ Λ.fz, f.V x.1 := fun x hx => (z1.fz x hx).2.1
  refine codeAny_forLoop_any (fun n s' => ∃ h' tk oa' vs Λ' i, s' = { s with heap := h', toks := tk } ∧ St' i h' ∧ LS w { f with V := fun b => f.V b ∨ b ∈ wr } oa' vs Λ' h' ∧ (∀ x ∈ Λ'.fz, f.V x.1) ∧ LpP w f T body P (items.drop i) vs Λ' ∧ i ≤ items.length ∧ n = items.length + 1 - i) ?_ (items.length + 1)
    ⟨h2, tk2, oa, vals, Λ, 0, rfl, W.s0, z2, fV, by simpa using lp, Nat.zero_le _, rfl⟩
  rintro n s' ⟨h', tk, oa', vs, Λ', i, rfl, hst, z', fV', hl, hi, rfl⟩
  -- a step of the iterator
  have nx : ∀ h3 : Heap, (∀ b o, b ∉ wr → h'.get? b = some o → h3.get? b = some o) → (∀ b ∈ wr, ∃ o, h3.get? b = some o) → LS w { f with V := fun b => f.V b ∨ b ∈ wr } oa' vs Λ' h3 := fun h3 hk ha => by
    have lx3 : LexV w f.hb h3 f.L Λ' := z'.lx.keepA (fun b o hb e => hk b o (fun h => nA b h hb) e) fun b o e => hk b o (fun h => by
      have := n0 b h
      rw [z'.b0 _ _ e] at this; cases this) (z'.lx.b1 b o e)
    refine ⟨z'.st.vol (hb := f.hb) (fun b o nv e => hk b o (fun h => nv (.inr h)) e) (fun b hv => ?_) lx3.b0 lx3.b1 z'.hno, lx3, z'.va, fun b o nm e => hk b o (fun h => by rw [n0 b h] at e; cases e) (z'.kp b o nm e), z'.no, z'.b0, fun x hx => ?_, z'.rm⟩
    · by_cases hb : b ∈ wr
      · exact ha b hb
      · obtain ⟨o, e⟩ := z'.st.ok.al b (.inl hv); exact ⟨o, hk b o hb e⟩
    · refine ⟨hk _ _ (fun h => ?_) (z'.fz x hx).1, (z'.fz x hx).2⟩
      exact W.fpV _ h (.inl (fV' x hx))
  by_cases hlt : i < items.length
  · refine W.W.item i _ _ _ hlt hst fun v h3 tk3 hP hst3 hk3 => ?_
    have z3 := nx h3 hk3 fun b hb => W.alv (i + 1) h3 hst3 b hb
    refine W.go (i + 1) { s with heap := h3, toks := tk3 } v _ _ hst3 ?_
    obtain ⟨q, hq, rq⟩ := hP
    have hdrop : items.drop i = q :: items.drop (i + 1) := by
      obtain ⟨hlt', hq'⟩ := List.getElem?_eq_some_iff.mp hq
      rw [← hq', List.drop_eq_getElem_cons hlt']
    rw [hdrop] at hl
    obtain ⟨vs', ha, hx⟩ := hl
    have rq3 : Rep (Vol f.env (fun b => f.V b ∨ b ∈ wr) oa') h3 q v := flat q (List.mem_of_getElem? hq) _ _ _ _ _ rq
    refine ha f.env _ oa' f.A { s with heap := h3, toks := tk3 } _ _ v z3.st z3.rm rq3 fun h4 tk4 st4 stp4 => ?_
    have z4 := z3.step st4 stp4
    have al4 : ∀ b ∈ wr, ∃ o, h4.get? b = some o := fun b hb => z4.st.ok.al b (.inl (.inr hb))
    obtain ⟨os, o1, o2⟩ := objs_at wr al4
    have z4' : LS w { f with V := fun b => f.V b ∨ b ∈ wr } oa' vs' (Λ'.at (os ++ Λ'.fz)) h4 := ⟨z4.st, z4.lx, z4.va, z4.kp, z4.no, z4.b0, fun x hx => by
      rcases List.mem_append.mp hx with hx | hx
      · exact ⟨(o1 x hx).1, .inr (o1 x hx).2, nA _ (o1 x hx).2, n0 _ (o1 x hx).2⟩
      · exact z4.fz x hx, z4.rm⟩
    refine hx (fun b => f.V b ∨ b ∈ wr) _ (fun b h => .inl h) oa' { s with heap := h4, toks := tk4 } _ _ z4' fun out fl oa5 h5 tk5 Λ5 hp ok => ?_
    obtain ⟨hf5, hp⟩ := hp
    have back : ∀ {v h}, LS w { f with V := fun b => f.V b ∨ b ∈ wr } oa5 v Λ5 h → LS w { f with V := fun b => f.V b ∨ b ∈ wr } oa5 v (Λ5.at Λ'.fz) h := fun {v h} z => ⟨z.st, z.lx, z.va, z.kp, z.no, z.b0, fun x hx => z.fz x (by rw [hf5]; exact List.mem_append_right _ hx), z.rm⟩
    have fr : ∀ {v}, LS w { f with V := fun b => f.V b ∨ b ∈ wr } oa5 v Λ5 h5 → St' (i + 1) h5 := fun {v} z => W.W.frame _ _ _ hst3 fun b hb o e => by
      have e4 := stp4.kp b o (z3.st.v0 b (.inr hb)) e
      obtain ⟨o', m⟩ := o2 b hb
      have := (o1 _ m).1
      rw [e4] at this; cases this
      exact (z.fz _ (by rw [hf5]; exact List.mem_append_left _ m)).1
    have nar : ∀ {v}, LS w { f with V := fun b => f.V b ∨ b ∈ wr } oa5 v Λ5 h5 → LS w f oa5 v (Λ5.at Λ'.fz) h5 := fun {v} z5 => ⟨z5.st.narrow fun b h => .inl h, z5.lx, z.va, z5.kp, z5.no, z5.b0, fun x hx => ⟨((back z5).fz x hx).1, fV' x hx, ((back z5).fz x hx).2.2⟩, z5.rm⟩
    cases out with
    | next v => obtain ⟨rfl, z5⟩ := ok; exact ⟨_, by (first | lia | omega), h5, tk5, oa5, v, Λ5.at Λ'.fz, i + 1, rfl, fr z5, back z5, fV', hp, hlt, rfl⟩
    | cont v => obtain ⟨rfl, z5⟩ := ok; exact ⟨_, by (first | lia | omega), h5, tk5, oa5, v, Λ5.at Λ'.fz, i + 1, rfl, fr z5, back z5, fV', hp, hlt, rfl⟩
    | brk v => obtain ⟨rfl, z5⟩ := ok; exact k (.next v) .next oa5 h5 tk5 (Λ5.at Λ'.fz) hp ⟨rfl, nar z5⟩
    | ret p => obtain ⟨cv, rfl, r5, g1, g2, g3⟩ := ok; exact k (.ret p) (.ret cv) oa5 h5 tk5 (Λ5.at Λ'.fz) hp ⟨cv, rfl, r5.mono fun b o nb e => ⟨fun h => nb (.inl h), e⟩, g1, g2, fun x hx => g3 x (by rw [hf5]; exact List.mem_append_right _ hx)⟩
  · have hin : i = items.length := by (first | lia | omega)
    subst hin
    refine W.W.done _ _ _ hst fun h3 tk3 hk3 => wpAny_execs_nil ?_
    rw [List.drop_length] at hl
    have nw : ∀ b, f.V b → b ∉ wr := fun b hv hb => W.fpV b hb (.inl hv)
    have lx3 : LexV w f.hb h3 f.L Λ' := z'.lx.keepA (fun b o hb e => hk3 b o (fun h => nA b h hb) e) fun b o e => hk3 b o (fun h => by
      have := n0 b h
      rw [z'.b0 _ _ e] at this; cases this) (z'.lx.b1 b o e)
    refine k (.next vs) .next oa' h3 tk3 Λ' hl ⟨rfl, ?_, lx3, z.va, fun b o nm e => hk3 b o (fun h => by rw [n0 b h] at e; cases e) (z'.kp b o nm e), z'.no, z'.b0, fun x hx => ⟨hk3 _ _ (nw _ (fV' x hx)) (z'.fz x hx).1, fV' x hx, (z'.fz x hx).2.2⟩, z'.rm⟩
    exact z'.st.volN (hb := f.hb) (fun b h => .inl h) (fun b o nv e => hk3 b o (fun h => nv (.inr h)) e) (fun b hv => by
      obtain ⟨o, e⟩ := z'.st.ok.al b (.inl (.inl hv)); exact ⟨o, hk3 b o (nw b hv) e⟩) lx3.b0 lx3.b1 z'.hno
end
end Mine
end
noncomputable section
set_option maxRecDepth 100000
namespace Mine
open PySem.Calls
/-- _ellipsis_match of a token and a text -/
theorem ell_row (w : World) (d : Nat) (s g pl : List Nat) (h46 : 46 ∉ s) (hs : s.length ≤ 3) (hg : g.length ≤ 5) : Fc w (d + 1) (.ref 21) [.str (S (tokR (pin pl) 0 s)), .str (S g)] (.bool (fitB pl (needsOf s g))) := by
  have hlen := tok_len (pin pl) s 0
  have hd := pcs_dot (pin pl) s 0 h46
  have key : (Dec (pcs (pin pl) 0 s) g) ↔ fitB pl (needsOf s g) = true := (dec_fit (pin pl) s 0 g).trans (fitB_iff pl s g hg).symm
  rw [← glue_pcs] at hlen ⊢
  obtain ⟨h, t, e⟩ := pcs_ne (pin pl) 0 s
  rw [e] at hlen key hd ⊢
  rcases List.eq_nil_or_concat t with rfl | ⟨mid, q, rfl⟩
  · refine Fc.is (ell_one w d h g (hd h (by simp))) (congrArg PV.bool ?_)
    rw [Bool.eq_iff_iff, ← key, decide_eq_true_iff]
    exact ⟨fun e => e.symm, fun e => Eq.symm e⟩
  · rw [List.concat_eq_append] at hlen key hd ⊢
    refine Fc.is (ell_spec w d h mid q g hd (by (first | lia | omega)) (by (first | lia | omega))) (congrArg PV.bool ?_)
    rw [Bool.eq_iff_iff, em_dec]
    exact key
theorem tok_none {P : Nat → Bool} : ∀ {s : List Nat} {i : Nat}, (∀ j, i ≤ j → P j = false) → tokR P i s = s
  | [], i, h => by unfold tokR; rw [h i (Nat.le_refl _)]; rfl
  | c :: s, i, h => by
    unfold tokR
    rw [h i (Nat.le_refl _), tok_none fun j hj => h j (by (first | lia | omega))]; rfl
theorem tok_one {P : Nat → Bool} : ∀ {s : List Nat} {i n : Nat}, n ≤ s.length → (∀ j, i ≤ j → P j = decide (j = i + n)) → tokR P i s = s.take n ++ dots ++ s.drop n
  | [], i, n, hn, h => by
    have h0 := h i (Nat.le_refl _)
    have : n = 0 := by simpa using hn
    subst this
    unfold tokR; rw [h0]; simp
  | c :: s, i, 0, hn, h => by
    have h0 := h i (Nat.le_refl _)
    unfold tokR
    rw [h0, tok_none fun j hj => by rw [h j (by (first | lia | omega))]; simp; (first | lia | omega)]
    simp
  | c :: s, i, n + 1, hn, h => by
    have h0 := h i (Nat.le_refl _)
    have hf : decide (i = i + (n + 1)) = false := by simp
    unfold tokR
    rw [h0, hf, tok_one (n := n) (by simpa using hn) fun j hj => by rw [h j (by (first | lia | omega))]; congr 1; simp only [eq_iff_iff]; (first | lia | omega)]
    simp
/-- the part behind the last dots -/
theorem tok_last {P : Nat → Bool} : ∀ {s : List Nat} {i k : Nat}, i ≤ k → k ≤ i + s.length → P k = true → (∀ j, k < j → P j = false) →
    ∃ U, tokR P i s = U ++ dots ++ s.drop (k - i) ∧ ∀ q (P' : Nat → Bool), k < q → q ≤ i + s.length → (∀ j, P' j = (P j || decide (j = q))) → tokR P' i s = U ++ dots ++ (s.drop (k - i)).take (q - k) ++ dots ++ s.drop (q - i)
  | [], i, k, h1, h2, hk, hn => by
    have : k = i := by simp at h2; (first | lia | omega)
    subst this
    refine ⟨[], by unfold tokR; rw [hk]; simp, fun q P' hq hq2 => ?_⟩
    simp at hq2; (first | lia | omega)
  | c :: s, i, k, h1, h2, hk, hn => by
    by_cases e : k = i
    · subst e
      refine ⟨[], ?_, fun q P' hq hq2 hP => ?_⟩
      · unfold tokR
        rw [hk, tok_none fun j hj => hn j (by (first | lia | omega))]
        simp
      · unfold tokR
        have h0 : P' k = true := by rw [hP, hk]; rfl
        have hlen : q - (k + 1) ≤ s.length := by simp at hq2; (first | lia | omega)
        rw [h0, tok_one (n := q - (k + 1)) hlen fun j hj => by
          rw [hP, hn j (by (first | lia | omega)), Bool.false_or]; congr 1; simp only [eq_iff_iff]; (first | lia | omega)]
        obtain ⟨n, hqn⟩ : ∃ n, q - k = n + 1 := ⟨q - k - 1, by (first | lia | omega)⟩
        have e2 : q - (k + 1) = n := by (first | lia | omega)
        rw [e2, hqn]
        simp
    · obtain ⟨U, e1, e2⟩ := tok_last (P := P) (s := s) (i := i + 1) (k := k) (by (first | lia | omega)) (by simp at h2; (first | lia | omega)) hk hn
      have hd : k - i = (k - (i + 1)) + 1 := by (first | lia | omega)
      refine ⟨(if P i then dots else []) ++ c :: U, ?_, fun q P' hq hq2 hP => ?_⟩
      · unfold tokR
        rw [e1, hd, List.drop_succ_cons]
        simp
      · unfold tokR
        have h0 : P' i = P i := by rw [hP]; have : decide (i = q) = false := by simp; (first | lia | omega)
                                   rw [this, Bool.or_false]
        have hdq : q - i = (q - (i + 1)) + 1 := by (first | lia | omega)
        rw [h0, e2 q P' hq (by simp at hq2; (first | lia | omega)) hP, hd, List.drop_succ_cons, hdq, List.drop_succ_cons]
        simp
/-- the next tokens of a token -/
noncomputable def kids (m : Nat) (pl : List Nat) : List (List Nat) := match pl.getLast? with
  | none => (List.range' 0 m).map fun p => [p]
  | some k => (List.range' (k + 1) (m - (k + 1))).map fun p => pl ++ [p]
/-- places in order -/
noncomputable def Wf (m : Nat) (pl : List Nat) : Prop := ∀ k, pl.getLast? = some k → k < m ∧ ∀ j ∈ pl, j ≤ k
theorem wf_nil {m : Nat} : Wf m [] := fun k h => by simp at h
theorem wf_kids {m : Nat} {pl : List Nat} (h : Wf m pl) : ∀ x ∈ kids m pl, Wf m x := fun x hx => by
  unfold kids at hx
  cases e : pl.getLast? with
  | none =>
    rw [e] at hx
    obtain ⟨p, hp, rfl⟩ := List.mem_map.mp hx
    rw [List.mem_range'] at hp
    obtain ⟨i, hi, rfl⟩ := hp
    intro k hk
    simp at hk; subst hk
    exact ⟨by (first | lia | omega), fun j hj => by simp at hj; (first | lia | omega)⟩
  | some k0 =>
    rw [e] at hx
    obtain ⟨p, hp, rfl⟩ := List.mem_map.mp hx
    rw [List.mem_range'] at hp
    obtain ⟨i, hi, rfl⟩ := hp
    obtain ⟨h1, h2⟩ := h k0 e
    intro k hk
    simp at hk; subst hk
    refine ⟨by (first | lia | omega), fun j hj => ?_⟩
    rcases List.mem_append.mp hj with hj | hj
    · have := h2 j hj; (first | lia | omega)
    · simp at hj; (first | lia | omega)
/-- a token: what stands ahead of its last part, the last part, the tokens made of it -/
theorem tok_parts {s pl : List Nat} (h46 : 46 ∉ s) (hw : Wf (s.length + 1) pl) : ∃ hd tl, tokR (pin pl) 0 s = hd ++ tl ∧ tl.length ≤ s.length ∧ ((46 ∉ tokR (pin pl) 0 s ∧ tl = tokR (pin pl) 0 s) ∨ ∃ u, tokR (pin pl) 0 s = u ++ 46 :: tl ∧ 46 ∉ tl) ∧ hd.length ≤ 4 * s.length + 3 ∧
    ((List.range' (if hd = [] then 0 else 1) (tl.length + 1 - (if hd = [] then 0 else 1))).map fun p => hd ++ tl.take p ++ dots ++ tl.drop p) = (kids (s.length + 1) pl).map fun x => tokR (pin x) 0 s := by
  have hlen := tok_len (pin pl) s 0
  cases e : pl.getLast? with
  | none =>
    have hpl : pl = [] := by simpa using e
    subst hpl
    have e0 : tokR (pin []) 0 s = s := tok_none fun j _ => by simp [pin]
    refine ⟨[], s, by rw [e0]; rfl, Nat.le_refl _, .inl ⟨by rw [e0]; exact h46, e0.symm⟩, by simp, ?_⟩
    unfold kids
    simp only [List.getLast?_nil, if_true, Nat.sub_zero, List.map_map]
    refine List.map_congr_left fun p hp => ?_
    rw [List.mem_range'] at hp
    obtain ⟨i, hi, rfl⟩ := hp
    show [] ++ s.take (0 + 1 * i) ++ dots ++ s.drop (0 + 1 * i) = tokR (pin [0 + 1 * i]) 0 s
    rw [tok_one (i := 0) (n := 0 + 1 * i) (by (first | lia | omega)) fun j _ => by simp [pin]]
    simp
  | some k =>
    obtain ⟨hk, hm⟩ := hw k e
    have hmem : k ∈ pl := List.mem_of_getLast? e
    obtain ⟨U, e1, e2⟩ := tok_last (P := pin pl) (s := s) (i := 0) (k := k) (by (first | lia | omega)) (by (first | lia | omega)) (by simp [pin, hmem]) fun j hj => by
      simp only [pin, decide_eq_false_iff_not]
      intro h; have := hm j h; (first | lia | omega)
    rw [Nat.sub_zero] at e1 e2
    refine ⟨U ++ dots, s.drop k, e1, by simp, .inr ⟨U ++ [46, 46], by rw [e1]; simp [dots], fun h => h46 (List.mem_of_mem_drop h)⟩, by
      rw [e1] at hlen; simp [dots] at hlen ⊢; (first | lia | omega), ?_⟩
    have hne : U ++ dots ≠ [] := by simp [dots]
    rw [if_neg hne]
    unfold kids
    rw [e]
    simp only [List.map_map, List.length_drop]
    have er : List.range' (k + 1) (s.length + 1 - (k + 1)) = (List.range' 1 (s.length - k + 1 - 1)).map (k + ·) := by
      rw [List.map_add_range']; congr 1; (first | lia | omega)
    rw [er, List.map_map]
    refine List.map_congr_left fun p hp => ?_
    rw [List.mem_range'] at hp
    obtain ⟨i, hi, rfl⟩ := hp
    have := e2 (k + (1 + 1 * i)) (pin (pl ++ [k + (1 + 1 * i)])) (by (first | lia | omega)) (by (first | lia | omega)) fun j => by simp [pin]
    show U ++ dots ++ (s.drop k).take (1 + 1 * i) ++ dots ++ (s.drop k).drop (1 + 1 * i) = tokR (pin (pl ++ [k + (1 + 1 * i)])) 0 s
    rw [this, List.drop_drop, Nat.add_sub_cancel_left, Nat.sub_zero]
/-- the queue's order -/
noncomputable def bfs (m : Nat) : Nat → List (List Nat) → List (List Nat) × List (List Nat)
  | 0, q => ([], q)
  | n + 1, [] => ([], [])
  | n + 1, pl :: q => (pl :: (bfs m n (q ++ kids m pl)).1, (bfs m n (q ++ kids m pl)).2)
theorem bfs_sel {m : Nat} (h : m = 2 ∨ m = 3 ∨ m = 4) : bfs m (2 ^ m) [[]] = (sel m, []) := by
  rcases h with rfl | rfl | rfl <;> decide +kernel
end Mine
end
noncomputable section
set_option maxRecDepth 100000
set_option maxHeartbeats 2000000
namespace Mine
open PySem.Calls
/-- the lexer stands ahead of r, at the row n once the row's end is read -/
noncomputable def Ahead (r : List Nat) (n : Int) (Λ : LV) : Prop := ∃ ws, (ws = [] ∨ ws = [10]) ∧ Λ.rest = ws ++ r ∧ Λ.ln + ws.length = n
theorem read_word (w : World) (d : Nat) (hb : Heap) (L : Lx) {Λ : LV} {word r : List Nat} {q : Bool} {n : Int} (hf : Λ.fz = []) (hpb : Λ.pb = []) (h : Ahead (spelled word q ++ 10 :: r) n Λ) (hne : word ≠ []) (hl : word.length ≤ 100) (hs : ∀ c ∈ word, c ∈ syms) :
    ∃ Λ', Λ'.fz = [] ∧ Λ'.pb = [] ∧ Ahead r (n + 1) Λ' ∧ LCall w (d + 4 + 1) 56 [] hb L Λ Λ' (.str (S word)) := by
  obtain ⟨ws, hw, e, hn⟩ := h
  cases q with
  | false =>
    refine ⟨⟨r, Λ.ln + (ws.length + 1), [], []⟩, rfl, rfl, ⟨[], .inl rfl, rfl, by show Λ.ln + (ws.length + 1) + (0 : Nat) = n + 1; (first | lia | omega)⟩, ?_⟩
    exact get_spec w d hb L Λ word r (ws.length + 1) [] hf (.inr ⟨hpb, rfl, ws, _, hw, e, .inr ⟨hne, hl, hs, .inl ⟨by simp [spelled], rfl⟩⟩⟩)
  | true =>
    refine ⟨⟨10 :: r, Λ.ln + ws.length, [], []⟩, rfl, rfl, ⟨[10], .inr rfl, rfl, by show Λ.ln + ws.length + (1 : Nat) = n + 1; (first | lia | omega)⟩, ?_⟩
    exact get_spec w d hb L Λ word (10 :: r) ws.length [] hf (.inr ⟨hpb, rfl, ws, _, hw, e, .inr ⟨hne, hl, hs, .inr ⟨by simp [spelled], rfl⟩⟩⟩)
theorem read_end (w : World) (d : Nat) (hb : Heap) (L : Lx) {Λ : LV} {n : Int} (hf : Λ.fz = []) (hpb : Λ.pb = []) (h : Ahead [] n Λ) : LCall w (d + 4 + 1) 56 [] hb L Λ ⟨[], n, [], []⟩ (.str (S [])) := by
  obtain ⟨ws, hw, e, hn⟩ := h
  have := get_spec w d hb L Λ [] [] ws.length [] hf (.inr ⟨hpb, rfl, ws, [], hw, e, .inl ⟨rfl, rfl, rfl, rfl⟩⟩)
  rwa [hn] at this
theorem push_any (w : World) (d : Nat) (hb : Heap) (L : Lx) (Λ : LV) (l : List Nat) (hz : Λ.pb.length < 499) : LCall w (d + 1) 63 [l] hb L Λ ⟨Λ.rest, Λ.ln, Λ.pb ++ [l], Λ.fz⟩ .none := push_spec w d hb L ⟨Λ.rest, Λ.ln, Λ.pb, []⟩ l rfl hz
theorem bfs_len {m : Nat} : ∀ (n : Nat) (q : List (List Nat)), (bfs m n q).2 = [] → q.length ≤ (bfs m n q).1.length
  | 0, q, h => by simp [bfs] at h; simp [h]
  | n + 1, [], _ => by simp
  | n + 1, pl :: q, h => by
    simp only [bfs] at h ⊢
    have := bfs_len n _ h
    simp at this ⊢; (first | lia | omega)
section
variable {w : World} {f : Fx} {test : Expr} {body : List Stmt} {P : Out → LV → Prop} {long : List Nat}
/-- the run's frame -/
noncomputable abbrev rv (L : Lx) (long : List Nat) (D : List Row3) (l : List Nat) (x y z : Sl) : List Sl := [.val (.fn L.x), .val (.str (S long)), .own (D.map rowV), .val (.str (S l)), x, y, z]
theorem phase (hT : ∀ D l x y z, D.length ≤ 40 → l.length ≤ 100 → Tr w f.d f.Γ (rv f.L long D l x y z) test (decide (l ≠ [] ∧ D.length < 40)))
    (hB : ∀ D s pl Λ tk' Λ' x y z, D.length ≤ 40 → Wd s → Wf (s.length + 1) pl → Λ.fz = [] → Λ.pb.length ≤ 100 → LCall w f.d 56 [] f.hb f.L ⟨Λ.rest, Λ.ln, Λ.pb ++ (kids (s.length + 1) pl).map fun x => tokR (pin x) 0 s, []⟩ Λ' (.str (S tk')) → Λ'.fz = [] →
      ExL w f (rv f.L long D (tokR (pin pl) 0 s) x y z) Λ body fun o l => l = Λ' ∧ ∃ x y z, o = .next (rv f.L long (D ++ [rowOf s long pl]) tk' x y z))
    (hG : ∀ (Λ : LV) tk pb, Λ.fz = [] → Λ.pb = tk :: pb → LCall w f.d 56 [] f.hb f.L Λ ⟨Λ.rest, Λ.ln, pb, []⟩ (.str (S tk)))
    {s : List Nat} (hs : Wd s) (K : Nat) {rest tk1 : List Nat} {ln : Int} {Λ1 : LV} (h1 : LCall w f.d 56 [] f.hb f.L ⟨rest, ln, [], []⟩ Λ1 (.str (S tk1))) (hf1 : Λ1.fz = []) :
    ∀ (n : Nat) (pl : List Nat) (q : List (List Nat)) (D : List Row3) (x y z : Sl), (bfs (s.length + 1) n (pl :: q)).2 = [] → (bfs (s.length + 1) n (pl :: q)).1.length = n → (∀ a ∈ pl :: q, Wf (s.length + 1) a) → D.length + n ≤ 40 →
      (∀ x y z, WhP w f test body P K (rv f.L long (D ++ (bfs (s.length + 1) n (pl :: q)).1.map (rowOf s long)) tk1 x y z) Λ1) →
      WhP w f test body P (n + K) (rv f.L long D (tokR (pin pl) 0 s) x y z) ⟨rest, ln, q.map fun x => tokR (pin x) 0 s, []⟩
  | 0, pl, q, D, x, y, z, hb, _, _, _, _ => by simp [bfs] at hb
  | n + 1, pl, q, D, x, y, z, hb, hl, hw, hD, hk => by
    have hql := bfs_len _ _ hb
    rw [hl] at hql
    simp only [List.length_cons] at hql
    have htl := tok_len (pin pl) s 0
    have hs3 := hs.2.1
    have hne : tokR (pin pl) 0 s ≠ [] := by
      obtain ⟨h0, _⟩ := hs
      cases s with
      | nil => exact absurd rfl h0
      | cons c s => unfold tokR; simp
    rw [show n + 1 + K = (n + K) + 1 by (first | lia | omega)]
    refine ⟨true, ?_, fun h => (by cases h), fun _ => ?_⟩
    · have := hT D (tokR (pin pl) 0 s) x y z (by (first | lia | omega)) (by (first | lia | omega))
      rwa [decide_eq_true (⟨hne, by (first | lia | omega)⟩ : _ ∧ _)] at this
    simp only [bfs] at hb hl hk
    simp only [List.length_cons, Nat.add_right_cancel_iff] at hl
    cases hq : q ++ kids (s.length + 1) pl with
    | nil =>
      obtain ⟨rfl, hkd⟩ := List.append_eq_nil_iff.mp hq
      have hn0 : n = 0 := by
        rw [hq] at hl
        cases n with
        | zero => rfl
        | succ n => simp [bfs] at hl
      subst hn0
      refine (hB D s pl _ tk1 Λ1 x y z (by (first | lia | omega)) hs (hw pl (by simp)) rfl (by simp) (by rw [hkd]; exact h1) hf1).mono fun o l hp => ?_
      obtain ⟨rfl, x', y', z', rfl⟩ := hp
      have := hk x' y' z'
      rw [hq] at this
      simp only [bfs, List.map_cons, List.map_nil] at this
      rw [Nat.zero_add]
      exact this
    | cons pl' q' =>
      have hm : (q.map fun x => tokR (pin x) 0 s) ++ (kids (s.length + 1) pl).map (fun x => tokR (pin x) 0 s) = tokR (pin pl') 0 s :: q'.map fun x => tokR (pin x) 0 s := by
        rw [← List.map_append, hq]; rfl
      refine (hB D s pl _ (tokR (pin pl') 0 s) ⟨rest, ln, q'.map fun x => tokR (pin x) 0 s, []⟩ x y z (by (first | lia | omega)) hs (hw pl (by simp)) rfl (by simp; (first | lia | omega)) (by dsimp only; rw [hm]; exact hG _ _ _ rfl rfl) rfl).mono fun o l hp => ?_
      obtain ⟨rfl, x', y', z', rfl⟩ := hp
      rw [hq] at hb hl
      refine phase hT hB hG hs K h1 hf1 n pl' q' (D ++ [rowOf s long pl]) x' y' z' hb hl (fun a ha => ?_) (by simp; (first | lia | omega)) fun x y z => ?_
      · rw [← hq] at ha
        rcases List.mem_append.mp ha with ha | ha
        · exact hw a (by simp [ha])
        · exact wf_kids (hw pl (by simp)) a ha
      · have := hk x y z
        rw [hq] at this
        simpa using this
theorem sel_size {m : Nat} (h : m = 2 ∨ m = 3 ∨ m = 4) : (sel m).length = 2 ^ m := by
  rcases h with rfl | rfl | rfl <;> decide +kernel
theorem wd_m {s : List Nat} (h : Wd s) : s.length + 1 = 2 ∨ s.length + 1 = 3 ∨ s.length + 1 = 4 := by
  obtain ⟨h1, h2, _⟩ := h
  have : s.length ≠ 0 := fun e => h1 (List.eq_nil_of_length_eq_zero e)
  (first | lia | omega)
noncomputable def rowsOf (long s : List Nat) : List Row3 := (sel (s.length + 1)).map (rowOf s long)
theorem phases (hT : ∀ D l x y z, D.length ≤ 40 → l.length ≤ 100 → Tr w f.d f.Γ (rv f.L long D l x y z) test (decide (l ≠ [] ∧ D.length < 40)))
    (hB : ∀ D s pl Λ tk' Λ' x y z, D.length ≤ 40 → Wd s → Wf (s.length + 1) pl → Λ.fz = [] → Λ.pb.length ≤ 100 → LCall w f.d 56 [] f.hb f.L ⟨Λ.rest, Λ.ln, Λ.pb ++ (kids (s.length + 1) pl).map fun x => tokR (pin x) 0 s, []⟩ Λ' (.str (S tk')) → Λ'.fz = [] →
      ExL w f (rv f.L long D (tokR (pin pl) 0 s) x y z) Λ body fun o l => l = Λ' ∧ ∃ x y z, o = .next (rv f.L long (D ++ [rowOf s long pl]) tk' x y z))
    (hG : ∀ (Λ : LV) tk pb, Λ.fz = [] → Λ.pb = tk :: pb → LCall w f.d 56 [] f.hb f.L Λ ⟨Λ.rest, Λ.ln, pb, []⟩ (.str (S tk)))
    {s1 s2 rest : List Nat} {ln : Int} {Λ1 Λ2 : LV} {x y z : Sl} (hs1 : Wd s1) (hs2 : Wd s2) (c1 : LCall w f.d 56 [] f.hb f.L ⟨rest, ln, [], []⟩ Λ1 (.str (S s2))) (hf1 : Λ1.fz = []) (hp1 : Λ1.pb = []) (c2 : LCall w f.d 56 [] f.hb f.L Λ1 Λ2 (.str (S []))) (hf2 : Λ2.fz = [])
    (hend : ∀ x y z, P (.next (rv f.L long (rowsOf long s1 ++ rowsOf long s2) [] x y z)) Λ2) : WhP w f test body P (2 ^ (s1.length + 1) + (2 ^ (s2.length + 1) + 1)) (rv f.L long [] s1 x y z) ⟨rest, ln, [], []⟩ := by
  have e0 : ∀ s : List Nat, tokR (pin []) 0 s = s := fun s => tok_none fun j _ => by simp [pin]
  have p16 : ∀ {s : List Nat}, Wd s → 2 ^ (s.length + 1) ≤ 16 := fun {s} h => by
    rcases wd_m h with e | e | e <;> rw [e] <;> decide
  have l1 : (rowsOf long s1).length = 2 ^ (s1.length + 1) := by unfold rowsOf; rw [List.length_map, sel_size (wd_m hs1)]
  have l2 : (rowsOf long s2).length = 2 ^ (s2.length + 1) := by unfold rowsOf; rw [List.length_map, sel_size (wd_m hs2)]
  have a1 := p16 hs1
  have a2 := p16 hs2
  have w0 : ∀ m, ∀ a ∈ [([] : List Nat)], Wf m a := fun m a ha => by rw [List.mem_singleton.mp ha]; exact wf_nil
  obtain ⟨r1, n1, pb1, fz1⟩ := Λ1
  simp only at hf1 hp1
  subst hf1 hp1
  have q2 : ∀ x y z, WhP w f test body P (2 ^ (s2.length + 1) + 1) (rv f.L long (rowsOf long s1) s2 x y z) ⟨r1, n1, [], []⟩ := fun x y z => by
    have := phase (P := P) hT hB hG hs2 1 c2 hf2 (2 ^ (s2.length + 1)) [] [] (rowsOf long s1) x y z (by rw [bfs_sel (wd_m hs2)]) (by rw [bfs_sel (wd_m hs2)]; exact sel_size (wd_m hs2)) (w0 _) (by rw [l1]; (first | lia | omega)) fun x y z => by
      rw [bfs_sel (wd_m hs2)]
      refine ⟨false, ?_, fun _ => hend x y z, fun h => (by cases h)⟩
      have := hT (rowsOf long s1 ++ rowsOf long s2) [] x y z (by rw [List.length_append, l1, l2]; (first | lia | omega)) (by simp)
      rw [decide_eq_false (by simp)] at this
      exact this
    rw [e0] at this; exact this
  have := phase (P := P) hT hB hG hs1 (2 ^ (s2.length + 1) + 1) c1 rfl (2 ^ (s1.length + 1)) [] [] [] x y z (by rw [bfs_sel (wd_m hs1)]) (by rw [bfs_sel (wd_m hs1)]; exact sel_size (wd_m hs1)) (w0 _) (by simp; (first | lia | omega)) fun x y z => by
    rw [bfs_sel (wd_m hs1), List.nil_append]
    exact q2 x y z
  rw [e0] at this; exact this
theorem ExL.freeze {vals vals' : List Sl} {Λ : LV} {x : Str} {xs : List PV} {ss : List Stmt} (hx : At f.Γ.vars vals x (.own xs)) (pt : Put f.Γ.vars vals x (.val (.list xs)) vals') (h : ExL w f vals' Λ ss P) : ExL w f vals Λ ss P := fun oa s Q E z k => by
  obtain ⟨oa', z', stp⟩ := z.st.freeze hx pt
  exact h oa' s Q E (z.step z' stp) k
theorem ExSL.expr {vals : List Sl} {Λ Λ' : LV} {e : Expr} {pos : Pos} (h : EvX w f vals Λ e .none Λ') (hp : P (.next vals) Λ') (hsw : swapsWith e Option.none pos.line f.env = Pure.pure false := by rfl) : ExSL w f vals Λ (.Expr e pos) P := fun oa s Q E z k =>
  wpAny_Expr (h oa s _ _ z fun cv h' tk z1 r => by
    obtain rfl := rep_none r
    exact k (.next vals) .next oa h' tk Λ' hp ⟨rfl, z1⟩) (by unfold interactive; rw [z.st.ok.kind]; rfl) hsw
end
theorem tok_mem {P : Nat → Bool} {c : Nat} : ∀ {s : List Nat} {i : Nat}, c ∈ tokR P i s → c = 46 ∨ c ∈ s
  | [], i, h => by
    unfold tokR at h
    split at h
    · left; simpa [dots] using h
    · cases h
  | x :: s, i, h => by
    unfold tokR at h
    rcases List.mem_append.mp h with h | h
    · split at h
      · left; simpa [dots] using h
      · cases h
    · rcases List.mem_cons.mp h with rfl | h
      · exact .inr (by simp)
      · rcases tok_mem h with h | h
        · exact .inl h
        · exact .inr (by simp [h])
theorem range_lo : ∀ lo ≤ 1, ∀ k ≤ 4, Builtin.Range.small (lo : Nat) ((k : Nat) + 1 : Int) 1 = true ∧ Builtin.Range.rangeSize (lo : Nat) ((k : Nat) + 1 : Int) 1 = ((k + 1 - lo : Nat) : Int) := by decide +kernel
theorem rangeL_lo (lo n : Nat) : (rangeL (lo : Int) 1 n).map PV.int = (List.range' lo n).map ni := by
  unfold rangeL
  rw [List.map_map, List.range'_eq_map_range, List.map_map]
  refine List.map_congr_left fun i _ => ?_
  simp [ni]
set_option maxHeartbeats 8000000 in
theorem run_spec (w : World) (d : Nat) (hb : Heap) (L : Lx) {Λ : LV} {long s1 s2 : List Nat} {q0 q1 q2 : Bool} {n : Int} (hl : long ≠ [] ∧ long.length ≤ 5 ∧ ∀ c ∈ long, c ∈ syms) (hs1 : Wd s1) (hs2 : Wd s2) (hf : Λ.fz = []) (hpb : Λ.pb = []) (hA : Ahead (spelled long q0 ++ 10 :: (spelled s1 q1 ++ 10 :: (spelled s2 q2 ++ 10 :: []))) n Λ) :
    LCall w (d + 4 + 1 + 1) 113 [] hb L Λ ⟨[], n + 3, [], []⟩ (.tup [.str (S long), .list ((rowsOf long s1 ++ rowsOf long s2).map rowV)]) := by
  obtain ⟨Λ1, f1, p1, A1, c1⟩ := read_word w d hb L hf hpb hA hl.1 (by (first | lia | omega)) hl.2.2
  obtain ⟨Λ2, f2, p2, A2, c2⟩ := read_word w d hb L f1 p1 A1 hs1.1 (by have := hs1.2.1; (first | lia | omega)) hs1.2.2
  obtain ⟨Λ3, f3, p3, A3, c3⟩ := read_word w d hb L f2 p2 A2 hs2.1 (by have := hs2.2.1; (first | lia | omega)) hs2.2.2
  have c4 := read_end w d hb L f3 p3 A3
  rw [show n + 1 + 1 + 1 = n + 3 by (first | lia | omega)] at c4
  refine withK (w := w) ?_
  k_fill
  intro _
  refine LCall.of ⟨[("lexer", false), ("long", false), ("seen", false), ("token", false), ("tail", false), ("head", false), ("place", false)], ["len", "range", "_ellipsis_match", "_strip_exception_details"]⟩ ["lexer"] (by k_is) (by k_is) (by decide) (by exact Mine.bind1 fun _ => rfl) rfl ?_ hf
  intro env V h0 A hV
  simp only [List.map_nil, List.drop_succ_cons, List.drop_zero, List.length_cons, List.length_nil, List.map_cons, List.cons_append, List.nil_append, Nat.zero_add]
  have kg : KeptC w (.ref 56) := KeptC.fn (by k_is)
  refine ExL.one (ExSL.assign (EvX.meth0 (by walk_at "at") (kx_get w) (by decide) kg c1 (by rw [hf, f1])) (by walk_at "put") ⟨rfl, rfl⟩) ?_
  refine ExL.pure1 (ExS.assignOwn (EvF.list EvL.nil (small (by simp))) (by simp) (by walk_at "put") rfl) ?_
  refine ExL.one (ExSL.assign (EvX.meth0 (by walk_at "at") (kx_get w) (by decide) kg c2 (by rw [f1, f2])) (by walk_at "put") ⟨rfl, rfl⟩) ?_
  obtain ⟨r2, n2, pb2, fz2⟩ := Λ2
  simp only at f2 p2
  subst f2 p2
  refine ExL.cons (ExSL.while (2 ^ (s1.length + 1) + (2 ^ (s2.length + 1) + 1)) (phases (long := long) (fun D l x y z hD hl => ?_) (fun D s pl Λ tk' Λ' x y z hD hs hw hf hz hc hf' => ?_) (fun Λ tk pb hf hp => ?_) hs1 hs2 c3 f3 p3 c4 rfl fun x y z => ?_))
  · -- the test
    refine Tr.and ?_
    by_cases h0 : l = []
    · rw [decide_eq_false (fun h => h.1 h0)]
      exact Ands.ff (Tr.is (Tr.cmp (Ev.name (by walk_at "at")) (Ev.is Ev.str (show _ = PV.str (S []) by rfl)) Co.neS) (by rw [S_bne]; simp [h0]))
    · have hc : decide (l ≠ [] ∧ D.length < 40) = decide (D.length < 40) := by simp [h0]
      rw [hc]
      exact Ands.tt (Tr.is (Tr.cmp (Ev.name (by walk_at "at")) (Ev.is Ev.str (show _ = PV.str (S []) by rfl)) Co.neS) (by rw [S_bne]; simp [h0])) (Ands.one (Tr.is (Tr.cmp (Ev.lenOwn (by simp) (g_len w) (by walk_at "at") (small (by simp; (first | lia | omega)))) Ev.int Co.ltI) (by simp; (first | lia | omega))))
  · -- a turn
    have h46 : 46 ∉ s := fun h => absurd (hs.2.2 46 h) (by decide)
    obtain ⟨hd, tl, e1, htl, e2, hhd, e3⟩ := tok_parts h46 hw
    have hlen := tok_len (pin pl) s 0
    have hs3 := hs.2.1
    have h10 : 10 ∉ tokR (pin pl) 0 s := fun h => by
      rcases tok_mem h with h | h
      · cases h
      · exact absurd (hs.2.2 10 h) (by decide)
    have h58 : 58 ∉ tokR (pin pl) 0 s := fun h => by
      rcases tok_mem h with h | h
      · cases h
      · exact absurd (hs.2.2 58 h) (by decide)
    have hR : rowV (rowOf s long pl) = .list [.str (S (tokR (pin pl) 0 s)), .bool (fitB pl (needsOf s long)), .bool (fitB pl (needsOf s long.dropLast))] := rfl
    have eD : (D ++ [rowOf s long pl]).map rowV = D.map rowV ++ [rowV (rowOf s long pl)] := by simp
    generalize htok : tokR (pin pl) 0 s = tok at *
    refine ExL.pure1 (ExS.append (p := rowV (rowOf s long pl)) (by walk_at "at") (Ev.is (EvF.ev (EvF.list (EvL.cons (Ev.name (by walk_at "at")) (EvL.cons (Ev.call (by simp) (GVal.glob (v := .ref 21) (by k_is) rfl) (KeptC.fn (by k_is)) (EvL.cons (Ev.name (by walk_at "at")) (EvL.cons (Ev.name (by walk_at "at")) EvL.nil)) (by rw [← htok]; exact ell_row w (d + 4) s long pl h46 hs3 hl.2.1)) (EvL.cons (Ev.call (by simp) (GVal.glob (v := .ref 21) (by k_is) rfl) (KeptC.fn (by k_is)) (EvL.cons (Ev.name (by walk_at "at")) (EvL.cons (Ev.is (Ev.slice (Ev.name (by walk_at "at")) EvO.none (EvO.int (Ev.neg Ev.int)) (small (by (first | lia | omega)))) (show _ = PV.str (S long.dropLast) by rw [show (-1 : Int) = -((1 : Nat) : Int) by rfl, psl_neg (by (first | lia | omega)), List.dropLast_eq_take])) EvL.nil)) (by rw [← htok]; exact ell_row w (d + 4) s long.dropLast pl h46 hs3 (by simp; (first | lia | omega)))) EvL.nil))) (small (by simp)))) hR.symm) (small (by simp; (first | lia | omega))) (by walk_at "put") rfl) ?_
    rw [← eD]
    refine ExL.pure1 (ExS.assign (p := .str (S tl)) (Ev.call (by simp) (GVal.glob (v := .ref 28) (by k_is) rfl) (KeptC.fn (by k_is)) (EvL.cons (Ev.name (by walk_at "at")) EvL.nil) (strip_spec w (d + 4) tok tl h10 h58 (by (first | lia | omega)) e2)) (by walk_at "put") rfl) ?_
    have ehd : PV.str (S (psl tok none (some ((tok.length : Int) - tl.length)))) = .str (S hd) := by
      have : (tok.length : Int) - tl.length = ((hd.length : Nat) : Int) := by rw [e1]; simp
      rw [this, psl_0n, e1, List.take_left]
    refine ExL.pure1 (ExS.assign (p := .str (S hd)) (Ev.is (Ev.slice (Ev.name (by walk_at "at")) EvO.none (EvO.int (Ev.bin (Ev.call (by simp) (g_len w) (KeptC.blt _) (EvL.cons (Ev.name (by walk_at "at")) EvL.nil) (Fc.lenS (small (by (first | lia | omega))))) (Ev.call (by simp) (g_len w) (KeptC.blt _) (EvL.cons (Ev.name (by walk_at "at")) EvL.nil) (Fc.lenS (small (by (first | lia | omega))))) Bo.subI)) (small (by (first | lia | omega)))) ehd) (by walk_at "put") rfl) ?_
    obtain ⟨lo, hlo⟩ : ∃ lo : Nat, lo = if hd = [] then 0 else 1 := ⟨_, rfl⟩
    have hlo1 : lo ≤ 1 := by rw [hlo]; split <;> simp
    rw [← hlo] at e3
    obtain ⟨g1, g2⟩ := range_lo lo hlo1 tl.length (by (first | lia | omega))
    obtain ⟨rest, ln, pb, fz⟩ := Λ
    simp only at hf hz hc
    subst hf
    refine ExL.cons (ExSL.loop (p := .range (lo : Int) ((tl.length : Int) + 1) 1) (items := (List.range' lo (tl.length + 1 - lo)).map ni) (Ev.call (by simp) (g_range w) (KeptC.typ _) (EvL.cons (Ev.ite (c := decide (hd = [])) (Tr.is (Tr.cmp (Ev.name (by walk_at "at")) (Ev.is Ev.str (show _ = PV.str (S []) by rfl)) Co.eqS) (S_beq _ _)) (fun h => Ev.is Ev.int (by rw [hlo, if_pos (of_decide_eq_true h)]; rfl)) (fun h => Ev.is Ev.int (by rw [hlo, if_neg (of_decide_eq_false h)]; rfl))) (EvL.cons (Ev.bin (Ev.call (by simp) (g_len w) (KeptC.blt _) (EvL.cons (Ev.name (by walk_at "at")) EvL.nil) (Fc.lenS (small (by (first | lia | omega))))) Ev.int Bo.addI) EvL.nil)) Fc.range2) (by rw [← rangeL_lo]; exact IterN.range g1 g2) ?_ (fun q hq V V' h h' v r => by
      obtain ⟨k, _, rfl⟩ := List.mem_map.mp hq
      obtain ⟨t, rfl⟩ := rep_int r
      exact mk_int))
    have hps : (List.range' lo (tl.length + 1 - lo)).length ≤ 4 := by simp; (first | lia | omega)
    rw [← e3] at hc
    generalize hE : pb ++ (List.range' lo (tl.length + 1 - lo)).map (fun p => hd ++ tl.take p ++ dots ++ tl.drop p) = pbE at hc
    generalize List.range' lo (tl.length + 1 - lo) = ps at hE hps
    have hz2 : pb.length + ps.length ≤ 200 := by (first | lia | omega)
    clear hz hps e3 g1 g2 hR
    induction ps generalizing pb z with
    | nil =>
      rw [List.map_nil, List.append_nil] at hE
      subst hE
      exact ExL.cons (ExSL.assign (EvX.meth0 (by walk_at "at") (kx_get w) (by decide) kg hc hf') (by walk_at "put") (ExL.nil ⟨rfl, _, _, _, rfl⟩))
    | cons p ps ih =>
      simp only [List.length_cons] at hz2
      refine ⟨_, AsgS.name (by walk_at "put"), fun V' fz' hV' => ?_⟩
      refine ExL.cons (ExSL.expr (EvX.meth1 (l := hd ++ tl.take p ++ dots ++ tl.drop p) (by walk_at "at") (kx_push w) (by decide) (KeptC.fn (by k_is)) ?_ (push_any w (d + 4) hb L _ _ (by show pb.length < 499; (first | lia | omega))) rfl) (ExL.nil ⟨rfl, ?_⟩))
      · refine Ev.is (Ev.bin (Ev.bin (Ev.bin (Ev.name (by walk_at "at")) (Ev.slice (Ev.name (by walk_at "at")) EvO.none (EvO.int (Ev.name (by walk_at "at"))) (small (by (first | lia | omega)))) (Bo.addS (small ?_))) (Ev.is Ev.str (show _ = PV.str (S dots) by rfl)) (Bo.addS (small ?_))) (Ev.slice (Ev.name (by walk_at "at")) (EvO.int (Ev.name (by walk_at "at"))) EvO.none (small (by (first | lia | omega)))) (Bo.addS (small ?_))) ?_
        · rw [S_len, S_len]; have := psl_le tl none (some (p : Int)); (first | lia | omega)
        · rw [S_add, S_len, S_len]; have := psl_le tl none (some (p : Int)); simp [dots]; (first | lia | omega)
        · rw [S_add, S_add, S_len, S_len]; have := psl_le tl none (some (p : Int)); have := psl_le tl (some (p : Int)) none; simp [dots]; (first | lia | omega)
        · rw [S_add, S_add, S_add, psl_0n, psl_n]
      · refine ih _ (pb ++ [hd ++ tl.take p ++ dots ++ tl.drop p]) ?_ (by simp; (first | lia | omega))
        rw [← hE]; simp
  · have := get_spec w d hb L Λ tk Λ.rest 0 pb hf (.inl ⟨hp, rfl, rfl⟩)
    rwa [Int.add_zero] at this
  · refine ExL.freeze (x := "seen") (by walk_at "at") (by walk_at "put") ?_
    exact ExL.cons (ExSL.ret (EvX.of (Ev.tup (EvL.cons (Ev.name (by walk_at "at")) (EvL.cons (Ev.name (by walk_at "at")) EvL.nil)) two_small)) ⟨⟨rfl, rfl, rfl⟩, .inl rfl⟩)
end Mine
end
noncomputable section
set_option maxRecDepth 100000
namespace Mine
theorem long_ok (n : Nat) : longOf n ≠ [] ∧ (longOf n).length ≤ 5 ∧ ∀ c ∈ longOf n, c ∈ syms := by
  have hl : (longOf n).length = 1 + n % 5 := by simp [longOf]
  refine ⟨fun e => by rw [e] at hl; simp at hl; (first | lia | omega), by (first | lia | omega), fun c hc => ?_⟩
  obtain ⟨k, _, rfl⟩ := List.mem_map.mp hc
  have hlt : n / 5 / 6 ^ k % 6 < 6 := Nat.mod_lt _ (by (first | lia | omega))
  generalize n / 5 / 6 ^ k % 6 = j at hlt
  have : ∀ j, j < 6 → alpha.getD j 0 ∈ syms := by decide
  exact this j hlt
theorem text_eq (xs : List Int) : textOf xs = spelled (longOf (numOf xs 0)) (qt (numOf xs 0)) ++ 10 :: (spelled (shortOf (longOf (numOf xs 0)) (numOf xs 1)) (qt (numOf xs 1)) ++ 10 :: (spelled (shortOf (longOf (numOf xs 0)) (numOf xs 2)) (qt (numOf xs 2)) ++ 10 :: [])) := by
  unfold textOf wordsOf
  simp [List.range_succ]
theorem spelled_ok {l : List Nat} {q : Bool} (h : ∀ c ∈ l, c ∈ syms) : (spelled l q).length ≤ 2 * l.length + 2 ∧ ∀ c ∈ spelled l q, c < 128 := by
  have hel := esc_len l
  have hs : ∀ c ∈ l.flatMap esc, c < 128 := fun c hc => by
    obtain ⟨x, hx, hc⟩ := List.mem_flatMap.mp hc
    have : ∀ x ∈ syms, ∀ c ∈ esc x, c < 128 := by decide
    exact this x (h x hx) c hc
  unfold spelled
  split
  · refine ⟨by simp only [List.length_append, List.length_cons, List.length_nil]; (first | lia | omega), fun c hc => ?_⟩
    simp only [List.mem_append, List.mem_singleton] at hc
    rcases hc with (rfl | hc) | rfl
    · decide
    · exact hs c hc
    · decide
  · exact ⟨by (first | lia | omega), hs⟩
theorem text_ok (xs : List Int) : (textOf xs).length < 1000 ∧ ∀ c ∈ textOf xs, c < 128 := by
  obtain ⟨_, l2, l3⟩ := long_ok (numOf xs 0)
  have w1 := shortOf_ok (n := numOf xs 1) l3
  have w2 := shortOf_ok (n := numOf xs 2) l3
  have a0 := spelled_ok (q := qt (numOf xs 0)) l3
  have a1 := spelled_ok (q := qt (numOf xs 1)) w1.2.2
  have a2 := spelled_ok (q := qt (numOf xs 2)) w2.2.2
  have b1 := w1.2.1
  have b2 := w2.2.1
  rw [text_eq]
  refine ⟨by simp only [List.length_append, List.length_cons, List.length_nil]; (first | lia | omega), fun c hc => ?_⟩
  simp only [List.mem_append, List.mem_cons, List.not_mem_nil, or_false] at hc
  rcases hc with hc | rfl | hc | rfl | hc | rfl
  · exact a0.2 c hc
  · decide
  · exact a1.2 c hc
  · decide
  · exact a2.2 c hc
  · decide
theorem fit_congr {P P' : Nat → Bool} {i : Nat} {s g : List Nat} (h : Fit P i s g) : (∀ j, i ≤ j → j ≤ i + s.length → P j = true → P' j = true) → Fit P' i s g := by
  induction h with
  | fin h => exact fun hp => .fin fun hg => hp _ (Nat.le_refl _) (by simp) (h hg)
  | hit c _ ih => exact fun hp => .hit c (ih fun j h1 h2 => hp j (by (first | lia | omega)) (by simp at h2 ⊢; (first | lia | omega)))
  | skip x hi _ ih => exact fun hp => .skip x (hp _ (Nat.le_refl _) (by (first | lia | omega)) hi) (ih hp)
theorem tok_letters {P : Nat → Bool} : ∀ {s : List Nat} {i : Nat}, 46 ∉ s → (tokR P i s).filter (· != 46) = s
  | [], i, _ => by unfold tokR; split <;> simp [dots]
  | c :: s, i, h => by
    have ih := tok_letters (P := P) (s := s) (i := i + 1) fun hm => h (by simp [hm])
    have hc : (c != 46) = true := by simp; exact fun e => h (by simp [e])
    unfold tokR
    rw [List.filter_append, List.filter_cons, if_pos hc, ih]
    split <;> simp [dots]
theorem range_sel {m : Nat} (h : m = 2 ∨ m = 3 ∨ m = 4) : List.range m ∈ sel m := by
  rcases h with rfl | rfl | rfl <;> decide +kernel
theorem row_fit {s t long pl : List Nat} (h46 : 46 ∉ t) (hl : long.length ≤ 5) (h : fitRow s (rowOf t long pl) = true) : s = t ∧ t.Sublist long := by
  unfold fitRow rowOf at h
  simp only [Bool.and_eq_true, decide_eq_true_eq] at h
  rw [tok_letters h46] at h
  obtain ⟨e, hf⟩ := h
  have := (fitB_iff pl t long hl).mp hf
  exact ⟨e.symm, fit_all.mp (fit_congr this fun _ _ _ _ => rfl)⟩
theorem judged_true {s1 s2 long s : List Nat} (hs1 : Wd s1) (hs2 : Wd s2) (hl : long.length ≤ 5) (hs : s = s1 ∨ s = s2) :
    ((!((rowsOf long s1 ++ rowsOf long s2).filter (fitRow s)).isEmpty) == decide (dist s long = 2 * ((long.length : Int) - s.length))) = true := by
  have n46 : ∀ {t : List Nat}, Wd t → 46 ∉ t := fun w h => absurd (w.2.2 46 h) (by decide)
  have hw : Wd s := by rcases hs with rfl | rfl <;> assumption
  by_cases hsub : s.Sublist long
  · have hm : rowOf s long (List.range (s.length + 1)) ∈ (rowsOf long s1 ++ rowsOf long s2).filter (fitRow s) := by
      refine List.mem_filter.mpr ⟨?_, ?_⟩
      · have : rowOf s long (List.range (s.length + 1)) ∈ rowsOf long s := List.mem_map.mpr ⟨_, range_sel (wd_m hw), rfl⟩
        rcases hs with rfl | rfl
        · exact List.mem_append_left _ this
        · exact List.mem_append_right _ this
      · unfold fitRow rowOf
        simp only [Bool.and_eq_true, decide_eq_true_eq]
        refine ⟨tok_letters (n46 hw), (fitB_iff _ s long hl).mpr (fit_congr (fit_all (i := 0).mpr hsub) fun j _ hj _ => ?_)⟩
        simp [pin]; (first | lia | omega)
    rw [decide_eq_true ((dist_sub s long).mpr hsub)]
    cases e : (rowsOf long s1 ++ rowsOf long s2).filter (fitRow s) with
    | nil => rw [e] at hm; cases hm
    | cons => rfl
  · rw [decide_eq_false fun h => hsub ((dist_sub s long).mp h)]
    have e : (rowsOf long s1 ++ rowsOf long s2).filter (fitRow s) = [] := by
      rw [List.filter_eq_nil_iff]
      intro r hr hf
      rcases List.mem_append.mp hr with hr | hr
      · obtain ⟨pl, _, rfl⟩ := List.mem_map.mp hr
        obtain ⟨rfl, h⟩ := row_fit (n46 hs1) hl hf; exact hsub h
      · obtain ⟨pl, _, rfl⟩ := List.mem_map.mp hr
        obtain ⟨rfl, h⟩ := row_fit (n46 hs2) hl hf; exact hsub h
    rw [e]; rfl
theorem rows_ok {long s1 s2 : List Nat} (hs1 : Wd s1) (hs2 : Wd s2) : (rowsOf long s1 ++ rowsOf long s2).length ≤ 32 ∧ ∀ r ∈ rowsOf long s1 ++ rowsOf long s2, r.1.length ≤ 100 ∧ ∀ c ∈ r.1, c < 128 := by
  have one : ∀ {s : List Nat}, Wd s → (rowsOf long s).length ≤ 16 ∧ ∀ r ∈ rowsOf long s, r.1.length ≤ 100 ∧ ∀ c ∈ r.1, c < 128 := fun {s} w => by
    refine ⟨by unfold rowsOf; rw [List.length_map]; exact sel_len (wd_m w), fun r hr => ?_⟩
    obtain ⟨pl, _, rfl⟩ := List.mem_map.mp hr
    have := tok_len (pin pl) s 0
    have h3 := w.2.1
    refine ⟨by show (tokR (pin pl) 0 s).length ≤ 100; (first | lia | omega), fun c hc => ?_⟩
    rcases tok_mem hc with rfl | hc
    · decide
    · have : ∀ c ∈ syms, c < 128 := by decide
      exact this c (w.2.2 c hc)
  refine ⟨by rw [List.length_append]; have := (one hs1).1; have := (one hs2).1; (first | lia | omega), fun r hr => ?_⟩
  rcases List.mem_append.mp hr with hr | hr
  · exact (one hs1).2 r hr
  · exact (one hs2).2 r hr
theorem lev_all {s long : List Nat} (hs : s.length ≤ 3) (hl : long.length ≤ 5) : ∀ b : Int, (b = dist s long ∨ b = dist s long - 1 ∨ b = 99) → lev s long b = dist s long ∧ lev long s b = dist s long := fun b hb => by
  have h20 := dist_small (a := s) (b := long) (by (first | lia | omega)) hl
  have h : dist s long ≤ b + 1 := by rcases hb with rfl | rfl | rfl <;> (first | lia | omega)
  exact ⟨lev_dist h, (lev_dist (by rw [dist_comm]; exact h)).trans (dist_comm _ _)⟩
end Mine
end
noncomputable section
set_option maxRecDepth 100000
set_option maxHeartbeats 2000000
namespace Mine
open PySem.Calls
section
variable {w : World} {Γ : Cx} {vals vals' : List Sl}
/-- the set of what may change grows by new things -/
theorem St.grow {env : Env} {V₀ V₁ : Addr → Prop} {oa : List (Str × Addr)} {h h' hb : Heap} (z : St w Γ env V₁ oa vals h) (hv : ∀ b, V₀ b → V₁ b ∨ h.get? b = none) (hk : ∀ b o, ¬ V₁ b → h.get? b = some o → h'.get? b = some o) (ha : ∀ b, V₀ b → ∃ o, h'.get? b = some o)
    (b0 : Base w hb) (b1 : Stays hb h') (b2 : ∀ b o, hb.get? b = some o → ¬ Own env oa b) : St w Γ env V₀ oa vals h' := by
  have ow : ∀ b, Own env oa b → ¬ V₁ b := fun b ho hv => z.v0 b hv ho
  have vv : ∀ b o, h.get? b = some o → Vol env V₀ oa b → Vol env V₁ oa b := fun b o e hb => hb.elim (fun h => (hv b h).elim .inl fun n => by rw [n] at e; cases e) .inr
  have rk : ∀ {p : PV} {v : Value}, Rep (Vol env V₁ oa) h p v → Rep (Vol env V₀ oa) h' p v := fun r => r.mono fun b o nb e => ⟨fun hb => nb (vv b o e hb), hk b o (fun h => nb (.inl h)) e⟩
  have rks : ∀ {p : List PV} {v : List Value}, Reps (Vol env V₁ oa) h p v → Reps (Vol env V₀ oa) h' p v := fun r => r.mono fun b o nb e => ⟨fun hb => nb (vv b o e hb), hk b o (fun h => nb (.inl h)) e⟩
  have lk : ∀ {y : Str} {c : Bool} {v : Value}, Loads env h y c v → Loads env h' y c v := fun {y c v} l => by
    unfold Loads at *
    cases c with
    | false =>
      simp only [Bool.false_eq_true, if_false] at *
      obtain ⟨k, m1, n1, e1⟩ := l
      exact ⟨k, m1, n1.at' fun o e => hk _ o (ow _ (.inl rfl)) e, e1⟩
    | true =>
      simp only [if_true] at *
      obtain ⟨k, b, o, h1, h2, h3⟩ := l
      exact ⟨k, b, o, h1, hk b o (ow _ (.inr (.inl ⟨y, h1⟩))) h2, h3⟩
  refine ⟨⟨z.ok.kind, z.ok.glb, z.ok.bln, z.ok.gk, b0.stays b1, fun b hb => ?_, z.ok.nm, z.ok.cel, fun j y c p h1 h2 => ?_, fun j y c ys h1 h2 => ?_⟩, z.nd, z.kd, z.kc, z.ci, z.cl, ?_, fun y a e => ?_, fun j y c xs h1 h2 => ?_, z.oL, z.oi, fun b h1 h2 => ?_, ⟨hb, b0, b1, b2⟩⟩
  · rcases hb with hb | hb
    · exact ha b hb
    · obtain ⟨o, e⟩ := z.ok.al b (.inr hb); exact ⟨o, hk b o (ow b hb) e⟩
  · obtain ⟨cv, l, r⟩ := z.ok.slot j y c p h1 h2; exact ⟨cv, lk l, rk r⟩
  · obtain ⟨a, us, l, pl, r⟩ := z.ok.owns j y c ys h1 h2
    obtain ⟨hc, a', ma, l'⟩ := z.ow j y c ys h1 h2
    subst hc
    have haa : a = a' := by
      unfold Loads at l l'
      simp only [Bool.false_eq_true, if_false] at l l'
      obtain ⟨_, m1, n1, e1⟩ := l
      obtain ⟨_, m2, n2, e2⟩ := l'
      rw [ns_uniq n1 n2, e2] at e1
      cases e1; rfl
    subst haa
    exact ⟨a, us, lk l, pl.at fun o e => hk a o (ow a (.inr (.inr ⟨y, ma⟩))) e, rks r⟩
  · obtain ⟨m, n⟩ := z.ns; exact ⟨m, n.at' fun o e => hk _ o (ow _ (.inl rfl)) e⟩
  · obtain ⟨v, o, h1, h2⟩ := z.co y a e; exact ⟨v, o, hk a o (ow _ (.inr (.inl ⟨y, e⟩))) h1, h2⟩
  · obtain ⟨hc, a, ma, l⟩ := z.ow j y c xs h1 h2; exact ⟨hc, a, ma, lk l⟩
  · rcases hv b h1 with h1 | h1
    · exact z.v0 b h1 h2
    · obtain ⟨o, e⟩ := z.ok.al b (.inr h2); rw [h1] at e; cases e
end
section
variable {w : World} {f : Fx} {oa : List (Str × Addr)} {vals vals' : List Sl} {Λ Λ' Λ1 : LV} {P : Out → LV → Prop}
theorem ExSL.unpack {elts : List Expr} {n : Nat} {tp pos : Pos} {e : Expr} {p : PV} (h : EvX w f vals Λ e p Λ') (a : AsgS w f.d f.Γ (.Tuple elts n tp) p vals vals') (hp : P (.next vals') Λ')
    (hs : ∀ env, swapsWithSole [.Tuple elts n tp] e pos.line env = Pure.pure false := by intro _; rfl) (hw : ∀ env, swappedStores [.Tuple elts n tp] e env = Pure.pure none := by intro _; rfl) :
    ExSL w f vals Λ (.Assign [.Tuple elts n tp] e pos) P := fun oa s Q E z k =>
  Assign_Tuple (h oa s _ _ z fun cv h' tk z1 r => a f.env f.V oa f.A { s with heap := h', toks := tk } _ _ cv z1.st z1.rm r fun h2 tk2 z2 stp => k (.next vals') .next oa h2 tk2 Λ' hp ⟨rfl, z1.step z2 stp⟩) (hs f.env) (hw f.env)
theorem EvX.callL {x y : Str} {np py pos : Pos} {fn : Addr} {p : PV} (g : x ∈ f.Γ.globs) (v : GVal w x (.ref fn)) (hk : KeptC w (.ref fn)) (hy : At f.Γ.vars vals y (.val (.fn f.L.x))) (hc : LCall w f.d fn [] f.hb f.L Λ Λ' p) (hf : Λ'.fz = Λ.fz) :
    EvX w f vals Λ (.Call (.Name x np) [.Name y py] [] pos) p Λ' := fun oa s Q E z k =>
  Call_glob (ps := [.fn f.L.x]) g v hk (EvL.cons (Ev.name hy) EvL.nil) z.st.ok z.rm fun cvs h' tk st rs => by
    obtain ⟨u, rfl, r⟩ := reps_one rs
    obtain rfl := rep_fn r
    have z1 := z.stays st
    exact wpAny_call (hc f.A { s with heap := h', toks := tk } _ (Vol f.env f.V oa) [] z1.lx z1.rm (fun b hb => .inl (z1.va b hb)) z1.st.ok.al .nil fun cv h2 tk2 kp lx r => k cv h2 tk2 (z1.call kp lx hf) r)
theorem EvX.cmp {l r : Expr} {op : CmpOp} {pos : Pos} {p q : PV} {c : Bool} (h1 : EvX w f vals Λ l p Λ') (h2 : Ev w f.d f.Γ vals r q) (h3 : Co w f.d op p q c) (hm : behindInMarks op r = false := by with_unfolding_all rfl) : EvX w f vals Λ (.Compare l [op] [r] pos) (.bool c) Λ' := fun oa s Q E z k =>
  wpAny_Compare1 (h1 oa s _ _ z fun a h' tk z1 ra => h2 f.env _ f.A { s with heap := h', toks := tk } _ _ z1.st.ok z1.rm fun b h2 tk2 st rb =>
    h3 _ f.A { s with heap := h2, toks := tk2 } _ _ a b z1.rm (z1.stays st).st.ok.al (ra.stays st) rb fun h3 tk3 st3 => k _ h3 tk3 ((z1.stays st).stays st3) mk_bool) hm
/-- an empty list of the lexer's, held against [] -/
theorem EvX.eqNil {l r : Expr} {pos : Pos} (h1 : ∀ oa s (Q : Value → Shared → Prop) E, LS w f oa vals Λ s.heap → (∀ a tk, s.heap.PlainList a (List.toArray []) → Q (.ref a) { s with toks := tk }) → wpAny (MW w) f.A (eval l f.env) Q E s) (h2 : Ev w f.d f.Γ vals r (.list [])) (hm : behindInMarks .Eq r = false := by with_unfolding_all rfl) :
    EvX w f vals Λ (.Compare l [.Eq] [r] pos) (.bool true) Λ := fun oa s Q E z k =>
  wpAny_Compare1 (h1 oa s _ _ z fun a tk pl => h2 f.env _ f.A { s with toks := tk } _ _ z.st.ok z.rm fun b h2 tk2 st rb => by
    have h3 := Co.eqNil (w := w) (d := f.d) (xs := []) rfl (by simp [PV.deps])
    refine h3 (fun _ => False) f.A { s with heap := h2, toks := tk2 } _ _ (.ref a) b z.rm (fun _ h => h.elim) (Rep.mkList (fun h => h) (pl.at fun o e => st _ o e) Reps.nil) (rb.mono fun b o nb e => ⟨fun h => h, e⟩) fun h3 tk3 st3 => ?_
    exact k _ h3 tk3 ((z.stays st).stays st3) mk_bool) hm
/-- and of tests that all hold -/
noncomputable def AndX (w : World) (f : Fx) (vals : List Sl) (pos : Pos) (Λ : LV) (es : List Expr) (Λ' : LV) : Prop :=
  ∀ (oa : List (Str × Addr)) (s : Shared) (Q : Value → Shared → Prop) (E : Value → Shared → Prop), LS w f oa vals Λ s.heap → (∀ h' tk, LS w f oa vals Λ' h' → Q (.bool true) { s with heap := h', toks := tk }) → wpAny (MW w) f.A (boolOp pos .And (evalEach es f.env)) Q E s
theorem AndX.one {pos : Pos} {e : Expr} (h : EvX w f vals Λ e (.bool true) Λ') : AndX w f vals pos Λ [e] Λ' := fun oa s Q E z k =>
  h oa s Q E z fun cv h' tk z1 r => by
    obtain rfl := rep_bool r
    exact k h' tk z1
theorem AndX.cons {pos : Pos} {e y : Expr} {es : List Expr} (h : EvX w f vals Λ e (.bool true) Λ1) (h2 : AndX w f vals pos Λ1 (y :: es) Λ') : AndX w f vals pos Λ (e :: y :: es) Λ' := fun oa s Q E z k => by
  show wpAny (MW w) f.A (do
    let v ← eval e f.env
    standAt pos
    let t ← holding [v] (truthy v)
    match BoolOp.And, t with
    | .And, false | .Or, true => Pure.pure v
    | _, _ => boolOp pos .And (evalEach (y :: es) f.env)) Q E s
  refine wpAny_bind (h oa s _ _ z fun cv h' tk z1 r => ?_)
  obtain rfl := rep_bool r
  refine wpAny_bind (wpAny_standAt (wpAny_bind (wpAny_holding (wpAny_truthy_bool ?_))))
  exact h2 oa { s with heap := h', toks := tk } Q E z1 k
theorem EvX.and {es : List Expr} {pos : Pos} (h : AndX w f vals pos Λ es Λ') : EvX w f vals Λ (.BoolOp .And es pos) (.bool true) Λ' := fun oa s Q E z k => by
  show wpAny (MW w) f.A (boolOp pos .And (evalEach es f.env)) Q E s
  exact h oa s Q E z fun h' tk z1 => k _ h' tk z1 mk_bool
theorem LS.add {h : Heap} {b : Addr} {o : Obj} (z : LS w f oa vals Λ h) (e : h.get? b = some o) (hv : f.V b) (na : ¬ f.L.All b) (n0 : f.h0.get? b = none) : LS w f oa vals ⟨Λ.rest, Λ.ln, Λ.pb, (b, o) :: Λ.fz⟩ h := ⟨z.st, z.lx, z.va, z.kp, z.no, z.b0, fun x hx => by
  rcases List.mem_cons.mp hx with rfl | hx
  · exact ⟨e, hv, na, n0⟩
  · exact z.fz x hx, z.rm⟩
theorem LS.less {h : Heap} {fz : List (Addr × Obj)} (z : LS w f oa vals Λ h) (hs : ∀ x ∈ fz, x ∈ Λ.fz) : LS w f oa vals ⟨Λ.rest, Λ.ln, Λ.pb, fz⟩ h := ⟨z.st, z.lx, z.va, z.kp, z.no, z.b0, fun x hx => z.fz x (hs x hx), z.rm⟩
/-- a change of one table -/
theorem LS.tab {h h' : Heap} {P : Addr} (z : LS w f oa vals Λ h) (hP : f.V P) (nP : ¬ f.L.All P) (n0 : f.h0.get? P = none) (nb : f.hb.get? P = none) (nf : ∀ x ∈ Λ.fz, x.1 ≠ P) (kp : ∀ b o, b ≠ P → h.get? b = some o → h'.get? b = some o) (al : ∃ o, h'.get? P = some o) : LS w f oa vals Λ h' := by
  have lx : LexV w f.hb h' f.L Λ := z.lx.keepA (fun b o hb e => kp b o (fun h => nP (h ▸ hb)) e) fun b o e => kp b o (fun h => by rw [h, nb] at e; cases e) (z.lx.b1 b o e)
  refine ⟨z.st.vol (hb := f.hb) (fun b o nv e => kp b o (fun h => nv (h ▸ hP)) e) (fun b hv => ?_) lx.b0 lx.b1 z.hno, lx, z.va, fun b o nm e => kp b o (fun h => by rw [h, n0] at e; cases e) (z.kp b o nm e), z.no, z.b0, fun x hx => ⟨kp _ _ (nf x hx) (z.fz x hx).1, (z.fz x hx).2⟩, z.rm⟩
  by_cases h : b = P
  · rw [h]; exact al
  · obtain ⟨o, e⟩ := z.st.ok.al b (.inl hv); exact ⟨o, kp b o h e⟩
theorem Tab120.alive {h : Heap} (t : Tab120 h) : ∃ ps, h.get? 120 = some (tabObj ps) := by
  rcases t with t | ⟨_, _, _, _, _, t, _⟩
  · exact ⟨_, t⟩
  · exact ⟨_, t⟩
/-- x = _law_rows(a, long) + _law_rows(b, long) -/
theorem rows_stmt {x fn : Str} {px np np2 cp cp2 bp pos : Pos} {a b : Expr} {c d : Expr} {s1 s2 long : List Nat} {s : Shared} {Q : Flow → Shared → Prop} {E : Value → Shared → Prop} (z : LS w f oa vals Λ s.heap) (gh : Ghost w f.hb) (tab : Tab120 s.heap) (hV : f.V 120) (nA : ¬ f.L.All 120) (n0 : f.h0.get? 120 = none) (nf : ∀ x ∈ Λ.fz, x.1 ≠ 120) (hd : 8 ≤ f.d)
    (w1 : Wd s1) (w2 : Wd s2) (hl : long.length ≤ 5 ∧ ∀ c ∈ long, c < 128) (g : fn ∈ f.Γ.globs) (gv : GVal w fn (.ref 123)) (hk : KeptC w (.ref 123)) (ha : Ev w f.d f.Γ vals a (.str (S s1))) (hb : Ev w f.d f.Γ vals b (.str (S s2))) (hc : Ev w f.d f.Γ vals c (.str (S long))) (hd' : Ev w f.d f.Γ vals d (.str (S long)))
    (pt : Put f.Γ.vars vals x (.val (.list ((rowsOf long s1 ++ rowsOf long s2).map rowV))) vals')
    (k : ∀ h' tk, LS w f oa vals' Λ h' → (∃ ps, h'.get? 120 = some (tabObj ps)) → Q .next { s with heap := h', toks := tk })
    (he1 : ∀ env, starEach [a, c] env = (false, eval a env) :: starEach [c] env := by intro _; rfl) (he2 : ∀ env, starEach [c] env = (false, eval c env) :: starEach [] env := by intro _; rfl)
    (he3 : ∀ env, starEach [b, d] env = (false, eval b env) :: starEach [d] env := by intro _; rfl) (he4 : ∀ env, starEach [d] env = (false, eval d env) :: starEach [] env := by intro _; rfl)
    (hp1 : ∀ env, (backTo cp (starEach [c] env)).any (·.1) = false := by intro _; rfl) (hp2 : ∀ env, (backTo cp2 (starEach [d] env)).any (·.1) = false := by intro _; rfl) :
    wpAny (MW w) f.A (exec (.Assign [.Name x px] (.BinOp (.Call (.Name fn np) [a, c] [] cp) .Add (.Call (.Name fn np2) [b, d] [] cp2) bp) pos) f.env) Q E s := by
  have l1 : ∀ {t : List Nat}, Wd t → 1 ≤ t.length ∧ t.length ≤ 3 ∧ ∀ c ∈ t, c < 128 := fun {t} h => by
    refine ⟨?_, h.2.1, fun c hc => ?_⟩
    · rcases wd_m h with e | e | e <;> (first | lia | omega)
    · have : ∀ c ∈ syms, c < 128 := by decide
      exact this c (h.2.2 c hc)
  have rm8 : Room f.A (4 + 1 + 1 + 1 + 1) := z.rm.le hd
  have tabm : ∀ {h h' : Heap}, Stays h h' → Tab120 h → Tab120 h' := fun {h h'} st t => by
    rcases t with t | ⟨c', oc, vs, t0, g1, t, g2, g3, g4⟩
    · exact .inl (st _ _ t)
    · exact .inr ⟨c', oc, vs, t0, g1, st _ _ t, st _ _ g2, g3, g4⟩
  refine wpAny_Assign_Name (wpAny_BinOp (Call_glob (ps := [.str (S s1), .str (S long)]) g gv hk (EvL.cons ha (EvL.cons hc EvL.nil he2) he1) z.st.ok z.rm (fun cvs h1 tk1 st1 rs1 => ?_) he1 hp1)) (swaps_false rfl)
  have z1 := z.stays st1
  refine rows_call w 4 s1 long (l1 w1).1 (l1 w1).2.1 hl.1 (l1 w1).2.2 hl.2 (V := Vol f.env f.V oa) (s := { s with heap := h1, toks := tk1 }) gh z1.lx.b1 (.inl hV) rm8 z1.st.ok.al rs1 (tabm st1 tab) fun cv1 h2 tk2 kp2 tab2 r1 => ?_
  have z2 := z1.tab hV nA n0 gh.n1 nf kp2 (let ⟨ps, e⟩ := tab2.alive; ⟨_, e⟩)
  refine Call_glob (s := { s with heap := h2, toks := tk2 }) (ps := [.str (S s2), .str (S long)]) g gv hk (EvL.cons hb (EvL.cons hd' EvL.nil he4) he3) z2.st.ok z2.rm (fun cvs2 h3 tk3 st3 rs2 => ?_) he3 hp2
  have z3 := z2.stays st3
  refine rows_call w 4 s2 long (l1 w2).1 (l1 w2).2.1 hl.1 (l1 w2).2.2 hl.2 (V := Vol f.env f.V oa) (s := { s with heap := h3, toks := tk3 }) gh z3.lx.b1 (.inl hV) rm8 z3.st.ok.al rs2 (tabm st3 tab2) fun cv2 h4 tk4 kp4 tab4 r2 => ?_
  have z4 := z3.tab hV nA n0 gh.n1 nf kp4 (let ⟨ps, e⟩ := tab4.alive; ⟨_, e⟩)
  have r1' : Rep (Vol f.env f.V oa) h4 (.list ((rowsOf long s1).map rowV)) cv1 := by
    have : Rep (Vol f.env f.V oa) h2 (.list ((rowsOf long s1).map rowV)) cv1 := by
      unfold rowsOf; rw [List.map_map]; exact r1
    exact (this.stays st3).mono fun b o nb e => ⟨nb, kp4 b o (fun h => nb (.inl (h ▸ hV))) e⟩
  have r2' : Rep (Vol f.env f.V oa) h4 (.list ((rowsOf long s2).map rowV)) cv2 := by
    unfold rowsOf; rw [List.map_map]; exact r2
  obtain ⟨a1, vs, rfl, _, ⟨n1, hl1⟩, hr⟩ := rep_list r1'
  obtain ⟨a2, us, rfl, _, ⟨n2, hl2⟩, hr2⟩ := rep_list r2'
  have e1 := hr.length
  have e2 := hr2.length
  have hz : (rowsOf long s1).length ≤ 16 ∧ (rowsOf long s2).length ≤ 16 := by
    unfold rowsOf; simp only [List.length_map]; exact ⟨sel_len (wd_m w1), sel_len (wd_m w2)⟩
  refine P.add_list (s := { s with heap := h4, toks := tk4 }) hl1 hl2 ?_ (by simp only [List.size_toArray, sizeLine_eq]; simp at e1 e2; (first | lia | omega))
  have z5 := z4.stays (Stays.push h4 (seqObj "list" (vs.toArray ++ us.toArray) 0))
  have r5 : Rep (Vol f.env f.V oa) (h4.push (seqObj "list" (vs.toArray ++ us.toArray) 0)) (.list ((rowsOf long s1 ++ rowsOf long s2).map rowV)) (.ref h4.objs.size) := by
    rw [List.map_append]
    refine Rep.mkList (vs := vs ++ us) (Alive.size z4.st.ok.al) ⟨0, ?_⟩ ((hr.append hr2).stays (Stays.push _ _))
    have : vs.toArray ++ us.toArray = (vs ++ us).toArray := by simp
    rw [this]
    exact Heap.get?_push_size _ rfl
  refine St.store (s := { s with heap := h4.push (seqObj "list" (vs.toArray ++ us.toArray) 0), toks := tk4 }) z5.st pt r5 fun h6 tk6 z6 stp => ?_
  obtain ⟨ps, et⟩ := tab4.alive
  exact k h6 tk6 (z5.step z6 stp) ⟨ps, stp.kp _ _ (z5.st.v0 _ hV) (Heap.get?_push_of_some _ et)⟩
end
end Mine
end
noncomputable section
set_option maxRecDepth 100000
set_option maxHeartbeats 2000000
namespace Mine
open PySem.Calls
theorem ints_reps {V : Addr → Prop} {h : Heap} {vs : List Value} {ns : List Int} (x : IntsAre vs ns) : Reps V h (ns.map PV.int) vs := by
  induction x with
  | nil => exact Reps.nil
  | cons n t _ ih => exact Reps.cons mk_int ih
/-- the law's frame -/
theorem law_st {w : World} {name : Str} {scope : Scope} {L fa a : Addr} {cd : Value} {hb h₁ : Heap} {xs : List Int} {vs : List Value} {Γ : Cx} (b : Base w hb) (F : Fr hb L h₁ fun x => [(("script" : Str), Value.ref a)].reverse.lookup x) (hn : hb.get? L = none) (t1 : ∃ o, h₁.get? 120 = some o) (t2 : ∃ o, h₁.get? 86 = some o) (n1 : L ≠ 120 ∧ L ≠ 86)
    (pl : h₁.PlainList a (List.toArray vs)) (na : a ≠ 120 ∧ a ≠ 86 ∧ a ≠ L) (hI : IntsAre vs xs) (hok : entryOK scope Γ ["script"] = true) (hf : Γ.vars.all (fun y => !y.2) = true) :
    St w Γ (envOf name scope L fa cd) (fun b => b = 120 ∨ b = 86) [] (.val (.list (xs.map PV.int)) :: (Γ.vars.drop 1).map fun _ => Sl.un) h₁ := by
  unfold entryOK at hok
  simp only [Bool.and_eq_true, List.all_eq_true, beq_iff_eq, Bool.not_eq_true', decide_eq_true_eq] at hok hf
  obtain ⟨⟨⟨⟨⟨⟨h1, h2⟩, h3⟩, h4⟩, h5⟩, h6⟩, h7⟩ := hok
  have kk : ∀ y, (envOf name scope L fa cd).kindOf y = scope.names.lookup y := fun y => rfl
  have nO : ∀ b o, hb.get? b = some o → ¬ Own (envOf name scope L fa cd) [] b := fun b o e ho => by
    rcases ho with ho | ⟨y, ho⟩ | ⟨y, ho⟩
    · have ho : b = L := ho
      rw [ho, hn] at e; cases e
    · cases ho
    · cases ho
  refine ⟨⟨h1, rfl, rfl, fun y hy => (kk y).trans (h7 y hy), b.stays F.keep, fun c hc => ?_, fun y c hy => ⟨by simpa using (h6 _ hy).1.2, by simpa using (h6 _ hy).2⟩, fun y hy => ?_, fun i y c p hi hp => ?_, fun i y c xs hi hp => ?_⟩, h4, fun y hy => ?_, fun y hy => ?_, fun y u c e1 e2 => ?_, fun y c e => ?_, ⟨_, F.ns⟩, fun y c e => ?_, fun i y c xs hi hp => ?_, fun y c hm => (nomatch hm), fun y u c hm => (nomatch hm), fun c hc ho => ?_, ⟨hb, b, F.keep, nO⟩⟩
  · rcases hc with (rfl | rfl) | hc | ⟨y, hc⟩ | ⟨y, hc⟩
    · exact t1
    · exact t2
    · obtain ⟨o, _, _, e, _⟩ := F.ns
      have hc : c = L := hc
      rw [hc]; exact ⟨o, e⟩
    · cases hc
    · cases hc
  · have := hf _ hy; cases this
  · cases i with
    | zero =>
      simp at hp; subst hp
      have hy : (Γ.vars.take 1).map (·.1) = [("script" : Str)] := h5
      have hx : y = "script" := by
        cases hv : Γ.vars with
        | nil => rw [hv] at hi; simp at hi
        | cons v r => rw [hv] at hi hy; simp at hi hy; rw [hi] at hy; exact hy
      have hc : c = false := by
        have := hf _ (List.mem_of_getElem? hi); simpa using this
      subst hx hc
      refine ⟨.ref a, ?_, Rep.mkList (fun hv => ?_) pl (ints_reps hI)⟩
      · unfold Loads
        simp only [Bool.false_eq_true, if_false]
        have hk := (h6 _ (List.mem_of_getElem? hi)).1.1
        exact ⟨hk, _, F.ns, by simp⟩
      · rcases hv with (h | h) | h | ⟨y, h⟩ | ⟨y, h⟩
        · exact na.1 h
        · exact na.2.1 h
        · exact na.2.2 h
        · cases h
        · cases h
    | succ i =>
      exfalso
      have hm := List.mem_of_getElem? hp
      simp at hp
  · exfalso
    cases i with
    | zero => simp at hp
    | succ i => simp at hp
  · exact (kk y).trans (by have := (h6 _ hy).1.1; simpa using this)
  · have := hf _ hy; cases this
  · cases e1
  · cases e
  · cases e
  · exfalso
    cases i with
    | zero => simp at hp
    | succ i => simp at hp
  · rcases ho with ho | ⟨y, ho⟩ | ⟨y, ho⟩
    · have ho : c = L := ho
      rcases hc with hc | hc
      · exact n1.1 (ho ▸ hc)
      · exact n1.2 (ho ▸ hc)
    · cases ho
    · cases ho
theorem law_enter {w : World} {name : Str} {scope : Scope} {L fa a : Addr} {cd : Value} {hb : Heap} {xs : List Int} {vs : List Value} {Γ : Cx} {A : Around} {s : Shared} {body : List Stmt} {Q : Flow → Shared → Prop} {E : Value → Shared → Prop} (b : Base w hb) (F : Fr hb L s.heap fun x => [(("script" : Str), Value.ref a)].reverse.lookup x) (hn : hb.get? L = none) (t1 : ∃ o, s.heap.get? 120 = some o) (t2 : ∃ o, s.heap.get? 86 = some o) (n1 : L ≠ 120 ∧ L ≠ 86)
    (pl : s.heap.PlainList a (List.toArray vs)) (na : a ≠ 120 ∧ a ≠ 86 ∧ a ≠ L) (hI : IntsAre vs xs) (hok : entryOK scope Γ ["script"] = true) (hf : Γ.vars.all (fun y => !y.2) = true)
    (k : ∀ env, env = envOf name scope L fa cd → St w Γ env (fun b => b = 120 ∨ b = 86) [] (.val (.list (xs.map PV.int)) :: (Γ.vars.drop 1).map fun _ => Sl.un) s.heap → wpAny (MW w) (A.deeper env) (execs body env) Q E s) : wpAny (MW w) (A.deeper (envOf name scope L fa cd)) (execs body (envOf name scope L fa cd)) Q E s := k _ rfl (law_st b F hn t1 t2 n1 pl na hI hok hf)
end Mine
end
noncomputable section
set_option maxRecDepth 100000
set_option maxHeartbeats 0
namespace Mine
/-- the text's top without its assignments of __name__ -/
noncomputable def vw : Program := { PySem.Challenge.pw_pe0175_01 with main := { PySem.Challenge.pw_pe0175_01.main with body := [1, 2, 3, 5, 7, 8, 9, 10, 11, 13, 14, 15, 16, 17, 18, 19, 20, 21].filterMap fun i => PySem.Challenge.pw_pe0175_01.main.body[i]? } }
theorem left1 : LeftO PySem.Challenge.pw_pe0175_01 vw [] (fun s => xlAt vw [] s && recOk [] s) (kmHook hd.heap_39 [2, 3, 6, 20, 21, 27, 28, 41, 42, 48, 49, 55, 56, 62, 63, 65, 66, 67, 68, 76, 77, 83, 84, 90, 91, 95, 96, 100, 101, 105, 106, 112, 113, 117, 118, 122, 123, 127, 128, 132, 133] (fun _ => by kernel_rfl) [120, 86]).obs (kmHook hd.heap_39 [2, 3, 6, 20, 21, 27, 28, 41, 42, 48, 49, 55, 56, 62, 63, 65, 66, 67, 68, 76, 77, 83, 84, 90, 91, 95, 96, 100, 101, 105, 106, 112, 113, 117, 118, 122, 123, 127, 128, 132, 133] (fun _ => by kernel_rfl) [120, 86]).val 1690 := by
  intro w
  kernel_rfl
theorem said0 : PySem.Challenge.rw_pe0175_01.wellSaid = true := by kernel_rfl
end Mine
end
noncomputable section
set_option maxRecDepth 100000
open Mine
namespace Mine
theorem well_ints {P : Params} {h : Heap} {a : Addr} {vs : List Value} {xs : List PyData} (x : Well P h (.ref a) (ofPy (.list xs))) (hl : h.IsList a (List.toArray vs)) : h.PlainList a (List.toArray vs) := by
  have e : ofPy (.list xs) = .list (ofPys xs) := by simp only [ofPy]
  rw [e] at x
  obtain ⟨o, ho, _, n, hd⟩ := hl
  cases x with
  | list e2 _ =>
    rw [e2] at ho; cases ho
    exact ⟨_, by rw [e2]; cases hd; rfl⟩
theorem g_bool (w : World) : GVal w "bool" (.type "bool") := by
  refine withK (w := w) ?_
  k_fill
  intro _
  exact GVal.blt (by k_is) (by with_unfolding_all rfl) (by decide) rfl
theorem pb_nil {w : World} {f : Fx} {oa : List (Str × Addr)} {vals : List Sl} {Λ : LV} {x : Str} {px ap : Pos} {s : Shared} {Q : Value → Shared → Prop} {E : Value → Shared → Prop} (hx : At f.Γ.vars vals x (.val (.fn f.L.x))) (hp : Λ.pb = []) (z : LS w f oa vals Λ s.heap) (k : ∀ a tk, s.heap.PlainList a (List.toArray []) → Q (.ref a) { s with toks := tk }) :
    wpAny (MW w) f.A (eval (.Attribute (.Name x px) "pushback" ap) f.env) Q E s := Attribute_name (z.load hx fun cv r => by
  obtain rfl := rep_fn r
  obtain ⟨m, t1, t2, I, _, _, _, e, _⟩ := lex_attr z.lx
  refine get_attr z.st.ok.base I (kx_pushback w) e rfl ?_
  obtain ⟨vs, pl, tx⟩ := z.lx.D.pbl
  rw [hp] at tx
  cases tx
  exact k _ _ pl)
theorem sg_nil {w : World} {f : Fx} {oa : List (Str × Addr)} {vals : List Sl} {Λ : LV} {x : Str} {px : Pos} {s : Shared} {Q : Value → Shared → Prop} {E : Value → Shared → Prop} (hx : At f.Γ.vars vals x (.val (.fn f.L.g))) (hp : Λ.rest = []) (z : LS w f oa vals Λ s.heap) (k : ∀ a tk, s.heap.PlainList a (List.toArray []) → Q (.ref a) { s with toks := tk }) :
    wpAny (MW w) f.A (eval (.Name x px) f.env) Q E s := z.load hx fun cv r => by
  obtain rfl := rep_fn r
  obtain ⟨vs, pl, tx⟩ := z.lx.D.sgn
  rw [hp] at tx
  cases tx
  exact k _ s.toks pl
theorem EvX.ln {w : World} {f : Fx} {vals : List Sl} {Λ : LV} {x : Str} {px ap : Pos} (hx : At f.Γ.vars vals x (.val (.fn f.L.x))) : EvX w f vals Λ (.Attribute (.Name x px) "lineno" ap) (.int Λ.ln) Λ := fun oa s Q E z k => Attribute_name (z.load hx fun cv r => by
  obtain rfl := rep_fn r
  obtain ⟨m, t1, t2, I, e, _⟩ := lex_attr z.lx
  exact get_attr z.st.ok.base I (kx_lineno w) e rfl (k _ s.heap _ z mk_int))
theorem LS.run {w : World} {f : Fx} {oa : List (Str × Addr)} {vals : List Sl} {Λ : LV} {P : Out → LV → Prop} {st : Stmt} {s : Shared} {Q : Flow → Shared → Prop} {E : Value → Shared → Prop} (z : LS w f oa vals Λ s.heap) (h : ExSL w f vals Λ st P)
    (k : ∀ out fl oa' h' tk Λ', P out Λ' → OutL w f oa' h' Λ' out fl → Q fl { s with heap := h', toks := tk }) : wpAny (MW w) f.A (exec st f.env) Q E s := h oa s Q E z k
theorem LS.runL {w : World} {f : Fx} {oa : List (Str × Addr)} {vals : List Sl} {Λ : LV} {P : Out → LV → Prop} {ss : List Stmt} {s : Shared} {Q : Flow → Shared → Prop} {E : Value → Shared → Prop} (z : LS w f oa vals Λ s.heap) (h : ExL w f vals Λ ss P)
    (k : ∀ out fl oa' h' tk Λ', P out Λ' → OutL w f oa' h' Λ' out fl → Q fl { s with heap := h', toks := tk }) : wpAny (MW w) f.A (execs ss f.env) Q E s := h oa s Q E z k
end Mine
set_option maxHeartbeats 0 in
theorem PySem.Challenge.cw_pe0175_01_holds : PySem.Challenge.rw_pe0175_01.Holds := by
  w_on
  refine holds_law said0 fun said => ?_
  refine holds_open (q := vw) (loose := []) (Xt := fun s => xlAt vw [] s && recOk [] s) (XP := XL vw []) (Yf := (kmHook hd.heap_39 [2, 3, 6, 20, 21, 27, 28, 41, 42, 48, 49, 55, 56, 62, 63, 65, 66, 67, 68, 76, 77, 83, 84, 90, 91, 95, 96, 100, 101, 105, 106, 112, 113, 117, 118, 122, 123, 127, 128, 132, 133] (fun _ => by kernel_rfl) [120, 86]).obs) (Ya := (kmHook hd.heap_39 [2, 3, 6, 20, 21, 27, 28, 41, 42, 48, 49, 55, 56, 62, 63, 65, 66, 67, 68, 76, 77, 83, 84, 90, 91, 95, 96, 100, 101, 105, 106, 112, 113, 117, 118, 122, 123, 127, 128, 132, 133] (fun _ => by kernel_rfl) [120, 86]).val) (YP := (kmHook hd.heap_39 [2, 3, 6, 20, 21, 27, 28, 41, 42, 48, 49, 55, 56, 62, 63, 65, 66, 67, 68, 76, 77, 83, 84, 90, 91, 95, 96, 100, 101, 105, 106, 112, 113, 117, 118, 122, 123, 127, 128, 132, 133] (fun _ => by kernel_rfl) [120, 86]).says) (N := 1690) left1 (Hook.of _) (Hook.keeps _) (fun s e => xl_of s (Bool.and_eq_true_iff.mp e).1) XL.keeps (by rfl) (by rfl) (by rfl) (fun s e => recFacts_of (Bool.and_eq_true_iff.mp e).2) (by rfl) said (by decide +kernel) ⟨rfl, rfl, rfl, rfl, rfl, by decide +kernel⟩ ?hw ?hc
  case hw => w_witness2
  k_go0
  rename_i w s₀ s₁ mg mb G Y fa o pm cd doc kV ho hcd hg X V T B TE TW xs hs hlay0 hL0 hr0 hl2 as1 as2 a vs as3 hL ra w1 r0 hI hr hcond htrue hD h₁ X' T' K' F' cH1 N' l0
  have t120 := (N' (120, tabObj #[]) (by simp)).1
  have t86 := (N' (86, tabObj #[]) (by simp)).1
  have gh : Ghost w (ghostOf s₁.heap [(122, 120), (90, 86)]) := ⟨⟨(_, _, _), mg, mb, X', T'⟩, (N' (120, tabObj #[]) (by simp)).2.2, (N' (86, tabObj #[]) (by simp)).2.2, cH1, codeHd⟩
  have hx63 : xs.length ≤ 63 := by (first | lia | omega)
  have pl0 := well_ints w1 hL
  have plG : (ghostOf s₁.heap [(122, 120), (90, 86)]).PlainList a (List.toArray vs) := by
    obtain ⟨n, e⟩ := pl0
    exact ⟨n, ghost_get hT9 e (fun h => by have := congrArg Obj.cls h; cases this)⟩
  have nab : ∀ {b : Addr} {o : Obj}, (ghostOf s₁.heap [(122, 120), (90, 86)]).get? b = some o → b ≠ 120 ∧ b ≠ 86 := fun {b o} e => ⟨fun h => (by rw [h, gh.n1] at e; cases e), fun h => (by rw [h, gh.n2] at e; cases e)⟩
  have hLn : (ghostOf s₁.heap [(122, 120), (90, 86)]).get? s₁.heap.objs.size = none := Heap.get?_none_of_le F'.above
  obtain ⟨na, eaG⟩ := id plG
  refine law_enter (w := w) (Γ := ⟨[("script", false), ("long", false), ("shorts", false), ("text", false), ("lexer", false), ("signs", false), ("head", false), ("seen", false), ("due", false), ("short", false)], ["_law_draw", "_law_lexer", "_law_run", "_law_rows", "_law_judged"]⟩) gh.base F' hLn ⟨_, t120⟩ ⟨_, t86⟩ ⟨Nat.ne_of_gt l0.1, Nat.ne_of_gt l0.2⟩ (plG.at fun o e => F'.keep _ o e) ⟨(nab eaG).1, (nab eaG).2, fun h => by rw [h, hLn] at eaG; cases eaG⟩ hI (by decide) (by decide) fun env henv z => ?_
  simp only [List.map_nil, List.drop_succ_cons, List.drop_zero, List.map_cons] at z
  have rm : Room (callerA.deeper env) 30 := ⟨rfl, by show callerA.depth + 1 + 30 < recursionLimit; decide, by show callerA.units + 3 + 20 * 30 + 100 < cLine; decide⟩
  have fin : ∀ h' tk, Stays (ghostOf s₁.heap [(122, 120), (90, 86)]) h' → (∃ ps, h'.get? 120 = some (tabObj ps)) → (∃ ps, h'.get? 86 = some (tabObj ps)) →
      GoodW PySem.Challenge.rw_pe0175_01.row.claim (classAt s₀.heap) (ExcName.means s₀.heap) [ofPy (PyData.list (List.map PyData.int xs))] { heap := ghostOf s₁.heap [(122, 120), (90, 86)], gens := s₁.gens, drawn := s₁.drawn, toks := s₁.toks, os := s₁.os } (Except.ok (Flow.ret (.bool true)))
        { heap := h', gens := s₁.gens, drawn := s₁.drawn, toks := tk, os := s₁.os } ∧ GrownAll [(122, 120), (90, 86)] h' := fun h' tk st g1 g2 => by
    refine ⟨⟨.inl ⟨.bool true, .bool true, [], rfl, fun _ => rfl, .bool true, ?_, fun _ => ⟨List.nodup_nil, fun _ h => (nomatch h)⟩⟩, st, rfl, hg⟩, ?_⟩
    · wrow_post
    · exact ⟨g1, g2, trivial⟩
  obtain ⟨l1, l2, l3⟩ := long_ok (numOf xs 0)
  have w1 := shortOf_ok (n := numOf xs 1) l3
  have w2 := shortOf_ok (n := numOf xs 2) l3
  have htx := text_eq xs
  obtain ⟨hz, h128⟩ := text_ok xs
  have hdraw := draw_spec w 26 xs hx63
  generalize longOf (numOf xs 0) = lg at *
  generalize shortOf lg (numOf xs 1) = sa at *
  generalize shortOf lg (numOf xs 2) = sb at *
  generalize textOf xs = tx at *
  have hO : ∀ b o, (ghostOf s₁.heap [(122, 120), (90, 86)]).get? b = some o → ¬ Own env [] b := fun b o e ho => by
    rcases ho with ho | ⟨y, ho⟩ | ⟨y, ho⟩
    · have ho : b = s₁.heap.objs.size := by rw [henv] at ho; exact ho
      rw [ho, hLn] at e; cases e
    · rw [henv] at ho; cases ho
    · cases ho
  -- long, shorts, text = _law_draw(script)
  refine wpAny_execs_cons ((ExS.unpack (P := fun o => o = .next [.val (.list (xs.map PV.int)), .val (.str (S lg)), .val (.list [.str (S sa), .str (S sb)]), .val (.str (S tx)), .un, .un, .un, .un, .un, .un]) (Ev.call (by simp) (GVal.glob (v := .ref 106) (by k_is) rfl) (KeptC.fn (by k_is)) (EvL.cons (Ev.name (by walk_at "at")) EvL.nil) (Fc.up hdraw (e := 30) (by (first | lia | omega)))) (AsgS.three (by walk_at "put") (by walk_at "put") (by walk_at "put")) rfl) env _ [] _ _ _ _ z (rm.le (Nat.le_refl 30)) ?_)
  intro out fl oa1 h2 tk2 hp ok stp1
  subst hp
  obtain ⟨rfl, z2⟩ := ok
  dsimp only
  have st2 : Stays (ghostOf s₁.heap [(122, 120), (90, 86)]) h2 := fun b o e => stp1.kp b o (hO b o e) (F'.keep b o e)
  have hO2 : ∀ b o, (ghostOf s₁.heap [(122, 120), (90, 86)]).get? b = some o → ¬ Own env oa1 b := fun b o e ho => by
    rcases ho with ho | ho | ⟨y, ho⟩
    · exact hO b o e (.inl ho)
    · exact hO b o e (.inr (.inl ho))
    · rcases stp1.fr y b ho with ho | ho
      · cases ho
      · have := F'.keep b o e
        rw [this] at ho; cases ho
  have t120' := stp1.kp _ _ (z.v0 120 (.inl rfl)) t120
  have t86' := stp1.kp _ _ (z.v0 86 (.inr rfl)) t86
  clear z stp1 t120 t86
  -- lexer, signs = _law_lexer(text)
  refine wpAny_execs_cons (Assign_Tuple (Call_glob (s := { s₁ with heap := h2, toks := tk2 }) (ps := [.str (S tx)]) (by simp) (GVal.glob (v := .ref 91) (by k_is) rfl) (KeptC.fn (by k_is)) (EvL.cons (Ev.name (by walk_at "at")) EvL.nil) z2.ok rm fun cvs h3 tk3 st3 rs => ?_) rfl rfl)
  have z3 := z2.stays st3
  have b3 := st2.trans st3
  refine lexer_call w 20 tx hz h128 (V := Vol env (fun b => b = 120 ∨ b = 86) oa1) (s := { s₁ with heap := h3, toks := tk3 }) gh b3 (.inl (.inr rfl)) (rm.le (by (first | lia | omega))) z3.ok.al rs (st3 _ _ t86') fun L cv h4 tk4 kp4 ptab lx fresh rtup => ?_
  have b4 : Stays (ghostOf s₁.heap [(122, 120), (90, 86)]) h4 := lx.b1
  have z4 : St w _ env (fun b => (b = 120 ∨ b = 86) ∨ L.All b) oa1 _ h4 := z3.grow (hb := ghostOf s₁.heap [(122, 120), (90, 86)]) (fun b hb => hb.elim .inl fun h => .inr (fresh b h)) (fun b o nb e => kp4 b o (fun h => nb (.inr h)) e) (fun b hb => by
    rcases hb with (rfl | rfl) | hb
    · exact ⟨_, kp4 _ _ (by decide) (st3 _ _ t120')⟩
    · obtain ⟨ps, e⟩ := ptab; exact ⟨_, e⟩
    · exact Lex.aliveA lx b hb) gh.base b4 hO2
  have r4 : Rep (Vol env (fun b => (b = 120 ∨ b = 86) ∨ L.All b) oa1) h4 (.tup [.fn L.x, .fn L.g]) cv := rtup.mono fun b o nb e => ⟨fun hv => nb (by
    rcases hv with (hv | hv) | hv
    · exact .inl (.inl hv)
    · exact .inr hv
    · exact .inl (.inr hv)), e⟩
  have n120 : ¬ L.All 120 := fun h => by have := fresh _ h; rw [st3 _ _ t120'] at this; cases this
  have n86 : ¬ L.All 86 := fun h => by have := fresh _ h; rw [st3 _ _ t86'] at this; cases this
  refine AsgS.pair (vals'' := [.val (.list (xs.map PV.int)), .val (.str (S lg)), .val (.list [.str (S sa), .str (S sb)]), .val (.str (S tx)), .val (.fn L.x), .val (.fn L.g), .un, .un, .un, .un]) (by walk_at "put") (by walk_at "put") env _ oa1 _ { s₁ with heap := h4, toks := tk4 } _ _ cv z4 rm r4 fun h5 tk5 z5 stp5 => ?_
  obtain ⟨ps86, e86⟩ := ptab
  have LS4 : LS w ⟨30, _, env, fun b => (b = 120 ∨ b = 86) ∨ L.All b, ghostOf s₁.heap [(122, 120), (90, 86)], ghostOf s₁.heap [(122, 120), (90, 86)], L, callerA.deeper env⟩ oa1 _ ⟨tx, 1, [], []⟩ h4 := ⟨z4, lx, fun b h => .inr h, fun b o _ e => b4 b o e, hO2, Stays.refl _, fun x hx => (nomatch hx), rm⟩
  have LS5 := ((LS4.add e86 (.inl (.inr rfl)) n86 gh.n2).add (kp4 _ _ (by decide) (st3 _ _ t120')) (.inl (.inl rfl)) n120 gh.n1).step z5 stp5
  clear z5 stp5 LS4 r4 z4 z3 z2
  -- head, seen = _law_run(lexer)
  have hrun : LCall w 30 113 [] (ghostOf s₁.heap [(122, 120), (90, 86)]) L ⟨tx, 1, [], [(120, tabObj #[]), (86, tabObj ps86)]⟩ ⟨[], 4, [], [(120, tabObj #[]), (86, tabObj ps86)]⟩ (.tup [.str (S lg), .list ((rowsOf lg sa ++ rowsOf lg sb).map rowV)]) :=
    LCall.up (run_spec w 20 (ghostOf s₁.heap [(122, 120), (90, 86)]) L (Λ := ⟨tx, 1, [], []⟩) (n := 1) ⟨l1, l2, l3⟩ w1 w2 rfl rfl ⟨[], .inl rfl, htx, rfl⟩) (by (first | lia | omega))
  refine wpAny_execs_cons (LS.run (s := { s₁ with heap := h5, toks := tk5 }) LS5 (ExSL.unpack (w := w) (P := fun o l => o = .next [.val (.list (xs.map PV.int)), .val (.str (S lg)), .val (.list [.str (S sa), .str (S sb)]), .val (.str (S tx)), .val (.fn L.x), .val (.fn L.g), .val (.str (S lg)), .val (.list ((rowsOf lg sa ++ rowsOf lg sb).map rowV)), .un, .un] ∧ l = ⟨[], 4, [], [(120, tabObj #[]), (86, tabObj ps86)]⟩) (EvX.callL (by simp) (GVal.glob (v := .ref 113) (by k_is) rfl) (KeptC.fn (by k_is)) (by walk_at "at") hrun rfl) (AsgS.pair (by walk_at "put") (by walk_at "put")) ⟨rfl, rfl⟩) ?_)
  intro out fl oa2 h6 tk6 Λ6 hp ok
  obtain ⟨rfl, rfl⟩ := hp
  obtain ⟨rfl, LS6⟩ := ok
  dsimp only
  -- due = _law_rows(shorts[0], long) + _law_rows(shorts[1], long)
  have hl128 : ∀ c ∈ lg, c < 128 := fun c hc => by
    have : ∀ c ∈ syms, c < 128 := by decide
    exact this c (l3 c hc)
  have e120 := (LS6.fz (120, tabObj #[]) (by simp)).1
  refine wpAny_execs_cons (rows_stmt (vals' := [.val (.list (xs.map PV.int)), .val (.str (S lg)), .val (.list [.str (S sa), .str (S sb)]), .val (.str (S tx)), .val (.fn L.x), .val (.fn L.g), .val (.str (S lg)), .val (.list ((rowsOf lg sa ++ rowsOf lg sb).map rowV)), .val (.list ((rowsOf lg sa ++ rowsOf lg sb).map rowV)), .un]) (s := { s₁ with heap := h6, toks := tk6 }) (LS6.less (fz := [(86, tabObj ps86)]) (by simp)) gh (.inl e120) (.inl (.inl rfl)) n120 gh.n1 (fun x hx => by rw [List.mem_singleton.mp hx]; exact (by decide : (86 : Nat) ≠ 120)) (by show 8 ≤ 30; (first | lia | omega)) w1 w2 ⟨l2, hl128⟩ (by simp) (GVal.glob (v := .ref 123) (by k_is) rfl) (KeptC.fn (by k_is)) (Ev.sub (Ev.name (by walk_at "at")) Ev.int (Gi.list (by decide) (by decide) rfl)) (Ev.sub (Ev.name (by walk_at "at")) Ev.int (Gi.list (by decide) (by decide) rfl)) (Ev.name (by walk_at "at")) (Ev.name (by walk_at "at")) (by walk_at "put") fun h7 tk7 LS7 t7 => ?_)
  obtain ⟨ps120, e120'⟩ := t7
  have LS8 := LS7.add e120' (.inl (.inl rfl)) n120 gh.n1
  dsimp only at LS8 ⊢
  have hro := rows_ok (long := lg) w1 w2
  have hj : ∀ s, (s = sa ∨ s = sb) → Fc w 30 (.ref 128) [.str (S s), .str (S lg), .list ((rowsOf lg sa ++ rowsOf lg sb).map rowV)] (.bool true) := fun s hs => by
    have hw : Wd s := by rcases hs with rfl | rfl <;> assumption
    have := judged_spec w 20 s lg (rowsOf lg sa ++ rowsOf lg sb) (dist s lg) hw.2.2 l3 hw.2.1 l2 (by (first | lia | omega)) hro.2 (price_dist hw.2.2 l3) (lev_all hw.2.1 l2)
    rw [judged_true w1 w2 l2 hs] at this
    exact this.up (by (first | lia | omega))
  generalize rowsOf lg sa ++ rowsOf lg sb = R at *
  refine LS.runL (s := { s₁ with heap := h7, toks := tk7 }) (P := fun o l => o = .ret (.bool true) ∧ l.fz = [(120, tabObj ps120), (86, tabObj ps86)]) LS8 ?_ ?_
  · have hok : PV.oks (R.map rowV) = true := PV.oks_mem fun x hx => by
      obtain ⟨r, hr, rfl⟩ := List.mem_map.mp hx
      exact (rowV_ok (hro.2 r hr).2).1
    have hdep : PV.deps (R.map rowV) ≤ 1 := PV.deps_mem fun x hx => by
      obtain ⟨r, hr, rfl⟩ := List.mem_map.mp hx
      exact (rowV_ok (hro.2 r hr).2).2
    refine ExL.pure1 (ExS.ite (c := false) (Tr.or (Ors.ff (Tr.is (Tr.cmp (Ev.name (by walk_at "at")) (Ev.name (by walk_at "at")) Co.neS) (by rw [S_bne]; simp)) (Ors.ff (Tr.cmp (Ev.name (by walk_at "at")) (Ev.name (by walk_at "at")) (Co.neSame (p := .list (R.map rowV)) hok (show PV.deps (R.map rowV) + 1 ≤ 60 by (first | lia | omega)))) Ors.nil))) (fun h => by cases h) (fun _ => Ex.nil rfl)) ?_
    refine ExL.pure1 (ExS.ite (c := false) (Tr.is (Tr.cmp (EvF.ev (EvF.is (EvF.compM (tn := ["row"]) (cn := []) (globs := ["type", "bool"]) (cv := []) R rowV (fun _ => none) rowV_inj (Ev.name (by walk_at "at")) Iter.list Caps.nil (fun r hr => ⟨[rowV r], rfl, Asg.name, Ands.one (Tr.or (Ors.ff (Tr.is (Tr.cmp (Ev.call (by simp [cxc]) (g_type w) (KeptC.typ _) (EvL.cons (Ev.sub (Ev.name (by walk_at "at")) Ev.int (Gi.list (p := .bool r.2.1) (by decide) (by decide) rfl)) EvL.nil) (Fc.type HasT.bool (by decide))) (Ev.glob (by simp [cxc]) (g_bool w) fun _ _ => mk_type) Co.isNotT) (by decide)) (Ors.ff (Tr.is (Tr.cmp (Ev.call (by simp [cxc]) (g_type w) (KeptC.typ _) (EvL.cons (Ev.sub (Ev.name (by walk_at "at")) Ev.int (Gi.list (p := .bool r.2.2) (by decide) (by decide) rfl)) EvL.nil) (Fc.type HasT.bool (by decide))) (Ev.glob (by simp [cxc]) (g_bool w) fun _ _ => mk_type) Co.isNotT) (by decide)) Ors.nil)))⟩) (by dsimp only; decide) (small (by (first | lia | omega)))) (show R.filterMap (fun _ => (none : Option PV)) = [] by simp))) (EvF.ev (EvF.list EvL.nil (small (by simp)))) (Co.neNil (xs := []) rfl (by simp [PV.deps]))) rfl) (fun h => by cases h) (fun _ => Ex.nil rfl)) ?_
    refine ExL.pure1 (v := [.val (.list (xs.map PV.int)), .val (.str (S lg)), .val (.list [.str (S sa), .str (S sb)]), .val (.str (S tx)), .val (.fn L.x), .val (.fn L.g), .val (.str (S lg)), .val (.list (R.map rowV)), .val (.list (R.map rowV)), .val (.str (S sb))]) (ExS.loop (p := .list [.str (S sa), .str (S sb)]) (Ev.name (by walk_at "at")) Iter.list ⟨_, AsgS.name (by walk_at "put"), Ex.cons (ExS.ite (c := false) (Tr.not (c := true) (Tr.of_bool (Ev.call (by simp) (GVal.glob (v := .ref 128) (by k_is) rfl) (KeptC.fn (by k_is)) (EvL.cons (Ev.name (by walk_at "at")) (EvL.cons (Ev.name (by walk_at "at")) (EvL.cons (Ev.name (by walk_at "at")) EvL.nil))) (hj sa (.inl rfl))))) (fun h => by cases h) (fun _ => Ex.nil (Ex.nil ⟨_, AsgS.name (by walk_at "put"), Ex.cons (ExS.ite (c := false) (Tr.not (c := true) (Tr.of_bool (Ev.call (by simp) (GVal.glob (v := .ref 128) (by k_is) rfl) (KeptC.fn (by k_is)) (EvL.cons (Ev.name (by walk_at "at")) (EvL.cons (Ev.name (by walk_at "at")) (EvL.cons (Ev.name (by walk_at "at")) EvL.nil))) (hj sb (.inr rfl))))) (fun h => by cases h) (fun _ => Ex.nil (Ex.nil rfl)))⟩)))⟩) ?_
    have hend : LCall w 30 56 [] (ghostOf s₁.heap [(122, 120), (90, 86)]) L ⟨[], 4, [], [(120, tabObj ps120), (86, tabObj ps86)]⟩ ⟨[], 4, [], [(120, tabObj ps120), (86, tabObj ps86)]⟩ (.str (S [])) :=
      LCall.up (read_end w 20 (ghostOf s₁.heap [(122, 120), (90, 86)]) L (Λ := ⟨[], 4, [], []⟩) (n := 4) rfl rfl ⟨[], .inl rfl, rfl, rfl⟩) (by (first | lia | omega))
    refine ExL.cons (ExSL.ret (Λ' := ⟨[], 4, [], [(120, tabObj ps120), (86, tabObj ps86)]⟩) (EvX.and (AndX.cons (EvX.is (EvX.cmp (EvX.meth0 (by walk_at "at") (kx_get w) (by decide) (KeptC.fn (by k_is)) hend rfl) (Ev.is Ev.str (show _ = PV.str (S []) by rfl)) Co.eqS) (by rw [S_beq]; rfl) rfl) (AndX.cons (EvX.eqNil (fun oa s Q E z k => pb_nil (by walk_at "at") rfl z k) (EvF.ev (EvF.list EvL.nil (small (by simp))))) (AndX.cons (EvX.eqNil (fun oa s Q E z k => sg_nil (by walk_at "at") rfl z k) (EvF.ev (EvF.list EvL.nil (small (by simp))))) (AndX.one (EvX.is (EvX.cmp (q := .int 4) (EvX.ln (by walk_at "at")) Ev.int Co.eqI) rfl rfl)))))) ⟨rfl, rfl⟩)
  · intro out fl oa9 h9 tk9 Λ9 hp ok
    obtain ⟨rfl, hfz⟩ := hp
    obtain ⟨cv, rfl, r, lx9, kp9, fz9⟩ := ok
    obtain rfl := rep_bool r
    rw [hfz] at fz9
    exact fin h9 tk9 lx9.b1 ⟨ps120, fz9 (120, tabObj ps120) (by simp)⟩ ⟨ps86, fz9 (86, tabObj ps86) (by simp)⟩
end
