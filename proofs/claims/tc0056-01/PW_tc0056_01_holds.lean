import PyProof.Rows.All
import Wide.All
import OpenK.AllK
import Wide.FinOn
import Lean
import PySem.Challenge.RW_tc0056_01
open PySem PySem.W PySem.Spec PySem.Calls PyProof.Rows
set_option Elab.async false
set_option maxRecDepth 100000
set_option maxHeartbeats 8000000
set_option compiler.extract_closed false
set_option hygiene false
namespace Mine
noncomputable section
local macro_rules | `(tactic| omega) => `(tactic| lia)
/-- a statement of the text -/
noncomputable def stAt (i : Nat) : Stmt := Challenge.pw_tc0056_01.main.body.getD i (.Pass ⟨0, 0, 0, 0⟩)
noncomputable def isDef (n : Str) : Stmt → Bool
  | .FunctionDef m .. => m == n
  | _ => false
/-- a def of the class -/
noncomputable def meAt (n : Str) : Stmt := match stAt 20 with
  | .ClassDef _ _ _ body .. => (body.find? (isDef n)).getD (.Pass ⟨0, 0, 0, 0⟩)
  | x => x
noncomputable def hd.keep : List Nat := [0, 1, 3, 4, 6, 7, 8, 10, 11, 12, 13, 14, 16, 17, 18, 20, 22, 23, 24, 25, 26, 27, 28, 29, 30, 31, 32]
noncomputable def hd.view_39 : Program := PySem.W.view Challenge.pw_tc0056_01 hd.keep
noncomputable def hd.loose : List Str := [Str.ofString "COMPILER_FLAG_NAMES", Str.ofString "tspecials", Str.ofString "_name_disallowed_re", Str.ofString "_value_disallowed_re", Str.ofString "_formatparam"]
/-- the objects that the walk knows -/
noncomputable def hd.heap_39 : Params → Frag := fun P =>
  letI a46 : Arguments := _; letI b46 : List Stmt := _; letI c46 : Scope := _
  haveI : stAt 4 = Stmt.FunctionDef _ a46 b46 _ _ _ c46 _ _ _ := rfl
  letI a53 : Arguments := _; letI b53 : List Stmt := _; letI c53 : Scope := _
  haveI : stAt 7 = Stmt.FunctionDef _ a53 b53 _ _ _ c53 _ _ _ := rfl
  letI a60 : Arguments := _; letI b60 : List Stmt := _; letI c60 : Scope := _
  haveI : stAt 8 = Stmt.FunctionDef _ a60 b60 _ _ _ c60 _ _ _ := rfl
  letI a67 : Arguments := _; letI b67 : List Stmt := _; letI c67 : Scope := _
  haveI : stAt 13 = Stmt.FunctionDef _ a67 b67 _ _ _ c67 _ _ _ := rfl
  letI a74 : Arguments := _; letI b74 : List Stmt := _; letI c74 : Scope := _
  haveI : stAt 14 = Stmt.FunctionDef _ a74 b74 _ _ _ c74 _ _ _ := rfl
  letI a231 : Arguments := _; letI b231 : List Stmt := _; letI c231 : Scope := _
  haveI : stAt 22 = Stmt.FunctionDef _ a231 b231 _ _ _ c231 _ _ _ := rfl
  letI a236 : Arguments := _; letI b236 : List Stmt := _; letI c236 : Scope := _
  haveI : stAt 23 = Stmt.FunctionDef _ a236 b236 _ _ _ c236 _ _ _ := rfl
  letI a243 : Arguments := _; letI b243 : List Stmt := _; letI c243 : Scope := _
  haveI : stAt 24 = Stmt.FunctionDef _ a243 b243 _ _ _ c243 _ _ _ := rfl
  letI a250 : Arguments := _; letI b250 : List Stmt := _; letI c250 : Scope := _
  haveI : stAt 25 = Stmt.FunctionDef _ a250 b250 _ _ _ c250 _ _ _ := rfl
  letI a257 : Arguments := _; letI b257 : List Stmt := _; letI c257 : Scope := _
  haveI : stAt 26 = Stmt.FunctionDef _ a257 b257 _ _ _ c257 _ _ _ := rfl
  letI a264 : Arguments := _; letI b264 : List Stmt := _; letI c264 : Scope := _
  haveI : stAt 27 = Stmt.FunctionDef _ a264 b264 _ _ _ c264 _ _ _ := rfl
  letI a269 : Arguments := _; letI b269 : List Stmt := _; letI c269 : Scope := _
  haveI : stAt 28 = Stmt.FunctionDef _ a269 b269 _ _ _ c269 _ _ _ := rfl
  letI a274 : Arguments := _; letI b274 : List Stmt := _; letI c274 : Scope := _
  haveI : stAt 29 = Stmt.FunctionDef _ a274 b274 _ _ _ c274 _ _ _ := rfl
  letI a281 : Arguments := _; letI b281 : List Stmt := _; letI c281 : Scope := _
  haveI : stAt 30 = Stmt.FunctionDef _ a281 b281 _ _ _ c281 _ _ _ := rfl
  letI a286 : Arguments := _; letI b286 : List Stmt := _; letI c286 : Scope := _
  haveI : stAt 31 = Stmt.FunctionDef _ a286 b286 _ _ _ c286 _ _ _ := rfl
  letI a291 : Arguments := _; letI b291 : List Stmt := _; letI c291 : Scope := _
  haveI : stAt 32 = Stmt.FunctionDef _ a291 b291 _ _ _ c291 _ _ _ := rfl
  letI a112 : Arguments := _; letI b112 : List Stmt := _; letI c112 : Scope := _
  haveI : meAt (Str.ofString "__init__") = Stmt.FunctionDef _ a112 b112 _ _ _ c112 _ _ _ := rfl
  letI a119 : Arguments := _; letI b119 : List Stmt := _; letI c119 : Scope := _
  haveI : meAt (Str.ofString "_convert_string_type") = Stmt.FunctionDef _ a119 b119 _ _ _ c119 _ _ _ := rfl
  letI a133 : Arguments := _; letI b133 : List Stmt := _; letI c133 : Scope := _
  haveI : meAt (Str.ofString "__setitem__") = Stmt.FunctionDef _ a133 b133 _ _ _ c133 _ _ _ := rfl
  letI a138 : Arguments := _; letI b138 : List Stmt := _; letI c138 : Scope := _
  haveI : meAt (Str.ofString "__delitem__") = Stmt.FunctionDef _ a138 b138 _ _ _ c138 _ _ _ := rfl
  letI a167 : Arguments := _; letI b167 : List Stmt := _; letI c167 : Scope := _
  haveI : meAt (Str.ofString "get") = Stmt.FunctionDef _ a167 b167 _ _ _ c167 _ _ _ := rfl
  letI a184 : Arguments := _; letI b184 : List Stmt := _; letI c184 : Scope := _
  haveI : meAt (Str.ofString "items") = Stmt.FunctionDef _ a184 b184 _ _ _ c184 _ _ _ := rfl
  letI a217 : Arguments := _; letI b217 : List Stmt := _; letI c217 : Scope := _
  haveI : meAt (Str.ofString "add_header") = Stmt.FunctionDef _ a217 b217 _ _ _ c217 _ _ _ := rfl
  (nat_lit 2, { cls := Value.none, data := Data.dict #[{ hash := PyData.keyHash P (Str.ofString "imp\x6frt.loaded._sre"), key := Value.str (Str.ofString "imp\x6frt.loaded._sre") 183, val := Value.bool true }, { hash := PyData.keyHash P (Str.ofString "class._frozen_importlib.BuiltinImporter"), key := Value.str (Str.ofString "class._frozen_importlib.BuiltinImporter") 185, val := Value.ref 14 }, { hash := PyData.keyHash P (Str.ofString "watched.imp\x6frt"), key := Value.str (Str.ofString "watched.imp\x6frt") 206, val := Value.ref 18 }, { hash := PyData.keyHash P (Str.ofString "class._frozen_importlib.ModuleSpec"), key := Value.str (Str.ofString "class._frozen_importlib.ModuleSpec") 216, val := Value.ref 22 }, { hash := PyData.keyHash P (Str.ofString "sys.modules.booked-epoch"), key := Value.str (Str.ofString "sys.modules.booked-epoch") 245, val := Value.int 3 0 }, { hash := PyData.keyHash P (Str.ofString "imp\x6frt.later-laid._sre"), key := Value.str (Str.ofString "imp\x6frt.later-laid._sre") 270, val := Value.bool true }, { hash := PyData.keyHash P (Str.ofString "watched.library"), key := Value.str (Str.ofString "watched.library") 272, val := Value.ref 27 }, { hash := PyData.keyHash P (Str.ofString "watched.library-objects"), key := Value.str (Str.ofString "watched.library-objects") 0, val := Value.str (Str.ofString "\x0c") 0 }, { hash := PyData.keyHash P (Str.ofString "watched.library-deep._sre"), key := Value.str (Str.ofString "watched.library-deep._sre") 273, val := Value.str (Str.ofString "\x04\x00\x00\x0b\x04\x00\x00\x0b\x04\x00\x00\x03\x04\x00\x00\x0b\x08\x04dict\x02") 0 }] 9 }) ::
  (nat_lit 3, { cls := Value.type "dict", data := Data.dict #[{ hash := PyData.keyHash P (Str.ofString "__name__"), key := Value.str (Str.ofString "__name__") 165, val := Value.str (Str.ofString "law_tc0056_01") 656 }, { hash := PyData.keyHash P (Str.ofString "__doc__"), key := Value.str (Str.ofString "__doc__") 166, val := Value.none }, { hash := PyData.keyHash P (Str.ofString "__package__"), key := Value.str (Str.ofString "__package__") 167, val := Value.none }, { hash := PyData.keyHash P (Str.ofString "__loader__"), key := Value.str (Str.ofString "__loader__") 168, val := Value.builtin "__main__.__loader__#opaque" }, { hash := PyData.keyHash P (Str.ofString "__spec__"), key := Value.str (Str.ofString "__spec__") 169, val := Value.none }, { hash := PyData.keyHash P (Str.ofString "__annotations__"), key := Value.str (Str.ofString "__annotations__") 170, val := Value.ref 6 }, { hash := PyData.keyHash P (Str.ofString "__builtins__"), key := Value.str (Str.ofString "__builtins__") 171, val := Value.ref 4 }, { hash := PyData.keyHash P (Str.ofString "__file__"), key := Value.str (Str.ofString "__file__") 173, val := Value.str (Str.ofString "/claim/cut.py") 172 }, { hash := PyData.keyHash P (Str.ofString "__cached__"), key := Value.str (Str.ofString "__cached__") 174, val := Value.none }, { hash := PyData.keyHash P (Str.ofString "_sre"), key := Value.str (Str.ofString "_sre") 275, val := Value.ref 12 }, { hash := PyData.keyHash P (Str.ofString "_wall"), key := Value.str (Str.ofString "_wall") 288, val := Value.ref 38 }, { hash := PyData.keyHash P (Str.ofString "COMPILER_FLAG_NAMES"), key := Value.str (Str.ofString "COMPILER_FLAG_NAMES") 321, val := Value.ref 39 }, { hash := PyData.keyHash P (Str.ofString "pretty_flags"), key := Value.str (Str.ofString "pretty_flags") 331, val := Value.ref 46 }, { hash := PyData.keyHash P (Str.ofString "CHAR_MAX"), key := Value.str (Str.ofString "CHAR_MAX") 335, val := Value.int 127 334 }, { hash := PyData.keyHash P (Str.ofString "_grouping_intervals"), key := Value.str (Str.ofString "_grouping_intervals") 344, val := Value.ref 53 }, { hash := PyData.keyHash P (Str.ofString "_strip_padding"), key := Value.str (Str.ofString "_strip_padding") 354, val := Value.ref 60 }, { hash := PyData.keyHash P (Str.ofString "_MAX_STRING_SIZE"), key := Value.str (Str.ofString "_MAX_STRING_SIZE") 358, val := Value.int 40 357 }, { hash := PyData.keyHash P (Str.ofString "_MOVE_COST"), key := Value.str (Str.ofString "_MOVE_COST") 360, val := Value.int 2 359 }, { hash := PyData.keyHash P (Str.ofString "_CASE_COST"), key := Value.str (Str.ofString "_CASE_COST") 362, val := Value.int 1 361 }, { hash := PyData.keyHash P (Str.ofString "_substitution_cost"), key := Value.str (Str.ofString "_substitution_cost") 370, val := Value.ref 67 }, { hash := PyData.keyHash P (Str.ofString "_levenshtein_distance"), key := Value.str (Str.ofString "_levenshtein_distance") 390, val := Value.ref 74 }, { hash := PyData.keyHash P (Str.ofString "tspecials"), key := Value.str (Str.ofString "tspecials") 426, val := Value.ref 79 }, { hash := PyData.keyHash P (Str.ofString "_name_disallowed_re"), key := Value.str (Str.ofString "_name_disallowed_re") 452, val := Value.ref 84 }, { hash := PyData.keyHash P (Str.ofString "_value_disallowed_re"), key := Value.str (Str.ofString "_value_disallowed_re") 486, val := Value.ref 89 }, { hash := PyData.keyHash P (Str.ofString "_formatparam"), key := Value.str (Str.ofString "_formatparam") 496, val := Value.ref 97 }, { hash := PyData.keyHash P (Str.ofString "Headers"), key := Value.str (Str.ofString "Headers") 655, val := Value.ref 220 }, { hash := PyData.keyHash P (Str.ofString "_law_cells"), key := Value.str (Str.ofString "_law_cells") 667, val := Value.ref 231 }, { hash := PyData.keyHash P (Str.ofString "_law_word"), key := Value.str (Str.ofString "_law_word") 673, val := Value.ref 236 }, { hash := PyData.keyHash P (Str.ofString "_law_rulers"), key := Value.str (Str.ofString "_law_rulers") 684, val := Value.ref 243 }, { hash := PyData.keyHash P (Str.ofString "_law_fields"), key := Value.str (Str.ofString "_law_fields") 700, val := Value.ref 250 }, { hash := PyData.keyHash P (Str.ofString "_law_cut"), key := Value.str (Str.ofString "_law_cut") 711, val := Value.ref 257 }, { hash := PyData.keyHash P (Str.ofString "_law_above"), key := Value.str (Str.ofString "_law_above") 724, val := Value.ref 264 }, { hash := PyData.keyHash P (Str.ofString "_law_names"), key := Value.str (Str.ofString "_law_names") 730, val := Value.ref 269 }, { hash := PyData.keyHash P (Str.ofString "_law_asks"), key := Value.str (Str.ofString "_law_asks") 736, val := Value.ref 274 }, { hash := PyData.keyHash P (Str.ofString "_law_scattered"), key := Value.str (Str.ofString "_law_scattered") 746, val := Value.ref 281 }, { hash := PyData.keyHash P (Str.ofString "_law_widest"), key := Value.str (Str.ofString "_law_widest") 752, val := Value.ref 286 }, { hash := PyData.keyHash P (Str.ofString "law"), key := Value.str (Str.ofString "law") 758, val := Value.ref 291 }] 37 }) ::
  (nat_lit 39, { cls := Value.type "dict", data := Data.dict #[{ hash := 1, key := Value.int 1 291, val := Value.str (Str.ofString "OPTIMIZED") 292 }, { hash := 2, key := Value.int 2 293, val := Value.str (Str.ofString "NEWLOCALS") 294 }, { hash := 4, key := Value.int 4 295, val := Value.str (Str.ofString "VARARGS") 296 }, { hash := 8, key := Value.int 8 297, val := Value.str (Str.ofString "VARKEYWORDS") 298 }, { hash := 16, key := Value.int 16 299, val := Value.str (Str.ofString "NESTED") 300 }, { hash := 32, key := Value.int 32 301, val := Value.str (Str.ofString "GENERATOR") 302 }, { hash := 64, key := Value.int 64 303, val := Value.str (Str.ofString "NOFREE") 304 }, { hash := 128, key := Value.int 128 305, val := Value.str (Str.ofString "COROUTINE") 306 }, { hash := 256, key := Value.int 256 307, val := Value.str (Str.ofString "ITERABLE_COROUTINE") 308 }, { hash := 512, key := Value.int 512 309, val := Value.str (Str.ofString "ASYNC_GENERATOR") 310 }] 10 }) ::
  (nat_lit 45, { cls := Value.type "code", data := Data.fields #[Value.str (Str.ofString "pretty_flags") 322, Value.str (Str.ofString "pretty_flags") 323, Value.str (Str.ofString "/claim/cut.py") 324, Value.int 7 0, Value.int 1 0, Value.int 0 0, Value.int 0 0, Value.int 3 0, Value.ref 40, Value.bool true, Value.int 276 0, Value.ref 41, Value.none, Value.ref 42, Value.ref 43, Value.ref 44, Value.int 329 0, Value.int 7 0, Value.str (Str.ofString "/claim/cut.py") 330] }) ::
  (nat_lit 46, { cls := Value.type "function", data := Data.func { name := Str.ofString "pretty_flags", qualname := Str.ofString "pretty_flags", params := a46, body := FuncBody.stmts b46, scope := c46, globals := 3, closure := [], defaults := Value.none, kwdefaults := Value.none, pyModule := Value.str (Str.ofString "cpy313.dis") 289, code := Value.ref 45 } }) ::
  (nat_lit 52, { cls := Value.type "code", data := Data.fields #[Value.str (Str.ofString "_grouping_intervals") 336, Value.str (Str.ofString "_grouping_intervals") 337, Value.str (Str.ofString "/claim/cut.py") 338, Value.int 21 0, Value.int 1 0, Value.int 0 0, Value.int 0 0, Value.int 35 0, Value.ref 47, Value.bool true, Value.int 276 0, Value.ref 48, Value.none, Value.ref 49, Value.ref 50, Value.ref 51, Value.int 342 0, Value.int 21 0, Value.str (Str.ofString "/claim/cut.py") 343] }) ::
  (nat_lit 53, { cls := Value.type "function", data := Data.func { name := Str.ofString "_grouping_intervals", qualname := Str.ofString "_grouping_intervals", params := a53, body := FuncBody.stmts b53, scope := c53, globals := 3, closure := [], defaults := Value.none, kwdefaults := Value.none, pyModule := Value.str (Str.ofString "cpy313.locale") 332, code := Value.ref 52 } }) ::
  (nat_lit 59, { cls := Value.type "code", data := Data.fields #[Value.str (Str.ofString "_strip_padding") 345, Value.str (Str.ofString "_strip_padding") 346, Value.str (Str.ofString "/claim/cut.py") 347, Value.int 33 0, Value.int 2 0, Value.int 0 0, Value.int 0 0, Value.int 3 0, Value.ref 54, Value.bool true, Value.int 276 0, Value.ref 55, Value.none, Value.ref 56, Value.ref 57, Value.ref 58, Value.int 352 0, Value.int 33 0, Value.str (Str.ofString "/claim/cut.py") 353] }) ::
  (nat_lit 60, { cls := Value.type "function", data := Data.func { name := Str.ofString "_strip_padding", qualname := Str.ofString "_strip_padding", params := a60, body := FuncBody.stmts b60, scope := c60, globals := 3, closure := [], defaults := Value.none, kwdefaults := Value.none, pyModule := Value.str (Str.ofString "cpy313.locale") 332, code := Value.ref 59 } }) ::
  (nat_lit 66, { cls := Value.type "code", data := Data.fields #[Value.str (Str.ofString "_substitution_cost") 363, Value.str (Str.ofString "_substitution_cost") 364, Value.str (Str.ofString "/claim/cut.py") 365, Value.int 47 0, Value.int 2 0, Value.int 0 0, Value.int 0 0, Value.int 3 0, Value.ref 61, Value.bool true, Value.int 276 0, Value.ref 62, Value.none, Value.ref 63, Value.ref 64, Value.ref 65, Value.int 368 0, Value.int 47 0, Value.str (Str.ofString "/claim/cut.py") 369] }) ::
  (nat_lit 67, { cls := Value.type "function", data := Data.func { name := Str.ofString "_substitution_cost", qualname := Str.ofString "_substitution_cost", params := a67, body := FuncBody.stmts b67, scope := c67, globals := 3, closure := [], defaults := Value.none, kwdefaults := Value.none, pyModule := Value.str (Str.ofString "cpy313.traceback") 355, code := Value.ref 66 } }) ::
  (nat_lit 73, { cls := Value.type "code", data := Data.fields #[Value.str (Str.ofString "_levenshtein_distance") 371, Value.str (Str.ofString "_levenshtein_distance") 372, Value.str (Str.ofString "/claim/cut.py") 373, Value.int 53 0, Value.int 3 0, Value.int 0 0, Value.int 0 0, Value.int 3 0, Value.ref 68, Value.bool true, Value.int 276 0, Value.ref 69, Value.none, Value.ref 70, Value.ref 71, Value.ref 72, Value.int 388 0, Value.int 53 0, Value.str (Str.ofString "/claim/cut.py") 389] }) ::
  (nat_lit 74, { cls := Value.type "function", data := Data.func { name := Str.ofString "_levenshtein_distance", qualname := Str.ofString "_levenshtein_distance", params := a74, body := FuncBody.stmts b74, scope := c74, globals := 3, closure := [], defaults := Value.none, kwdefaults := Value.none, pyModule := Value.str (Str.ofString "cpy313.traceback") 355, code := Value.ref 73 } }) ::
  (nat_lit 78, { cls := Value.type "tuple", data := Data.seq #[Value.int 14 0, Value.int 14 0, Value.int 4 0, Value.int 1 0, Value.int 1 0, Value.int 9 0, Value.int 0 0, Value.int 4227896069 0, Value.int 939524097 0, Value.int 0 0, Value.int 0 0, Value.int 0 0, Value.int 0 0, Value.int 0 0, Value.int 0 0, Value.int 13 0, Value.int 11 0, Value.int 9 0, Value.int 0 0, Value.int 4227896069 0, Value.int 939524097 0, Value.int 0 0, Value.int 0 0, Value.int 0 0, Value.int 0 0, Value.int 0 0, Value.int 0 0, Value.int 1 0] }) ::
  (nat_lit 79, { cls := Value.type "re.Pattern", data := Data.fields #[Value.str (Str.ofString "[ \\(\\)<>@,;:\\\\\"/\\[\\]\\?=]") 394, Value.int 32 425, Value.int 0 0, Value.none, Value.none, Value.ref 78, Value.int 0 0] }) ::
  (nat_lit 83, { cls := Value.type "tuple", data := Data.seq #[Value.int 14 0, Value.int 10 0, Value.int 4 0, Value.int 1 0, Value.int 1 0, Value.int 22 0, Value.int 0 0, Value.int 31 0, Value.int 16 0, Value.int 127 0, Value.int 0 0, Value.int 13 0, Value.int 7 0, Value.int 22 0, Value.int 0 0, Value.int 31 0, Value.int 16 0, Value.int 127 0, Value.int 0 0, Value.int 1 0] }) ::
  (nat_lit 84, { cls := Value.type "re.Pattern", data := Data.fields #[Value.str (Str.ofString "[\\x00-\\x1F\\x7F]") 428, Value.int 32 451, Value.int 0 0, Value.none, Value.none, Value.ref 83, Value.int 0 0] }) ::
  (nat_lit 88, { cls := Value.type "tuple", data := Data.seq #[Value.int 14 0, Value.int 14 0, Value.int 4 0, Value.int 1 0, Value.int 1 0, Value.int 9 0, Value.int 4294966783 0, Value.int 0 0, Value.int 0 0, Value.int 2147483648 0, Value.int 0 0, Value.int 0 0, Value.int 0 0, Value.int 0 0, Value.int 0 0, Value.int 13 0, Value.int 11 0, Value.int 9 0, Value.int 4294966783 0, Value.int 0 0, Value.int 0 0, Value.int 2147483648 0, Value.int 0 0, Value.int 0 0, Value.int 0 0, Value.int 0 0, Value.int 0 0, Value.int 1 0] }) ::
  (nat_lit 89, { cls := Value.type "re.Pattern", data := Data.fields #[Value.str (Str.ofString "[\\x00-\\x08\\x0A-\\x1F\\x7F]") 454, Value.int 32 485, Value.int 0 0, Value.none, Value.none, Value.ref 88, Value.int 0 0] }) ::
  (nat_lit 105, { cls := Value.type "tuple", data := Data.seq #[Value.none] }) ::
  (nat_lit 111, { cls := Value.type "code", data := Data.fields #[Value.str (Str.ofString "__init__") 509, Value.str (Str.ofString "Headers.__init__") 510, Value.str (Str.ofString "/claim/cut.py") 511, Value.int 106 0, Value.int 2 0, Value.int 0 0, Value.int 0 0, Value.int 3 0, Value.ref 106, Value.bool true, Value.int 276 0, Value.ref 107, Value.none, Value.ref 108, Value.ref 109, Value.ref 110, Value.int 516 0, Value.int 106 0, Value.str (Str.ofString "/claim/cut.py") 517] }) ::
  (nat_lit 112, { cls := Value.type "function", data := Data.func { name := Str.ofString "__init__", qualname := Str.ofString "Headers.__init__", params := a112, body := FuncBody.stmts b112, scope := c112, globals := 3, closure := [], defaults := Value.ref 105, kwdefaults := Value.none, pyModule := Value.str (Str.ofString "cpy313.wsgiref.headers") 391, code := Value.ref 111 } }) ::
  (nat_lit 118, { cls := Value.type "code", data := Data.fields #[Value.str (Str.ofString "_convert_string_type") 519, Value.str (Str.ofString "Headers._convert_string_type") 520, Value.str (Str.ofString "/claim/cut.py") 521, Value.int 116 0, Value.int 2 0, Value.int 0 0, Value.int 1 0, Value.int 3 0, Value.ref 113, Value.bool true, Value.int 276 0, Value.ref 114, Value.none, Value.ref 115, Value.ref 116, Value.ref 117, Value.int 526 0, Value.int 116 0, Value.str (Str.ofString "/claim/cut.py") 527] }) ::
  (nat_lit 119, { cls := Value.type "function", data := Data.func { name := Str.ofString "_convert_string_type", qualname := Str.ofString "Headers._convert_string_type", params := a119, body := FuncBody.stmts b119, scope := c119, globals := 3, closure := [], defaults := Value.none, kwdefaults := Value.none, pyModule := Value.str (Str.ofString "cpy313.wsgiref.headers") 391, code := Value.ref 118 } }) ::
  (nat_lit 132, { cls := Value.type "code", data := Data.fields #[Value.str (Str.ofString "__setitem__") 536, Value.str (Str.ofString "Headers.__setitem__") 537, Value.str (Str.ofString "/claim/cut.py") 538, Value.int 127 0, Value.int 3 0, Value.int 0 0, Value.int 0 0, Value.int 3 0, Value.ref 127, Value.bool true, Value.int 276 0, Value.ref 128, Value.none, Value.ref 129, Value.ref 130, Value.ref 131, Value.int 542 0, Value.int 127 0, Value.str (Str.ofString "/claim/cut.py") 543] }) ::
  (nat_lit 133, { cls := Value.type "function", data := Data.func { name := Str.ofString "__setitem__", qualname := Str.ofString "Headers.__setitem__", params := a133, body := FuncBody.stmts b133, scope := c133, globals := 3, closure := [], defaults := Value.none, kwdefaults := Value.none, pyModule := Value.str (Str.ofString "cpy313.wsgiref.headers") 391, code := Value.ref 132 } }) ::
  (nat_lit 137, { cls := Value.type "code", data := Data.fields #[Value.str (Str.ofString "__delitem__") 545, Value.str (Str.ofString "Headers.__delitem__") 546, Value.str (Str.ofString "/claim/cut.py") 547, Value.int 131 0, Value.int 2 0, Value.int 0 0, Value.int 0 0, Value.int 3 0, Value.ref 134, Value.bool true, Value.int 276 0, Value.ref 135, Value.none, Value.none, Value.none, Value.ref 136, Value.int 548 0, Value.int 131 0, Value.str (Str.ofString "/claim/cut.py") 549] }) ::
  (nat_lit 138, { cls := Value.type "function", data := Data.func { name := Str.ofString "__delitem__", qualname := Str.ofString "Headers.__delitem__", params := a138, body := FuncBody.stmts b138, scope := c138, globals := 3, closure := [], defaults := Value.none, kwdefaults := Value.none, pyModule := Value.str (Str.ofString "cpy313.wsgiref.headers") 391, code := Value.ref 137 } }) ::
  (nat_lit 160, { cls := Value.type "tuple", data := Data.seq #[Value.none] }) ::
  (nat_lit 166, { cls := Value.type "code", data := Data.fields #[Value.str (Str.ofString "get") 575, Value.str (Str.ofString "Headers.get") 576, Value.str (Str.ofString "/claim/cut.py") 577, Value.int 144 0, Value.int 3 0, Value.int 0 0, Value.int 0 0, Value.int 3 0, Value.ref 161, Value.bool true, Value.int 276 0, Value.ref 162, Value.none, Value.ref 163, Value.ref 164, Value.ref 165, Value.int 583 0, Value.int 144 0, Value.str (Str.ofString "/claim/cut.py") 584] }) ::
  (nat_lit 167, { cls := Value.type "function", data := Data.func { name := Str.ofString "get", qualname := Str.ofString "Headers.get", params := a167, body := FuncBody.stmts b167, scope := c167, globals := 3, closure := [], defaults := Value.ref 160, kwdefaults := Value.none, pyModule := Value.str (Str.ofString "cpy313.wsgiref.headers") 391, code := Value.ref 166 } }) ::
  (nat_lit 183, { cls := Value.type "code", data := Data.fields #[Value.str (Str.ofString "items") 598, Value.str (Str.ofString "Headers.items") 599, Value.str (Str.ofString "/claim/cut.py") 600, Value.int 157 0, Value.int 1 0, Value.int 0 0, Value.int 0 0, Value.int 3 0, Value.ref 178, Value.bool true, Value.int 276 0, Value.ref 179, Value.none, Value.ref 180, Value.ref 181, Value.ref 182, Value.int 602 0, Value.int 157 0, Value.str (Str.ofString "/claim/cut.py") 603] }) ::
  (nat_lit 184, { cls := Value.type "function", data := Data.func { name := Str.ofString "items", qualname := Str.ofString "Headers.items", params := a184, body := FuncBody.stmts b184, scope := c184, globals := 3, closure := [], defaults := Value.none, kwdefaults := Value.none, pyModule := Value.str (Str.ofString "cpy313.wsgiref.headers") 391, code := Value.ref 183 } }) ::
  (nat_lit 216, { cls := Value.type "code", data := Data.fields #[Value.str (Str.ofString "add_header") 634, Value.str (Str.ofString "Headers.add_header") 635, Value.str (Str.ofString "/claim/cut.py") 636, Value.int 172 0, Value.int 3 0, Value.int 0 0, Value.int 0 0, Value.int 11 0, Value.ref 211, Value.bool true, Value.int 276 0, Value.ref 212, Value.none, Value.ref 213, Value.ref 214, Value.ref 215, Value.int 644 0, Value.int 172 0, Value.str (Str.ofString "/claim/cut.py") 645] }) ::
  (nat_lit 217, { cls := Value.type "function", data := Data.func { name := Str.ofString "add_header", qualname := Str.ofString "Headers.add_header", params := a217, body := FuncBody.stmts b217, scope := c217, globals := 3, closure := [], defaults := Value.none, kwdefaults := Value.none, pyModule := Value.str (Str.ofString "cpy313.wsgiref.headers") 391, code := Value.ref 216 } }) ::
  (nat_lit 218, { cls := Value.type "tuple", data := Data.seq #[Value.str (Str.ofString "_headers") 647] }) ::
  (nat_lit 219, { cls := Value.type "dict", data := Data.dict #[{ hash := PyData.keyHash P (Str.ofString "__module__"), key := Value.str (Str.ofString "__module__") 504, val := Value.str (Str.ofString "cpy313.wsgiref.headers") 391 }, { hash := PyData.keyHash P (Str.ofString "__firstlineno__"), key := Value.str (Str.ofString "__firstlineno__") 508, val := Value.int 104 507 }, { hash := PyData.keyHash P (Str.ofString "__init__"), key := Value.str (Str.ofString "__init__") 518, val := Value.ref 112 }, { hash := PyData.keyHash P (Str.ofString "_convert_string_type"), key := Value.str (Str.ofString "_convert_string_type") 528, val := Value.ref 119 }, { hash := PyData.keyHash P (Str.ofString "__len__"), key := Value.str (Str.ofString "__len__") 535, val := Value.ref 126 }, { hash := PyData.keyHash P (Str.ofString "__setitem__"), key := Value.str (Str.ofString "__setitem__") 544, val := Value.ref 133 }, { hash := PyData.keyHash P (Str.ofString "__delitem__"), key := Value.str (Str.ofString "__delitem__") 550, val := Value.ref 138 }, { hash := PyData.keyHash P (Str.ofString "__getitem__"), key := Value.str (Str.ofString "__getitem__") 558, val := Value.ref 145 }, { hash := PyData.keyHash P (Str.ofString "__contains__"), key := Value.str (Str.ofString "__contains__") 566, val := Value.ref 152 }, { hash := PyData.keyHash P (Str.ofString "get_all"), key := Value.str (Str.ofString "get_all") 574, val := Value.ref 159 }, { hash := PyData.keyHash P (Str.ofString "get"), key := Value.str (Str.ofString "get") 585, val := Value.ref 167 }, { hash := PyData.keyHash P (Str.ofString "keys"), key := Value.str (Str.ofString "keys") 591, val := Value.ref 172 }, { hash := PyData.keyHash P (Str.ofString "values"), key := Value.str (Str.ofString "values") 597, val := Value.ref 177 }, { hash := PyData.keyHash P (Str.ofString "items"), key := Value.str (Str.ofString "items") 604, val := Value.ref 184 }, { hash := PyData.keyHash P (Str.ofString "__repr__"), key := Value.str (Str.ofString "__repr__") 611, val := Value.ref 191 }, { hash := PyData.keyHash P (Str.ofString "__str__"), key := Value.str (Str.ofString "__str__") 617, val := Value.ref 196 }, { hash := PyData.keyHash P (Str.ofString "__bytes__"), key := Value.str (Str.ofString "__bytes__") 624, val := Value.ref 203 }, { hash := PyData.keyHash P (Str.ofString "setdefault"), key := Value.str (Str.ofString "setdefault") 633, val := Value.ref 210 }, { hash := PyData.keyHash P (Str.ofString "add_header"), key := Value.str (Str.ofString "add_header") 646, val := Value.ref 217 }, { hash := PyData.keyHash P (Str.ofString "__static_attributes__"), key := Value.str (Str.ofString "__static_attributes__") 648, val := Value.ref 218 }, { hash := PyData.keyHash P (Str.ofString "__dict__"), key := Value.str (Str.ofString "__dict__") 650, val := Value.ref 221 }, { hash := PyData.keyHash P (Str.ofString "__weakref__"), key := Value.str (Str.ofString "__weakref__") 652, val := Value.ref 222 }, { hash := PyData.keyHash P (Str.ofString "__doc__"), key := Value.str (Str.ofString "__doc__") 653, val := Value.none }] 4 }) ::
  (nat_lit 220, { cls := Value.type "type", data := Data.cls { name := Str.ofString "Headers", bases := [Value.type "object"], mro := [Value.ref 220, Value.type "object"], ns := 219, qualname := Str.ofString "Headers" }, slots := #[none, none, some (Value.str (Str.ofString "Headers") 497), some (Value.str (Str.ofString "Headers") 505), some (Value.builtin "object.__new__"), some (Value.bool true)] }) ::
  (nat_lit 221, { cls := Value.type "getset_descriptor", data := Data.fields #[Value.str (Str.ofString "__dict__") 649, Value.ref 220, Value.builtin "function.__dict__", Value.builtin "function.__dict__#set"] }) ::
  (nat_lit 222, { cls := Value.type "getset_descriptor", data := Data.fields #[Value.str (Str.ofString "__weakref__") 651, Value.ref 220, Value.builtin "ExceptionGroup.__weakref__", Value.none] }) ::
  (nat_lit 230, { cls := Value.type "code", data := Data.fields #[Value.str (Str.ofString "_law_cells") 658, Value.str (Str.ofString "_law_cells") 659, Value.str (Str.ofString "/claim/cut.py") 660, Value.int 186 0, Value.int 1 0, Value.int 0 0, Value.int 0 0, Value.int 3 0, Value.ref 225, Value.bool true, Value.int 276 0, Value.ref 226, Value.none, Value.ref 227, Value.ref 228, Value.ref 229, Value.int 665 0, Value.int 186 0, Value.str (Str.ofString "/claim/cut.py") 666] }) ::
  (nat_lit 231, { cls := Value.type "function", data := Data.func { name := Str.ofString "_law_cells", qualname := Str.ofString "_law_cells", params := a231, body := FuncBody.stmts b231, scope := c231, globals := 3, closure := [], defaults := Value.none, kwdefaults := Value.none, pyModule := Value.str (Str.ofString "law_tc0056_01") 656, code := Value.ref 230 } }) ::
  (nat_lit 235, { cls := Value.type "code", data := Data.fields #[Value.str (Str.ofString "_law_word") 668, Value.str (Str.ofString "_law_word") 669, Value.str (Str.ofString "/claim/cut.py") 670, Value.int 191 0, Value.int 1 0, Value.int 0 0, Value.int 0 0, Value.int 3 0, Value.ref 232, Value.bool true, Value.int 276 0, Value.ref 233, Value.none, Value.none, Value.none, Value.ref 234, Value.int 671 0, Value.int 191 0, Value.str (Str.ofString "/claim/cut.py") 672] }) ::
  (nat_lit 236, { cls := Value.type "function", data := Data.func { name := Str.ofString "_law_word", qualname := Str.ofString "_law_word", params := a236, body := FuncBody.stmts b236, scope := c236, globals := 3, closure := [], defaults := Value.none, kwdefaults := Value.none, pyModule := Value.str (Str.ofString "law_tc0056_01") 656, code := Value.ref 235 } }) ::
  (nat_lit 242, { cls := Value.type "code", data := Data.fields #[Value.str (Str.ofString "_law_rulers") 674, Value.str (Str.ofString "_law_rulers") 675, Value.str (Str.ofString "/claim/cut.py") 676, Value.int 193 0, Value.int 1 0, Value.int 0 0, Value.int 0 0, Value.int 3 0, Value.ref 237, Value.bool true, Value.int 276 0, Value.ref 238, Value.none, Value.ref 239, Value.ref 240, Value.ref 241, Value.int 682 0, Value.int 193 0, Value.str (Str.ofString "/claim/cut.py") 683] }) ::
  (nat_lit 243, { cls := Value.type "function", data := Data.func { name := Str.ofString "_law_rulers", qualname := Str.ofString "_law_rulers", params := a243, body := FuncBody.stmts b243, scope := c243, globals := 3, closure := [], defaults := Value.none, kwdefaults := Value.none, pyModule := Value.str (Str.ofString "law_tc0056_01") 656, code := Value.ref 242 } }) ::
  (nat_lit 249, { cls := Value.type "code", data := Data.fields #[Value.str (Str.ofString "_law_fields") 685, Value.str (Str.ofString "_law_fields") 686, Value.str (Str.ofString "/claim/cut.py") 687, Value.int 199 0, Value.int 4 0, Value.int 0 0, Value.int 0 0, Value.int 3 0, Value.ref 244, Value.bool true, Value.int 276 0, Value.ref 245, Value.none, Value.ref 246, Value.ref 247, Value.ref 248, Value.int 698 0, Value.int 199 0, Value.str (Str.ofString "/claim/cut.py") 699] }) ::
  (nat_lit 250, { cls := Value.type "function", data := Data.func { name := Str.ofString "_law_fields", qualname := Str.ofString "_law_fields", params := a250, body := FuncBody.stmts b250, scope := c250, globals := 3, closure := [], defaults := Value.none, kwdefaults := Value.none, pyModule := Value.str (Str.ofString "law_tc0056_01") 656, code := Value.ref 249 } }) ::
  (nat_lit 256, { cls := Value.type "code", data := Data.fields #[Value.str (Str.ofString "_law_cut") 701, Value.str (Str.ofString "_law_cut") 702, Value.str (Str.ofString "/claim/cut.py") 703, Value.int 208 0, Value.int 2 0, Value.int 0 0, Value.int 0 0, Value.int 3 0, Value.ref 251, Value.bool true, Value.int 276 0, Value.ref 252, Value.none, Value.ref 253, Value.ref 254, Value.ref 255, Value.int 709 0, Value.int 208 0, Value.str (Str.ofString "/claim/cut.py") 710] }) ::
  (nat_lit 257, { cls := Value.type "function", data := Data.func { name := Str.ofString "_law_cut", qualname := Str.ofString "_law_cut", params := a257, body := FuncBody.stmts b257, scope := c257, globals := 3, closure := [], defaults := Value.none, kwdefaults := Value.none, pyModule := Value.str (Str.ofString "law_tc0056_01") 656, code := Value.ref 256 } }) ::
  (nat_lit 263, { cls := Value.type "code", data := Data.fields #[Value.str (Str.ofString "_law_above") 712, Value.str (Str.ofString "_law_above") 713, Value.str (Str.ofString "/claim/cut.py") 714, Value.int 214 0, Value.int 2 0, Value.int 0 0, Value.int 0 0, Value.int 3 0, Value.ref 258, Value.bool true, Value.int 276 0, Value.ref 259, Value.none, Value.ref 260, Value.ref 261, Value.ref 262, Value.int 722 0, Value.int 214 0, Value.str (Str.ofString "/claim/cut.py") 723] }) ::
  (nat_lit 264, { cls := Value.type "function", data := Data.func { name := Str.ofString "_law_above", qualname := Str.ofString "_law_above", params := a264, body := FuncBody.stmts b264, scope := c264, globals := 3, closure := [], defaults := Value.none, kwdefaults := Value.none, pyModule := Value.str (Str.ofString "law_tc0056_01") 656, code := Value.ref 263 } }) ::
  (nat_lit 268, { cls := Value.type "code", data := Data.fields #[Value.str (Str.ofString "_law_names") 725, Value.str (Str.ofString "_law_names") 726, Value.str (Str.ofString "/claim/cut.py") 727, Value.int 223 0, Value.int 1 0, Value.int 0 0, Value.int 0 0, Value.int 3 0, Value.ref 265, Value.bool true, Value.int 276 0, Value.ref 266, Value.none, Value.none, Value.none, Value.ref 267, Value.int 728 0, Value.int 223 0, Value.str (Str.ofString "/claim/cut.py") 729] }) ::
  (nat_lit 269, { cls := Value.type "function", data := Data.func { name := Str.ofString "_law_names", qualname := Str.ofString "_law_names", params := a269, body := FuncBody.stmts b269, scope := c269, globals := 3, closure := [], defaults := Value.none, kwdefaults := Value.none, pyModule := Value.str (Str.ofString "law_tc0056_01") 656, code := Value.ref 268 } }) ::
  (nat_lit 273, { cls := Value.type "code", data := Data.fields #[Value.str (Str.ofString "_law_asks") 731, Value.str (Str.ofString "_law_asks") 732, Value.str (Str.ofString "/claim/cut.py") 733, Value.int 226 0, Value.int 4 0, Value.int 0 0, Value.int 0 0, Value.int 3 0, Value.ref 270, Value.bool true, Value.int 276 0, Value.ref 271, Value.none, Value.none, Value.none, Value.ref 272, Value.int 734 0, Value.int 226 0, Value.str (Str.ofString "/claim/cut.py") 735] }) ::
  (nat_lit 274, { cls := Value.type "function", data := Data.func { name := Str.ofString "_law_asks", qualname := Str.ofString "_law_asks", params := a274, body := FuncBody.stmts b274, scope := c274, globals := 3, closure := [], defaults := Value.none, kwdefaults := Value.none, pyModule := Value.str (Str.ofString "law_tc0056_01") 656, code := Value.ref 273 } }) ::
  (nat_lit 280, { cls := Value.type "code", data := Data.fields #[Value.str (Str.ofString "_law_scattered") 737, Value.str (Str.ofString "_law_scattered") 738, Value.str (Str.ofString "/claim/cut.py") 739, Value.int 243 0, Value.int 2 0, Value.int 0 0, Value.int 0 0, Value.int 3 0, Value.ref 275, Value.bool true, Value.int 276 0, Value.ref 276, Value.none, Value.ref 277, Value.ref 278, Value.ref 279, Value.int 744 0, Value.int 243 0, Value.str (Str.ofString "/claim/cut.py") 745] }) ::
  (nat_lit 281, { cls := Value.type "function", data := Data.func { name := Str.ofString "_law_scattered", qualname := Str.ofString "_law_scattered", params := a281, body := FuncBody.stmts b281, scope := c281, globals := 3, closure := [], defaults := Value.none, kwdefaults := Value.none, pyModule := Value.str (Str.ofString "law_tc0056_01") 656, code := Value.ref 280 } }) ::
  (nat_lit 285, { cls := Value.type "code", data := Data.fields #[Value.str (Str.ofString "_law_widest") 747, Value.str (Str.ofString "_law_widest") 748, Value.str (Str.ofString "/claim/cut.py") 749, Value.int 249 0, Value.int 1 0, Value.int 0 0, Value.int 0 0, Value.int 3 0, Value.ref 282, Value.bool true, Value.int 276 0, Value.ref 283, Value.none, Value.none, Value.none, Value.ref 284, Value.int 750 0, Value.int 249 0, Value.str (Str.ofString "/claim/cut.py") 751] }) ::
  (nat_lit 286, { cls := Value.type "function", data := Data.func { name := Str.ofString "_law_widest", qualname := Str.ofString "_law_widest", params := a286, body := FuncBody.stmts b286, scope := c286, globals := 3, closure := [], defaults := Value.none, kwdefaults := Value.none, pyModule := Value.str (Str.ofString "law_tc0056_01") 656, code := Value.ref 285 } }) ::
  (nat_lit 290, { cls := Value.type "code", data := Data.fields #[Value.str (Str.ofString "law") 753, Value.str (Str.ofString "law") 754, Value.str (Str.ofString "/claim/cut.py") 755, Value.int 255 0, Value.int 1 0, Value.int 0 0, Value.int 0 0, Value.int 3 0, Value.ref 287, Value.bool true, Value.int 276 0, Value.ref 288, Value.none, Value.none, Value.none, Value.ref 289, Value.int 756 0, Value.int 255 0, Value.str (Str.ofString "/claim/cut.py") 757] }) ::
  (nat_lit 291, { cls := Value.type "function", data := Data.func { name := Str.ofString "law", qualname := Str.ofString "law", params := a291, body := FuncBody.stmts b291, scope := c291, globals := 3, closure := [], defaults := Value.none, kwdefaults := Value.none, pyModule := Value.str (Str.ofString "law_tc0056_01") 656, code := Value.ref 290 } }) :: []
noncomputable def hd.as : List Addr := [2, 3, 39, 45, 46, 52, 53, 59, 60, 66, 67, 73, 74, 78, 79, 83, 84, 88, 89, 105, 111, 112, 118, 119, 132, 133, 137, 138, 160, 166, 167, 183, 184, 216, 217, 218, 219, 220, 221, 222, 230, 231, 235, 236, 242, 243, 249, 250, 256, 257, 263, 264, 268, 269, 273, 274, 280, 281, 285, 286, 290, 291]
theorem hd.as_ok : ∀ P, hd.as = (hd.heap_39 P).map (·.1) := fun _ => by kernel_rfl
noncomputable abbrev hd.hook : Hook := kHook hd.heap_39 hd.as hd.as_ok
noncomputable abbrev hd.row : OpenRow := Challenge.rw_tc0056_01.row
noncomputable abbrev hd.look (s : Shared) : Bool := xlAt hd.view_39 [] s && recOk (RowW.records hd.row.toRowW) s
theorem hd.left_eq : ∀ w : World, (fencedOpening treeTable hd.row.prog w 3598).map (fun s₀ =>
        ((topFrom treeTable hd.row.prog (w.withFollow "special-get-raises" false) 3598 s₀).map (fun s => (openSeen hd.view_39 hd.loose (importedModules hd.row.prog.main.body) hd.look true s, hd.hook.obs s)),
         (topFrom treeTable hd.row.prog (w.withFollow "special-get-raises" true) 3598 s₀).map (fun s => (openSeen hd.view_39 hd.loose (importedModules hd.row.prog.main.body) hd.look true s, hd.hook.obs s)))) =
      some (some (openGood hd.view_39 hd.loose, hd.hook.val (w.withFollow "special-get-raises" false)), some (openGood hd.view_39 hd.loose, hd.hook.val (w.withFollow "special-get-raises" true))) := by
  intro w
  unfold fencedOpening topFrom
  rw [PySem.W.Fast.te10274390034422433532, PySem.W.Fast.te14289696077712309145, PySem.W.Fast.te1435165496053646825, PySem.W.Fast.te14082659384304107361, PySem.W.Fast.te14364793385576792824, PySem.W.Fast.te8920871248978507458]
  kernel_rfl
theorem hd.said : Challenge.rw_tc0056_01.wellSaid = true := by kernel_rfl
/-- the law, from its walk -/
theorem hd {d : DefRec} {kwd : List (Str × PySem.Expr)} (hdef : defOf hd.view_39 hd.row.name = some (d, kwd)) (hp : hd.row.prog.theDef hd.row.name = some (d.params, d.body, d.scope)) (hk : kwWritten? d.params.kwonlyargs d.params.kw_defaults = some kwd)
    (call : WalkO hd.view_39 hd.loose (XL hd.view_39 []) hd.hook.says hd.row.toRowW d kwd fun f vs => PySem.call f vs) : Challenge.rw_tc0056_01.Holds := by
  refine holds_law hd.said fun said => ?_
  refine holds_open (q := hd.view_39) (loose := hd.loose) (Xt := hd.look) (XP := XL hd.view_39 []) (Yf := hd.hook.obs) (Ya := hd.hook.val) (YP := hd.hook.says) (N := 3598) ?hl hd.hook.of hd.hook.keeps (fun s e => xl_of s (Bool.and_eq_true_iff.mp e).1) XL.keeps hdef hp hk (fun s e => recFacts_of (Bool.and_eq_true_iff.mp e).2) rfl said (by decide +kernel) ⟨rfl, rfl, rfl, rfl, rfl, by decide +kernel⟩ ?hw call
  case hl => exact LeftO.of_split "special-get-raises" hd.left_eq
  case hw => w_witness2

section
noncomputable abbrev PR : Program := Challenge.rw_tc0056_01.row.prog
noncomputable abbrev VW : Program := hd.view_39
noncomputable abbrev LO : List Str := (looseW hd.view_39 [Str.ofString "COMPILER_FLAG_NAMES", Str.ofString "tspecials", Str.ofString "_name_disallowed_re", Str.ofString "_value_disallowed_re", Str.ofString "_formatparam"])

/- one constructor a telescope: taken apart in one step -/
inductive ExN1 {α0 : Type} (p : α0 → Prop) : Prop
  | mk (x0 : α0) (h : p x0) : ExN1 p
inductive ExN2 {α0 α1 : Type} (p : α0 → α1 → Prop) : Prop
  | mk (x0 : α0) (x1 : α1) (h : p x0 x1) : ExN2 p
inductive ExN3 {α0 α1 α2 : Type} (p : α0 → α1 → α2 → Prop) : Prop
  | mk (x0 : α0) (x1 : α1) (x2 : α2) (h : p x0 x1 x2) : ExN3 p
inductive ExN4 {α0 α1 α2 α3 : Type} (p : α0 → α1 → α2 → α3 → Prop) : Prop
  | mk (x0 : α0) (x1 : α1) (x2 : α2) (x3 : α3) (h : p x0 x1 x2 x3) : ExN4 p
inductive ExN5 {α0 α1 α2 α3 α4 : Type} (p : α0 → α1 → α2 → α3 → α4 → Prop) : Prop
  | mk (x0 : α0) (x1 : α1) (x2 : α2) (x3 : α3) (x4 : α4) (h : p x0 x1 x2 x3 x4) : ExN5 p
inductive AndN3 (p0 p1 p2 : Prop) : Prop
  | mk (h0 : p0) (h1 : p1) (h2 : p2) : AndN3 p0 p1 p2
inductive AndN4 (p0 p1 p2 p3 : Prop) : Prop
  | mk (h0 : p0) (h1 : p1) (h2 : p2) (h3 : p3) : AndN4 p0 p1 p2 p3
inductive AndN5 (p0 p1 p2 p3 p4 : Prop) : Prop
  | mk (h0 : p0) (h1 : p1) (h2 : p2) (h3 : p3) (h4 : p4) : AndN5 p0 p1 p2 p3 p4
inductive AndN6 (p0 p1 p2 p3 p4 p5 : Prop) : Prop
  | mk (h0 : p0) (h1 : p1) (h2 : p2) (h3 : p3) (h4 : p4) (h5 : p5) : AndN6 p0 p1 p2 p3 p4 p5
inductive AndN7 (p0 p1 p2 p3 p4 p5 p6 : Prop) : Prop
  | mk (h0 : p0) (h1 : p1) (h2 : p2) (h3 : p3) (h4 : p4) (h5 : p5) (h6 : p6) : AndN7 p0 p1 p2 p3 p4 p5 p6
inductive AndN8 (p0 p1 p2 p3 p4 p5 p6 p7 : Prop) : Prop
  | mk (h0 : p0) (h1 : p1) (h2 : p2) (h3 : p3) (h4 : p4) (h5 : p5) (h6 : p6) (h7 : p7) : AndN8 p0 p1 p2 p3 p4 p5 p6 p7
inductive AndN9 (p0 p1 p2 p3 p4 p5 p6 p7 p8 : Prop) : Prop
  | mk (h0 : p0) (h1 : p1) (h2 : p2) (h3 : p3) (h4 : p4) (h5 : p5) (h6 : p6) (h7 : p7) (h8 : p8) : AndN9 p0 p1 p2 p3 p4 p5 p6 p7 p8
inductive AndN10 (p0 p1 p2 p3 p4 p5 p6 p7 p8 p9 : Prop) : Prop
  | mk (h0 : p0) (h1 : p1) (h2 : p2) (h3 : p3) (h4 : p4) (h5 : p5) (h6 : p6) (h7 : p7) (h8 : p8) (h9 : p9) : AndN10 p0 p1 p2 p3 p4 p5 p6 p7 p8 p9
inductive AndN11 (p0 p1 p2 p3 p4 p5 p6 p7 p8 p9 p10 : Prop) : Prop
  | mk (h0 : p0) (h1 : p1) (h2 : p2) (h3 : p3) (h4 : p4) (h5 : p5) (h6 : p6) (h7 : p7) (h8 : p8) (h9 : p9) (h10 : p10) : AndN11 p0 p1 p2 p3 p4 p5 p6 p7 p8 p9 p10
/-- what a statement's end has to bring, as an unknown -/
structure SQ (M : Model) (A : Around) (rest : List Stmt) (env : Env) (Q : Flow → Shared → Prop) (E : Value → Shared → Prop) (Q' : Flow → Shared → Prop) : Prop where
  nx : ∀ s, wpAny M A (execs rest env) Q E s → Q' .next s
  rt : ∀ v s, Q (.ret v) s → Q' (.ret v) s
  bk : ∀ s, Q .brk s → Q' .brk s
  ct : ∀ s, Q .cont s → Q' .cont s
theorem seqQ {M : Model} {A : Around} {rest : List Stmt} {env : Env} {Q : Flow → Shared → Prop} {E : Value → Shared → Prop} {st : Stmt} {h : Heap} {g : Array GenState} {d : Drawn} {n : Nat} {o : OsState} (x : ∀ n Q', SQ M A rest env Q E Q' → wpAny M A (exec st env) Q' E ⟨h, g, d, n, o⟩) : wpAny M A (execs (st :: rest) env) Q E ⟨h, g, d, n, o⟩ := wpAny_execs_cons (x _ _ ⟨fun _ x => x, fun _ _ x => x, fun _ x => x, fun _ x => x⟩)
structure HQ (Q Q' : Flow → Shared → Prop) : Prop where
  up : ∀ f s, Q f s → Q' f s
theorem hideH {M : Model} {A : Around} {c : Sem Flow} {Q : Flow → Shared → Prop} {E : Value → Shared → Prop} {s : Shared} (x : ∀ Q', HQ Q Q' → wpAny M A c Q' E s) : wpAny M A c Q E s := x Q ⟨fun _ _ h => h⟩
/-! the rules of the kit, over a state that is laid out -/
section
variable {M : Model} {A : Around} {env : Env} {Q : Value → Shared → Prop} {E : Value → Shared → Prop} {h : Heap} {g : Array GenState} {d : Drawn} {n : Nat} {o : OsState}
theorem constI {i : Int} {k : Nat} {pos : Pos} (x : Q (.int i n) ⟨h, g, d, n + 1, o⟩) : wpAny M A (eval (.Constant (.int i) k pos) env) Q E ⟨h, g, d, n, o⟩ := wpAny_Constant_int x
theorem constS {y : Str} {k : Nat} {pos : Pos} (x : Q (.str y n) ⟨h, g, d, n + 1, o⟩) : wpAny M A (eval (.Constant (.str y) k pos) env) Q E ⟨h, g, d, n, o⟩ := Calls.Constant_str x
variable {prog : Program} {w : World} {a b : Int} {t u : Tok}
theorem addI (x : Q (.int (a + b) n) ⟨h, g, d, n + 1, o⟩) : wpAny (model prog w) A (binaryOp .Add (.int a t) (.int b u)) Q E ⟨h, g, d, n, o⟩ := add_int x
theorem subI (x : Q (.int (a - b) n) ⟨h, g, d, n + 1, o⟩) : wpAny (model prog w) A (binaryOp .Sub (.int a t) (.int b u)) Q E ⟨h, g, d, n, o⟩ := sub_int x
theorem modI (hb : b ≠ 0) (x : Q (.int (a.fmod b) n) ⟨h, g, d, n + 1, o⟩) : wpAny (model prog w) A (binaryOp .Mod (.int a t) (.int b u)) Q E ⟨h, g, d, n, o⟩ := mod_int' hb x
theorem fdivI (hb : b ≠ 0) (hp : b.natAbs < 1073741824) (x : Q (.int (a.fdiv b) n) ⟨h, g, d, n + 1, o⟩) : wpAny (model prog w) A (binaryOp .FloorDiv (.int a t) (.int b u)) Q E ⟨h, g, d, n, o⟩ := floordiv_int hb x (Or.inl (PyProof.noPylong_small hp))
theorem iaddI (x : Q (.int (a + b) n) ⟨h, g, d, n + 1, o⟩) : wpAny (model prog w) A (inplaceOp .Add (.int a t) (.int b u)) Q E ⟨h, g, d, n, o⟩ := iadd_int x
theorem isubI (x : Q (.int (a - b) n) ⟨h, g, d, n + 1, o⟩) : wpAny (model prog w) A (inplaceOp .Sub (.int a t) (.int b u)) Q E ⟨h, g, d, n, o⟩ := isub_int x
end
/-! one ledger within another -/
theorem subN {α : Type} {l : List α} : ∀ p ∈ ([] : List α), p ∈ l := fun _ h => nomatch h
theorem subC {α : Type} {x : α} {a l : List α} (h : x ∈ l) (k : ∀ p ∈ a, p ∈ l) : ∀ p ∈ x :: a, p ∈ l := fun p hp => by
  rcases List.mem_cons.mp hp with rfl | hp
  · exact h
  · exact k p hp
theorem subA {α : Type} {a b l : List α} (h : ∀ p ∈ a, p ∈ l) (k : ∀ p ∈ b, p ∈ l) : ∀ p ∈ a ++ b, p ∈ l := fun p hp => (List.mem_append.mp hp).elim (h p) (k p)
theorem subS {α : Type} {l : List α} : ∀ p ∈ l, p ∈ l := fun _ h => h
theorem subT {α : Type} {x : α} {a l : List α} (h : ∀ p ∈ a, p ∈ l) : ∀ p ∈ a, p ∈ x :: l := fun p hp => .tail _ (h p hp)
theorem subL {α : Type} {a b l : List α} (h : ∀ p ∈ a, p ∈ l) : ∀ p ∈ a, p ∈ l ++ b := fun p hp => List.mem_append_left _ (h p hp)
theorem subR {α : Type} {a b l : List α} (h : ∀ p ∈ a, p ∈ l) : ∀ p ∈ a, p ∈ b ++ l := fun p hp => List.mem_append_right _ (h p hp)
/-- every object that stood stands as it stood -/
noncomputable abbrev Keep (h h' : Heap) : Prop := ∀ b o, h.get? b = some o → h'.get? b = some o
theorem Keep.rfl' {h : Heap} : Keep h h := fun _ _ e => e
theorem Keep.trans' {h h' h'' : Heap} (a : Keep h h') (b : Keep h' h'') : Keep h h'' := fun x o e => b x o (a x o e)

section
variable {prog : Program} {w : World} {A A₀ : Around} {E : Value → Shared → Prop} {s : Shared} {K : Frag} {L : Addr} {h₀ base : Heap} {m mg mb : Str → Option Value} {p : Program} {loose : List Str} {mean : ExcName → Option Value}

theorem enterP {env : Env} {outer : List Env} {R : Result → Shared → Prop} {name qual : Str} {params : Arguments} {body : List Stmt} {scope : Scope} {dV kV doc pm cdv ct oc : Value} {an od : Option Addr} {osl : Array (Option Value)} {f : Addr} {args : Args} {binds : List (Str × Value)}
    (B : Below A₀ base outer h₀) (F : Fr h₀ L s.heap m) (X₀ : K.In h₀) (T : Top p loose mean mg mb h₀) (hA : A.frames = some (env :: outer)) (hf : env.frame = some L) (hke : env.scope.kind = .function)
    (ho : K.lookup f = some ⟨oc, od, .func (fnOf name qual params body scope dV kV doc pm an cdv ct), osl⟩) (hcd : codeIn K cdv qual = true) (hroom : A.depth < recursionLimit)
    (hbind : BindsTo s (fnOf name qual params body scope dV kV doc pm an cdv ct) args binds) (hloc : ∀ y ∈ binds, scope.names.lookup y.1 = some .local)
    (h : ∀ L' h₁, Fr s.heap L' h₁ (fun y => binds.reverse.lookup y) → Below A base (env :: outer) s.heap → K.In s.heap → Top p loose mean mg mb s.heap →
      wpAny (model prog w) (A.deeper (envOf qual scope L' f cdv)) (execs body (envOf qual scope L' f cdv))
        (fun fl s' => R (.ok (.ret (match fl with | .ret v => v | _ => .none))) s')
        (fun _ _ => False)
        { s with heap := h₁, toks := s.toks + binds.length })
    (hco : scope.isCoroutine = false) (hgen : scope.isGenerator = false) (hk : scope.kind = .function)
    (hcell : ∀ x ∈ scope.names, x.2 ≠ .cell) : codeAny (model prog w) A (.call (.ref f) args) R s := by
  obtain ⟨FG, BG, st, lv⟩ := groundX (R := R) (news := []) B F (fun _ hp => nomatch hp) hA hf hke
  refine codeAny_call_def (fd := fnX name qual params body scope [] dV kV doc pm an cdv ct) (body := body) (binds := binds) hroom ((X₀.keeps F.keep) _ _ ho) rfl (T.nolimit.keeps F.keep) (codeRec_of (X₀.keeps F.keep) hcd) rfl hbind hcell hloc (fun h₁ hns hk₁ => ?_) hco hgen hk
  exact wpAny_mono (h s.heap.objs.size h₁ ⟨hns, hk₁, Nat.le_refl _⟩ BG (X₀.keeps F.keep) (T.keeps F.keep)) (fun fl s' hl => hl) fun _ _ y => y.elim

theorem enterC {env : Env} {outer : List Env} {R : Result → Shared → Prop} {name qual : Str} {params : Arguments} {body : List Stmt} {scope : Scope} {dV kV doc pm cdv ct oc : Value} {an od : Option Addr} {osl : Array (Option Value)} {f : Addr} {args : Args} {binds : List (Str × Value)}
    (B : Below A₀ base outer h₀) (F : Fr h₀ L s.heap m) (X₀ : K.In h₀) (T : Top p loose mean mg mb h₀) (hA : A.frames = some (env :: outer)) (hf : env.frame = some L) (hke : env.scope.kind = .function)
    (ho : K.lookup f = some ⟨oc, od, .func (fnOf name qual params body scope dV kV doc pm an cdv ct), osl⟩) (hcd : codeIn K cdv qual = true) (hroom : A.depth < recursionLimit)
    (hbind : BindsTo s (fnOf name qual params body scope dV kV doc pm an cdv ct) args binds) (hkind : (binds.all fun y => scope.names.lookup y.1 == some .local || scope.names.lookup y.1 == some .cell) = true)
    (hnd : ((cellsFrom 0 scope.names []).map (·.1)).Nodup)
    (h : ∀ L' h₁ tk cells, Fr s.heap L' h₁ (bindL (envOfC qual scope L' f cdv).kindOf binds fun _ => none) → News s.heap L' h₁ cells →
      CellsAre (bindC (envOfC qual scope L' f cdv).kindOf binds fun _ => none) (cellsFrom (L' + 1) scope.names []) cells → Below A base (env :: outer) s.heap → K.In s.heap → Top p loose mean mg mb s.heap →
      wpAny (model prog w) (A.deeper (envOfC qual scope L' f cdv)) (execs body (envOfC qual scope L' f cdv))
        (fun fl s' => R (.ok (.ret (match fl with | .ret v => v | _ => .none))) s')
        (fun _ _ => False)
        { s with heap := h₁, toks := tk })
    (hco : scope.isCoroutine = false) (hgen : scope.isGenerator = false) (hk : scope.kind = .function) : codeAny (model prog w) A (.call (.ref f) args) R s := by
  obtain ⟨FG, BG, st, lv⟩ := groundX (R := R) (news := []) B F (fun _ hp => nomatch hp) hA hf hke
  refine codeAny_call_function hroom ((X₀.keeps F.keep) _ _ ho) rfl hco hgen rfl (codeRec_of (X₀.keeps F.keep) hcd) (hbind _ _ _ _ ?_)
  refine wpAny_newFunctionEnv_cells hk (kindsX hkind _) fun env' he s' x => ?_
  subst he
  refine ⟨((T.nolimit.keeps F.keep)).keeps x.toInCall.keep, codeAny_func ?_⟩
  obtain ⟨h₁, tk, rfl, _⟩ := x.done
  have hk₁ := x.toInCall.keep
  obtain ⟨cells, NC, Y⟩ := Cl.news (h₀ := s.heap) (Nat.le_refl _) fun n c hm => ⟨x.cell n c (lookup_of_mem_nodup (cellsFrom_names scope.names 0 (s.heap.objs.size + 1) [] [] rfl ▸ hnd) hm), x.above n c hm⟩
  exact wpAny_mono (h s.heap.objs.size h₁ tk cells ⟨x.toInCall.ns, hk₁, Nat.le_refl _⟩ NC Y BG (X₀.keeps F.keep) (T.keeps F.keep)) (fun fl s' hl => hl) fun _ _ y => y.elim
end

/-- the caller's frame, as one -/
structure Clr where
  dp : Nat
  un : Nat
  gd : Option (List Code)
  cn : Str
  nm : List (Str × NameKind)
  ig : Bool
  ic : Bool
  mo : List (Str × Const)
  L : Addr
  a : Addr
  ccd : Value
  cl : List (Str × Addr)
  outer : List Env
noncomputable def Clr.top (C : Clr) : Around := ktrTop C.dp C.un C.gd C.cn ⟨.function, C.nm, C.ig, C.ic, C.mo⟩ C.L C.a C.ccd C.cl C.outer
theorem Clr.depth (C : Clr) : C.top.depth = C.dp := rfl
theorem Clr.units (C : Clr) : C.top.units = C.un := rfl
/-- what a call of f with vs from s does: it ends, keeps what stood, and hands back a value of Post -/
noncomputable abbrev Spec (w : World) (f : Addr) (vs : List Value) (dd uu : Nat) (s : Shared) (Post : Value → Heap → Prop) : Prop :=
  ∀ (mean : ExcName → Option Value) (mg mb : Str → Option Value) (C : Clr) (A₀ : Around) (base h₀ : Heap) (m : Str → Option Value) (Q E : Value → Shared → Prop),
    Below A₀ base C.outer h₀ → Fr h₀ C.L s.heap m → (hd.heap_39 w.params).In h₀ → Top VW LO mean mg mb h₀ →
    C.dp + dd < recursionLimit → C.un + uu < cLine →
    (∀ v h' tk', Keep s.heap h' → Post v h' → Q v { s with heap := h', toks := tk' }) →
    wpAny (model PR w) C.top (call (.ref f) vs) Q E s
/-! a call's answer taken in -/
theorem un10 {α0 : Type} {f : α0 → Value} {X : Value → Prop} (k : ∀ x0, X (f x0)) : ∀ v, (∃ x0, v = f x0) → X v := by
  rintro v ⟨x0, rfl⟩
  exact k x0
theorem un21 {α0 α1 : Type} {f : α0 → α1 → Value} {p0 : α0 → α1 → Prop} {X : Value → Prop} (k : ∀ x0 x1, p0 x0 x1 → X (f x0 x1)) : ∀ v, (∃ x0 x1, v = f x0 x1 ∧ p0 x0 x1) → X v := by
  rintro v ⟨x0, x1, rfl, h0⟩
  exact k x0 x1 h0
theorem un22 {α0 α1 : Type} {f : α0 → α1 → Value} {p0 p1 : α0 → α1 → Prop} {X : Value → Prop} (k : ∀ x0 x1, p0 x0 x1 → p1 x0 x1 → X (f x0 x1)) : ∀ v, (∃ x0 x1, v = f x0 x1 ∧ p0 x0 x1 ∧ p1 x0 x1) → X v := by
  rintro v ⟨x0, x1, rfl, h0, h1⟩
  exact k x0 x1 h0 h1
theorem un33 {α0 α1 α2 : Type} {f : α0 → α1 → α2 → Value} {p0 p1 p2 : α0 → α1 → α2 → Prop} {X : Value → Prop} (k : ∀ x0 x1 x2, p0 x0 x1 x2 → p1 x0 x1 x2 → p2 x0 x1 x2 → X (f x0 x1 x2)) : ∀ v, (∃ x0 x1 x2, v = f x0 x1 x2 ∧ p0 x0 x1 x2 ∧ p1 x0 x1 x2 ∧ p2 x0 x1 x2) → X v := by
  rintro v ⟨x0, x1, x2, rfl, h0, h1, h2⟩
  exact k x0 x1 x2 h0 h1 h2
theorem un44 {α0 α1 α2 α3 : Type} {f : α0 → α1 → α2 → α3 → Value} {p0 p1 p2 p3 : α0 → α1 → α2 → α3 → Prop} {X : Value → Prop} (k : ∀ x0 x1 x2 x3, p0 x0 x1 x2 x3 → p1 x0 x1 x2 x3 → p2 x0 x1 x2 x3 → p3 x0 x1 x2 x3 → X (f x0 x1 x2 x3)) : ∀ v, (∃ x0 x1 x2 x3, v = f x0 x1 x2 x3 ∧ p0 x0 x1 x2 x3 ∧ p1 x0 x1 x2 x3 ∧ p2 x0 x1 x2 x3 ∧ p3 x0 x1 x2 x3) → X v := by
  rintro v ⟨x0, x1, x2, x3, rfl, h0, h1, h2, h3⟩
  exact k x0 x1 x2 x3 h0 h1 h2 h3
theorem un78 {α0 α1 α2 α3 α4 α5 α6 : Type} {f : α0 → α1 → α2 → α3 → α4 → α5 → α6 → Value} {p0 p1 p2 p3 p4 p5 p6 p7 : α0 → α1 → α2 → α3 → α4 → α5 → α6 → Prop} {X : Value → Prop} (k : ∀ x0 x1 x2 x3 x4 x5 x6, p0 x0 x1 x2 x3 x4 x5 x6 → p1 x0 x1 x2 x3 x4 x5 x6 → p2 x0 x1 x2 x3 x4 x5 x6 → p3 x0 x1 x2 x3 x4 x5 x6 → p4 x0 x1 x2 x3 x4 x5 x6 → p5 x0 x1 x2 x3 x4 x5 x6 → p6 x0 x1 x2 x3 x4 x5 x6 → p7 x0 x1 x2 x3 x4 x5 x6 → X (f x0 x1 x2 x3 x4 x5 x6)) : ∀ v, (∃ x0 x1 x2 x3 x4 x5 x6, v = f x0 x1 x2 x3 x4 x5 x6 ∧ p0 x0 x1 x2 x3 x4 x5 x6 ∧ p1 x0 x1 x2 x3 x4 x5 x6 ∧ p2 x0 x1 x2 x3 x4 x5 x6 ∧ p3 x0 x1 x2 x3 x4 x5 x6 ∧ p4 x0 x1 x2 x3 x4 x5 x6 ∧ p5 x0 x1 x2 x3 x4 x5 x6 ∧ p6 x0 x1 x2 x3 x4 x5 x6 ∧ p7 x0 x1 x2 x3 x4 x5 x6) → X v := by
  rintro v ⟨x0, x1, x2, x3, x4, x5, x6, rfl, h0, h1, h2, h3, h4, h5, h6, h7⟩
  exact k x0 x1 x2 x3 x4 x5 x6 h0 h1 h2 h3 h4 h5 h6 h7

end
section
section
variable {prog : Program} {w : World} {A : Around} {s : Shared} {env : Env} {g : Heap} {x : Str} {body : List Stmt} {Q : Flow → Shared → Prop}

/-- the same, for an iterator that writes wr -/
noncomputable def TurnEndT (g : Heap) (L : Addr) (wr : List Addr) (own : List (Addr × Obj)) (Jn : (Str → Option Value) → List (Addr × Obj) → Prop) (s : Shared) (Q : Flow → Shared → Prop) (f : Flow) (s₂ : Shared) : Prop :=
  match f with
  | .ret v => Q (.ret v) s₂
  | .brk => Q .next s₂
  | _ => ∃ h' tk m' nw', s₂ = { s with heap := h', toks := tk } ∧ Fr g L h' m' ∧ News g L h' (nw' ++ own) ∧ (∀ p ∈ nw', p.1 ∉ wr) ∧ Jn m' nw'

/-- how a turn of a loop ends: the ledger nw' is the loop's own, own is the iterator's -/
noncomputable def TurnEnd (g : Heap) (L I : Addr) (own : List (Addr × Obj)) (Jn : (Str → Option Value) → List (Addr × Obj) → Prop) (s : Shared) (Q : Flow → Shared → Prop) (f : Flow) (s₂ : Shared) : Prop :=
  match f with
  | .ret v => Q (.ret v) s₂
  | .brk => Q .next s₂
  | _ => ∃ h' tk m' nw', s₂ = { s with heap := h', toks := tk } ∧ Fr g L h' m' ∧ News g L h' (nw' ++ own) ∧ (∀ p ∈ nw', p.1 ≠ I) ∧ Jn m' nw'

theorem TurnEnd.next {L I : Addr} {own : List (Addr × Obj)} {Jn : (Str → Option Value) → List (Addr × Obj) → Prop} {h' : Heap} {tk : Nat} {m' : Str → Option Value} (nw' : List (Addr × Obj))
    (F : Fr g L h' m') (N : News g L h' (nw' ++ own)) (off : ∀ p ∈ nw', p.1 ≠ I) (j : Jn m' nw') : TurnEnd g L I own Jn s Q .next { s with heap := h', toks := tk } :=
  ⟨h', tk, m', nw', rfl, F, N, off, j⟩

theorem TurnEnd.ret {L I : Addr} {own : List (Addr × Obj)} {Jn : (Str → Option Value) → List (Addr × Obj) → Prop} {v : Value} {s₂ : Shared} (h : Q (.ret v) s₂) : TurnEnd g L I own Jn s Q (.ret v) s₂ := h
noncomputable abbrev Turn (prog : Program) (w : World) (A : Around) (env : Env) (g : Heap) (x : Str) (body : List Stmt) (Q : Flow → Shared → Prop) (s : Shared) (I : Addr) (fp : List Addr) (P : Nat → Value → Prop)
    (J : Nat → (Str → Option Value) → List (Addr × Obj) → Prop) : Prop :=
  ∀ i v m nw h tk own, P i v → J i m nw → (∀ p ∈ nw, p.1 ≠ I) → (∀ p ∈ own, p.1 ∈ fp) → (∃ oI, (I, oI) ∈ own) →
    Fr g env.locals h (fun y => if y = x then some v else m y) → News g env.locals h (nw ++ own) →
    wpAny (model prog w) A (execs body env) (TurnEnd g env.locals I own (J (i + 1)) s Q) (fun _ _ => False) { s with heap := h, toks := tk }

theorem loopW {I : Addr} {fp : List Addr} {n : Nat} {P : Nat → Value → Prop} {St : Nat → Heap → Prop} {m₀ : Str → Option Value} {news : List (Addr × Obj)} (J : Nat → (Str → Option Value) → List (Addr × Obj) → Prop)
    (W : Walks prog w A I fp [I] n P St) (hIf : I ∈ fp) (hlive : ∀ i h, St i h → ∃ o, h.get? I = some o) (hL : env.locals ∉ fp) (hI : g.get? I = none) (st : St 0 s.heap) (F : Fr g env.locals s.heap m₀) (N : News g env.locals s.heap news) (hoff : ∀ p ∈ news, p.1 ≠ I) (hj : J 0 m₀ news)
    (turn : Turn prog w A env g x body Q s I fp (fun i v => i < n ∧ P i v) J)
    (done : ∀ m nw h tk, J n m nw → (∀ p ∈ nw, p.1 ≠ I) → Fr g env.locals h m → News g env.locals h nw → Q .next { s with heap := h, toks := tk }) :
    LoopAtV prog w A g env x body Q (fun _ _ => False) (.ref I) s := by
  refine ⟨I, fp, [I], n, P, St, m₀, news, J, rfl, W, hL, ?_, ?_, st, F, N, hj, ?_, ?_⟩
  · intro b hb; rw [List.mem_singleton.mp hb]; exact hI
  · intro p hp hm; exact hoff p hp (List.mem_singleton.mp hm)
  · rintro i v m₁ news₁ s₁ own ⟨hh', tk', rfl⟩ hin hP hJ hof hown _ hall hst₁ F₁ N₁
    have hIm : ∃ oI, (I, oI) ∈ own := by
      obtain ⟨o, ho⟩ := hlive _ _ hst₁
      exact ⟨o, hall I hIf hI o ho⟩
    have off' : ∀ p ∈ news₁, p.1 ≠ I := fun p hp e => hof p hp (List.mem_singleton.mpr e)
    have N₂ : News g env.locals hh' (news₁ ++ own) := fun p hp => N₁ p ((List.mem_append.mp hp).elim (fun h => List.mem_append.mpr (.inr h)) fun h => List.mem_append.mpr (.inl h))
    refine wpAny_mono (turn i v m₁ news₁ hh' tk' own ⟨hin, hP⟩ hJ off' hown hIm F₁ N₂) (fun f s₂ p => ?_) fun _ _ e => e
    have fin : (∃ h' tk m' nw', s₂ = { s with heap := h', toks := tk } ∧ Fr g env.locals h' m' ∧ News g env.locals h' (nw' ++ own) ∧ (∀ p ∈ nw', p.1 ≠ I) ∧ J (i + 1) m' nw') →
        LoopStepU g env.locals [I] own (J (i + 1)) { s with heap := hh', toks := tk' } .next s₂ := by
      rintro ⟨h', tk, m', nw', e, F', N', hn, hm⟩
      refine ⟨rfl, h', tk, m', nw', e, F', fun p hp => N' p ((List.mem_append.mp hp).elim (fun h => List.mem_append.mpr (.inr h)) fun h => List.mem_append.mpr (.inl h)), fun p hp hq => hn p hp (List.mem_singleton.mp hq), hm⟩
    cases f with
    | ret v => exact .ret p
    | brk => exact .brk p
    | next => exact .next (fin p)
    | cont => exact .cont (fin p)
  · rintro h' tk m' news' F' N' hof hJ
    exact done m' news' h' tk hJ (fun p hp e => hof p hp (List.mem_singleton.mpr e)) F' N'

theorem ne_of_news {L I : Addr} {h : Heap} {news : List (Addr × Obj)} (N : News g L h news) (hI : h.objs.size ≤ I) : ∀ p ∈ news, p.1 ≠ I := fun p hp e => by
  have := Heap.lt_size (N p hp).1
  rw [e] at this
  exact absurd (Nat.lt_of_lt_of_le this hI) (Nat.lt_irrefl _)

/-- a for over a range -/
theorem iterR {r : Addr} {a₀ b₀ : Int} {t₀ u₀ v₀ : Tok} {n : Nat} {m₀ : Str → Option Value} {news : List (Addr × Obj)} (J : Nat → (Str → Option Value) → List (Addr × Obj) → Prop)
    (hh : A.handled = none) (hr : IsRange s.heap r a₀ b₀ 1 t₀ u₀ v₀) (hsmall : Builtin.Range.small a₀ b₀ 1 = true) (hn : Builtin.Range.rangeSize a₀ b₀ 1 = (n : Int)) (F : Fr g env.locals s.heap m₀) (N : News g env.locals s.heap news) (hj : J 0 m₀ news)
    (turn : ∀ I, (∀ p ∈ news, p.1 < I) → Turn prog w A env g x body Q s I [I] (fun i v => i < n ∧ ∃ t, v = .int (a₀ + i) t) J)
    (done : ∀ m nw h tk, J n m nw → Fr g env.locals h m → News g env.locals h nw → Q .next { s with heap := h, toks := tk }) :
    wpAny (model prog w) A (pyIter (.ref r)) (fun it s₂ => LoopAtV prog w A g env x body Q (fun _ _ => False) it s₂) (fun _ _ => False) s := by
  refine wpAny_pyIter_range hr hsmall ?_
  have W := Walks.range (prog := prog) (w := w) hh s.heap.objs.size a₀ 1 n
  refine loopW J W (by simp) (fun _ _ st => ⟨_, st⟩) ?_ (next_is_new F) (by show IsRangeIter _ _ _ _ _; rw [hn]; simpa using Heap.get?_push_size _ rfl) (F.push _) (fun p hp => ⟨Heap.get?_push_of_some _ (N p hp).1, (N p hp).2⟩) (ne_of_news N (Nat.le_refl _)) hj ?_ ?_
  · intro hm
    exact absurd F.ns.lt ((List.mem_singleton.mp hm) ▸ Nat.lt_irrefl _)
  · intro i v m nw h tk own hP hJ off hown hIm F₁ N₁
    obtain ⟨hi, t, hv⟩ := hP
    exact turn _ (fun p hp => Heap.lt_size (N p hp).1) i v m nw h tk own ⟨hi, t, by simpa using hv⟩ hJ off hown hIm F₁ N₁
  · intro m nw h tk hJ _ F₁ N₁
    exact done m nw h tk hJ F₁ N₁

theorem wpAny_pyIter_str' {E : Value → Shared → Prop} {xs : Str} {t : Tok} {Q : Value → Shared → Prop}
    (hQ : ∀ (o : Obj) (St : Nat → Heap → Prop), (∀ A' : Around, A'.handled = none → Walks prog w A' s.heap.objs.size [s.heap.objs.size] [s.heap.objs.size] xs.cps.size (SignAt xs) St) → (∀ i h, St i h → ∃ o, h.get? s.heap.objs.size = some o) → St 0 (s.heap.push o) →
      Q (.ref s.heap.objs.size) { s with heap := s.heap.push o }) : wpAny (model prog w) A (pyIter (.str xs t)) Q E s := by
  cases ha : xs.cps.all (· < 128)
  · exact wpAny_pyIter_wide ha (hQ _ _ (fun A' hA => Walks.strWide hA _ xs t) (fun _ _ st => let ⟨o, ho, _⟩ := st; ⟨o, ho⟩) ⟨_, Heap.get?_push_size _ rfl, rfl, rfl⟩)
  · exact wpAny_pyIter_ascii ha (hQ _ _ (fun A' hA => Walks.strAscii hA _ xs t) (fun _ _ st => let ⟨o, ho, _⟩ := st; ⟨o, ho⟩) ⟨_, Heap.get?_push_size _ rfl, rfl, rfl⟩)

/-- a for over a text's signs -/
theorem iterC {xs : Str} {tx : Tok} {m₀ : Str → Option Value} {news : List (Addr × Obj)} (J : Nat → (Str → Option Value) → List (Addr × Obj) → Prop)
    (hh : A.handled = none) (F : Fr g env.locals s.heap m₀) (N : News g env.locals s.heap news) (hj : J 0 m₀ news)
    (turn : ∀ I, (∀ p ∈ news, p.1 < I) → Turn prog w A env g x body Q s I [I] (fun i v => SignAt xs i v) J)
    (done : ∀ m nw h tk, J xs.cps.size m nw → Fr g env.locals h m → News g env.locals h nw → Q .next { s with heap := h, toks := tk }) :
    wpAny (model prog w) A (pyIter (.str xs tx)) (fun it s₂ => LoopAtV prog w A g env x body Q (fun _ _ => False) it s₂) (fun _ _ => False) s := by
  refine wpAny_pyIter_str' fun o St W hlive st => ?_
  refine loopW J (W A hh) (by simp) hlive ?_ (next_is_new F) st (F.push _) (fun p hp => ⟨Heap.get?_push_of_some _ (N p hp).1, (N p hp).2⟩) (ne_of_news N (Nat.le_refl _)) hj ?_ ?_
  · intro hm
    exact absurd F.ns.lt ((List.mem_singleton.mp hm) ▸ Nat.lt_irrefl _)
  · intro i v m nw h tk own hP hJ off hown hIm F₁ N₁
    exact turn _ (fun p hp => Heap.lt_size (N p hp).1) i v m nw h tk own hP.2 hJ off hown hIm F₁ N₁
  · intro m nw h tk hJ _ F₁ N₁
    exact done m nw h tk hJ F₁ N₁

/-- a while's turn that goes on -/
noncomputable def Again (I : Nat → Shared → Prop) (n : Nat) (s' : Shared) : Prop := ∃ m, m < n ∧ I m s'
/-- how a while's turn ends -/
noncomputable abbrev WhP (I : Nat → Shared → Prop) (n : Nat) (Q : Flow → Shared → Prop) (f : Flow) (s : Shared) : Prop := match f with
  | .next | .cont => Again I n s
  | .brk => Q .next s
  | .ret v => Q (.ret v) s
theorem WhP.ret {I : Nat → Shared → Prop} {n : Nat} {v : Value} {s : Shared} (h : Q (.ret v) s) : WhP I n Q (.ret v) s := h
/-- a while by an invariant over the whole state -/
theorem whileR {test : Expr} {pos : Pos} (I : Nat → Shared → Prop) (n : Nat) (h : I n s)
    (turn : ∀ n s₁, I n s₁ → wpAny (model prog w) A (isTrue test env (eval test env)) (fun b s₂ =>
      if b = true then wpAny (model prog w) A (execs body env) (WhP I n Q) (fun _ _ => False) s₂
      else Q .next s₂) (fun _ _ => False) s₁) :
    wpAny (model prog w) A (exec (.While test body [] pos) env) Q (fun _ _ => False) s := by
  refine wpAny_While (codeAny_whileLoop I (fun n s₁ hI => ?_) n h)
  refine wpAny_mono (turn n s₁ hI) (fun b s₂ hb => ?_) fun _ _ e => e.elim
  cases b with
  | true =>
    rw [if_pos rfl] at hb ⊢
    refine wpAny_mono hb (fun f s₃ hf => ?_) fun _ _ e => e.elim
    cases f <;> exact hf
  | false =>
    rw [if_neg Bool.false_ne_true] at hb ⊢
    exact wpAny_execs_nil hb

/-- how a while's turn ends, over the heap and the tokens -/
noncomputable def WhK (g : Array GenState) (d : Drawn) (o : OsState) (J : Nat → Heap → Nat → Prop) (n : Nat) (Q : Flow → Shared → Prop) (f : Flow) (s : Shared) : Prop := match f with
  | .next | .cont => ∃ k h tk, k < n ∧ s = ⟨h, g, d, tk, o⟩ ∧ J k h tk
  | .brk => Q .next s
  | .ret v => Q (.ret v) s
section
variable {g : Array GenState} {d : Drawn} {o : OsState} {J : Nat → Heap → Nat → Prop} {n : Nat} {h : Heap} {tk : Nat}
theorem WhK.again (k : Nat) (hk : k < n) (j : J k h tk) : WhK g d o J n Q .next ⟨h, g, d, tk, o⟩ := ⟨k, h, tk, hk, rfl, j⟩
theorem WhK.cont (k : Nat) (hk : k < n) (j : J k h tk) : WhK g d o J n Q .cont ⟨h, g, d, tk, o⟩ := ⟨k, h, tk, hk, rfl, j⟩
theorem WhK.brk (x : Q .next s) : WhK g d o J n Q .brk s := x
theorem WhK.ret {v : Value} (x : Q (.ret v) s) : WhK g d o J n Q (.ret v) s := x
theorem whileK {test : Expr} {pos : Pos} (J : Nat → Heap → Nat → Prop) (n : Nat) (j : J n h tk)
    (turn : ∀ n h tk Q', HQ Q Q' → J n h tk → wpAny (model prog w) A (isTrue test env (eval test env)) (fun b s₂ =>
      if b = true then wpAny (model prog w) A (execs body env) (WhK g d o J n Q') (fun _ _ => False) s₂
      else Q' .next s₂) (fun _ _ => False) ⟨h, g, d, tk, o⟩) :
    wpAny (model prog w) A (exec (.While test body [] pos) env) Q (fun _ _ => False) ⟨h, g, d, tk, o⟩ := by
  refine whileR (fun n s' => ∃ h tk, s' = ⟨h, g, d, tk, o⟩ ∧ J n h tk) n ⟨h, tk, rfl, j⟩ ?_
  rintro n s₁ ⟨h, tk, rfl, j⟩
  refine wpAny_mono (turn n h tk Q ⟨fun _ _ h => h⟩ j) (fun b s₂ hb => ?_) fun _ _ e => e.elim
  cases b with
  | true =>
    rw [if_pos rfl] at hb ⊢
    refine wpAny_mono hb (fun f s₃ hf => ?_) fun _ _ e => e.elim
    cases f with
    | ret v => exact hf
    | brk => exact hf
    | next =>
      obtain ⟨k, h, tk, hk, rfl, j⟩ := hf
      exact ⟨k, hk, h, tk, rfl, j⟩
    | cont =>
      obtain ⟨k, h, tk, hk, rfl, j⟩ := hf
      exact ⟨k, hk, h, tk, rfl, j⟩
  | false =>
    rw [if_neg Bool.false_ne_true] at hb ⊢
    exact hb
end

noncomputable abbrev TurnT (prog : Program) (w : World) (A : Around) (env : Env) (g : Heap) (target : Expr) (body : List Stmt) (Q : Flow → Shared → Prop) (s : Shared) (wr fp : List Addr) (P : Nat → Array Value → Prop)
    (J : Nat → (Str → Option Value) → List (Addr × Obj) → Prop) : Prop :=
  ∀ i T vals m nw h tk own, P i vals → J i m nw → (∀ p ∈ nw, p.1 ∉ wr) → (∀ p ∈ own, p.1 ∈ fp) → (∀ b ∈ wr, ∃ oI, (b, oI) ∈ own) →
    h.IsTuple T vals → Fr g env.locals h m → News g env.locals h (nw ++ own) →
    wpAny (model prog w) A (assign target env (.ref T)) (fun _ s₂ => wpAny (model prog w) A (execs body env) (TurnEndT g env.locals wr own (J (i + 1)) s Q) (fun _ _ => False) s₂) (fun _ _ => False) { s with heap := h, toks := tk }

/-- a for over tuples stands at its iterator -/
inductive ForUAt (prog : Program) (w : World) (A : Around) (env : Env) (g : Heap) (target : Expr) (body : List Stmt) (Q : Flow → Shared → Prop) (J : Nat → (Str → Option Value) → List (Addr × Obj) → Prop) (it : Value) (s₂ : Shared) : Prop
  | mk (I : Addr) (fp wr : List Addr) (n : Nat) (Pt : Nat → Array Value → Prop) (St : Nat → Heap → Prop) (Mid : Nat → Addr → Heap → Prop) (m : Str → Option Value) (news : List (Addr × Obj))
      (e : it = .ref I) (W : WalksU prog w A I fp wr n Pt St Mid) (hLf : env.locals ∉ fp) (hwr : ∀ b ∈ wr, g.get? b = none) (hlive : ∀ i h, St i h → ∀ b ∈ wr, ∃ o, h.get? b = some o) (hnw : ∀ p ∈ news, p.1 ∉ wr) (hst : St 0 s₂.heap) (F : Fr g env.locals s₂.heap m) (N : News g env.locals s₂.heap news) (h0 : J 0 m news)
      (turn : TurnT prog w A env g target body Q s₂ wr fp (fun i v => i < n ∧ Pt i v) J)
      (done : ∀ m nw h tk, J n m nw → Fr g env.locals h m → News g env.locals h nw → Q .next { s₂ with heap := h, toks := tk })
inductive UInv (g : Heap) (L : Addr) (s₂ : Shared) (wr : List Addr) (n : Nat) (St : Nat → Heap → Prop) (J : Nat → (Str → Option Value) → List (Addr × Obj) → Prop) (k : Nat) (s' : Shared) : Prop
  | mk (h : Heap) (tk : Nat) (m : Str → Option Value) (nw : List (Addr × Obj)) (i : Nat) (e : s' = { s₂ with heap := h, toks := tk }) (st : St i h) (F : Fr g L h m) (N : News g L h nw) (off : ∀ p ∈ nw, p.1 ∉ wr) (j : J i m nw) (le : i ≤ n) (e' : k = n + 1 - i)
theorem nat_end {n i : Nat} (h : i < n) : n + 1 - (i + 1) < n + 1 - i := Nat.sub_lt_sub_left (Nat.lt_succ_of_lt h) (Nat.lt_succ_self i)
/-- a for over an iterator of tuples, the target a tuple -/
theorem forU {iter : Expr} {elts : List Expr} {k1 : Nat} {pt pos : Pos} (J : Nat → (Str → Option Value) → List (Addr × Obj) → Prop)
    (h : wpAny (model prog w) A (eval iter env) (fun xv s₁ => wpAny (model prog w) A (pyIter xv) (fun it s₂ => ForUAt prog w A env g (.Tuple elts k1 pt) body Q J it s₂) (fun _ _ => False) s₁) (fun _ _ => False) s)
    (hs : ∀ x, foldedSetIterable iter env x = pure x := by intro _; rfl) :
    wpAny (model prog w) A (exec (.For (.Tuple elts k1 pt) iter body [] pos) env) Q (fun _ _ => False) s := by
  refine wpAny_For (wpAny_mono h (fun xv s₁ h₁ => wpAny_mono h₁ (fun it s₂ h₂ => ?_) fun _ _ e => e) fun _ _ e => e) hs
  cases h₂ with
  | mk I fp wr n Pt St Mid m news e W hLf hwr hlive hnw hst F N h0 turn done =>
  subst e
  have hLw : env.locals ∉ wr := fun h => hLf (W.sub _ h)
  have old : ∀ b o, g.get? b = some o → b ∉ wr := fun b o e hb => by rw [hwr b hb] at e; cases e
  refine codeAny_forLoop_any (R := fun r s' => match r with | .ok f => Q f s' | .error e => cameBackBy (model prog w) A env (fun _ _ => False) e s')
    (UInv g env.locals s₂ wr n St J) ?_ (n + 1) (.mk s₂.heap s₂.toks m news 0 rfl hst F N hnw h0 (Nat.zero_le _) rfl)
  intro k s' hk
  cases hk with
  | mk H tk m' news' i e hst' F' N' hnw' hJ hi e' =>
  subst e e'
  have next : ∀ h₁ : Heap, (∀ b o, b ∉ wr → H.get? b = some o → h₁.get? b = some o) → Fr g env.locals h₁ m' ∧ News g env.locals h₁ news' := fun h₁ hk₁ =>
    ⟨⟨F'.ns.at' fun o e => hk₁ _ o hLw e, fun b o e => hk₁ b o (old b o e) (F'.keep b o e), F'.above⟩, fun p hp => ⟨hk₁ _ _ (hnw' p hp) (N' p hp).1, (N' p hp).2⟩⟩
  rcases Nat.lt_or_eq_of_le hi with hlt | hin
  · refine W.item i _ _ _ hlt hst' fun T vals h₁ tk₁ hPt hT hMid hk₁ => ?_
    refine W.go _ k1 pt i T _ _ _ hMid fun h₂ hst₂ hk₂ => ?_
    have ht₂ : h₂.IsTuple T vals := hT.at fun o e => hk₂ T o (W.apart i T h₁ hMid) e
    obtain ⟨F₃, N₃⟩ := next h₂ fun b o hb x => hk₂ b o hb (hk₁ b o hb x)
    have Nown : News g env.locals h₂ (ownOf g fp h₂) := news_ownOf hLf
    refine wpAny_mono (turn i T vals m' news' h₂ tk₁ (ownOf g fp h₂) ⟨hlt, hPt⟩ hJ hnw' ownOf_sub (fun b hb => ?_) ht₂ F₃ (N₃.append Nown)) (fun _ s₃ h₃ => wpAny_mono h₃ (fun f s₄ h₄ => ?_) fun _ _ e => e.elim) fun _ _ e => e.elim
    · obtain ⟨o, ho⟩ := hlive _ _ hst₂ b hb
      exact ⟨o, mem_ownOf (W.sub b hb) (hwr b hb) ho⟩
    · have fin : (∃ h' tk m' nw', s₄ = { s₂ with heap := h', toks := tk } ∧ Fr g env.locals h' m' ∧ News g env.locals h' (nw' ++ ownOf g fp h₂) ∧ (∀ p ∈ nw', p.1 ∉ wr) ∧ J (i + 1) m' nw') →
          ∃ m, m < n + 1 - i ∧ UInv g env.locals s₂ wr n St J m s₄ := by
        rintro ⟨h₆', tk₆, m₂, news₂, e₆, F₆, N₆, ha₆, hJ₆⟩
        refine ⟨n + 1 - (i + 1), nat_end hlt, .mk h₆' tk₆ m₂ news₂ (i + 1) e₆ ?_ F₆ (fun p hp => N₆ p (List.mem_append_left _ hp)) ha₆ hJ₆ hlt rfl⟩
        refine W.frame _ _ _ hst₂ fun b hb o e => ?_
        cases hn : g.get? b with
        | some o₀ =>
          have : o₀ = o := by have := F₃.keep b o₀ hn; rw [e] at this; exact (Option.some.inj this).symm
          exact this ▸ F₆.keep b o₀ hn
        | none => exact (N₆ _ (List.mem_append_right _ (mem_ownOf hb hn e))).1
      cases f with
      | ret v => exact h₄
      | brk => exact h₄
      | next => exact fin h₄
      | cont => exact fin h₄
  · subst hin
    refine W.done _ _ _ hst' fun h₁ tk₁ hk₁ => wpAny_execs_nil ?_
    obtain ⟨F₁, N₁⟩ := next h₁ hk₁
    exact done m' news' h₁ tk₁ hJ F₁ N₁

/-- a pair's two items stored under two names -/
theorem assign2 {E : Value → Shared → Prop} {xa xb : Str} {pa pb pt : Pos} {k1 : Nat} {T : Addr} {v0 v1 : Value} {m : Str → Option Value} {news : List (Addr × Obj)} {Q : Unit → Shared → Prop}
    (hh : A.handled = none) (ht : s.heap.IsTuple T #[v0, v1]) (F : Fr g env.locals s.heap m) (N : News g env.locals s.heap news) (hxa : env.kindOf xa = some .local) (hxb : env.kindOf xb = some .local)
    (hp : (env.scope.kind == .class || (env.scope.kind == .module && env.locals != env.globals)) = false)
    (k : ∀ h' tk, Fr g env.locals h' (fun y => if y = xb then some v1 else if y = xa then some v0 else m y) → News g env.locals h' news → Q () { s with heap := h', toks := tk }) :
    wpAny (model prog w) A (assign (.Tuple [.Name xa pa, .Name xb pb] k1 pt) env (.ref T)) Q E s := by
  refine wpAny_assign_Tuple hh ht rfl rfl fun h₃ hx₃ => ?_
  replace hx₃ : Heap.ExtBut s.heap.objs.size s.heap h₃ := hx₃
  have up₃ : ∀ b o, s.heap.get? b = some o → h₃.get? b = some o := fun b o x => hx₃ b o (Nat.ne_of_lt (Heap.lt_size x)) x
  have F₃ := F.keeps up₃
  have N₃ := N.grown up₃
  show wpAny _ A (do holding [v1] (assign (.Name xa pa) env v0); do holding [] (assign (.Name xb pb) env v1); pure ()) _ _ _
  refine wpAny_bind (wpAny_holding (wpAny_assign_Name (wpAny_storeName_local hxa F₃.ns (fun h₄ hn₄ hs₄ => ?_) hp)))
  replace hs₄ : Heap.SameBut env.locals h₃ h₄ := hs₄
  have F₄ := F₃.set hn₄ hs₄
  refine wpAny_bind (wpAny_holding (wpAny_assign_Name (wpAny_storeName_local hxb F₄.ns (fun h₅ hn₅ hs₅ => wpAny_pure ?_) hp)))
  replace hs₅ : Heap.SameBut env.locals h₄ h₅ := hs₅
  exact k h₅ _ (F₄.set hn₅ hs₅) ((N₃.set hs₄).set hs₅)
end
section
variable {M : Model} {A : Around} {s : Shared} {env : Env}

noncomputable def Nxt (P : Shared → Prop) (f : Flow) (s' : Shared) : Prop := f = .next ∧ P s'
theorem Nxt.mk' {P : Shared → Prop} {s' : Shared} (h : P s') : Nxt P .next s' := ⟨rfl, h⟩

theorem cutS {st : Stmt} {rest : List Stmt} {Q : Flow → Shared → Prop} (P : Shared → Prop)
    (h1 : wpAny M A (exec st env) (Nxt P) (fun _ _ => False) s)
    (h2 : ∀ s', P s' → wpAny M A (execs rest env) Q (fun _ _ => False) s') : wpAny M A (execs (st :: rest) env) Q (fun _ _ => False) s := by
  refine wpAny_execs_cons (wpAny_mono h1 (fun f s' h => ?_) fun _ _ e => e)
  obtain ⟨rfl, hP⟩ := h
  exact h2 s' hP

theorem execs_app : ∀ xs ys : List Stmt, execs (xs ++ ys) env = (execs xs env >>= fun f => match f with | .next => execs ys env | f => pure f)
  | [], ys => by rw [List.nil_append, execs_nil, pure_bind]
  | x :: xs, ys => by
    rw [List.cons_append, execs_cons, execs_cons, bind_assoc]
    refine congrArg _ (funext fun f => ?_)
    cases f
    · exact execs_app xs ys
    all_goals rw [pure_bind]
theorem cutL (n : Nat) {body : List Stmt} {Q : Flow → Shared → Prop} (P : Shared → Prop)
    (h1 : wpAny M A (execs (body.take n) env) (Nxt P) (fun _ _ => False) s)
    (h2 : ∀ s', P s' → wpAny M A (execs (body.drop n) env) Q (fun _ _ => False) s') : wpAny M A (execs body env) Q (fun _ _ => False) s := by
  rw [← List.take_append_drop n body, execs_app]
  refine wpAny_bind (wpAny_mono h1 (fun f s' h => ?_) fun _ _ e => e)
  obtain ⟨rfl, hP⟩ := h
  exact h2 s' hP

noncomputable def NxtR (P : Shared → Prop) (Q : Flow → Shared → Prop) (f : Flow) (s' : Shared) : Prop := match f with
  | .next => P s'
  | f => Q f s'
theorem NxtR.ret {P : Shared → Prop} {Q : Flow → Shared → Prop} {v : Value} {s' : Shared} (h : Q (.ret v) s') : NxtR P Q (.ret v) s' := h
/-- a cut behind statements that may leave -/
theorem cutR (n : Nat) {body : List Stmt} {Q : Flow → Shared → Prop} (P : Shared → Prop)
    (h1 : wpAny M A (execs (body.take n) env) (NxtR P Q) (fun _ _ => False) s)
    (h2 : ∀ s', P s' → wpAny M A (execs (body.drop n) env) Q (fun _ _ => False) s') : wpAny M A (execs body env) Q (fun _ _ => False) s := by
  rw [← List.take_append_drop n body, execs_app]
  refine wpAny_bind (wpAny_mono h1 (fun f s' h => ?_) fun _ _ e => e)
  cases f with
  | next => exact h2 s' h
  | brk => exact wpAny_pure h
  | cont => exact wpAny_pure h
  | ret v => exact wpAny_pure h

/-- what stands behind a cut, as an unknown of the heap and the tokens -/
noncomputable def NxK (g : Array GenState) (d : Drawn) (o : OsState) (X : Heap → Nat → Prop) (f : Flow) (s' : Shared) : Prop := f = .next ∧ ∃ h tk, s' = ⟨h, g, d, tk, o⟩ ∧ X h tk
theorem NxK.mk {g : Array GenState} {d : Drawn} {o : OsState} {X : Heap → Nat → Prop} {h : Heap} {tk : Nat} (x : X h tk) : NxK g d o X .next ⟨h, g, d, tk, o⟩ := ⟨rfl, h, tk, rfl, x⟩
theorem cutKS {g : Array GenState} {d : Drawn} {o : OsState} {h0 : Heap} {t0 : Nat} {st : Stmt} {rest : List Stmt} {Q : Flow → Shared → Prop} (I : (Heap → Nat → Prop) → Prop)
    (h1 : ∀ X, I X → wpAny M A (exec st env) (NxK g d o X) (fun _ _ => False) ⟨h0, g, d, t0, o⟩)
    (h2 : I fun h tk => wpAny M A (execs rest env) Q (fun _ _ => False) ⟨h, g, d, tk, o⟩) : wpAny M A (execs (st :: rest) env) Q (fun _ _ => False) ⟨h0, g, d, t0, o⟩ := by
  refine wpAny_execs_cons (wpAny_mono (h1 _ h2) (fun f s' h => ?_) fun _ _ e => e)
  obtain ⟨rfl, h, tk, rfl, hP⟩ := h
  exact hP
theorem cutK (n : Nat) {g : Array GenState} {d : Drawn} {o : OsState} {h0 : Heap} {t0 : Nat} {body : List Stmt} {Q : Flow → Shared → Prop} (I : (Heap → Nat → Prop) → Prop)
    (h1 : ∀ X, I X → wpAny M A (execs (body.take n) env) (NxK g d o X) (fun _ _ => False) ⟨h0, g, d, t0, o⟩)
    (h2 : I fun h tk => wpAny M A (execs (body.drop n) env) Q (fun _ _ => False) ⟨h, g, d, tk, o⟩) : wpAny M A (execs body env) Q (fun _ _ => False) ⟨h0, g, d, t0, o⟩ := by
  rw [← List.take_append_drop n body, execs_app]
  refine wpAny_bind (wpAny_mono (h1 _ h2) (fun f s' h => ?_) fun _ _ e => e)
  obtain ⟨rfl, h, tk, rfl, hP⟩ := h
  exact hP
noncomputable def NxKR (g : Array GenState) (d : Drawn) (o : OsState) (X : Heap → Nat → Prop) (Q : Flow → Shared → Prop) (f : Flow) (s' : Shared) : Prop := match f with
  | .next => ∃ h tk, s' = ⟨h, g, d, tk, o⟩ ∧ X h tk
  | f => Q f s'
theorem NxKR.mk {g : Array GenState} {d : Drawn} {o : OsState} {X : Heap → Nat → Prop} {Q : Flow → Shared → Prop} {h : Heap} {tk : Nat} (x : X h tk) : NxKR g d o X Q .next ⟨h, g, d, tk, o⟩ := ⟨h, tk, rfl, x⟩
theorem NxKR.ret {g : Array GenState} {d : Drawn} {o : OsState} {X : Heap → Nat → Prop} {Q : Flow → Shared → Prop} {v : Value} {s' : Shared} (x : Q (.ret v) s') : NxKR g d o X Q (.ret v) s' := x
theorem cutKR (n : Nat) {g : Array GenState} {d : Drawn} {o : OsState} {h0 : Heap} {t0 : Nat} {body : List Stmt} {Q : Flow → Shared → Prop} (I : (Heap → Nat → Prop) → Prop)
    (h1 : ∀ X Q', HQ Q Q' → I X → wpAny M A (execs (body.take n) env) (NxKR g d o X Q') (fun _ _ => False) ⟨h0, g, d, t0, o⟩)
    (h2 : I fun h tk => wpAny M A (execs (body.drop n) env) Q (fun _ _ => False) ⟨h, g, d, tk, o⟩) : wpAny M A (execs body env) Q (fun _ _ => False) ⟨h0, g, d, t0, o⟩ := by
  rw [← List.take_append_drop n body, execs_app]
  refine wpAny_bind (wpAny_mono (h1 _ Q ⟨fun _ _ h => h⟩ h2) (fun f s' h => ?_) fun _ _ e => e)
  cases f with
  | next =>
    obtain ⟨h, tk, rfl, hP⟩ := h
    exact hP
  | brk => exact wpAny_pure h
  | cont => exact wpAny_pure h
  | ret v => exact wpAny_pure h
theorem cutL1 {s : Shared} {s1 : Stmt} {rest : List Stmt} {Q : Flow → Shared → Prop} (P : Shared → Prop)
    (h1 : wpAny M A (execs [s1] env) (Nxt P) (fun _ _ => False) s)
    (h2 : ∀ s', P s' → wpAny M A (execs rest env) Q (fun _ _ => False) s') : wpAny M A (execs (s1 :: rest) env) Q (fun _ _ => False) s := cutL 1 P h1 h2
theorem cutR1 {s : Shared} {s1 : Stmt} {rest : List Stmt} {Q : Flow → Shared → Prop} (P : Shared → Prop)
    (h1 : wpAny M A (execs [s1] env) (NxtR P Q) (fun _ _ => False) s)
    (h2 : ∀ s', P s' → wpAny M A (execs rest env) Q (fun _ _ => False) s') : wpAny M A (execs (s1 :: rest) env) Q (fun _ _ => False) s := cutR 1 P h1 h2
theorem cutK1 {g : Array GenState} {d : Drawn} {o : OsState} {h0 : Heap} {t0 : Nat} {s1 : Stmt} {rest : List Stmt} {Q : Flow → Shared → Prop} (I : (Heap → Nat → Prop) → Prop)
    (h1 : ∀ X, I X → wpAny M A (execs [s1] env) (NxK g d o X) (fun _ _ => False) ⟨h0, g, d, t0, o⟩)
    (h2 : I fun h tk => wpAny M A (execs rest env) Q (fun _ _ => False) ⟨h, g, d, tk, o⟩) : wpAny M A (execs (s1 :: rest) env) Q (fun _ _ => False) ⟨h0, g, d, t0, o⟩ := cutK 1 I h1 h2
theorem cutKR1 {g : Array GenState} {d : Drawn} {o : OsState} {h0 : Heap} {t0 : Nat} {s1 : Stmt} {rest : List Stmt} {Q : Flow → Shared → Prop} (I : (Heap → Nat → Prop) → Prop)
    (h1 : ∀ X Q', HQ Q Q' → I X → wpAny M A (execs [s1] env) (NxKR g d o X Q') (fun _ _ => False) ⟨h0, g, d, t0, o⟩)
    (h2 : I fun h tk => wpAny M A (execs rest env) Q (fun _ _ => False) ⟨h, g, d, tk, o⟩) : wpAny M A (execs (s1 :: rest) env) Q (fun _ _ => False) ⟨h0, g, d, t0, o⟩ := cutKR 1 I h1 h2
theorem cutL2 {s : Shared} {s1 s2 : Stmt} {rest : List Stmt} {Q : Flow → Shared → Prop} (P : Shared → Prop)
    (h1 : wpAny M A (execs [s1, s2] env) (Nxt P) (fun _ _ => False) s)
    (h2 : ∀ s', P s' → wpAny M A (execs rest env) Q (fun _ _ => False) s') : wpAny M A (execs (s1 :: s2 :: rest) env) Q (fun _ _ => False) s := cutL 2 P h1 h2
theorem cutK2 {g : Array GenState} {d : Drawn} {o : OsState} {h0 : Heap} {t0 : Nat} {s1 s2 : Stmt} {rest : List Stmt} {Q : Flow → Shared → Prop} (I : (Heap → Nat → Prop) → Prop)
    (h1 : ∀ X, I X → wpAny M A (execs [s1, s2] env) (NxK g d o X) (fun _ _ => False) ⟨h0, g, d, t0, o⟩)
    (h2 : I fun h tk => wpAny M A (execs rest env) Q (fun _ _ => False) ⟨h, g, d, tk, o⟩) : wpAny M A (execs (s1 :: s2 :: rest) env) Q (fun _ _ => False) ⟨h0, g, d, t0, o⟩ := cutK 2 I h1 h2
theorem cutKR2 {g : Array GenState} {d : Drawn} {o : OsState} {h0 : Heap} {t0 : Nat} {s1 s2 : Stmt} {rest : List Stmt} {Q : Flow → Shared → Prop} (I : (Heap → Nat → Prop) → Prop)
    (h1 : ∀ X Q', HQ Q Q' → I X → wpAny M A (execs [s1, s2] env) (NxKR g d o X Q') (fun _ _ => False) ⟨h0, g, d, t0, o⟩)
    (h2 : I fun h tk => wpAny M A (execs rest env) Q (fun _ _ => False) ⟨h, g, d, tk, o⟩) : wpAny M A (execs (s1 :: s2 :: rest) env) Q (fun _ _ => False) ⟨h0, g, d, t0, o⟩ := cutKR 2 I h1 h2
theorem cutK3 {g : Array GenState} {d : Drawn} {o : OsState} {h0 : Heap} {t0 : Nat} {s1 s2 s3 : Stmt} {rest : List Stmt} {Q : Flow → Shared → Prop} (I : (Heap → Nat → Prop) → Prop)
    (h1 : ∀ X, I X → wpAny M A (execs [s1, s2, s3] env) (NxK g d o X) (fun _ _ => False) ⟨h0, g, d, t0, o⟩)
    (h2 : I fun h tk => wpAny M A (execs rest env) Q (fun _ _ => False) ⟨h, g, d, tk, o⟩) : wpAny M A (execs (s1 :: s2 :: s3 :: rest) env) Q (fun _ _ => False) ⟨h0, g, d, t0, o⟩ := cutK 3 I h1 h2
theorem cutKR3 {g : Array GenState} {d : Drawn} {o : OsState} {h0 : Heap} {t0 : Nat} {s1 s2 s3 : Stmt} {rest : List Stmt} {Q : Flow → Shared → Prop} (I : (Heap → Nat → Prop) → Prop)
    (h1 : ∀ X Q', HQ Q Q' → I X → wpAny M A (execs [s1, s2, s3] env) (NxKR g d o X Q') (fun _ _ => False) ⟨h0, g, d, t0, o⟩)
    (h2 : I fun h tk => wpAny M A (execs rest env) Q (fun _ _ => False) ⟨h, g, d, tk, o⟩) : wpAny M A (execs (s1 :: s2 :: s3 :: rest) env) Q (fun _ _ => False) ⟨h0, g, d, t0, o⟩ := cutKR 3 I h1 h2
theorem oneK {st : Stmt} {Q : Flow → Shared → Prop} (h : wpAny M A (exec st env) Q (fun _ _ => False) s) : wpAny M A (execs [st] env) Q (fun _ _ => False) s := by
  refine wpAny_execs_cons (wpAny_mono h (fun f s' h => ?_) fun _ _ e => e)
  cases f with
  | next => exact wpAny_execs_nil h
  | brk => exact h
  | cont => exact h
  | ret v => exact h
theorem offC {a I : Addr} {o : Obj} {l : List (Addr × Obj)} (h : a ≠ I) (k : ∀ p ∈ l, p.1 ≠ I) : ∀ p ∈ (a, o) :: l, p.1 ≠ I := fun p hp => by
  rcases List.mem_cons.mp hp with rfl | hp
  · exact h
  · exact k p hp
theorem off0 {I : Addr} : ∀ p ∈ ([] : List (Addr × Obj)), p.1 ≠ I := fun _ hp => nomatch hp
theorem offA {I : Addr} {l l' : List (Addr × Obj)} (h : ∀ p ∈ l, p.1 ≠ I) (k : ∀ p ∈ l', p.1 ≠ I) : ∀ p ∈ l ++ l', p.1 ≠ I := fun p hp => (List.mem_append.mp hp).elim (h p) (k p)
theorem noNews {g : Heap} {L : Addr} {h : Heap} : News g L h [] := fun _ hp => nomatch hp
theorem News.at' {g h : Heap} {L : Addr} {nw l own : List (Addr × Obj)} (e : nw = l) (N : News g L h (nw ++ own)) : News g L h (l ++ own) := e ▸ N
theorem News.at0 {g h : Heap} {L : Addr} {nw l : List (Addr × Obj)} (e : nw = l) (N : News g L h nw) : News g L h l := e ▸ N

/-- the frame's state: the heap and the tokens alone have moved -/
inductive At (s : Shared) (g : Heap) (L : Addr) (C : (Str → Option Value) → List (Addr × Obj) → Prop) (s' : Shared) : Prop
  | mk (h : Heap) (tk : Nat) (m : Str → Option Value) (nw : List (Addr × Obj)) (e : s' = { s with heap := h, toks := tk }) (F : Fr g L h m) (N : News g L h nw) (c : C m nw) : At s g L C s'
theorem Nxt.at {g : Heap} {L : Addr} {C : (Str → Option Value) → List (Addr × Obj) → Prop} {h : Heap} {tk : Nat} {m : Str → Option Value} (nw : List (Addr × Obj)) (F : Fr g L h m) (N : News g L h nw) (c : C m nw) :
    Nxt (At s g L C) .next { s with heap := h, toks := tk } := ⟨rfl, h, tk, m, nw, rfl, F, N, c⟩
theorem Again.at {I : Nat → Shared → Prop} {n : Nat} (k : Nat) {s' : Shared} (h : k < n) (hI : I k s') : Again I n s' := ⟨k, h, hI⟩
theorem At.mk' {g : Heap} {L : Addr} {C : (Str → Option Value) → List (Addr × Obj) → Prop} {h : Heap} {tk : Nat} {m : Str → Option Value} (nw : List (Addr × Obj)) (F : Fr g L h m) (N : News g L h nw) (c : C m nw) :
    At s g L C { s with heap := h, toks := tk } := ⟨h, tk, m, nw, rfl, F, N, c⟩
theorem NxtR.at {g : Heap} {L : Addr} {Q : Flow → Shared → Prop} {C : (Str → Option Value) → List (Addr × Obj) → Prop} {h : Heap} {tk : Nat} {m : Str → Option Value} (nw : List (Addr × Obj)) (F : Fr g L h m) (N : News g L h nw) (c : C m nw) :
    NxtR (At s g L C) Q .next { s with heap := h, toks := tk } := ⟨h, tk, m, nw, rfl, F, N, c⟩
end
/-- a contract used at a call -/
theorem Spec.use {w : World} {f : Addr} {vs : List Value} {dd uu : Nat} {s : Shared} {Post : Value → Heap → Prop} (h : Spec w f vs dd uu s Post)
    {A : Around} {mean : ExcName → Option Value} {mg mb : Str → Option Value} {dp un : Nat} {gd : Option (List Code)} {cn : Str} {nm : List (Str × NameKind)} {ig ic : Bool} {mo : List (Str × Const)} {a : Addr} {ccd : Value} {cl : List (Str × Addr)} {outer : List Env} {A₀ : Around} {base h₀ : Heap} {L : Addr} {m : Str → Option Value} {news : List (Addr × Obj)} {Q E : Value → Shared → Prop}
    (hA : A = ktrTop dp un gd cn ⟨.function, nm, ig, ic, mo⟩ L a ccd cl outer)
    (B : Below A₀ base outer h₀) (F : Fr h₀ L s.heap m) (N : News h₀ L s.heap news) (X : (hd.heap_39 w.params).In h₀) (Tp : Top VW LO mean mg mb h₀)
    (hd : dp + dd < recursionLimit) (hu : un + uu < cLine)
    (k : ∀ v h' tk', Keep s.heap h' → Fr h₀ L h' m → News h₀ L h' news → Post v h' → Q v { s with heap := h', toks := tk' }) :
    wpAny (model PR w) A (call (.ref f) vs) Q E s := by
  subst hA
  exact h mean mg mb ⟨dp, un, gd, cn, nm, ig, ic, mo, L, a, ccd, cl, outer⟩ A₀ base h₀ m Q E B F X Tp hd hu fun v h' tk' hk hp => k v h' tk' hk (F.keeps hk) (N.grown hk) hp

end
section
/-- a text by its signs' numbers -/
noncomputable def T (l : List Nat) : Str := ⟨l.toArray⟩
theorem T_len (l : List Nat) : (T l).length = l.length := by show l.toArray.size = _; simp
theorem T_list (l : List Nat) : (T l).cps.toList = l := by simp [T]
theorem T_inj {a b : List Nat} (h : T a = T b) : a = b := by rw [← T_list a, h, T_list]
theorem T_eq (a b : List Nat) : T a = T b ↔ a = b := ⟨T_inj, fun h => by rw [h]⟩
theorem T_of (x : Str) : x = T x.cps.toList := by simp [T]
theorem T_add (a b : List Nat) : T a ++ T b = T (a ++ b) := by
  show PySem.Str.mk _ = PySem.Str.mk _
  simp [T]
theorem T_from (l : List Nat) (k : Nat) : Txt.slice (T l) (some (k : Int)) none = T (l.drop k) := by
  by_cases h : k ≤ l.length
  · have := slice_closes_from (x := T l) (i := (k : Int)) (by rw [T_list]; omega)
    rw [eq_of_beq this, T_list]
    simp only [T, Int.toNat_natCast]
    congr 1
    rw [List.take_of_length_le]
    simp only [List.length_drop]
    omega
  · rw [slice_beyond (by rw [T_len]; omega), List.drop_of_length_le (by omega)]
    rfl
theorem T_to (l : List Nat) (k : Nat) : Txt.slice (T l) none (some (k : Int)) = T (l.take k) := by
  by_cases h : k ≤ l.length
  · have := slice_closes_to (x := T l) (j := (k : Int)) (by rw [T_list]; omega)
    rw [eq_of_beq this, T_list]
    simp [T]
  · have e := slice_ns_cases (T l) (k : Int) (by omega)
    rcases e with ⟨e, _⟩ | ⟨_, e⟩
    · rw [T_len] at e; omega
    · rw [List.take_of_length_le (by omega)]
      unfold Txt.slice at e ⊢
      split
      · rfl
      · rename_i hn
        exfalso
        apply hn
        have : (Builtin.Str.strSliceIndices none (some (k : Int)) 1 (T l).length).length = (T l).length := by
          have hc : ¬ ((k : Int) < 0) := by omega
          have hm : max 0 (min (k : Int) ((T l).length : Int)) = ((T l).length : Int) := by rw [T_len]; omega
          unfold Builtin.Str.strSliceIndices sliceRange
          simp only [show (1 : Int) > 0 by decide, if_true, if_neg hc, hm, List.length_map, List.length_range, Int.ediv_one]
          split <;> omega
        simp [this]
theorem T_to_neg (l : List Nat) (k : Nat) (hk : 0 < k) : Txt.slice (T l) none (some (-(k : Int))) = T (l.take (l.length - k)) := by
  rw [slice_to_neg (by omega), T_len]
  have : max 0 ((l.length : Int) + -(k : Int)) = ((l.length - k : Nat) : Int) := by omega
  rw [this, T_to]
theorem T_last (l : List Nat) (k : Nat) (hk : 0 < k) : Txt.slice (T l) (some (-(k : Int))) none = T (l.drop (l.length - k)) := by
  rw [slice_from_neg (by omega), T_len]
  have : max 0 ((l.length : Int) + -(k : Int)) = ((l.length - k : Nat) : Int) := by omega
  rw [this, T_from]
theorem T_cut (l : List Nat) (i j : Nat) (h : i ≤ j) (hj : j ≤ l.length) : Txt.slice (T l) (some (i : Int)) (some (j : Int)) = T ((l.take j).drop i) := by
  have := slice_closes (x := T l) (i := (i : Int)) (j := (j : Int)) (by rw [T_list]; omega)
  rw [eq_of_beq this, T_list]
  simp only [T, Int.toNat_natCast]
  rw [List.drop_take, show ((j : Int) - (i : Int)).toNat = j - i from by omega]
theorem T_at (l : List Nat) (i : Int) (j : Nat) (hj : seqIndex? i l.length = some j) (h : j < l.length) : Txt.item (T l) i = T [l[j]] := by
  unfold Txt.item Txt.charAt
  rw [T_len, hj]
  simp [T, h]
theorem T_item (l : List Nat) (k : Nat) (hk : k < l.length) : Txt.item (T l) (k : Int) = T [l[k]] := by
  refine T_at l _ k ?_ hk
  unfold seqIndex?
  have h1 : ¬ ((k : Int) < 0) := by omega
  simp [h1, hk]
theorem T_item_neg (l : List Nat) (k : Nat) (h0 : 0 < k) (hk : k ≤ l.length) : Txt.item (T l) (-(k : Int)) = T [l[l.length - k]] := by
  refine T_at l _ (l.length - k) ?_ (by omega)
  unfold seqIndex?
  have h1 : (-(k : Int)) < 0 := by omega
  have h2 : (-(k : Int) + (l.length : Int)).toNat = l.length - k := by omega
  have h3 : 0 ≤ -(k : Int) + (l.length : Int) := by omega
  have h4 : -(k : Int) + (l.length : Int) < l.length := by omega
  simp [h2, h3, h4, h0]

theorem item_is {x : List Nat} {k : Nat} {c : Nat} (kx : k < x.length) (h : (Txt.item (T x) (k : Int) == T [c]) = true) : x[k] = c := by
  rw [beq_iff_eq, T_item x k kx] at h
  exact (List.cons.inj (T_inj h)).1
theorem item_not {x : List Nat} {k : Nat} {c : Nat} (kx : k < x.length) (h : (Txt.item (T x) (k : Int) == T [c]) = false) : x[k] ≠ c := by
  rw [beq_eq_false_iff_ne, ne_eq, T_item x k kx] at h
  exact fun e => h (by rw [e])
theorem pred_cast {c d : Nat} (h : c = d + 1) : (c : Int) - 1 = d := by rw [h]; exact Int.add_sub_cancel (d : Int) 1
theorem ex_pred {c : Nat} (h : (c : Int) ≠ 0) : ∃ d, c = d + 1 := Nat.exists_eq_succ_of_ne_zero fun e => h (by rw [e]; rfl)
theorem nat0 {c : Nat} (h : (c : Int) = 0) : c = 0 := Int.ofNat.inj h
theorem rev_at {u : List Nat} {i k : Nat} (h : i + 1 + k = u.length) (hi : i < u.length) (hk : k < u.reverse.length) : u[i] = u.reverse[k] := by
  rw [List.getElem_reverse]
  congr 1
  omega
section
variable {prog : Program} {w : World} {A : Around} {E : Value → Shared → Prop} {value slice : Expr} {t u : Tok} {x : List Nat} {k : Nat} {Q : Value → Shared → Prop} {h : Heap} {g : Array GenState} {d : Drawn} {n : Nat} {o : OsState}
theorem nat_lo (a k : Nat) : -(a : Int) ≤ (k : Int) := Int.le_trans (Int.neg_nonpos_of_nonneg (Int.natCast_nonneg a)) (Int.natCast_nonneg k)
theorem item_T (kx : k < x.length) (hn : x.length ≤ 1000000) (K : Q (.str (T [x[k]]) n) ⟨h, g, d, n + 1, o⟩)
    (hs : subscripted slice false (.str (T x) t) (.int (k : Int) u) = operate [.str (T x) t, .int (k : Int) u] (getItem (.str (T x) t) (.int (k : Int) u)) := by with_unfolding_all rfl)
    (ht : ∀ r, letTemporaryGo value (.str (T x) t) r = pure () := by intro _; with_unfolding_all rfl) :
    wpAny (model prog w) A (subscriptTail value slice (.str (T x) t) (.int (k : Int) u)) Q E ⟨h, g, d, n, o⟩ :=
  item_str (fitsSsize_of (N := ((1000001 : Nat) : Int)) (Int.lt_of_lt_of_le (by decide) (Int.natCast_nonneg k)) (Int.ofNat_lt.mpr (Nat.lt_succ_of_le (Nat.le_trans (Nat.le_of_lt kx) hn))) (by decide)) (nat_lo _ _) (Int.ofNat_lt.mpr (by rw [T_len]; exact kx)) (fun _ => by rw [T_item x k kx]; exact K) hs ht
theorem item_Tr (kx : k < x.reverse.length) (hn : x.length ≤ 1000000) (K : Q (.str (T [x.reverse[k]]) n) ⟨h, g, d, n + 1, o⟩)
    (hs : subscripted slice false (.str (T x) t) (.int (-(k : Int) - 1) u) = operate [.str (T x) t, .int (-(k : Int) - 1) u] (getItem (.str (T x) t) (.int (-(k : Int) - 1) u)) := by with_unfolding_all rfl)
    (ht : ∀ r, letTemporaryGo value (.str (T x) t) r = pure () := by intro _; with_unfolding_all rfl) :
    wpAny (model prog w) A (subscriptTail value slice (.str (T x) t) (.int (-(k : Int) - 1) u)) Q E ⟨h, g, d, n, o⟩ := by
  have kx' : k < x.length := by rw [List.length_reverse] at kx; exact kx
  refine item_str (fitsSsize_of (N := 9223372036854775808) (by omega) (by omega) (Int.le_refl _)) (by rw [T_len]; omega) (by rw [T_len]; omega) (fun _ => ?_) hs ht
  have e := T_item_neg x (k + 1) (Nat.succ_pos k) kx'
  rw [show -((k + 1 : Nat) : Int) = -(k : Int) - 1 from by omega] at e
  rw [e]
  rw [List.getElem_reverse] at K
  simp only [Nat.sub_sub, Nat.add_comm 1 k] at K
  exact K
end
theorem T1_eq {a b : Nat} (h : (T [a] == T [b]) = true) : a = b := (List.cons.inj (T_inj (beq_iff_eq.mp h))).1
theorem T1_ne {a b : Nat} (h : (T [a] == T [b]) = false) : a ≠ b := fun e => (beq_eq_false_iff_ne.mp h) (by rw [e])
theorem T_ne {a b : List Nat} (h : (T a == T b) = false) : a ≠ b := fun e => (beq_eq_false_iff_ne.mp h) (by rw [e])
theorem from_ne {x : List Nat} {k : Nat} (h : ((Txt.slice (T x) (some (k : Int)) none).length : Int) ≠ 0) : k < x.length := by
  rw [T_from, T_len, List.length_drop] at h
  exact Nat.lt_of_sub_ne_zero fun e => h (by rw [e]; rfl)
theorem from_eq {x : List Nat} {k : Nat} (h : ((Txt.slice (T x) (some (k : Int)) none).length : Int) = 0) : x.length ≤ k := by
  rw [T_from, T_len, List.length_drop] at h
  exact Nat.le_of_sub_eq_zero (nat0 h)
theorem tk_len (x : List Nat) (k : Nat) : (T (x.take (x.length - k))).length = x.length - k := by rw [T_len, List.length_take, Nat.min_eq_left (Nat.sub_le _ _)]
theorem tk_ne {x : List Nat} {k : Nat} (h : ((T (x.take (x.length - k))).length : Int) ≠ 0) : k < x.reverse.length := by
  rw [tk_len] at h
  rw [List.length_reverse]
  exact Nat.lt_of_sub_ne_zero fun e => h (by rw [e]; rfl)
theorem tk_eq {x : List Nat} {k : Nat} (h : ((T (x.take (x.length - k))).length : Int) = 0) : x.reverse.length ≤ k := by
  rw [tk_len] at h
  rw [List.length_reverse]
  exact Nat.le_of_sub_eq_zero (nat0 h)
theorem left_pos {k n l : Nat} (h : k + n = l) (hl : k < l) : ∃ d, n = d + 1 := Nat.exists_eq_succ_of_ne_zero fun e => absurd (by rw [← h, e] at hl; exact hl) (Nat.lt_irrefl _)
/-- what a name of the frame holds -/
noncomputable abbrev sv (m : Str → Option Value) (n : String) (l : List Nat) : Prop := ∃ t, m (Str.ofString n) = some (.str (T l) t)
noncomputable abbrev iv (m : Str → Option Value) (n : String) (i : Int) : Prop := ∃ t, m (Str.ofString n) = some (.int i t)
noncomputable abbrev rv (m : Str → Option Value) (n : String) (a : Addr) : Prop := m (Str.ofString n) = some (.ref a)
theorem len63 {x : Str} {n : Nat} (h : x.length ≤ n) (hn : n ≤ 1000000) : (x.length : Int) < 9223372036854775808 := by omega
theorem slice63 (l : List Nat) (i j : Option Int) (hn : l.length ≤ 1000000) : ((Txt.slice (T l) i j).length : Int) < 9223372036854775808 := len63 (Nat.le_trans (Txt.slice_le ..) (by rw [T_len]; exact Nat.le_refl _)) hn
theorem t63 (l : List Nat) (hn : l.length ≤ 1000000) : ((T l).length : Int) < 9223372036854775808 := len63 (Nat.le_of_eq (T_len l)) hn
theorem T_all (l : List Nat) : Txt.slice (T l) none none = T l := by
  unfold Txt.slice
  split
  · rfl
  · rename_i hn
    exfalso
    apply hn
    have : (Builtin.Str.strSliceIndices none none 1 (T l).length).length = (T l).length := by
      unfold Builtin.Str.strSliceIndices sliceRange
      simp only [show (1 : Int) > 0 by decide, if_true, List.length_map, List.length_range, Int.ediv_one]
      split <;> omega
    simp [this]
section
variable {prog : Program} {w : World} {A : Around} {E : Value → Shared → Prop} {s : Shared} {Q : Bool → Shared → Prop} {a : Int} {t : Tok} {x : Str}
theorem truthy_intT (h : a ≠ 0) (k : Q true s) : wpAny (model prog w) A (truthy (.int a t)) Q E s := truthy_int (by rw [show (a != 0) = true from by simp [h]]; exact k)
theorem truthy_intF (h : a = 0) (k : Q false s) : wpAny (model prog w) A (truthy (.int a t)) Q E s := truthy_int (by rw [show (a != 0) = false from by simp [h]]; exact k)
end
section
variable {prog : Program} {w : World} {A : Around} {E : Value → Shared → Prop} {s : Shared} {Q : Value → Shared → Prop} {t : Tok}
theorem len_strT {l : List Nat} (hn : l.length ≤ 1000000) (h : Q (.int (l.length : Nat) (s.toks + 1)) { s with toks := s.toks + 1 + 1 }) : wpAny (model prog w) A (call (.builtin "len") [.str (T l) t]) Q E s := by
  refine P.len_str (by rw [T_len]; omega) ?_
  rw [T_len]
  exact h
end

end
section
section
variable {prog : Program} {w : World} {A : Around} {s : Shared} {h₀ : Heap} {L : Addr} {m : Str → Option Value} {env : Env}
open PyProof.Rows.LCg PyProof.Rows.LCt

/-- how a turn of a comprehension ends -/
noncomputable def TurnC (h₀ : Heap) (L : Addr) (m : Str → Option Value) (s : Shared) (I : Addr) (oI : Obj) (C : Addr) (oC : Obj) (D : Addr) (ys : List Value) (J : Value → List (Addr × Obj) → Prop) (y : Value) (s₂ : Shared) : Prop :=
  ∃ h' tk nw', s₂ = { s with heap := h', toks := tk } ∧ Fr h₀ L h' m ∧ News h₀ L h' ((I, oI) :: (C, oC) :: (D, lst ys) :: nw') ∧ Off3 I C D nw' ∧ J y nw'
theorem TurnC.end {I C D : Addr} {oI oC : Obj} {ys : List Value} {J : Value → List (Addr × Obj) → Prop} {y : Value} {h' : Heap} {tk : Nat} {all : List (Addr × Obj)} (nw' : List (Addr × Obj))
    (F : Fr h₀ L h' m) (N : News h₀ L h' all) (sub : ∀ p ∈ (I, oI) :: (C, oC) :: (D, lst ys) :: nw', p ∈ all) (off : Off3 I C D nw') (j : J y nw') : TurnC h₀ L m s I oI C oC D ys J y { s with heap := h', toks := tk } :=
  ⟨h', tk, nw', rfl, F, fun p hp => N p (sub p hp), off, j⟩

theorem compJ {elt : Expr} {x : Str} {scope : Scope} {cl : List (Str × Addr)} {S : List (Addr × Obj) → Prop} {P : Nat → Value → Prop} {Fin : List Value → List (Addr × Obj) → Prop} {n : Nat} {news : List (Addr × Obj)}
    (J : Nat → List Value → List (Addr × Obj) → Prop) (hS : ∀ i ys nw, J i ys nw → S nw) (hj : J 0 [] news)
    (turn : ∀ i v I oI C oC D m₂ ys nw h tk (E' : Value → Shared → Prop), i < n → P i v → J i ys nw → NsObj oC m₂ → m₂ x = some v → Fr h₀ L h m → News h₀ L h ((I, oI) :: (C, oC) :: (D, lst ys) :: nw) → Off3 I C D nw → ((@Ne Nat I C) ∧ (@Ne Nat I D) ∧ (@Ne Nat C D)) →
      wpAny (model prog w) A (eval elt (compEnvC scope cl C env)) (TurnC h₀ L m s I oI C oC D ys (fun y nw' => J (i + 1) (ys ++ [y]) nw')) E' { s with heap := h, toks := tk })
    (fin : ∀ ys nw, J n ys nw → Fin ys nw) : CompRest prog w A h₀ L m env elt x scope cl s S P Fin n 0 [] news := by
  have key : ∀ (j i : Nat) (ys : List Value) (nw : List (Addr × Obj)), i + j = n → J i ys nw → CompRest prog w A h₀ L m env elt x scope cl s S P Fin j i ys nw := by
    intro j
    induction j with
    | zero =>
      intro i ys nw hi hy
      have e : i = n := by omega
      subst e
      exact CompRest.zero (fin ys nw hy)
    | succ j ih =>
      intro i ys nw hi hy
      refine CompRest.succ ?_
      intro v I oI C oC D m₂ h tk E' hv hC hx F N off ne
      refine wpAny_mono (turn i v I oI C oC D m₂ ys nw h tk E' (by omega) hv hy hC hx F N off ne) (fun y s₂ hq => ?_) fun _ _ e => e
      obtain ⟨h', tk', nw', e, F', N', off', hJ⟩ := hq
      exact ⟨h', tk', nw', e, F', N', off', hS _ _ _ hJ, ih (i + 1) _ _ (by omega) hJ⟩
  exact key n 0 [] news (by omega) hj

theorem TurnC.endE {I C D : Addr} {oI oC : Obj} {ys : List Value} {J : Value → Prop} {y : Value} {h' : Heap} {tk : Nat} {news all : List (Addr × Obj)}
    (F : Fr h₀ L h' m) (N : News h₀ L h' all) (sub : ∀ p ∈ (I, oI) :: (C, oC) :: (D, lst ys) :: news, p ∈ all) (off : Off3 I C D news) (j : J y) : TurnC h₀ L m s I oI C oC D ys (fun y nw => nw = news ∧ J y) y { s with heap := h', toks := tk } :=
  ⟨h', tk, news, rfl, F, fun p hp => N p (sub p hp), off, rfl, j⟩
/-- the same where the ledger stays -/
theorem compE {elt : Expr} {x : Str} {scope : Scope} {cl : List (Str × Addr)} {S : List (Addr × Obj) → Prop} {P : Nat → Value → Prop} {Fin : List Value → List (Addr × Obj) → Prop} {n : Nat} {news : List (Addr × Obj)}
    (J : Nat → List Value → Prop) (hS : S news) (hj : J 0 [])
    (turn : ∀ i v I oI C oC D m₂ ys h tk (E' : Value → Shared → Prop), i < n → P i v → J i ys → NsObj oC m₂ → m₂ x = some v → Fr h₀ L h m → News h₀ L h ((I, oI) :: (C, oC) :: (D, lst ys) :: news) → Off3 I C D news → ((@Ne Nat I C) ∧ (@Ne Nat I D) ∧ (@Ne Nat C D)) →
      wpAny (model prog w) A (eval elt (compEnvC scope cl C env)) (TurnC h₀ L m s I oI C oC D ys (fun y nw => nw = news ∧ J (i + 1) (ys ++ [y]))) E' { s with heap := h, toks := tk })
    (fin : ∀ ys, J n ys → Fin ys news) : CompRest prog w A h₀ L m env elt x scope cl s S P Fin n 0 [] news :=
  compJ (fun i ys nw => nw = news ∧ J i ys) (fun _ _ _ h => h.1 ▸ hS) ⟨rfl, hj⟩ (fun i v I oI C oC D m₂ ys nw h tk E' hi hv hJ hC hx F N off ne => by
    obtain ⟨rfl, hJ⟩ := hJ
    exact turn i v I oI C oC D m₂ ys h tk E' hi hv hJ hC hx F N off ne) (fun ys nw h => by
    obtain ⟨rfl, h⟩ := h
    exact fin ys h)

theorem compJT {ct elt : Expr} {x : Str} {scope : Scope} {cl : List (Str × Addr)} {S : List (Addr × Obj) → Prop} {P : Nat → Value → Prop} {Fin : List Value → List (Addr × Obj) → Prop} {n : Nat} {news : List (Addr × Obj)}
    (J : Nat → List Value → List (Addr × Obj) → Prop) (hS : ∀ i ys nw, J i ys nw → S nw) (hj : J 0 [] news)
    (turn : ∀ i v I oI C oC D m₂ ys nw h tk (E' : Value → Shared → Prop), i < n → P i v → J i ys nw → NsObj oC m₂ → m₂ x = some v → Fr h₀ L h m → News h₀ L h ((I, oI) :: (C, oC) :: (D, lst ys) :: nw) → Off3 I C D nw → ((@Ne Nat I C) ∧ (@Ne Nat I D) ∧ (@Ne Nat C D)) →
      wpAny (model prog w) A (isTrue ct (compEnvC scope cl C env) (eval ct (compEnvC scope cl C env))) (fun ok s' => if ok = true then
        wpAny (model prog w) A (eval elt (compEnvC scope cl C env)) (TurnC h₀ L m s I oI C oC D ys (fun y nw' => J (i + 1) (ys ++ [y]) nw')) E' s'
        else TurnC h₀ L m s I oI C oC D ys (fun _ nw' => J (i + 1) ys nw') Value.none s') E' { s with heap := h, toks := tk })
    (fin : ∀ ys nw, J n ys nw → Fin ys nw) : CompRestT prog w A h₀ L m env ct elt x scope cl s S P Fin n 0 [] news := by
  have key : ∀ (j i : Nat) (ys : List Value) (nw : List (Addr × Obj)), i + j = n → J i ys nw → CompRestT prog w A h₀ L m env ct elt x scope cl s S P Fin j i ys nw := by
    intro j
    induction j with
    | zero =>
      intro i ys nw hi hy
      have e : i = n := by omega
      subst e
      exact CompRestT.zero (fin ys nw hy)
    | succ j ih =>
      intro i ys nw hi hy
      refine CompRestT.succ ?_
      intro v I oI C oC D m₂ h tk E' hv hC hx F N off ne
      refine wpAny_mono (turn i v I oI C oC D m₂ ys nw h tk E' (by omega) hv hy hC hx F N off ne) (fun ok s₁ h₁ => ?_) fun _ _ e => e
      have fin : ∀ (y : Value) (zs : List Value) s₂, TurnC h₀ L m { s with heap := h, toks := tk } I oI C oC D ys (fun _ nw' => J (i + 1) zs nw') y s₂ →
          CompEnd h₀ L m { s with heap := h, toks := tk } I oI C oC D (lst ys) S (fun _ news' => CompRestT prog w A h₀ L m env ct elt x scope cl s S P Fin j (i + 1) zs news') y s₂ := by
        rintro y zs s₂ ⟨h', tk', nw', e, F', N', off', hJ⟩
        exact ⟨h', tk', nw', e, F', N', off', hS _ _ _ hJ, ih (i + 1) _ _ (by omega) hJ⟩
      cases ok with
      | true =>
        simp only [if_true] at h₁ ⊢
        exact wpAny_mono h₁ (fun y s₂ hq => fin y (ys ++ [y]) s₂ hq) fun _ _ e => e
      | false =>
        simp only [Bool.false_eq_true, if_false] at h₁ ⊢
        exact fin _ _ _ h₁
  exact key n 0 [] news (by omega) hj
end
/-- texts by their signs' numbers -/
inductive TxtsAre : List Value → List (List Nat) → Prop
  | nil : TxtsAre [] []
  | cons (l : List Nat) (t : Tok) {vs : List Value} {ls : List (List Nat)} : TxtsAre vs ls → TxtsAre (.str (T l) t :: vs) (l :: ls)
theorem TxtsAre.length {vs : List Value} {ls : List (List Nat)} (h : TxtsAre vs ls) : vs.length = ls.length := by
  induction h with
  | nil => rfl
  | cons _ _ _ ih => simp only [List.length_cons, ih]
theorem TxtsAre.append {vs : List Value} {ls : List (List Nat)} (h : TxtsAre vs ls) {vs' : List Value} {ls' : List (List Nat)} (h' : TxtsAre vs' ls') : TxtsAre (vs ++ vs') (ls ++ ls') := by
  induction h with
  | nil => exact h'
  | cons l t _ ih => exact .cons l t ih
theorem TxtsAre.snoc {vs : List Value} {ls : List (List Nat)} (h : TxtsAre vs ls) (l : List Nat) (t : Tok) : TxtsAre (vs ++ [.str (T l) t]) (ls ++ [l]) := h.append (.cons l t .nil)
theorem TxtsAre.at {vs : List Value} {ls : List (List Nat)} (h : TxtsAre vs ls) : ∀ {i : Nat} (hi : i < ls.length), ∃ t, vs[i]? = some (.str (T ls[i]) t) := by
  induction h with
  | nil => intro i hi; simp at hi
  | cons l t _ ih =>
    intro i hi
    cases i with
    | zero => exact ⟨t, rfl⟩
    | succ i =>
      obtain ⟨t', e⟩ := ih (i := i) (by simpa using hi)
      exact ⟨t', by simpa using e⟩
theorem TxtsAre.get {vs : List Value} {ls : List (List Nat)} (h : TxtsAre vs ls) {i : Nat} {v : Value} (e : vs[i]? = some v) : ∃ (hi : i < ls.length) (t : Tok), v = .str (T ls[i]) t := by
  have hi : i < ls.length := by
    rw [← h.length]
    exact (List.getElem?_eq_some_iff.mp e).1
  obtain ⟨t, e'⟩ := h.at hi
  exact ⟨hi, t, Option.some.inj (e.symm.trans e')⟩
theorem TxtsAre.strs {vs : List Value} {ls : List (List Nat)} (h : TxtsAre vs ls) : StrsAre vs (ls.map T) := by
  induction h with
  | nil => exact .nil
  | cons l t _ ih => exact .cons _ _ ih
theorem TxtsAre.map_range {vs : List Value} {n : Nat} {f : Nat → List Nat} (h : TxtsAre vs ((List.range n).map f)) {v : Value} (e : ∃ t : Tok, v = .str (T (f n)) t) : TxtsAre (vs ++ [v]) ((List.range (n + 1)).map f) := by
  obtain ⟨t, e⟩ := e
  rw [List.range_succ, List.map_append, e]
  exact h.snoc _ _
/-- texts joined -/
noncomputable def jn (sep : List Nat) : List (List Nat) → List Nat
  | [] => []
  | [x] => x
  | x :: y :: r => x ++ sep ++ jn sep (y :: r)
theorem T_join (sep : List Nat) (ls : List (List Nat)) : Txt.join (T sep) (ls.map T) = T (jn sep ls) := by
  rw [eq_of_beq (join_plain_closes (T sep) (ls.map T))]
  induction ls with
  | nil => rfl
  | cons x r ih =>
    cases r with
    | nil => rfl
    | cons y r =>
      show T x ++ T sep ++ PySem.Str.join (T sep) ((y :: r).map T) = _
      rw [ih, T_add, T_add]
      rfl
theorem jn_nil : ∀ ls : List (List Nat), jn [] ls = ls.flatten
  | [] => rfl
  | [x] => by simp [jn]
  | x :: y :: r => by rw [jn, jn_nil (y :: r)]; simp
theorem T_mul (c : Nat) (n : Int) : Txt.mul (T [c]) n = T (List.replicate n.toNat c) := by
  rw [T_of (Txt.mul (T [c]) n)]
  exact congrArg T (mul_one_list c n)
theorem sum_le_mul (k : Nat) : ∀ ls : List (List Nat), (∀ l ∈ ls, l.length ≤ k) → (ls.map List.length).sum ≤ ls.length * k
  | [], _ => by simp
  | l :: r, h => by
    have := sum_le_mul k r fun x hx => h x (.tail _ hx)
    have := h l (.head _)
    simp only [List.map_cons, List.sum_cons, List.length_cons, Nat.add_mul]
    omega
theorem join_TL {prog : Program} {w : World} {A : Around} {E : Value → Shared → Prop} {s : Shared} {Q : Value → Shared → Prop} {x : Str} {t : Tok} {D : Addr} {vs : List Value} {ls : List (List Nat)} (sep : List Nat) (hx : x = T sep) (hsep : sep.length ≤ 64)
    (hl : s.heap.IsList D vs.toArray) (hi : TxtsAre vs ls) (hn : ls.length ≤ 1000) (hk : ∀ l ∈ ls, l.length ≤ 1000)
    (h : ∀ t' k, Q (.str (T (jn sep ls)) t') { s with toks := k }) : wpAny (model prog w) A (call (.builtin "str.join") [.str x t, .ref D]) Q E s := by
  subst hx
  refine join_listC hl (by simpa using hi.strs) (by rw [T_len]; exact hsep) ?_ ?_
  · have := sum_le_mul 1000 ls hk
    rw [List.map_map, List.length_map, show (Str.length ∘ T) = List.length from funext fun l => T_len l]
    have : ls.length * 1000 ≤ 1000 * 1000 := Nat.mul_le_mul_right _ hn
    omega
  · intro t' k
    rw [T_join]
    exact h t' k
noncomputable def kT : ItemKind (List Nat) := ⟨fun l v => ∃ t, v = .str (T l) t, fun v => match v with | .str x _ => some x.cps.toList | _ => none, fun _ _ h => by obtain ⟨t, rfl⟩ := h; simp [T]⟩
theorem TxtsAre.areOf {vs : List Value} {ls : List (List Nat)} (h : TxtsAre vs ls) : AreOf kT vs ls := by
  induction h with
  | nil => exact .nil
  | cons l t _ ih => exact .cons ⟨t, rfl⟩ ih
theorem str_len_append (a b : Str) : (a ++ b).length = a.length + b.length := Str.length_append a b
theorem ints_get : ∀ {vs : List Value} {ns : List Int}, IntsAre vs ns → ∀ {i : Nat} {v : Value}, vs[i]? = some v → ∃ (_ : i < ns.length) (t : Tok), v = .int ns[i] t := by
  intro vs ns h
  induction h with
  | nil => intro i v e; simp at e
  | cons k t _ ih =>
    intro i v e
    cases i with
    | zero => exact ⟨by simp, t, by simpa using e.symm⟩
    | succ i =>
      obtain ⟨hi, t', e'⟩ := ih (by simpa using e)
      exact ⟨by simpa using hi, t', by simpa using e'⟩
theorem item_TL {prog : Program} {w : World} {A : Around} {E : Value → Shared → Prop} {s : Shared} {value slice : Expr} {l : Addr} {vs : List Value} {ws : List (List Nat)} {i : Int} {u : Tok} {Q : Value → Shared → Prop} (hl : s.heap.IsList l vs.toArray) (hi : TxtsAre vs ws)
    (h0 : 0 ≤ i) (h1 : i < ws.length) (hn : ws.length ≤ 1000000) (h : ∀ t', Q (.str (T (ws.getD i.toNat [])) t') s)
    (hs : subscripted slice false (.ref l) (.int i u) = operate [.ref l, .int i u] (getItem (.ref l) (.int i u))) (hg : ∀ r, letTemporaryGo value (.ref l) r = pure ()) :
    wpAny (model prog w) A (subscriptTail value slice (.ref l) (.int i u)) Q E s := by
  have hlt : i.toNat < ws.length := by omega
  obtain ⟨t, e⟩ := hi.at hlt
  refine item_listL hl h0 (by omega) e ?_ hs hg
  have := h t
  rw [List.getD_eq_getElem?_getD, List.getElem?_eq_getElem hlt] at this
  exact this
theorem ls3_end {g : Heap} {L : Addr} {own news₁ all : List (Addr × Obj)} {Jn : (Str → Option Value) → List (Addr × Obj) → Prop} {s₁ : Shared} {Qr : Value → Shared → Prop} {Qb : Shared → Prop} {h' : Heap} {tk : Nat} {m' : Str → Option Value} (nw' : List (Addr × Obj))
    (F : Fr g L h' m') (N : News g L h' all) (sub : ∀ p ∈ own ++ nw', p ∈ all) (hm : nw'.map (·.1) = news₁.map (·.1)) (j : Jn m' nw') : LoopStep3 g L own news₁ Jn s₁ Qr Qb .next { s₁ with heap := h', toks := tk } :=
  ⟨rfl, h', tk, m', nw', rfl, F, fun p hp => N p (sub p hp), hm, j⟩
theorem news_re {g : Heap} {L : Addr} {h : Heap} {a : List (Addr × Obj)} (N : News g L h a) (b : List (Addr × Obj)) (e : ∀ p ∈ b, p ∈ a) : News g L h b := fun p hp => N p (e p hp)
section
variable {prog : Program} {w : World} {A : Around} {s : Shared} {env : Env} {g : Heap} {x : Str} {px : Pos} {body orelse : List Stmt} {Q : Flow → Shared → Prop}
/-- a for of any name (of the frame, or a cell), with its else -/
noncomputable def ForAt (prog : Program) (w : World) (A : Around) (env : Env) (x : Str) (px : Pos) (body orelse : List Stmt) (Q : Flow → Shared → Prop) (it : Value) (s : Shared) : Prop :=
  codeAny (model prog w) A (.forLoop (.Name x px) it body orelse env) (fun r s' => match r with | .ok f => Q f s' | .error e => cameBackBy (model prog w) A env (fun _ _ => False) e s') s
theorem forX {iter : Expr} {pos : Pos} (h : wpAny (model prog w) A (eval iter env) (fun xv s₁ => wpAny (model prog w) A (pyIter xv) (fun it s₂ => ForAt prog w A env x px body orelse Q it s₂) (fun _ _ => False) s₁) (fun _ _ => False) s)
    (hs : ∀ x, foldedSetIterable iter env x = pure x := by intro _; rfl) :
    wpAny (model prog w) A (exec (.For (.Name x px) iter body orelse pos) env) Q (fun _ _ => False) s := wpAny_For h hs
noncomputable abbrev TurnX (prog : Program) (w : World) (A : Around) (env : Env) (g : Heap) (x : Str) (px : Pos) (body : List Stmt) (Q : Flow → Shared → Prop) (s : Shared) (I : Addr) (fp : List Addr) (P : Nat → Value → Prop)
    (J : Nat → (Str → Option Value) → List (Addr × Obj) → Prop) : Prop :=
  ∀ i v m nw h tk own, P i v → J i m nw → (∀ p ∈ nw, p.1 ≠ I) → (∀ p ∈ own, p.1 ∈ fp) → (∃ oI, (I, oI) ∈ own) → Fr g env.locals h m → News g env.locals h (nw ++ own) →
    wpAny (model prog w) A (storeName env x v) (fun _ s₂ => wpAny (model prog w) A (execs body env) (TurnEnd g env.locals I own (J (i + 1)) s Q) (fun _ _ => False) s₂) (fun _ _ => False) { s with heap := h, toks := tk }
theorem loopX {I : Addr} {fp : List Addr} {n : Nat} {P : Nat → Value → Prop} {St : Nat → Heap → Prop} {m₀ : Str → Option Value} {news : List (Addr × Obj)} (J : Nat → (Str → Option Value) → List (Addr × Obj) → Prop)
    (W : Walks prog w A I fp [I] n P St) (hlive : ∀ i h, St i h → ∃ o, h.get? I = some o) (hL : env.locals ∉ fp) (hI : g.get? I = none) (st : St 0 s.heap) (F : Fr g env.locals s.heap m₀) (N : News g env.locals s.heap news) (hoff : ∀ p ∈ news, p.1 ≠ I) (hj : J 0 m₀ news)
    (turn : TurnX prog w A env g x px body Q s I fp (fun i v => i < n ∧ P i v) J)
    (done : ∀ m nw h tk, J n m nw → (∀ p ∈ nw, p.1 ≠ I) → Fr g env.locals h m → News g env.locals h nw → wpAny (model prog w) A (execs orelse env) Q (fun _ _ => False) { s with heap := h, toks := tk }) :
    ForAt prog w A env x px body orelse Q (.ref I) s := by
  have hIf : I ∈ fp := W.sub I (List.mem_singleton.mpr rfl)
  have hLw : env.locals ∉ [I] := fun h => hL (W.sub _ h)
  have old : ∀ b o, g.get? b = some o → b ∉ [I] := fun b o e hb => by rw [List.mem_singleton.mp hb, hI] at e; cases e
  refine codeAny_forLoop (R := fun r s' => match r with | .ok f => Q f s' | .error e => cameBackBy (model prog w) A env (fun _ _ => False) e s')
    (fun k s' => ∃ h' tk m' news' i, s' = { s with heap := h', toks := tk } ∧ St i h' ∧ Fr g env.locals h' m' ∧ News g env.locals h' news' ∧ (∀ p ∈ news', p.1 ≠ I) ∧ J i m' news' ∧ i ≤ n ∧ k = n + 1 - i) ?_ (n + 1)
    ⟨s.heap, s.toks, m₀, news, 0, rfl, st, F, N, hoff, hj, Nat.zero_le _, rfl⟩
  rintro k s' ⟨H, tk, m', news', i, rfl, hst', F', N', hnw', hJ, hi, rfl⟩
  have next : ∀ h₁ : Heap, (∀ b o, b ∉ [I] → H.get? b = some o → h₁.get? b = some o) → Fr g env.locals h₁ m' ∧ News g env.locals h₁ news' := fun h₁ hk₁ =>
    ⟨⟨F'.ns.at' fun o e => hk₁ _ o hLw e, fun b o e => hk₁ b o (old b o e) (F'.keep b o e), F'.above⟩, fun p hp => ⟨hk₁ _ _ (by simpa using hnw' p hp) (N' p hp).1, (N' p hp).2⟩⟩
  by_cases hlt : i < n
  · refine W.item i _ _ _ hlt hst' fun v h₁ tk₁ hP hst₁ hk₁ => ?_
    obtain ⟨F₁, N₁⟩ := next h₁ hk₁
    have Nown : News g env.locals h₁ (ownOf g fp h₁) := news_ownOf hL
    refine wpAny_assign_Name (wpAny_mono (turn i v m' news' h₁ tk₁ (ownOf g fp h₁) ⟨hlt, hP⟩ hJ hnw' ownOf_sub ?_ F₁ (N₁.append Nown)) (fun _ s₃ h₃ => wpAny_mono h₃ (fun f s₄ h₄ => ?_) fun _ _ e => e.elim) fun _ _ e => e.elim)
    · obtain ⟨o, ho⟩ := hlive _ _ hst₁
      exact ⟨o, mem_ownOf hIf hI ho⟩
    · have fin : (∃ h' tk m' nw', s₄ = { s with heap := h', toks := tk } ∧ Fr g env.locals h' m' ∧ News g env.locals h' (nw' ++ ownOf g fp h₁) ∧ (∀ p ∈ nw', p.1 ≠ I) ∧ J (i + 1) m' nw') →
          ∃ m, m < n + 1 - i ∧ ∃ h' tk m' news' i, s₄ = { s with heap := h', toks := tk } ∧ St i h' ∧ Fr g env.locals h' m' ∧ News g env.locals h' news' ∧ (∀ p ∈ news', p.1 ≠ I) ∧ J i m' news' ∧ i ≤ n ∧ m = n + 1 - i := by
        rintro ⟨h₆', tk₆, m₂, news₂, rfl, F₆, N₆, ha₆, hJ₆⟩
        refine ⟨n + 1 - (i + 1), by omega, h₆', tk₆, m₂, news₂, i + 1, rfl, ?_, F₆, fun p hp => N₆ p (List.mem_append_left _ hp), ha₆, hJ₆, hlt, rfl⟩
        refine W.frame _ _ _ hst₁ fun b hb o e => ?_
        cases hn : g.get? b with
        | some o₀ =>
          have : o₀ = o := by have := F₁.keep b o₀ hn; rw [e] at this; exact (Option.some.inj this).symm
          exact this ▸ F₆.keep b o₀ hn
        | none => exact (N₆ _ (List.mem_append_right _ (mem_ownOf hb hn e))).1
      cases f with
      | ret v => exact h₄
      | brk => exact h₄
      | next => exact fin h₄
      | cont => exact fin h₄
  · have hin : i = n := by omega
    subst hin
    refine W.done _ _ _ hst' fun h₁ tk₁ hk₁ => ?_
    obtain ⟨F₁, N₁⟩ := next h₁ hk₁
    exact wpAny_mono (done m' news' h₁ tk₁ hJ hnw' F₁ N₁) (fun _ _ q => q) fun _ _ e => e.elim
theorem iterLX {l : Addr} {vs : List Value} {m₀ : Str → Option Value} {news : List (Addr × Obj)} (J : Nat → (Str → Option Value) → List (Addr × Obj) → Prop)
    (hh : A.handled = none) (hl : s.heap.IsList l vs.toArray) (hlL : l ≠ env.locals) (F : Fr g env.locals s.heap m₀) (N : News g env.locals s.heap news) (hj : J 0 m₀ news)
    (turn : ∀ I, (∀ p ∈ news, p.1 < I) → TurnX prog w A env g x px body Q s I [I, l] (fun i v => vs[i]? = some v) J)
    (done : ∀ m nw h tk, J vs.length m nw → Fr g env.locals h m → News g env.locals h nw → wpAny (model prog w) A (execs orelse env) Q (fun _ _ => False) { s with heap := h, toks := tk }) :
    wpAny (model prog w) A (pyIter (.ref l)) (fun it s₂ => ForAt prog w A env x px body orelse Q it s₂) (fun _ _ => False) s := by
  obtain ⟨ol, hol, _⟩ := id hl
  have hne : l ≠ s.heap.objs.size := Nat.ne_of_lt (Heap.lt_size hol)
  refine wpAny_pyIter_list hl ?_
  have W := Walks.list (prog := prog) (w := w) hh s.heap.objs.size l hne vs.toArray
  rw [List.size_toArray] at W
  refine loopX J W (fun _ _ st => let ⟨o, ho, _⟩ := st.1; ⟨o, ho⟩) ?_ (next_is_new F) ⟨⟨_, Heap.get?_push_size _ rfl, rfl, rfl⟩, hl.at fun o e => Heap.get?_push_of_some _ e⟩ (F.push _) (fun p hp => ⟨Heap.get?_push_of_some _ (N p hp).1, (N p hp).2⟩) (ne_of_news N (Nat.le_refl _)) hj ?_ ?_
  · intro hm
    rcases List.mem_cons.mp hm with e | hm
    · exact absurd F.ns.lt (e ▸ Nat.lt_irrefl _)
    · exact hlL (List.mem_singleton.mp hm).symm
  · intro i v m nw h tk own hP hJ off hown hIm F₁ N₁
    exact turn _ (fun p hp => Heap.lt_size (N p hp).1) i v m nw h tk own (by simpa using hP.2) hJ off hown hIm F₁ N₁
  · intro m nw h tk hJ _ F₁ N₁
    exact done m nw h tk hJ F₁ N₁
theorem iterRX {r : Addr} {a₀ b₀ : Int} {t₀ u₀ v₀ : Tok} {n : Nat} {m₀ : Str → Option Value} {news : List (Addr × Obj)} (J : Nat → (Str → Option Value) → List (Addr × Obj) → Prop)
    (hh : A.handled = none) (hr : IsRange s.heap r a₀ b₀ 1 t₀ u₀ v₀) (hsmall : Builtin.Range.small a₀ b₀ 1 = true) (hn : Builtin.Range.rangeSize a₀ b₀ 1 = (n : Int)) (F : Fr g env.locals s.heap m₀) (N : News g env.locals s.heap news) (hj : J 0 m₀ news)
    (turn : ∀ I, (∀ p ∈ news, p.1 < I) → TurnX prog w A env g x px body Q s I [I] (fun i v => i < n ∧ ∃ t, v = .int (a₀ + i) t) J)
    (done : ∀ m nw h tk, J n m nw → Fr g env.locals h m → News g env.locals h nw → wpAny (model prog w) A (execs orelse env) Q (fun _ _ => False) { s with heap := h, toks := tk }) :
    wpAny (model prog w) A (pyIter (.ref r)) (fun it s₂ => ForAt prog w A env x px body orelse Q it s₂) (fun _ _ => False) s := by
  refine wpAny_pyIter_range hr hsmall ?_
  have W := Walks.range (prog := prog) (w := w) hh s.heap.objs.size a₀ 1 n
  refine loopX J W (fun _ _ st => ⟨_, st⟩) ?_ (next_is_new F) (by show IsRangeIter _ _ _ _ _; rw [hn]; simpa using Heap.get?_push_size _ rfl) (F.push _) (fun p hp => ⟨Heap.get?_push_of_some _ (N p hp).1, (N p hp).2⟩) (ne_of_news N (Nat.le_refl _)) hj ?_ ?_
  · intro hm
    exact absurd F.ns.lt ((List.mem_singleton.mp hm) ▸ Nat.lt_irrefl _)
  · intro i v m nw h tk own hP hJ off hown hIm F₁ N₁
    obtain ⟨hi, t, hv⟩ := hP
    exact turn _ (fun p hp => Heap.lt_size (N p hp).1) i v m nw h tk own ⟨hi, t, by simpa using hv⟩ hJ off hown hIm F₁ N₁
  · intro m nw h tk hJ _ F₁ N₁
    exact done m nw h tk hJ F₁ N₁
end
/-- a contract of a call with keywords -/
noncomputable abbrev SpecK (w : World) (f : Addr) (vs : List Value) (kw : List (Str × Value)) (dd uu : Nat) (s : Shared) (Post : Value → Heap → Prop) : Prop :=
  ∀ (mean : ExcName → Option Value) (mg mb : Str → Option Value) (C : Clr) (A₀ : Around) (base h₀ : Heap) (m : Str → Option Value) (Q E : Value → Shared → Prop),
    Below A₀ base C.outer h₀ → Fr h₀ C.L s.heap m → (hd.heap_39 w.params).In h₀ → Top VW LO mean mg mb h₀ →
    C.dp + dd < recursionLimit → C.un + uu < cLine →
    (∀ v h' tk', Keep s.heap h' → Post v h' → Q v { s with heap := h', toks := tk' }) →
    wpAny (model PR w) C.top (call (.ref f) vs kw) Q E s
theorem SpecK.use {w : World} {f : Addr} {vs : List Value} {kw : List (Str × Value)} {dd uu : Nat} {s : Shared} {Post : Value → Heap → Prop} (h : SpecK w f vs kw dd uu s Post)
    {A : Around} {mean : ExcName → Option Value} {mg mb : Str → Option Value} {dp un : Nat} {gd : Option (List Code)} {cn : Str} {nm : List (Str × NameKind)} {ig ic : Bool} {mo : List (Str × Const)} {a : Addr} {ccd : Value} {cl : List (Str × Addr)} {outer : List Env} {A₀ : Around} {base h₀ : Heap} {L : Addr} {m : Str → Option Value} {news : List (Addr × Obj)} {Q E : Value → Shared → Prop}
    (hA : A = ktrTop dp un gd cn ⟨.function, nm, ig, ic, mo⟩ L a ccd cl outer)
    (B : Below A₀ base outer h₀) (F : Fr h₀ L s.heap m) (N : News h₀ L s.heap news) (X : (hd.heap_39 w.params).In h₀) (Tp : Top VW LO mean mg mb h₀)
    (hd : dp + dd < recursionLimit) (hu : un + uu < cLine)
    (k : ∀ v h' tk', Keep s.heap h' → Fr h₀ L h' m → News h₀ L h' news → Post v h' → Q v { s with heap := h', toks := tk' }) :
    wpAny (model PR w) A (call (.ref f) vs kw) Q E s := by
  subst hA
  exact h mean mg mb ⟨dp, un, gd, cn, nm, ig, ic, mo, L, a, ccd, cl, outer⟩ A₀ base h₀ m Q E B F X Tp hd hu fun v h' tk' hk hp => k v h' tk' hk (F.keeps hk) (N.grown hk) hp
theorem T_lower (l : List Nat) (h : ∀ c ∈ l, c < 128) : Txt.lower (T l) = T (l.map lo1) := by
  rw [lower_ascii (by rw [T_list]; exact h)]
  show PySem.Str.mk _ = PySem.Str.mk _
  simp [T]
theorem low_T {prog : Program} {w : World} {A : Around} {E : Value → Shared → Prop} {s : Shared} {Q : Value → Shared → Prop} {l : List Nat} {t : Tok} (h : ∀ c ∈ l, c < 128) (hn : l.length ≤ 1000) (k : Q (.str (T (l.map lo1)) s.toks) { s with toks := s.toks + 1 }) :
    wpAny (model prog w) A (call (.builtin "str.lower") [.str (T l) t]) Q E s := by
  refine SCL.lower (by rw [T_len]; omega) fun _ => ?_
  rw [T_lower l h]
  exact k
section
variable {prog : Program} {w : World} {A : Around} {s : Shared} {env : Env} {g : Heap} {body : List Stmt} {Q : Flow → Shared → Prop}
theorem forP {iter : Expr} {elts : List Expr} {k1 : Nat} {pt pos : Pos} (g : Heap) (J : Nat → (Str → Option Value) → List (Addr × Obj) → Prop)
    (h : wpAny (model prog w) A (eval iter env) (fun xv s₁ => wpAny (model prog w) A (pyIter xv) (fun it s₂ => ForUAt prog w A env g (.Tuple elts k1 pt) body Q J it s₂) (fun _ _ => False) s₁) (fun _ _ => False) s)
    (hs : ∀ x, foldedSetIterable iter env x = pure x := by intro _; rfl) :
    wpAny (model prog w) A (exec (.For (.Tuple elts k1 pt) iter body [] pos) env) Q (fun _ _ => False) s := forU J h hs
/-- a for over a list of tuples, the target a tuple: what forU asks -/
theorem iterLP {target : Expr} {l : Addr} {vs : List Value} {m₀ : Str → Option Value} {news : List (Addr × Obj)} (Ts : Nat → Addr) (vals : Nat → Array Value) {J : Nat → (Str → Option Value) → List (Addr × Obj) → Prop}
    (hh : A.handled = none) (hl : s.heap.IsList l vs.toArray) (hit : ∀ j, j < vs.length → vs[j]? = some (.ref (Ts j))) (ht : ∀ j, j < vs.length → s.heap.IsTuple (Ts j) (vals j)) (hlL : l ≠ env.locals) (hTL : ∀ j, j < vs.length → Ts j ≠ env.locals)
    (F : Fr g env.locals s.heap m₀) (N : News g env.locals s.heap news) (hj : J 0 m₀ news)
    (turn : ∀ I, (∀ p ∈ news, p.1 < I) → ∀ s₂ : Shared, (∃ h, s₂ = { s with heap := h }) → TurnT prog w A env g target body Q s₂ [I] (I :: l :: (List.range vs.length).map Ts) (fun i v => i < vs.length ∧ v = vals i) J)
    (done : ∀ m nw h tk, J vs.length m nw → Fr g env.locals h m → News g env.locals h nw → Q .next { s with heap := h, toks := tk }) :
    wpAny (model prog w) A (pyIter (.ref l)) (fun it s₂ => ForUAt prog w A env g target body Q J it s₂) (fun _ _ => False) s := by
  obtain ⟨ol, hol, _⟩ := id hl
  have hne : l ≠ s.heap.objs.size := Nat.ne_of_lt (Heap.lt_size hol)
  have hTI : ∀ j, j < vs.length → Ts j ≠ s.heap.objs.size := fun j hj' e => by
    obtain ⟨o, ho, _⟩ := ht j hj'
    exact absurd (Heap.lt_size ho) (e ▸ Nat.lt_irrefl _)
  refine wpAny_pyIter_list hl ?_
  have W := WalksU.listOfTuples (prog := prog) (w := w) hh s.heap.objs.size l hne vs.toArray Ts vals (by simpa using hit) (by simpa using hTI)
  rw [List.size_toArray] at W
  refine ⟨s.heap.objs.size, _, [s.heap.objs.size], vs.length, _, _, _, m₀, news, rfl, W, ?_, ?_, ?_, ?_, ?_, F.push _, fun p hp => ⟨Heap.get?_push_of_some _ (N p hp).1, (N p hp).2⟩, hj, ?_, ?_⟩
  · intro hm
    rcases List.mem_cons.mp hm with e | hm
    · exact absurd F.ns.lt (e ▸ Nat.lt_irrefl _)
    rcases List.mem_cons.mp hm with e | hm
    · exact hlL e.symm
    obtain ⟨j, hj1, e⟩ := List.mem_map.mp hm
    exact hTL j (List.mem_range.mp hj1) e
  · intro b hb
    rw [List.mem_singleton.mp hb]
    exact next_is_new F
  · intro i h st b hb
    rw [List.mem_singleton.mp hb]
    obtain ⟨o, ho, _⟩ := st.1
    exact ⟨o, ho⟩
  · intro p hp hm
    exact ne_of_news N (Nat.le_refl _) p hp (List.mem_singleton.mp hm)
  · exact ⟨⟨_, Heap.get?_push_size _ rfl, rfl, rfl⟩, hl.at fun o e => Heap.get?_push_of_some _ e, fun k hk => (ht k hk).at fun o e => Heap.get?_push_of_some _ e⟩
  · exact turn _ (fun p hp => Heap.lt_size (N p hp).1) _ ⟨_, rfl⟩
  · intro m nw h tk hJ F₁ N₁
    exact done m nw h tk hJ F₁ N₁
end
/-- what a step stands at, for the walk's looks ahead -/
theorem gCall {M : Model} {A : Around} {E : Value → Shared → Prop} {s : Shared} {f a k Q} (h : wpAny M A (call f a k) Q E s) : wpAny M A (call f a k) Q E s := h
theorem gSub {M : Model} {A : Around} {E : Value → Shared → Prop} {s : Shared} {a b c d Q} (h : wpAny M A (subscriptTail a b c d) Q E s) : wpAny M A (subscriptTail a b c d) Q E s := h
theorem gEval {M : Model} {A : Around} {E : Value → Shared → Prop} {s : Shared} {e v Q} (h : wpAny M A (eval e v) Q E s) : wpAny M A (eval e v) Q E s := h
theorem gSpl {M : Model} {A : Around} {E : Value → Shared → Prop} {s : Shared} {e Q} (h : wpAny M A (spliced e) Q E s) : wpAny M A (spliced e) Q E s := h
theorem gTrue {M : Model} {A : Around} {E : Value → Shared → Prop} {s : Shared} {a b c Q} (h : wpAny M A (isTrue a b c) Q E s) : wpAny M A (isTrue a b c) Q E s := h
theorem gExec {M : Model} {A : Around} {E : Value → Shared → Prop} {s : Shared} {a b Q} (h : wpAny M A (exec a b) Q E s) : wpAny M A (exec a b) Q E s := h
theorem gEvC {M : Model} {A : Around} {E : Value → Shared → Prop} {s : Shared} {x p a b c d Q} (h : wpAny M A (eval (Expr.Name x p) (compEnvC a b c d)) Q E s) : wpAny M A (eval (Expr.Name x p) (compEnvC a b c d)) Q E s := h
theorem gSlc {M : Model} {A : Around} {E : Value → Shared → Prop} {s : Shared} {x a b c d e v Q} (h : wpAny M A (eval (Expr.Subscript x (Expr.Slice a b c d) e) v) Q E s) : wpAny M A (eval (Expr.Subscript x (Expr.Slice a b c d) e) v) Q E s := h
theorem gFor {M : Model} {A : Around} {E : Value → Shared → Prop} {s : Shared} {a b c d e r v Q} (h : wpAny M A (execs (PySem.Stmt.For a b c d e :: r) v) Q E s) : wpAny M A (execs (PySem.Stmt.For a b c d e :: r) v) Q E s := h
theorem gWhl {M : Model} {A : Around} {E : Value → Shared → Prop} {s : Shared} {a b c d r v Q} (h : wpAny M A (execs (PySem.Stmt.While a b c d :: r) v) Q E s) : wpAny M A (execs (PySem.Stmt.While a b c d :: r) v) Q E s := h
theorem gIter {M : Model} {A : Around} {E : Value → Shared → Prop} {s : Shared} {x Q} (h : wpAny M A (pyIter x) Q E s) : wpAny M A (pyIter x) Q E s := h
theorem gRef {M : Model} {A : Around} {E : Value → Shared → Prop} {s : Shared} {x a k Q} (h : wpAny M A (call (Value.ref x) a k) Q E s) : wpAny M A (call (Value.ref x) a k) Q E s := h
theorem gApp {M : Model} {A : Around} {E : Value → Shared → Prop} {s : Shared} {a k Q} (h : wpAny M A (call (Value.builtin "list.append") a k) Q E s) : wpAny M A (call (Value.builtin "list.append") a k) Q E s := h
theorem gPop {M : Model} {A : Around} {E : Value → Shared → Prop} {s : Shared} {a k Q} (h : wpAny M A (call (Value.builtin "list.pop") a k) Q E s) : wpAny M A (call (Value.builtin "list.pop") a k) Q E s := h
theorem gTup {M : Model} {A : Around} {E : Value → Shared → Prop} {s : Shared} {a b c d e Q} (h : wpAny M A (assign (Expr.Tuple a b c) d e) Q E s) : wpAny M A (assign (Expr.Tuple a b c) d e) Q E s := h
theorem gGet {M : Model} {A : Around} {E : Value → Shared → Prop} {s : Shared} {a k Q} (h : wpAny M A (call (Value.ref 167) a k) Q E s) : wpAny M A (call (Value.ref 167) a k) Q E s := h
theorem gIdx {M : Model} {A : Around} {E : Value → Shared → Prop} {s : Shared} {a k Q} (h : wpAny M A (call (Value.builtin "str.index") a k) Q E s) : wpAny M A (call (Value.builtin "str.index") a k) Q E s := h
theorem gSplit {M : Model} {A : Around} {E : Value → Shared → Prop} {s : Shared} {a k Q} (h : wpAny M A (call (Value.builtin "str.split") a k) Q E s) : wpAny M A (call (Value.builtin "str.split") a k) Q E s := h
theorem gAdd {M : Model} {A : Around} {E : Value → Shared → Prop} {s : Shared} {a b Q} (h : wpAny M A (binaryOp Operator.Add (Value.ref a) (Value.ref b)) Q E s) : wpAny M A (binaryOp Operator.Add (Value.ref a) (Value.ref b)) Q E s := h
theorem gCs {x0 x1 x2 x3 x4 x5 x6 x7 x8 x9 x10 x11 x12 x13} (h : LCg.CompSrc x0 x1 x2 x3 x4 x5 x6 x7 x8 x9 x10 x11 x12 x13) : LCg.CompSrc x0 x1 x2 x3 x4 x5 x6 x7 x8 x9 x10 x11 x12 x13 := h
theorem gCt {x0 x1 x2 x3 x4 x5 x6 x7 x8 x9 x10 x11 x12 x13 x14} (h : LCt.CompSrcT x0 x1 x2 x3 x4 x5 x6 x7 x8 x9 x10 x11 x12 x13 x14) : LCt.CompSrcT x0 x1 x2 x3 x4 x5 x6 x7 x8 x9 x10 x11 x12 x13 x14 := h
theorem gTe {x0 x1 x2 x3 x4 x5 x6 x7 x8} (h : TurnEnd x0 x1 x2 x3 x4 x5 x6 x7 x8) : TurnEnd x0 x1 x2 x3 x4 x5 x6 x7 x8 := h
theorem gL3 {x0 x1 x2 x3 x4 x5 x6 x7 x8 x9} (h : LoopStep3 x0 x1 x2 x3 x4 x5 x6 x7 x8 x9) : LoopStep3 x0 x1 x2 x3 x4 x5 x6 x7 x8 x9 := h
theorem gTc {x0 x1 x2 x3 x4 x5 x6 x7 x8 x9 x10 x11 x12} (h : TurnC x0 x1 x2 x3 x4 x5 x6 x7 x8 x9 x10 x11 x12) : TurnC x0 x1 x2 x3 x4 x5 x6 x7 x8 x9 x10 x11 x12 := h

end
section
section
variable {prog : Program} {w : World} {A A₀ : Around} {E : Value → Shared → Prop} {s : Shared} {K : Frag} {L : Addr} {h₀ base : Heap} {m mg mb : Str → Option Value} {p : Program} {loose : List Str} {mean : ExcName → Option Value} {news : List (Addr × Obj)}

theorem enterM {env : Env} {outer : List Env} {R : Result → Shared → Prop} {name qual : Str} {params : Arguments} {body : List Stmt} {scope : Scope} {dV kV doc pm cdv ct oc : Value} {an od : Option Addr} {osl : Array (Option Value)} {f : Addr} {args : Args} {binds : List (Str × Value)}
    (B : Below A₀ base outer h₀) (F : Fr h₀ L s.heap m) (N : News h₀ L s.heap news) (X₀ : K.In h₀) (T : Top p loose mean mg mb h₀) (hA : A.frames = some (env :: outer)) (hf : env.frame = some L) (hke : env.scope.kind = .function)
    (ho : K.lookup f = some ⟨oc, od, .func (fnOf name qual params body scope dV kV doc pm an cdv ct), osl⟩) (hcd : codeIn K cdv qual = true) (hroom : A.depth < recursionLimit)
    (hbind : BindsTo s (fnOf name qual params body scope dV kV doc pm an cdv ct) args binds) (hloc : ∀ y ∈ binds, scope.names.lookup y.1 = some .local)
    (h : ∀ g L' h₁, (∀ b o, g.get? b = some o → s.heap.get? b = some o) → (∀ b o, b ∉ news.map (·.1) → s.heap.get? b = some o → g.get? b = some o) →
      Fr g L' h₁ (fun y => binds.reverse.lookup y) → News g L' h₁ news → Below A base (env :: outer) g → K.In g → Top p loose mean mg mb g →
      wpAny (model prog w) (A.deeper (envOf qual scope L' f cdv)) (execs body (envOf qual scope L' f cdv))
        (fun fl s' => R (.ok (.ret (match fl with | .ret v => v | _ => .none))) s')
        (fun _ _ => False)
        { s with heap := h₁, toks := s.toks + binds.length })
    (hco : scope.isCoroutine = false) (hgen : scope.isGenerator = false) (hk : scope.kind = .function)
    (hcell : ∀ x ∈ scope.names, x.2 ≠ .cell) : codeAny (model prog w) A (.call (.ref f) args) R s := by
  obtain ⟨FG, BG, st, lv⟩ := groundX (R := R) B F N hA hf hke
  refine codeAny_call_def (fd := fnX name qual params body scope [] dV kV doc pm an cdv ct) (body := body) (binds := binds) hroom ((X₀.keeps F.keep) _ _ ho) rfl (T.nolimit.keeps F.keep) (codeRec_of (X₀.keeps F.keep) hcd) rfl hbind hcell hloc (fun h₁ hns hk₁ => ?_) hco hgen hk
  exact wpAny_mono (h (hideAll s.heap (news.map (fun x : Addr × Obj => x.1))) s.heap.objs.size h₁ (fun b o e => of_hideAll _ e) (fun b o hb e => hideAll_get _ e hb) ⟨hns, fun b o e => hk₁ b o (of_hideAll _ e), Nat.le_of_eq (hideAll_size _ _)⟩
    (fun p hp => ⟨hk₁ _ _ (N p hp).1, Nat.ne_of_lt (Heap.lt_size (N p hp).1), hideAll_none _ (List.mem_map_of_mem hp)⟩) BG (X₀.keeps st) (T.keeps st)) (fun fl s' hl => hl) fun _ _ y => y.elim

theorem enterMC {env : Env} {outer : List Env} {R : Result → Shared → Prop} {name qual : Str} {params : Arguments} {body : List Stmt} {scope : Scope} {dV kV doc pm cdv ct oc : Value} {an od : Option Addr} {osl : Array (Option Value)} {f : Addr} {args : Args} {binds : List (Str × Value)}
    (B : Below A₀ base outer h₀) (F : Fr h₀ L s.heap m) (N : News h₀ L s.heap news) (X₀ : K.In h₀) (T : Top p loose mean mg mb h₀) (hA : A.frames = some (env :: outer)) (hf : env.frame = some L) (hke : env.scope.kind = .function)
    (ho : K.lookup f = some ⟨oc, od, .func (fnOf name qual params body scope dV kV doc pm an cdv ct), osl⟩) (hcd : codeIn K cdv qual = true) (hroom : A.depth < recursionLimit)
    (hbind : BindsTo s (fnOf name qual params body scope dV kV doc pm an cdv ct) args binds) (hkind : (binds.all fun y => scope.names.lookup y.1 == some .local || scope.names.lookup y.1 == some .cell) = true)
    (hnd : ((cellsFrom 0 scope.names []).map (·.1)).Nodup)
    (h : ∀ g L' h₁ tk cells, (∀ b o, g.get? b = some o → s.heap.get? b = some o) → (∀ b o, b ∉ news.map (·.1) → s.heap.get? b = some o → g.get? b = some o) →
      Fr g L' h₁ (bindL (envOfC qual scope L' f cdv).kindOf binds fun _ => none) → News g L' h₁ (cells ++ news) → (∀ q ∈ news, q.1 < L') →
      CellsAre (bindC (envOfC qual scope L' f cdv).kindOf binds fun _ => none) (cellsFrom (L' + 1) scope.names []) cells → Below A base (env :: outer) g → K.In g → Top p loose mean mg mb g →
      wpAny (model prog w) (A.deeper (envOfC qual scope L' f cdv)) (execs body (envOfC qual scope L' f cdv))
        (fun fl s' => R (.ok (.ret (match fl with | .ret v => v | _ => .none))) s')
        (fun _ _ => False)
        { s with heap := h₁, toks := tk })
    (hco : scope.isCoroutine = false) (hgen : scope.isGenerator = false) (hk : scope.kind = .function) : codeAny (model prog w) A (.call (.ref f) args) R s := by
  obtain ⟨FG, BG, st, lv⟩ := groundX (R := R) B F N hA hf hke
  refine codeAny_call_function hroom ((X₀.keeps F.keep) _ _ ho) rfl hco hgen rfl (codeRec_of (X₀.keeps F.keep) hcd) (hbind _ _ _ _ ?_)
  refine wpAny_newFunctionEnv_cells hk (kindsX hkind _) fun env' he s' x => ?_
  subst he
  refine ⟨((T.nolimit.keeps F.keep)).keeps x.toInCall.keep, codeAny_func ?_⟩
  obtain ⟨h₁, tk, rfl, _⟩ := x.done
  have hk₁ := x.toInCall.keep
  obtain ⟨cells, NC, Y⟩ := Cl.news (h₀ := s.heap) (Nat.le_refl _) fun n c hm => ⟨x.cell n c (lookup_of_mem_nodup (cellsFrom_names scope.names 0 (s.heap.objs.size + 1) [] [] rfl ▸ hnd) hm), x.above n c hm⟩
  refine wpAny_mono (h (hideAll s.heap (news.map (fun x : Addr × Obj => x.1))) s.heap.objs.size h₁ tk cells (fun b o e => of_hideAll _ e) (fun b o hb e => hideAll_get _ e hb)
    ⟨x.toInCall.ns, fun b o e => hk₁ b o (of_hideAll _ e), Nat.le_of_eq (hideAll_size _ _)⟩ (fun p hp => ?_) (fun q hq => Heap.lt_size (N q hq).1) Y BG (X₀.keeps st) (T.keeps st)) (fun fl s' hl => hl) fun _ _ y => y.elim
  · rcases List.mem_append.mp hp with hp | hp
    · refine ⟨(NC p hp).1, (NC p hp).2.1, ?_⟩
      cases q : (hideAll s.heap (news.map (fun x : Addr × Obj => x.1))).get? p.1 with
      | none => rfl
      | some o =>
        have := of_hideAll _ q
        rw [(NC p hp).2.2] at this
        cases this
    · exact ⟨hk₁ _ _ (N p hp).1, Nat.ne_of_lt (Heap.lt_size (N p hp).1), hideAll_none _ (List.mem_map_of_mem hp)⟩

/-- arguments bound with one new object -/
theorem bind_new {α : Type} {K : Frag} {M : Model} {A : Around} {E : Value → Shared → Prop} {Q : α → Shared → Prop} {s : Shared} {o : Obj} {r : Addr → α} (X : K.In s.heap)
    (q : Q (r s.heap.objs.size) { s with heap := s.heap.push o }) : ∀ (t : Sem α) (g : Addr → Option α), peek1 K ⟨M.prog, M.w.params⟩ t = some (o, g) → (∀ D, g D = some (r D)) → wpAny M A t Q E s := by
  intro t
  induction t with
  | rule _ k ih => intro g e hg Γ p hΓ; exact ih () g e hg Γ p hΓ
  | point _ k ih => intro g e hg Γ p hΓ; exact ih () g e hg Γ p hΓ
  | ask k ih => intro g e hg Γ p hΓ; exact ih _ g e hg Γ p hΓ
  | load a _ k ih =>
    intro g e hg Γ p hΓ
    simp only [peek1] at e
    split at e
    · rename_i ob ho
      exact ⟨ob, X _ _ ho, ih ob g e hg Γ p hΓ⟩
    · cases e
  | alloc ob k _ =>
    intro g e hg
    have e' : some (ob, fun D => peek K ⟨M.prog, M.w.params⟩ (k D)) = some (o, g) := e
    obtain ⟨e1, e2⟩ := Prod.mk.inj (Option.some.inj e')
    subst e1 e2
    have X' : K.In (s.heap.push ob) := X.keeps fun b x hb => Heap.get?_push_of_some _ hb
    show wpAny M A (alloc ob >>= k) Q E s
    refine wpAny_bind (wpAny_alloc ?_)
    exact (Looks.of_peek (M := M) (h := s.heap.push ob) X' (hg s.heap.objs.size)).here (s := { s with heap := s.heap.push ob }) q
  | _ => intro g e; cases e

theorem enterKw {env : Env} {outer : List Env} {R : Result → Shared → Prop} {name qual : Str} {params : Arguments} {body : List Stmt} {scope : Scope} {dV kV doc pm cdv ct oc : Value} {an od : Option Addr} {osl : Array (Option Value)} {f : Addr} {args : Args} {binds : Addr → List (Str × Value)} {g₁ : Addr → Option (List (Str × Value))}
    (B : Below A₀ base outer h₀) (F : Fr h₀ L s.heap m) (N : News h₀ L s.heap news) (X₀ : K.In h₀) (T : Top p loose mean mg mb h₀) (hA : A.frames = some (env :: outer)) (hf : env.frame = some L) (hke : env.scope.kind = .function)
    (ho : K.lookup f = some ⟨oc, od, .func (fnOf name qual params body scope dV kV doc pm an cdv ct), osl⟩) (hcd : codeIn K cdv qual = true) (hroom : A.depth < recursionLimit)
    (hp : peek1 K ⟨prog, w.params⟩ (bindArgs (fnOf name qual params body scope dV kV doc pm an cdv ct) args) = some (emptyDict, g₁))
    (hg : ∀ D, g₁ D = some (binds D)) (hloc : ∀ D, ∀ y ∈ binds D, scope.names.lookup y.1 = some .local)
    (h : ∀ D g L' h₁ tk, (D == sysModules) = false → (∀ p ∈ news, p.1 ≠ D) → (∀ b o, g.get? b = some o → s.heap.get? b = some o) → (∀ b o, b ∉ news.map (·.1) → s.heap.get? b = some o → g.get? b = some o) →
      Fr g L' h₁ (fun y => (binds D).reverse.lookup y) → News g L' h₁ ((D, emptyDict) :: news) → Below A base (env :: outer) g → K.In g → Top p loose mean mg mb g →
      wpAny (model prog w) (A.deeper (envOf qual scope L' f cdv)) (execs body (envOf qual scope L' f cdv))
        (fun fl s' => R (.ok (.ret (match fl with | .ret v => v | _ => .none))) s')
        (fun _ _ => False)
        { s with heap := h₁, toks := tk })
    (hco : scope.isCoroutine = false) (hgen : scope.isGenerator = false) (hk : scope.kind = .function)
    (hcell : ∀ x ∈ scope.names, x.2 ≠ .cell) : codeAny (model prog w) A (.call (.ref f) args) R s := by
  refine codeAny_call_function (fd := fnOf name qual params body scope dV kV doc pm an cdv ct) (body := body) hroom ((X₀.keeps F.keep) _ _ ho) rfl hco hgen rfl (codeRec_of (X₀.keeps F.keep) hcd) ?_
  refine bind_new (o := emptyDict) (r := binds) (X₀.keeps F.keep) ?_ _ g₁ hp hg
  have F' := F.push emptyDict
  have N' : News h₀ L (s.heap.push emptyDict) ((s.heap.objs.size, emptyDict) :: news) := News.push F N emptyDict rfl
  obtain ⟨FG, BG, st, lv⟩ := groundX (R := R) (s := { s with heap := s.heap.push emptyDict }) B F' N' hA hf hke
  refine wpAny_newFunctionEnv hcell (hloc _) (fun h₁ hns hsb => ⟨((T.nolimit.keeps F'.keep)).fresh _ hsb, codeAny_func ?_⟩) hk
  have hk₁ : ∀ b o, (s.heap.push emptyDict).get? b = some o → h₁.get? b = some o := fun b o e => hsb.extBut b o (Nat.ne_of_lt (Heap.lt_size e)) (Heap.get?_push_of_some _ e)
  refine wpAny_mono (h s.heap.objs.size (hideAll (s.heap.push emptyDict) (((s.heap.objs.size, emptyDict) :: news).map (fun x : Addr × Obj => x.1))) (s.heap.push emptyDict).objs.size h₁ _ (F.notModules (modules_low T.nolimit)) (fun p hp => Nat.ne_of_lt (Heap.lt_size (N p hp).1)) (fun b o e => ?_) (fun b o hb e => ?_) ⟨hns, fun b o e => hk₁ b o (of_hideAll _ e), Nat.le_of_eq (hideAll_size _ _)⟩
    (fun p hp => ⟨hk₁ _ _ (N' p hp).1, Nat.ne_of_lt (Heap.lt_size (N' p hp).1), hideAll_none _ (List.mem_map_of_mem hp)⟩) BG (X₀.keeps fun b o e => st b o e) (T.keeps fun b o e => st b o e)) (fun fl s' hl => hl) fun _ _ y => y.elim
  · have hb : b ≠ s.heap.objs.size := fun q => by
      rw [q, hideAll_none _ (List.mem_map_of_mem (List.mem_cons_self ..))] at e
      cases e
    have e' := of_hideAll _ e
    rwa [Heap.get?_push_ne _ _ _ hb] at e'
  · refine hideAll_get _ (Heap.get?_push_of_some _ e) fun hm => ?_
    rw [List.map_cons] at hm
    rcases List.mem_cons.mp hm with q | q
    · exact absurd (Heap.lt_size e) (q ▸ Nat.lt_irrefl _)
    · exact hb q
end

/-- a contract of a call that may write the objects of wr -/
noncomputable abbrev SpecM (w : World) (f : Addr) (vs : List Value) (kw : List (Str × Value)) (dd uu : Nat) (s : Shared) (wr : List Addr) (Post : Value → Heap → Prop) : Prop :=
  ∀ (mean : ExcName → Option Value) (mg mb : Str → Option Value) (C : Clr) (A₀ : Around) (base h₀ : Heap) (m : Str → Option Value) (Q E : Value → Shared → Prop),
    Below A₀ base C.outer h₀ → Fr h₀ C.L s.heap m → (∀ b ∈ wr, b ≠ C.L ∧ h₀.get? b = none) → (hd.heap_39 w.params).In h₀ → Top VW LO mean mg mb h₀ →
    C.dp + dd < recursionLimit → C.un + uu < cLine →
    (∀ v h' tk', (∀ b o, b ∉ wr → s.heap.get? b = some o → h'.get? b = some o) → Post v h' → Q v { s with heap := h', toks := tk' }) →
    wpAny (model PR w) C.top (call (.ref f) vs kw) Q E s
theorem SpecM.use {w : World} {f : Addr} {vs : List Value} {kw : List (Str × Value)} {dd uu : Nat} {s : Shared} {wr : List Addr} {Post : Value → Heap → Prop} (h : SpecM w f vs kw dd uu s wr Post)
    {A : Around} {mean : ExcName → Option Value} {mg mb : Str → Option Value} {dp un : Nat} {gd : Option (List Code)} {cn : Str} {nm : List (Str × NameKind)} {ig ic : Bool} {mo : List (Str × Const)} {a : Addr} {ccd : Value} {cl : List (Str × Addr)} {outer : List Env} {A₀ : Around} {base h₀ : Heap} {L : Addr} {m : Str → Option Value} {news own rest : List (Addr × Obj)} {Q E : Value → Shared → Prop}
    (hA : A = ktrTop dp un gd cn ⟨.function, nm, ig, ic, mo⟩ L a ccd cl outer)
    (B : Below A₀ base outer h₀) (F : Fr h₀ L s.heap m) (N : News h₀ L s.heap news) (X : (hd.heap_39 w.params).In h₀) (Tp : Top VW LO mean mg mb h₀)
    (hd : dp + dd < recursionLimit) (hu : un + uu < cLine)
    (ho : wr = own.map (·.1)) (ho' : ∀ p ∈ own, p ∈ news) (hr : ∀ p ∈ rest, p ∈ news) (hx : ∀ p ∈ rest, p.1 ∉ wr)
    (k : ∀ v h' tk', (∀ b o, b ∉ wr → s.heap.get? b = some o → h'.get? b = some o) → Fr h₀ L h' m → News h₀ L h' rest → (∀ b ∈ wr, b ≠ L ∧ h₀.get? b = none) → Post v h' → Q v { s with heap := h', toks := tk' }) :
    wpAny (model PR w) A (call (.ref f) vs kw) Q E s := by
  subst hA
  have hw : ∀ b ∈ wr, b ≠ L ∧ h₀.get? b = none := fun b hb => by
    rw [ho] at hb
    obtain ⟨p, hp, rfl⟩ := List.mem_map.mp hb
    exact (N p (ho' p hp)).2
  refine h mean mg mb ⟨dp, un, gd, cn, nm, ig, ic, mo, L, a, ccd, cl, outer⟩ A₀ base h₀ m Q E B F hw X Tp hd hu fun v h' tk' hk hp => k v h' tk' hk ?_ ?_ hw hp
  · exact ⟨F.ns.at' fun o e => hk _ _ (fun q => (hw _ q).1 rfl) e, fun b o e => hk b o (fun q => by rw [(hw _ q).2] at e; cases e) (F.keep b o e), F.above⟩
  · exact fun p hp => ⟨hk _ _ (hx p hp) (N p (hr p hp)).1, (N p (hr p hp)).2⟩

section
variable {prog : Program} {w : World} {A : Around} {E : Value → Shared → Prop} {s : Shared} {K : Frag} {x C L f : Addr} {h₀ : Heap} {m : Str → Option Value} {ox : Obj} {od : Option Obj} {i v : Value}
theorem del_own {Q : Unit → Shared → Prop} (F : Fr h₀ L s.heap m) (X₀ : K.In h₀) (I : InstAt s.heap x ox C od) (hq : noSeq K C = true) (hs : findIn K (.ref C) "__delitem__" = some (some (.ref f))) (hf : isFn K (.ref f) = true)
    (h : wpAny (model prog w) A (call (.ref f) [.ref x, i]) (fun _ s' => Q () s') E s) : wpAny (model prog w) A (delItem (.ref x) i) Q E s := by
  have X := X₀.keeps F.keep
  unfold delItem sequenceKey
  refine wpAny_holding (wpAny_bind (wpAny_bind (I.type.here ?_)))
  refine wpAny_bind ((anyM_none X hq).here ?_)
  rw [if_pos (show (!false) = true from rfl)]
  exact wpAny_pure (wpAny_bind (special_fn X I hs (beq_iff_eq.mp hf) (wpAny_mono h (fun _ _ z => wpAny_pure z) fun _ _ z => z)))

theorem setslice_all {l sl : Addr} {vv : Addr} {items new : Array Value} {n : Nat} {Q : Unit → Shared → Prop} (ho : s.heap.get? l = some (listOf items n)) (hs : s.heap.IsSliceOf sl .none .none .none) (hv : s.heap.IsList vv new) (hne : l ≠ vv)
    (hz : items.size ≤ 1000) (hz' : new.size ≤ 1000)
    (hQ : ∀ h' n', h'.get? l = some (listOf new n') → Heap.SameBut l s.heap h' → Q () { s with heap := h' }) : wpAny (model prog w) A (setItem (.ref l) (.ref sl) (.ref vv)) Q E s := by
  have hl : s.heap.IsList l items := PySem.IsL.isList (n := n) ho
  obtain ⟨os, hos, hcs, hds⟩ := id hs
  obtain ⟨ov, hov, hcv, nv, hdv⟩ := id hv
  have hTs : s.TypeIs (.ref sl) "slice" := ⟨os, hos, hcs⟩
  unfold setItem
  try with_reducible refine wpAny_holding ?_
  refine wpAny_bind (wpAny_sequenceKey hl.typeIs (by decide) ?_)
  refine wpAny_bind (wpAny_callSpecial?_slot (name := Str.ofString "__setitem__") hl.typeIs slot_list_setitem
    (wpAny_call_entry slot_list_setitem hl.typeIs entry_list_setitem ?_ (args_list_setitem _ _ _)))
  show wpAny _ _ (Builtin.List.listSubscript? (.ref sl) >>= _) _ _ s
  refine wpAny_bind ?_
  unfold Builtin.List.listSubscript?
  refine wpAny_bind (wpAny_specialOf hTs slice_no_index ?_)
  simp only [Option.isNone_none, if_true]
  refine wpAny_pure ?_
  show wpAny _ _ (typeOf (.ref sl) >>= _) _ _ s
  refine wpAny_bind (wpAny_typeOf hTs ?_)
  rw [if_neg (by decide)]
  rw [listSliceParts_eq]
  refine wpAny_bind (wpAny_bind (wpAny_field hos hds (x := .none) rfl (wpAny_bind (wpAny_listPart .none ?_))))
  rw [if_neg (by decide)]
  refine wpAny_bind (wpAny_field hos hds (x := .none) rfl (wpAny_bind (wpAny_listPart .none ?_)))
  refine wpAny_bind (wpAny_field hos hds (x := .none) rfl (wpAny_bind (wpAny_listPart .none (wpAny_pure ?_))))
  have hf : Builtin.List.listSameRef (.ref l) (.ref vv) = false := by show (l == vv) = false; exact beq_eq_false_iff_ne.mpr hne
  rw [if_neg (by rw [hf]; exact Bool.false_ne_true)]
  refine wpAny_bind ?_
  unfold Builtin.List.listAllItems
  refine wpAny_bind (wpAny_typeOf (⟨ov, hov, hcv⟩ : s.TypeIs (.ref vv) "list") ?_)
  rw [if_pos (by decide)]
  unfold Builtin.List.listItems
  refine wpAny_bind (m := seqItems? (.ref vv)) (wpAny_seqItems hov hdv (wpAny_pure ?_))
  refine wpAny_bind (wpAny_bind (wpAny_seqItems ho rfl (wpAny_pure ?_)))
  refine wpAny_bind (wpAny_of_eq (sliceIndices_raw none none none items.size (by simp)) ?_)
  rw [if_pos (by rfl)]
  refine wpAny_bind (wpAny_rule ?_)
  rw [if_neg (by
    show ¬ (decide (items.size + new.size > sizeLine) = true)
    rw [decide_eq_true_eq, sizeLine_eq]
    omega)]
  have hb1 : (sliceBounds none none none items.size).1.toNat = 0 := rfl
  have hb2 : (max (sliceBounds none none none items.size).1 (sliceBounds none none none items.size).2.1).toNat = items.size := by
    show (max (0 : Int) (items.size : Int)).toNat = _
    omega
  have hfn : items.extract 0 (sliceBounds none none none items.size).1.toNat ++ new ++ items.extract (max (sliceBounds none none none items.size).1 (sliceBounds none none none items.size).2.1).toNat items.size = new := by
    rw [hb1, hb2]
    simp
  refine wpAny_bind (m := updateSeq l _) (wpAny_updateSeq ho rfl ?_ (by rw [sizeLine_eq]; omega) (by rw [hfn, sizeLine_eq]; omega))
  · refine wpAny_bind (wpAny_letGo (wpAny_pure ⟨.none, rfl, wpAny_pure ?_⟩))
    have hg := PySem.IsL.update (n := n) ho fun xs => xs.extract 0 (sliceBounds none none none items.size).1.toNat ++ new ++ xs.extract (max (sliceBounds none none none items.size).1 (sliceBounds none none none items.size).2.1).toNat xs.size
    rw [hfn] at hg
    exact hQ _ _ hg (Heap.SameBut.update ..)
end
/-- a Headers' instance: its dict holds _headers alone -/
structure HInst (h : Heap) (x l : Addr) : Prop where
  ex : ∃ dx es n, h.get? x = some ⟨.ref 220, some dx, .plain, #[]⟩ ∧ h.get? dx = some (dictOf es n) ∧ getL (Str.ofString "_headers") es = some (some (Value.ref l)) ∧ ∀ nm : Str, nm ≠ Str.ofString "_headers" → getL nm es = some none
noncomputable abbrev tup2 (k v : List Nat) (t1 t2 : Tok) : Obj := { cls := .type "tuple", data := .seq #[.str (T k) t1, .str (T v) t2] }
/-- pairs of texts; P says where the tuples lie -/
inductive Pairs (P : Addr → Obj → Prop) : List Value → List (List Nat × List Nat) → Prop
  | nil : Pairs P [] []
  | cons (p : Addr) (t1 t2 : Tok) (k v : List Nat) {vs : List Value} {kvs : List (List Nat × List Nat)} : P p (tup2 k v t1 t2) → Pairs P vs kvs → Pairs P (.ref p :: vs) ((k, v) :: kvs)
noncomputable abbrev PairsIn (h : Heap) := Pairs fun p o => h.get? p = some o
theorem Pairs.length {P : Addr → Obj → Prop} {vs : List Value} {kvs : List (List Nat × List Nat)} (x : Pairs P vs kvs) : vs.length = kvs.length := by
  induction x with
  | nil => rfl
  | cons _ _ _ _ _ _ _ ih => simp [ih]
theorem Pairs.at {P : Addr → Obj → Prop} {vs : List Value} {kvs : List (List Nat × List Nat)} (x : Pairs P vs kvs) : ∃ (Ts : Nat → Addr) (t1 t2 : Nat → Tok), ∀ j, j < kvs.length → vs[j]? = some (.ref (Ts j)) ∧ P (Ts j) (tup2 (kvs.getD j ([], [])).1 (kvs.getD j ([], [])).2 (t1 j) (t2 j)) := by
  induction x with
  | nil => exact ⟨fun _ => 0, fun _ => 0, fun _ => 0, fun j hj => absurd hj (Nat.not_lt_zero _)⟩
  | cons p a b k v ht _ ih =>
    obtain ⟨Ts, t1, t2, H⟩ := ih
    refine ⟨fun j => match j with | 0 => p | j + 1 => Ts j, fun j => match j with | 0 => a | j + 1 => t1 j, fun j => match j with | 0 => b | j + 1 => t2 j, fun j hj => ?_⟩
    cases j with
    | zero => exact ⟨rfl, ht⟩
    | succ j =>
      have := H j (by simpa using hj)
      exact ⟨by simpa using this.1, by simpa using this.2⟩
theorem tup2_is {h : Heap} {p : Addr} {k v : List Nat} {t1 t2 : Tok} (e : h.get? p = some (tup2 k v t1 t2)) : h.IsTuple p #[.str (T k) t1, .str (T v) t2] := ⟨_, e, rfl, _, rfl⟩
theorem Pairs.mono {P P' : Addr → Obj → Prop} {vs : List Value} {kvs : List (List Nat × List Nat)} (x : Pairs P vs kvs) (k : ∀ b o, P b o → o.cls = .type "tuple" → P' b o) : Pairs P' vs kvs := by
  induction x with
  | nil => exact .nil
  | cons p a b u v ht _ ih => exact .cons p a b u v (k _ _ ht rfl) ih
theorem Pairs.snoc {P : Addr → Obj → Prop} {vs : List Value} {kvs : List (List Nat × List Nat)} (x : Pairs P vs kvs) {p : Addr} {t1 t2 : Tok} {kv : List Nat × List Nat} (ht : P p (tup2 kv.1 kv.2 t1 t2)) : Pairs P (vs ++ [.ref p]) (kvs ++ [kv]) := by
  induction x with
  | nil => exact .cons p t1 t2 kv.1 kv.2 ht .nil
  | cons p' a b u v ht' _ ih => exact .cons p' a b u v ht' ih
/-- what get finds -/
noncomputable def getOf (x : List Nat) : List (List Nat × List Nat) → Option (List Nat)
  | [] => none
  | (k, v) :: r => if k.map lo1 = x.map lo1 then some v else getOf x r
theorem lo1_ok : ∀ c : Fin 127, 32 ≤ c.val → 32 ≤ lo1 c.val ∧ lo1 c.val ≤ 126 := by decide +kernel
theorem filter_take_succ {α : Type} (f : α → Bool) (l : List α) (i : Nat) (d : α) (h : i < l.length) : (l.take (i + 1)).filter f = (l.take i).filter f ++ (if f (l.getD i d) then [l.getD i d] else []) := by
  rw [List.take_add_one, List.filter_append, List.getElem?_eq_getElem h, show l.getD i d = l[i] by simp [List.getD, h]]
  cases hf : f l[i] <;> simp [hf]
section
variable {prog : Program} {w : World} {A : Around} {s : Shared} {env : Env} {g : Heap} {m : Str → Option Value} {news : List (Addr × Obj)}
theorem forItems0 {Q : Flow → Shared → Prop} {xk xv : Str} {pk pv pt pos apos cpos : Pos} {x1} {o : Expr} {body : List Stmt} {d : Addr} (hh : A.handled = none) (hxk : env.kindOf xk = some .local) (hxv : env.kindOf xv = some .local)
    (hp : (env.scope.kind == .class || (env.scope.kind == .module && env.locals != env.globals)) = false)
    (F : Fr g env.locals s.heap m) (N : News g env.locals s.heap news) (hd : (d, emptyDict) ∈ news) (hdS : (d == sysModules) = false)
    (hbase : attributeBase o "items" env (eval o env) = eval o env) (hline : (apos.endLine == cpos.line) = true)
    (ho : ∀ Q', Q' (.ref d) s → wpAny (model prog w) A (eval o env) Q' (fun _ _ => False) s)
    (k : ∀ h' tk, Fr g env.locals h' m → News g env.locals h' news → Q .next { s with heap := h', toks := tk })
    (hs : ∀ x, foldedSetIterable (.Call (.Attribute o "items" apos) [] [] cpos) env x = pure x := by intro _; rfl) :
    wpAny (model prog w) A (exec (.For (.Tuple [.Name xk pk, .Name xv pv] x1 pt) (.Call (.Attribute o "items" apos) [] [] cpos) body [] pos) env) Q (fun _ _ => False) s := by
  have hm : s.heap.DictAt (strKind prog w) d [] 0 := ⟨_, #[], (N _ hd).1, ⟨rfl, rfl, rfl⟩, rfl, ⟨fun e he => absurd he (Array.not_mem_empty e), .nil, List.nodup_nil⟩⟩
  refine wpAny_For_items_locals (knd := strKind prog w) hh hxk hxv hp (N _ hd).2.1 hdS hm F.ns hbase hline ho (fun _ m' => m' = m) rfl (fun i k v key m₁ s₁ e => by simp at e) (fun h' tk m' hn hJ hk => ?_) hs PassesOwn.never
  subst hJ
  refine k h' tk ⟨hn, fun b o e => hk b o ?_ (F.keep b o e), F.above⟩ fun p hp => ⟨hk _ _ (N p hp).2.1 (N p hp).1, (N p hp).2⟩
  rintro rfl
  rw [Heap.get?_none_of_le F.above] at e
  cases e
end
theorem filterMap_get_take {α : Type} (l : List α) : ∀ n : Nat, (List.range n).filterMap (fun i => l[i]?) = l.take n
  | 0 => rfl
  | n + 1 => by
    rw [List.range_succ, List.filterMap_append, filterMap_get_take l n, List.take_add_one]
    cases h : l[n]? <;> simp [h]
theorem slicePick_all (vs : List Value) : slicePick vs.toArray none none none = vs.toArray := by
  unfold slicePick
  have e1 : (sliceBounds none none none vs.toArray.size).1 = ((0 : Nat) : Int) := rfl
  have e2 : (sliceBounds none none none vs.toArray.size).2.1 = ((vs.toArray.size : Nat) : Int) := rfl
  have e3 : (sliceBounds none none none vs.toArray.size).2.2 = 1 := rfl
  rw [e1, e2, e3, sliceRange_one]
  congr 1
  rw [List.size_toArray, Nat.sub_zero, show (fun x => (0 : Nat) + x) = id from funext fun x => by simp, List.map_id]
  have := filterMap_get_take vs vs.length
  rw [List.take_length] at this
  simpa using this

end
section
/-- pairs of numbers -/
noncomputable abbrev itup (a b : Nat) (t1 t2 : Tok) : Obj := { cls := .type "tuple", data := .seq #[.int (a : Nat) t1, .int (b : Nat) t2] }
inductive IPairs (P : Addr → Obj → Prop) : List Value → List (Nat × Nat) → Prop
  | nil : IPairs P [] []
  | cons (p : Addr) (t1 t2 : Tok) (a b : Nat) {vs : List Value} {ps : List (Nat × Nat)} : P p (itup a b t1 t2) → IPairs P vs ps → IPairs P (.ref p :: vs) ((a, b) :: ps)
theorem IPairs.mono {P P' : Addr → Obj → Prop} {vs : List Value} {ps : List (Nat × Nat)} (x : IPairs P vs ps) (k : ∀ b o, P b o → P' b o) : IPairs P' vs ps := by
  induction x with
  | nil => exact .nil
  | cons p a b u v ht _ ih => exact .cons p a b u v (k _ _ ht) ih
theorem IPairs.snoc {P : Addr → Obj → Prop} {vs : List Value} {ps : List (Nat × Nat)} (x : IPairs P vs ps) {p : Addr} {t1 t2 : Tok} {a b : Nat} (ht : P p (itup a b t1 t2)) : IPairs P (vs ++ [.ref p]) (ps ++ [(a, b)]) := by
  induction x with
  | nil => exact .cons p t1 t2 a b ht .nil
  | cons p' a b u v ht' _ ih => exact .cons p' a b u v ht' ih
theorem IPairs.length {P : Addr → Obj → Prop} {vs : List Value} {ps : List (Nat × Nat)} (x : IPairs P vs ps) : vs.length = ps.length := by
  induction x with
  | nil => rfl
  | cons _ _ _ _ _ _ _ ih => simp [ih]
theorem IPairs.at {P : Addr → Obj → Prop} {vs : List Value} {ps : List (Nat × Nat)} (x : IPairs P vs ps) : ∃ (Ts : Nat → Addr) (t1 t2 : Nat → Tok), ∀ j, j < ps.length → vs[j]? = some (.ref (Ts j)) ∧ P (Ts j) (itup (ps.getD j (0, 0)).1 (ps.getD j (0, 0)).2 (t1 j) (t2 j)) := by
  induction x with
  | nil => exact ⟨fun _ => 0, fun _ => 0, fun _ => 0, fun j hj => absurd hj (Nat.not_lt_zero _)⟩
  | cons p a b k v ht _ ih =>
    obtain ⟨Ts, t1, t2, H⟩ := ih
    refine ⟨fun j => match j with | 0 => p | j + 1 => Ts j, fun j => match j with | 0 => a | j + 1 => t1 j, fun j => match j with | 0 => b | j + 1 => t2 j, fun j hj => ?_⟩
    cases j with
    | zero => exact ⟨rfl, ht⟩
    | succ j =>
      have := H j (by simpa using hj)
      exact ⟨by simpa using this.1, by simpa using this.2⟩
/-- what waits: the low one and the way to it -/
noncomputable abbrev qtup (low : Nat) (c : Addr) (t : Tok) : Obj := { cls := .type "tuple", data := .seq #[.int (low : Nat) t, .ref c] }
inductive Que (P : Addr → Obj → Prop) : List Value → List (Nat × List (Nat × Nat)) → Prop
  | nil : Que P [] []
  | cons (p c : Addr) (t : Tok) (low n : Nat) (us : List Value) (path : List (Nat × Nat)) {vs : List Value} {q : List (Nat × List (Nat × Nat))} : P p (qtup low c t) → P c (listOf us.toArray n) → IPairs P us path → Que P vs q → Que P (.ref p :: vs) ((low, path) :: q)
theorem Que.mono {P P' : Addr → Obj → Prop} {vs : List Value} {q : List (Nat × List (Nat × Nat))} (x : Que P vs q) (k : ∀ b o, P b o → P' b o) : Que P' vs q := by
  induction x with
  | nil => exact .nil
  | cons p c t low n us path h1 h2 h3 _ ih => exact .cons p c t low n us path (k _ _ h1) (k _ _ h2) (h3.mono k) ih
theorem Que.snoc {P : Addr → Obj → Prop} {vs : List Value} {q : List (Nat × List (Nat × Nat))} (x : Que P vs q) {p c : Addr} {t : Tok} {low n : Nat} {us : List Value} {path : List (Nat × Nat)} (h1 : P p (qtup low c t)) (h2 : P c (listOf us.toArray n)) (h3 : IPairs P us path) :
    Que P (vs ++ [.ref p]) (q ++ [(low, path)]) := by
  induction x with
  | nil => exact .cons p c t low n us path h1 h2 h3 .nil
  | cons p' c' t' low' n' us' path' h1' h2' h3' _ ih => exact .cons p' c' t' low' n' us' path' h1' h2' h3' ih
theorem Que.length {P : Addr → Obj → Prop} {vs : List Value} {q : List (Nat × List (Nat × Nat))} (x : Que P vs q) : vs.length = q.length := by
  induction x with
  | nil => rfl
  | cons _ _ _ _ _ _ _ _ _ _ _ ih => simp [ih]

/-- one low one's high ones, in turn -/
noncomputable def highs (kv : List (List Nat × List Nat)) (low : Nat) (path : List (Nat × Nat)) : List Nat → List Nat → List (Nat × List (Nat × Nat)) → List (Nat × Nat) ⊕ (List Nat × List (Nat × List (Nat × Nat)))
  | [], seen, q => .inr (seen, q)
  | h :: r, seen, q =>
    if h ∈ seen then highs kv low path r seen q
    else match getOf [117 + h] kv with
      | none => .inl (path ++ [(h, low)])
      | some m => highs kv low path r (seen ++ [h]) (q ++ [(m.headD 0 - 112, path ++ [(h, low)])])
/-- the search, level by level -/
noncomputable def bfs (ab : Nat → Nat → Bool) (kv : List (List Nat × List Nat)) : Nat → List (Nat × List (Nat × Nat)) → List Nat → List (Nat × Nat)
  | 0, _, _ => []
  | _ + 1, [], _ => []
  | n + 1, (low, path) :: q, seen => match highs kv low path ((List.range 6).filter (ab low)) seen q with
    | .inl steps => steps
    | .inr (seen', q') => bfs ab kv n q' seen'
noncomputable def keyOf (h lo : Nat) : List Nat := [if lo % 2 = 0 then 117 + h else 85 + h]
noncomputable def setOne (kv : List (List Nat × List Nat)) (s : Nat × Nat) : List (List Nat × List Nat) := (kv.filter fun e => !decide (e.1.map lo1 = (keyOf s.1 s.2).map lo1)) ++ [(keyOf s.1 s.2, [112 + s.2])]
noncomputable def setAll (kv : List (List Nat × List Nat)) (steps : List (Nat × Nat)) : List (List Nat × List Nat) := steps.foldl setOne kv
/-- what the second table holds -/
noncomputable def MatesOk (kv : List (List Nat × List Nat)) : Prop := ∀ e ∈ kv, ∃ h lo, h < 6 ∧ lo < 6 ∧ e = (keyOf h lo, [112 + lo])
theorem keyOf_low : ∀ h : Fin 6, ∀ lo : Fin 6, (keyOf h.val lo.val).map lo1 = [117 + h.val] := by decide +kernel
theorem MatesOk.setOne {kv : List (List Nat × List Nat)} (x : MatesOk kv) {s : Nat × Nat} (h1 : s.1 < 6) (h2 : s.2 < 6) : MatesOk (setOne kv s) := by
  intro e he
  rcases List.mem_append.mp he with he | he
  · exact x e (List.mem_filter.mp he).1
  · exact ⟨s.1, s.2, h1, h2, List.mem_singleton.mp he⟩
theorem MatesOk.setAll : ∀ {steps : List (Nat × Nat)} {kv : List (List Nat × List Nat)}, MatesOk kv → (∀ s ∈ steps, s.1 < 6 ∧ s.2 < 6) → MatesOk (setAll kv steps)
  | [], _, x, _ => x
  | s :: r, _, x, h => MatesOk.setAll (steps := r) (x.setOne (h s (.head _)).1 (h s (.head _)).2) fun p hp => h p (.tail _ hp)
theorem setOne_length (kv : List (List Nat × List Nat)) (s : Nat × Nat) : (setOne kv s).length ≤ kv.length + 1 := by
  unfold setOne
  rw [List.length_append, List.length_singleton]
  exact Nat.succ_le_succ (List.length_filter_le ..)
theorem setAll_length : ∀ (steps : List (Nat × Nat)) (kv : List (List Nat × List Nat)), (setAll kv steps).length ≤ kv.length + steps.length
  | [], _ => Nat.le_refl _
  | s :: r, kv => by
    have h1 := setAll_length r (setOne kv s)
    have h2 := setOne_length kv s
    show (setAll (setOne kv s) r).length ≤ _
    rw [List.length_cons]
    omega
theorem getOf_some {x : List Nat} : ∀ {kv : List (List Nat × List Nat)} {y : List Nat}, getOf x kv = some y → ∃ k, (k, y) ∈ kv ∧ k.map lo1 = x.map lo1
  | (k, v) :: r, y, h => by
    unfold getOf at h
    split at h
    · rename_i e
      cases h
      exact ⟨k, .head _, e⟩
    · obtain ⟨k', h1, h2⟩ := getOf_some h
      exact ⟨k', .tail _ h1, h2⟩
theorem allLt_all {d : Nat} {l : List (Addr × Obj)} (h : AllLt d l) : ∀ p ∈ l, @LT.lt Nat _ p.1 d := by
  induction l with
  | nil => intro p hp; cases hp
  | cons q r ih =>
    intro p hp
    rcases List.mem_cons.mp hp with rfl | hp
    · exact h.1
    · exact ih h.2 p hp
theorem ne_nil {prog : Program} {w : World} {A : Around} {E : Value → Shared → Prop} {s : Shared} {a b : Addr} {xs : List Value} {Q : Value → Shared → Prop} (ha : s.heap.IsList a xs.toArray) (hb : s.heap.IsList b #[]) (hu : A.units + 64 < cLine) (h : Q (.bool (!xs.isEmpty)) s) :
    wpAny (model prog w) A (compareOp .NotEq (.ref a) (.ref b)) Q E s := by
  cases xs with
  | nil => exact ke_ne_ints (xs := []) (ys := []) (ns := []) (ms := []) ha hb .nil .nil hu (by rw [show (!decide (([] : List Int) = [])) = (!([] : List Value).isEmpty) from rfl]; exact h)
  | cons x r =>
    refine cmp_ofNotEq ((PySem.SeqAt.RcNeAt.lists_lengths ha hb ?_ ?_) prog w E Q h)
    · simp
    · exact Nat.lt_of_le_of_lt (Nat.le_add_right _ _) hu
theorem nodup_small {l : List Nat} (h : l.Nodup) {n : Nat} (hn : ∀ x ∈ l, x < n) : l.length ≤ n := by
  have := h.length_le_of_subset (l₂ := List.range n) fun x hx => List.mem_range.mpr (hn x hx)
  rwa [List.length_range] at this
theorem unF54 {α0 α1 α2 α3 α4 : Type} {e : Value} {p0 p1 p2 p3 : α0 → α1 → α2 → α3 → α4 → Prop} {X : Value → Prop} (k : ∀ x0 x1 x2 x3 x4, p0 x0 x1 x2 x3 x4 → p1 x0 x1 x2 x3 x4 → p2 x0 x1 x2 x3 x4 → p3 x0 x1 x2 x3 x4 → X e) : ∀ v, (v = e ∧ ∃ x0 x1 x2 x3 x4, p0 x0 x1 x2 x3 x4 ∧ p1 x0 x1 x2 x3 x4 ∧ p2 x0 x1 x2 x3 x4 ∧ p3 x0 x1 x2 x3 x4) → X v := by
  rintro v ⟨rfl, x0, x1, x2, x3, x4, h0, h1, h2, h3⟩
  exact k x0 x1 x2 x3 x4 h0 h1 h2 h3
theorem unF43 {α0 α1 α2 α3 : Type} {e : Value} {p0 p1 p2 : α0 → α1 → α2 → α3 → Prop} {X : Value → Prop} (k : ∀ x0 x1 x2 x3, p0 x0 x1 x2 x3 → p1 x0 x1 x2 x3 → p2 x0 x1 x2 x3 → X e) : ∀ v, (v = e ∧ ∃ x0 x1 x2 x3, p0 x0 x1 x2 x3 ∧ p1 x0 x1 x2 x3 ∧ p2 x0 x1 x2 x3) → X v := by
  rintro v ⟨rfl, x0, x1, x2, x3, h0, h1, h2⟩
  exact k x0 x1 x2 x3 h0 h1 h2
theorem un65 {α0 α1 α2 α3 α4 α5 : Type} {f : α0 → α1 → α2 → α3 → α4 → α5 → Value} {p0 p1 p2 p3 p4 : α0 → α1 → α2 → α3 → α4 → α5 → Prop} {X : Value → Prop} (k : ∀ x0 x1 x2 x3 x4 x5, p0 x0 x1 x2 x3 x4 x5 → p1 x0 x1 x2 x3 x4 x5 → p2 x0 x1 x2 x3 x4 x5 → p3 x0 x1 x2 x3 x4 x5 → p4 x0 x1 x2 x3 x4 x5 → X (f x0 x1 x2 x3 x4 x5)) : ∀ v, (∃ x0 x1 x2 x3 x4 x5, v = f x0 x1 x2 x3 x4 x5 ∧ p0 x0 x1 x2 x3 x4 x5 ∧ p1 x0 x1 x2 x3 x4 x5 ∧ p2 x0 x1 x2 x3 x4 x5 ∧ p3 x0 x1 x2 x3 x4 x5 ∧ p4 x0 x1 x2 x3 x4 x5) → X v := by
  rintro v ⟨x0, x1, x2, x3, x4, x5, rfl, h0, h1, h2, h3, h4⟩
  exact k x0 x1 x2 x3 x4 x5 h0 h1 h2 h3 h4

end
example : (∃ x, x = (PySem.Challenge.rw_tc0056_01, hd.heap_39)) := by
  k_fill
  exact ⟨_, rfl⟩
local macro_rules | `(tactic| k_room) => `(tactic| first | exact Nat.lt_of_le_of_lt (Nat.le_add_right _ _) (by assumption) | ((try simp only [depth_under_make, depth_under_kw, depth_in1, depth_deeper, depth_caller, Clr.depth]); first | decide | omega))
local macro_rules | `(tactic| walk_at "MY bind") => `(tactic| first | exact BindsTo.of_eq rfl | exact binds_K (by k_in) rfl (by k_is) rfl rfl rfl)
local macro_rules | `(tactic| walk_at "MY st0") => `(tactic| (fail_if_success (with_reducible first | refine gFor ?_ | refine gWhl ?_ | refine gIter ?_ | refine gRef ?_ | refine gCs ?_ | refine gCt ?_ | refine gTe ?_ | refine gL3 ?_ | refine gTc ?_)))
local macro_rules | `(tactic| walk_at "MY w") => `(tactic| first | walk1 | (dsimp only; walk1) | (leave1; try dsimp only))
local macro_rules | `(tactic| walk_at "MY sq") => `(tactic| ((fail_if_success (with_reducible show wpAny _ _ _ _ _ _)); (with_reducible first | refine NxK.mk ?_ | refine SQ.nx (by assumption) _ ?_ | refine SQ.rt (by assumption) _ _ ?_ | refine SQ.bk (by assumption) _ ?_ | refine SQ.ct (by assumption) _ ?_ | refine HQ.up (by assumption) _ _ ?_ | refine NxKR.mk ?_ | refine NxKR.ret ?_ | refine TurnEnd.ret ?_ | refine NxtR.ret ?_ | refine WhP.ret ?_ | refine WhK.ret ?_ | refine WhK.brk ?_)))
local macro_rules | `(tactic| walk_at "MY hide") => `(tactic| ((with_reducible first | show wpAny _ _ _ (Nxt _) _ _ | show wpAny _ _ _ (NxtR _ _) _ _ | show wpAny _ _ _ (TurnEnd _ _ _ _ _ _ _) _ _ | show wpAny _ _ _ (WhP _ _ _) _ _ | show wpAny _ _ _ (WhK _ _ _ _ _ _) _ _); (refine hideH ?_); intro Qc_c hQc_c))
local macro_rules | `(tactic| walk_at "MY cons") => `(tactic| ((try walk_at "MY hide"); (try dsimp only); (refine seqQ ?_); intro k_c Q_c hQ_c))
local macro_rules | `(tactic| walk_at "MY one") => `(tactic| (first
  | (k_unfold; (try dsimp only))
  | ((fail_if_success (with_reducible show wpAny _ _ _ _ _ _)); (first | (walk_at "MY sq") | (with_reducible first | refine ite_tt ?_ | refine ite_ff ?_)))
  | ((fail_if_success (fail_if_success (with_reducible first | refine gEval ?_ | refine gSpl ?_ | refine gTrue ?_ | refine gExec ?_))); (first | ((fail_if_success (fail_if_success (with_reducible first | refine gEvC ?_ | refine gSlc ?_))); walk_at "MY call") | walk_at "MY w"))
  | ((fail_if_success (fail_if_success (with_reducible first | refine gCall ?_ | refine gSub ?_))); walk_at "MY call")
  | ((walk_at "MY st"); walk_at "MY w")
  | fail "no step"))
local macro_rules | `(tactic| walk_at "MY go") => `(tactic| (repeat' (walk_at "MY one")))
local macro_rules | `(tactic| walk_at "MY fv") => `(tactic| first | exact rfl | assumption)
local macro_rules | `(tactic| walk_at "MY pm") => `(tactic| first | k_mem | kcf_m)
local macro_rules | `(tactic| walk_at "eval Name") => `(tactic| (
  (with_reducible show wpAny _ _ (eval (Expr.Name _ _) (envOf _ _ _ _ _)) _ _ _); name_kind "local"; k_dflt (refine ld (by k_asm) (by walk_at "MY fv") ?_; k_whole)))
local macro_rules | `(tactic| walk_at "eval Name") => `(tactic| (
  (with_reducible show wpAny _ _ (eval (Expr.Name _ _) (envOfC _ _ _ _ _)) _ _ _); k_dflt (first
  | (name_kind "local"; refine nameX_L (by k_asm) (by walk_at "MY fv") ?_ rfl rfl; k_whole)
  | (name_kind "cell"; refine nameX_C (by k_asm) rfl (by walk_at "MY pm") (by assumption) ?_ rfl rfl; k_whole))))
local macro_rules | `(tactic| walk_at "eval Name") => `(tactic| (
  (with_reducible show wpAny _ _ (eval (Expr.Name _ _) (compEnvC _ _ _ _)) _ _ _); k_dflt (first
  | (name_kind "local"; exact LCgL.ld_own (by k_asm) (by walk_at "MY pm") (by assumption) (by assumption))
  | (name_kind "free"; refine lcf_free (by k_asm) rfl (by walk_at "MY pm") (by assumption) ?_ rfl rfl; k_whole)
  | (name_kind "globalImplicit"; first
    | refine LCgL.ld_global (by k_asm) (by k_asm) (by k_asm) (by k_is) ?_
    | refine LCgL.ld_built (by k_asm) (by k_asm) (by k_asm) (by k_is) (by boot_by_name) (by decide) ?_))))
local macro_rules | `(tactic| walk_at "MY sz") => `(tactic| first | (simp only [T_len]; size_fits) | size_fits)
local macro_rules | `(tactic| walk_at "subscriptTail Name Slice str ref") => `(tactic| (
  (first
    | ((with_reducible show wpAny _ _ (subscriptTail _ (Expr.Slice (some _) none none _) _ _) _ _ _); refine slice_strN_sn (hsz := by walk_at "MY sz") (s := ⟨_, _, _, _, _⟩) (by assumption) (by assumption) ?_)
    | ((with_reducible show wpAny _ _ (subscriptTail _ (Expr.Slice (some _) (some _) none _) _ _) _ _ _); refine slice_strN_ss (hsz := by walk_at "MY sz") (s := ⟨_, _, _, _, _⟩) (by assumption) (by assumption) ?_)
    | ((with_reducible show wpAny _ _ (subscriptTail _ (Expr.Slice none (some _) none _) _ _) _ _ _); first | refine slice_strN_ns (hsz := by walk_at "MY sz") (s := ⟨_, _, _, _, _⟩) (by assumption) (by assumption) ?_ | refine slice_strN_nn (hsz := by walk_at "MY sz") (s := ⟨_, _, _, _, _⟩) (by assumption) (by assumption) ?_)); intro _ _ _ _ _))
local macro_rules | `(tactic| walk_at "truthy str") => `(tactic| (refine SBL.truthy (by first | exact slice63 _ _ _ (by omega) | exact t63 _ (by omega)) ?_))
local macro_rules | `(tactic| walk_at "MY om") => `(tactic| first | omega | (simp (disch := omega) only [T_len, T_from, T_to, T_to_neg, T_all, List.length_drop, List.length_take, List.length_nil, decide_eq_true_eq, decide_eq_false_iff_not] at *; omega))
local macro_rules | `(tactic| walk_at "loadName") => `(tactic| (k_here; k_dflt (refine ldn (by k_asm) (by walk_at "MY fv") ?_; k_whole)))
local macro_rules | `(tactic| walk_at "subscriptTail Name Name str int") => `(tactic| (
  refine item_str (fitsSsize_of (N := 9223372036854775808) (by walk_at "MY om") (by walk_at "MY om") (Int.le_refl _)) (by walk_at "MY om") (by walk_at "MY om") ?_ (by with_unfolding_all rfl) (by intro _; with_unfolding_all rfl); intro _))
local macro_rules | `(tactic| walk_at "subscriptTail Name BinOp str int") => `(tactic| walk_at "subscriptTail Name Name str int")
local macro_rules | `(tactic| walk_at "truthy int") => `(tactic| first | (refine truthy_intT (by omega) ?_) | (refine truthy_intF (by omega) ?_) | (with_reducible refine truthy_int ?_))
local macro_rules | `(tactic| walk_at "execs cons") => `(tactic| walk_at "MY cons")
local macro_rules | `(tactic| walk_at "call builtin:len") => `(tactic| ((with_reducible show wpAny _ _ (call (Value.builtin "len") [Value.str (Mine.T _) _]) _ _ _); refine len_strT (by omega) ?_))
local macro_rules | `(tactic| walk_at "exec For") => `(tactic| fail "a loop: by hand")
local macro_rules | `(tactic| walk_at "MY rm") => `(tactic| ((try dsimp only [Clr.top, ktrTop, Around.deeper]); omega))
local macro_rules | `(tactic| walk_at "MY use") => `(tactic| (
  (case spA => exact rfl); (case spB => assumption); (case spF => assumption); (case spN => assumption); (case spX => assumption); (case spT => assumption);
  (case spD => walk_at "MY rm"); (case spU => walk_at "MY rm")))
local macro_rules | `(tactic| walk_at "MY call") => `(tactic| fail "no contract")
local macro_rules | `(tactic| walk_at "eval ListComp") => `(tactic| (k_dflt (first
  | ((with_reducible show wpAny _ _ (eval (Expr.ListComp _ [PySem.Comprehension.mk _ _ [] _] _ _) _) _ _ _); refine LCg.ListComp_U (F₀ := by k_asm) (by with_unfolding_all rfl) (by decide) (by rfl) (by decide) (by rfl) ?_)
  | ((with_reducible show wpAny _ _ (eval (Expr.ListComp _ [PySem.Comprehension.mk _ _ [_] _] _ _) _) _ _ _); refine LCt.ListComp_T (F₀ := by k_asm) (by with_unfolding_all rfl) (by decide) (by rfl) (by decide) (by rfl) ?_))))
local macro_rules | `(tactic| walk_at "CompSrc") => `(tactic| fail "by hand")
local macro_rules | `(tactic| walk_at "CompSrcT") => `(tactic| fail "by hand")
local macro_rules | `(tactic| walk_at "call type:enumerate") => `(tactic| ((with_reducible show wpAny _ _ (call (Value.type _) [Value.ref _]) _ _ _); (with_unfolding_all refine call_enum_list rfl (by assumption) (TxtsAre.areOf (by assumption)) (by assumption) (by assumption) ?_); intro _ _ _ _ _))
local macro_rules | `(tactic| walk_at "binaryOp Add str str") => `(tactic| ((with_reducible refine PyProof.Rows.add_str ?_ ?hsz); (case hsz => (rw [PySem.sizeLine_eq]; first | omega | (simp only [T_len, str_len_append, List.length_append, List.length_replicate, List.length_cons, List.length_nil]; omega) | (simp only [T_len, str_len_append, List.length_append, List.length_replicate, List.length_cons, List.length_nil, show (Str.ofString "0x").length = 2 from rfl, show (Str.ofString "").length = 0 from rfl]; omega))); intro _ _))
local macro_rules | `(tactic| walk_at "subscriptTail") => `(tactic| (
  (with_reducible show wpAny _ _ (subscriptTail _ _ (Value.ref _) (Value.int _ _)) _ _ _);
  refine item_TL (by first | exact Fr.lst (by assumption) (by assumption) | exact News.isList (by assumption) (by kcf_m)) (by assumption) (by omega) (by omega) (by omega) ?_ (by with_unfolding_all rfl) (by intro _; with_unfolding_all rfl); intro _))
local macro_rules | `(tactic| walk_at "eval Constant int") => `(tactic| refine constI ?_)
local macro_rules | `(tactic| walk_at "eval Constant str") => `(tactic| refine constS ?_)
local macro_rules | `(tactic| walk_at "binaryOp Add int int") => `(tactic| with_reducible refine addI ?_)
local macro_rules | `(tactic| walk_at "binaryOp Sub int int") => `(tactic| with_reducible refine subI ?_)
local macro_rules | `(tactic| walk_at "binaryOp Mod int int") => `(tactic| with_reducible refine modI (by first | decide | assumption | omega) ?_)
local macro_rules | `(tactic| walk_at "binaryOp FloorDiv int int") => `(tactic| with_reducible refine fdivI (by first | decide | omega) (by first | decide | omega) ?_)
local macro_rules | `(tactic| walk_at "inplaceOp Add int int") => `(tactic| with_reducible refine iaddI ?_)
local macro_rules | `(tactic| walk_at "inplaceOp Sub int int") => `(tactic| with_reducible refine isubI ?_)
local macro_rules | `(tactic| walk_at "MY mem") => `(tactic| first | assumption | exact .head _ | (refine .tail _ ?_; walk_at "MY mem") | (refine List.mem_append_left _ ?_; walk_at "MY mem") | (refine List.mem_append_right _ ?_; walk_at "MY mem"))
local macro_rules | `(tactic| walk_at "MY sub") => `(tactic| first | exact subS | exact subN | (refine subC ?_ ?_; (focus walk_at "MY mem"); walk_at "MY sub") | (refine subA ?_ ?_ <;> walk_at "MY sub") | (refine subT ?_; walk_at "MY sub") | (refine subL ?_; walk_at "MY sub") | (refine subR ?_; walk_at "MY sub"))

section
local macro_rules | `(tactic| walk_at "MY st") => `(tactic| walk_at "MY st0")
theorem cells_spec (w : World) (s : Shared) (l : Addr) (vs : List Value) (ns : List Int) (hl : s.heap.IsList l vs.toArray) (hi : IntsAre vs ns) :
    Spec w 231 [.ref l] 3 100 s (fun v h' => ∃ c ys zs k, v = .ref c ∧ s.heap.get? c = none ∧ h'.get? c = some (listOf ys.toArray k) ∧ IntsAre ys zs ∧ zs.length = 8) := by
  intro mean mg mb C A₀ base h₀ m Q E B F X T hd hu hret
  ((refine wpAny_call (enterP (by k_asm) (by k_asm) (by k_asm) (by k_asm) rfl rfl rfl (by k_is) (by k_is) (by k_room) (by walk_at "MY bind") (locs rfl) ?_ rfl rfl rfl (by decide)); k_whole))
  intro L' h' F' B' X' T'
  try dsimp only
  have N0 : News s.heap L' h' [] := fun _ hp => nomatch hp
  with_reducible refine cutS (At s s.heap L' (fun m nw => ExN4 fun c ys zs k => AndN5 (m (Str.ofString "cells") = some (.ref c)) (m (Str.ofString "script") = some (.ref l)) (nw = [(c, listOf ys.toArray k)]) (IntsAre ys zs) (zs.length = 8))) ?_ ?_
  · walk_at "MY go"
    exact Nxt.at _ (by assumption) (by assumption) ⟨_, _, _, _, rfl, rfl, rfl, by ((repeat' (first | exact IntsAre.nil | apply IntsAre.cons))), rfl⟩
  rintro s' ⟨h1, tk1, m1, nw1, rfl, F1, N1, c, ys, zs, k, hc, hs, rfl, hys, hzs⟩
  with_reducible refine cutS (At s s.heap L' (fun m nw => ExN3 fun ys zs k => AndN4 (m (Str.ofString "cells") = some (.ref c)) (nw = [(c, listOf ys.toArray k)]) (IntsAre ys zs) (zs.length = 8))) ?_ ?_
  · refine For_pair3 (h₀ := s.heap) ?a1 ?a2 ?a3 ?a4 ?_ ?a5 ?a6
    case a1 => exact rfl
    case a2 => exact rfl
    case a3 => exact rfl
    case a4 => exact rfl
    case a5 => intro _; exact rfl
    case a6 => exact PassesOwn.never
    walk_at "MY go"
    rename PairSrcL _ _ _ _ _ _ _ _ _ _ _ _ => S
    refine S _ rfl _ _ _ _ (fun i m nw => ExN3 fun ys zs k => AndN4 (m (Str.ofString "cells") = some (.ref c)) (nw = [(c, listOf ys.toArray k)]) (IntsAre ys zs) (zs.length = 8)) ⟨_, _, _, hc, rfl, hys, hzs⟩ ?_ ?_
    · rintro i a t v m₁ nw s₁ own ⟨h2, tk2, rfl⟩ ha ⟨t2, rfl⟩ ⟨ys, zs, k, hc, rfl, hys, hzs⟩ - hoff F2 N2
      walk_at "MY go"
      have N2' : News s.heap L' h2 ((c, listOf ys.toArray k) :: own) := fun p hp => N2 p (by
        rcases List.mem_cons.mp hp with rfl | hp
        · exact List.mem_append_right _ (.head _)
        · exact List.mem_append_left _ hp)
      have i0 := fmod_lo (i : Int) (n := 8) (by decide)
      have i1 := fmod_hi (i : Int) (n := 8) (by decide)
      refine ksa_set F2 N2' (.head fun p hp => hoff p hp _ (.head _)) hys i0 (by rw [hzs]; exact i1) (by omega) ?_
      intro h3 F3 N3 hi3 hl3 _
      try dsimp only
      walk_at "MY sq"
      refine wpAny_execs_nil ?_
      have N4 : News s.heap L' h3 (own ++ [(c, listOf (ys.set _ _).toArray k)]) := fun p hp => N3 p (by
        rcases List.mem_append.mp hp with hp | hp
        · exact .tail _ hp
        · rw [List.mem_singleton.mp hp]; exact .head _)
      refine ⟨rfl, h3, _, _, [(c, _)], rfl, F3, N4, rfl, ?_⟩
      refine ⟨_, _, _, ?_, rfl, hi3, hl3.trans hzs⟩
      exact hc
    · rintro h2 tk2 m2 nw2 F2 N2 - ⟨ys, zs, k, hc, rfl, hys, hzs⟩
      exact Nxt.at _ F2 N2 ⟨_, _, _, hc, rfl, hys, hzs⟩
  rintro s' ⟨h1, tk1, m1, nw1, rfl, F1, N1, ys, zs, k, hc, rfl, hys, hzs⟩
  walk_at "MY go"
  try dsimp only
  repeat walk_at "MY sq"
  exact hret _ _ _ F1.keep ⟨_, _, _, _, rfl, (N1 _ (.head _)).2.2, (N1 _ (.head _)).1, hys, hzs⟩

end
section
local macro_rules | `(tactic| walk_at "MY st") => `(tactic| walk_at "MY st0")
/-- _substitution_cost -/
noncomputable def ccost (x y : Str) : Int := if x = y then 0 else if Txt.lower x = Txt.lower y then 1 else 2
theorem sub_spec (w : World) (s : Shared) (x : Str) (t1 : Tok) (y : Str) (t3 : Tok) (hx : x.length ≤ 100) (hy : y.length ≤ 100) : Spec w 67 [.str x t1, .str y t3] 2 20 s (fun v _ => ∃ t, v = .int (ccost x y) t) := by
  intro mean mg mb C A₀ base h₀ m Q E B F X T hd hu hret
  ((refine wpAny_call (enterP (by k_asm) (by k_asm) (by k_asm) (by k_asm) rfl rfl rfl (by k_is) (by k_is) (by k_room) (by walk_at "MY bind") (locs rfl) ?_ rfl rfl rfl (by decide)); k_whole))
  intro L' h' F' B' X' T'
  try dsimp only
  have N' : News s.heap L' h' [] := fun _ hp => nomatch hp
  walk_at "MY go"
  all_goals try dsimp only
  all_goals refine hret _ _ _ F'.keep ⟨_, congrArg (fun z => Value.int z _) ?_⟩
  all_goals simp_all [ccost]
noncomputable def lvRow (n : Nat) : List Int := (List.range n).map fun (i : Nat) => 2 * ((i : Int) + 1)
theorem list_range2 {prog : Program} {w : World} {A : Around} {E : Value → Shared → Prop} {s : Shared} {h₀ : Heap} {L r : Addr} {m : Str → Option Value} {news : List (Addr × Obj)} {t₀ u₀ v₀ : Tok} {n : Nat} {Q : Value → Shared → Prop}
    (hh : A.handled = none) (F : Fr h₀ L s.heap m) (N : News h₀ L s.heap news) (hr : IsRange s.heap r 2 (2 * ((n : Int) + 1)) 2 t₀ u₀ v₀) (hz : n ≤ 40)
    (h : ∀ D us c h' tk, Fr h₀ L h' m → News h₀ L h' ((D, listOf (List.toArray us) c) :: news) → (∀ p ∈ news, p.1 < D) → IntsAre us (lvRow n) → Q (.ref D) { s with heap := h', toks := tk }) :
    wpAny (model prog w) A (call (.type "list") [.ref r]) Q E s := by
  have hn : Builtin.Range.rangeSize 2 (2 * ((n : Int) + 1)) 2 = (n : Int) := by
    unfold Builtin.Range.rangeSize
    simp only [show (2 : Int) > 0 by decide, if_true]
    split <;> omega
  refine call_list_range hh hr ?_ hn (by omega) fun h' tk acc c hk hD hI => ?_
  · exact (by decide +kernel : ∀ k : Fin 41, Builtin.Range.small 2 (2 * ((k.val : Int) + 1)) 2 = true) ⟨n, by omega⟩
  have hD' : h'.get? s.heap.objs.size = some (listOf (List.toArray acc.toList) c) := by
    rw [Array.toArray_toList]
    exact hD
  refine h _ acc.toList c h' tk (F.keeps hk) (news_pushed F N hk hD' rfl) (fun p hp => Heap.lt_size (N p hp).1) ?_
  have key : ∀ (vs : List Value) (b : Nat), (∀ (j : Nat) (v : Value), vs[j]? = some v → ∃ t, v = .int (2 + ((b + j : Nat) : Int) * 2) t) → IntsAre vs ((List.range' b vs.length).map fun (i : Nat) => 2 * ((i : Int) + 1)) := by
    intro vs
    induction vs with
    | nil => intro b _; exact .nil
    | cons v r ih =>
      intro b hv
      obtain ⟨t, ht⟩ := hv 0 v rfl
      rw [List.length_cons, List.range'_succ, List.map_cons]
      have e : v = .int (2 * ((b : Int) + 1)) t := by rw [ht]; congr 1; simp; omega
      subst e
      refine IntsAre.cons _ _ (ih (b + 1) fun j v hj => ?_)
      obtain ⟨t, ht⟩ := hv (j + 1) v hj
      exact ⟨t, by rw [ht]; congr 2; simp; omega⟩
  have hl : acc.toList.length = n := by rw [Array.length_toList]; exact hI.1
  have := key acc.toList 0 fun j v hj => by
    obtain ⟨t, ht⟩ := hI.2 j v (by rw [← hj, Array.getElem?_toList])
    exact ⟨t, by rw [ht]; simp⟩
  rw [hl] at this
  unfold lvRow
  rw [List.range_eq_range']
  exact this

end
section
local macro_rules | `(tactic| walk_at "MY st") => `(tactic| walk_at "MY st0")
/-- the common signs ahead -/
noncomputable def pre2 : List Nat → List Nat → Nat
  | a :: x, b :: y => if a = b then pre2 x y + 1 else 0
  | _, _ => 0
theorem pre2_nil_left (y : List Nat) : pre2 [] y = 0 := by unfold pre2; rfl
theorem pre2_nil_right (x : List Nat) : pre2 x [] = 0 := by cases x <;> (unfold pre2; rfl)
theorem pre2_step {x y : List Nat} {k : Nat} (hx : k < x.length) (hy : k < y.length) (h : x[k] = y[k]) : pre2 (x.drop k) (y.drop k) = pre2 (x.drop (k + 1)) (y.drop (k + 1)) + 1 := by
  rw [List.drop_eq_getElem_cons hx, List.drop_eq_getElem_cons hy, pre2, if_pos h]
theorem pre2_stop {x y : List Nat} {k : Nat} (hx : k < x.length) (hy : k < y.length) (h : x[k] ≠ y[k]) : pre2 (x.drop k) (y.drop k) = 0 := by
  rw [List.drop_eq_getElem_cons hx, List.drop_eq_getElem_cons hy, pre2, if_neg h]
noncomputable def cc (a b : Nat) : Int := ccost (T [a]) (T [b])
/-- one row of the table -/
noncomputable def lvIn (bc : Nat) : List Nat → List Int → Int → Int → Int → List Int × Int × Int
  | a :: as, r :: rs, d, res, mn =>
    let e := if r < res then r else res
    let z := if d + cc bc a < e + 2 then d + cc bc a else e + 2
    let q := lvIn bc as rs r z (if z < mn then z else mn)
    (z :: q.1, q.2.1, q.2.2)
  | _, _, _, res, mn => ([], res, mn)
noncomputable def lvAt (bc : Nat) (p : List Nat) (j : Nat) (zs : List Int) (d res mn : Int) : List Int × Int × Int := let r := lvIn bc (p.drop j) (zs.drop j) d res mn; (zs.take j ++ r.1, r.2.1, r.2.2)
theorem lvIn_next {bc : Nat} {p : List Nat} {zs : List Int} {d res mn : Int} {j : Nat} (hj : j < p.length) (hz : zs.length = p.length) {z : List Int × Int × Int}
    (he : lvAt bc p j zs d res mn = z) {r0 cs V mn' : Int} (h0 : r0 = zs.getD ((j : Int)).toNat 0) (hc : cs = ccost (T [bc]) (T [p[j]]))
    (hV : V = if d + cs < (if r0 < res then r0 else res) + 2 then d + cs else (if r0 < res then r0 else res) + 2) (hm : mn' = if V < mn then V else mn) :
    lvAt bc p (j + 1) (zs.set ((j : Int)).toNat V) r0 V mn' = z := by
  unfold lvAt at he ⊢
  have hjz : j < zs.length := by omega
  have e0 : r0 = zs[j] := by rw [h0]; simp [List.getD, hjz]
  have e1 : cs = cc bc p[j] := hc
  rw [List.drop_eq_getElem_cons hj, List.drop_eq_getElem_cons hjz] at he
  simp only [lvIn, ← e0, ← e1, ← hV, ← hm] at he
  rw [Int.toNat_natCast, List.drop_set_of_lt (by omega), List.take_set, List.take_add_one, List.getElem?_eq_getElem hjz]
  rw [← he]
  have : (zs.take j ++ [zs[j]]).set j V = zs.take j ++ [V] := by
    rw [List.set_append_right _ _ (by rw [List.length_take]; omega)]
    simp [Nat.min_eq_left (Nat.le_of_lt hjz)]
  simp only [Option.toList_some, this, List.append_assoc, List.singleton_append]
noncomputable def lvOut (a : List Nat) (mx : Int) : List Nat → Int → List Int → Int → Int
  | [], _, _, res => res
  | bc :: bs, bi, row, _ =>
    let q := lvIn bc a row (bi * 2) (bi * 2) 9223372036854775807
    if mx < q.2.2 then mx + 1 else lvOut a mx bs (bi + 1) q.1 q.2.1
noncomputable def lvTab (a b : List Nat) (mx : Int) : Int := if mx < ((b.length : Int) - a.length) * 2 then mx + 1 else lvOut a mx b 0 (lvRow a.length) 0
noncomputable def lvCore (a b : List Nat) (mx : Int) : Int := if b.length < a.length then lvTab b a mx else lvTab a b mx
noncomputable def lvTail (u v : List Nat) (mx : Int) : Int := if u = [] ∨ v = [] then 2 * ((u.length : Int) + v.length) else lvCore u v mx
noncomputable def lvSuf (u v : List Nat) (mx : Int) : Int := lvTail (u.take (u.length - pre2 u.reverse v.reverse)) (v.take (v.length - pre2 u.reverse v.reverse)) mx
noncomputable def lev (x y : List Nat) (mx : Int) : Int := if x = y then 0 else lvSuf (x.drop (pre2 x y)) (y.drop (pre2 x y)) mx

theorem sl_post {prog : Program} {w : World} {A : Around} {E : Value → Shared → Prop} {g h : Heap} {gg : Array GenState} {d : Drawn} {n : Nat} {o : OsState} {name : Str} {scope : Scope} {L a : Addr} {cd : Value} {m : Str → Option Value} {x : Str} {u : List Nat} {t tp : Tok} {k kk : Nat} {p1 p2 p3 p4 p5 p6 : Pos} {Q : Value → Shared → Prop}
    (F : Fr g L h m) (N : News g L h []) (hx : m x = some (.str (T u) t)) (hp : m (Str.ofString "post") = some (.int (-(k : Int)) tp)) (hu : u.length ≤ 40)
    (K : ∀ h' tk' t', Fr g L h' m → News g L h' [] → Q (.str (T (u.take (u.length - k))) t') ⟨h', gg, d, tk', o⟩)
    (hk : scope.kind = .function := by rfl) (hl : (envOf name scope L a cd).kindOf x = some .local := by rfl) (hd : (x == ("__debug__" : Str)) = false := by decide) (hl2 : (envOf name scope L a cd).kindOf (Str.ofString "post") = some .local := by rfl) :
    wpAny (model prog w) A (eval (.Subscript (.Name x p1) (.Slice none (some (.BoolOp .Or [.Name (Str.ofString "post") p2, .Constant .none kk p3] p4)) none p5) p6) (envOf name scope L a cd)) Q E ⟨h, gg, d, n, o⟩ := by
  refine Subscript_ (ld F hx ?_ hk hl hd)
  have hd2 : (Str.ofString "post" == ("__debug__" : Str)) = false := by decide
  rcases k with _ | k
  · replace hp : m (Str.ofString "post") = some (.int 0 tp) := hp
    rw [Nat.sub_zero, List.take_length] at K
    iterate 4 walk1
    refine ld F hp ?_ hk hl2 hd2
    repeat' walk1
    all_goals (try dsimp only)
    all_goals (rw [T_all]; exact K _ _ _ (by assumption) (by assumption))
  · iterate 4 walk1
    refine ld F hp ?_ hk hl2 hd2
    repeat' walk1
    all_goals (try dsimp only)
    all_goals (rw [T_to_neg u (k + 1) (Nat.succ_pos k)]; exact K _ _ _ (by assumption) (by assumption))
theorem tk63 {u : List Nat} {k : Nat} (h : u.length ≤ 40) : ((T (u.take (u.length - k))).length : Int) < 9223372036854775808 := len63 (Nat.le_trans (Nat.le_of_eq (tk_len u k)) (Nat.le_trans (Nat.sub_le _ _) h)) (by decide)
theorem neg_pred (k : Nat) : -(k : Int) - 1 = -((k + 1 : Nat) : Int) := by omega
theorem T_nn {a : List Nat} (h : ((T a).length : Int) ≠ 0) : a ≠ [] := fun e => h (by rw [e]; rfl)
theorem T_nil {a : List Nat} (h : ((T a).length : Int) = 0) : a = [] := List.eq_nil_of_length_eq_zero (by rw [T_len] at h; exact nat0 h)
theorem drop40 {x : List Nat} (p : Nat) (h : x.length ≤ 40) : (x.drop p).length ≤ 40 := Nat.le_trans (by rw [List.length_drop]; exact Nat.sub_le _ _) h
theorem take40 {x : List Nat} (p : Nat) (h : x.length ≤ 40) : (x.take p).length ≤ 40 := Nat.le_trans (List.length_take_le' p x) h
local macro_rules | `(tactic| walk_at "truthy str") => `(tactic| refine SBL.truthy (by first | exact tk63 (by assumption) | exact slice63 _ _ _ (by omega) | exact t63 _ (by omega)) ?_)
local macro_rules | `(tactic| walk_at "call type:list") => `(tactic| (refine' list_range2 (by rfl) ?F ?N ?R (by omega) ?_; (case F => assumption); (case N => assumption); (case R => assumption); intro _ _ _ _ _ _ _ _ _))
theorem lev_spec (w : World) (s : Shared) (x : List Nat) (t1 : Tok) (y : List Nat) (t3 : Tok) (mx : Int) (t2 : Tok) (hx : x.length ≤ 40) (hy : y.length ≤ 40) : Spec w 74 [.str (T x) t1, .str (T y) t3, .int mx t2] 6 60 s (fun v _ => ∃ t, v = .int (lev x y mx) t) := by
  intro mean mg mb C A₀ base h₀ m Q E B F X Tp hd hu hret
  ((refine wpAny_call (enterP (by k_asm) (by k_asm) (by k_asm) (by k_asm) rfl rfl rfl (by k_is) (by k_is) (by k_room) (by walk_at "MY bind") (locs rfl) ?_ rfl rfl rfl (by decide)); k_whole))
  intro L' h' F0 B1 X1 T1
  try dsimp only
  have N0 : News s.heap L' h' [] := noNews
  refine (show ∀ X : Prop, (∀ m, Fr s.heap L' h' m → m (Str.ofString "a") = some (.str (T x) t1) → m (Str.ofString "b") = some (.str (T y) t3) → m (Str.ofString "max_cost") = some (.int mx t2) → X) → X from fun X k => k _ F0 rfl rfl rfl) _ ?_
  clear F0
  intro m0 F0 ha hb hm
  (repeat' (first | (( (with_reducible show wpAny _ _ (call (Value.ref 67) _ _) _ _ _); refine' Spec.use (sub_spec _ _ _ _ _ _ ?spx ?spy) ?spA ?spB ?spF ?spN ?spX ?spT ?spD ?spU ?_; walk_at "MY use"; (case spx => first | omega | (rw [T_len]; simp)); (case spy => first | omega | (rw [T_len]; simp)); intro v_c h_c tk_c hk_c F_c N_c hp_c; revert v_c; refine un10 ?_; intro t_c; (try dsimp only))) | (first | ((with_reducible show wpAny _ _ (subscriptTail _ (Expr.Name _ _) (Value.str (Mine.T _) _) (Value.int _ _)) _ _ _); (try dsimp only); refine item_T (by first | exact from_ne (by assumption) | assumption) (by omega) ?_) | ((with_reducible show wpAny _ _ (subscriptTail _ (Expr.BinOp _ _ _ _) (Value.str (Mine.T _) _) (Value.int _ _)) _ _ _); (try dsimp only); refine item_Tr (tk_ne (by assumption)) (by omega) ?_)) | (((with_reducible show wpAny _ _ (eval (Expr.Subscript (Expr.Name _ _) (Expr.Slice none (some (Expr.BoolOp _ _ _)) none _) _) _) _ _ _); (try dsimp only); refine sl_post (by assumption) (by assumption) (by assumption) (by assumption) (by assumption) ?_; intro _ _ _ _ _)) | (walk_at "MY one")))
  · rename ((_ == _) = true) => he
    rw [beq_iff_eq, T_eq] at he
    exact hret _ _ _ (Fr.keep (by assumption)) ⟨_, congrArg (fun z => Value.int z _) (by rw [lev, if_pos he])⟩
  rename ((_ == _) = false) => he
  rw [show lev x y mx = lvSuf (x.drop (pre2 x y)) (y.drop (pre2 x y)) mx from by rw [lev, if_neg (T_ne he)]] at hret
  clear he
  -- the common signs ahead
  with_reducible refine cutKS (fun X => ∀ h tk m u1 u2 u3 u4, Fr s.heap L' h m → News s.heap L' h [] → m (Str.ofString "a") = some (.str (T x) u1) → m (Str.ofString "b") = some (.str (T y) u2) → m (Str.ofString "pre") = some (.int (pre2 x y : Nat) u3) → m (Str.ofString "max_cost") = some (.int mx u4) → X h tk) ?_ ?_
  · intro Y hY
    with_reducible refine whileK (fun n h tk => ∀ X : Prop, (∀ m (k : Nat) u1 u2 u3 u4, Fr s.heap L' h m → News s.heap L' h [] → m (Str.ofString "a") = some (.str (T x) u1) → m (Str.ofString "b") = some (.str (T y) u2) → m (Str.ofString "pre") = some (.int (k : Nat) u3) → m (Str.ofString "max_cost") = some (.int mx u4) → k + n = x.length → k + pre2 (x.drop k) (y.drop k) = pre2 x y → X) → X) x.length ?_ ?_
    · exact fun X K => K _ 0 _ _ _ _ (by assumption) (by assumption) (by exact ha) (by exact hb) (by exact rfl) (by exact hm) (Nat.zero_add _) (Nat.zero_add _)
    clear ha hb hm
    intro n h1 tk1 Q' hQ' hJ
    refine hJ _ ?_
    clear hJ
    intro m1 k ua ub up um F1 N1 ha hb hp hm hk he
    (repeat' (first | (( (with_reducible show wpAny _ _ (call (Value.ref 67) _ _) _ _ _); refine' Spec.use (sub_spec _ _ _ _ _ _ ?spx ?spy) ?spA ?spB ?spF ?spN ?spX ?spT ?spD ?spU ?_; walk_at "MY use"; (case spx => first | omega | (rw [T_len]; simp)); (case spy => first | omega | (rw [T_len]; simp)); intro v_c h_c tk_c hk_c F_c N_c hp_c; revert v_c; refine un10 ?_; intro t_c; (try dsimp only))) | (first | ((with_reducible show wpAny _ _ (subscriptTail _ (Expr.Name _ _) (Value.str (Mine.T _) _) (Value.int _ _)) _ _ _); (try dsimp only); refine item_T (by first | exact from_ne (by assumption) | assumption) (by omega) ?_) | ((with_reducible show wpAny _ _ (subscriptTail _ (Expr.BinOp _ _ _ _) (Value.str (Mine.T _) _) (Value.int _ _)) _ _ _); (try dsimp only); refine item_Tr (tk_ne (by assumption)) (by omega) ?_)) | (((with_reducible show wpAny _ _ (eval (Expr.Subscript (Expr.Name _ _) (Expr.Slice none (some (Expr.BoolOp _ _ _)) none _) _) _) _ _ _); (try dsimp only); refine sl_post (by assumption) (by assumption) (by assumption) (by assumption) (by assumption) ?_; intro _ _ _ _ _)) | (walk_at "MY one")))
    · have kx : k < x.length := from_ne (by assumption)
      have ky : k < y.length := from_ne (by assumption)
      rename ((_ == _) = true) => hc
      obtain ⟨d, hd⟩ := left_pos hk kx
      refine WhK.again d (by rw [hd]; exact Nat.lt_succ_self d) ?_
      exact fun X K => K _ (k + 1) _ _ _ _ (by assumption) (by assumption) (by exact ha) (by exact hb) (by exact rfl) (by exact hm) (by rw [← hk, hd, Nat.add_assoc, Nat.add_comm 1]) (by rw [← he, pre2_step kx ky (T1_eq hc), Nat.add_assoc, Nat.add_comm 1])
    · have kx : k < x.length := from_ne (by assumption)
      have ky : k < y.length := from_ne (by assumption)
      rename ((_ == _) = false) => hc
      have e : k = pre2 x y := by rw [← he, pre2_stop kx ky (T1_ne hc), Nat.add_zero]
      exact hY _ _ _ _ _ _ _ (by assumption) (by assumption) (by exact ha) (by exact hb) (by rw [← e]; exact hp) (by exact hm)
    · have ky : y.length ≤ k := from_eq (by assumption)
      have e : k = pre2 x y := by rw [← he, List.drop_of_length_le ky, pre2_nil_right, Nat.add_zero]
      exact hY _ _ _ _ _ _ _ (by assumption) (by assumption) (by exact ha) (by exact hb) (by rw [← e]; exact hp) (by exact hm)
    · have kx : x.length ≤ k := from_eq (by assumption)
      have e : k = pre2 x y := by rw [← he, List.drop_of_length_le kx, pre2_nil_left, Nat.add_zero]
      exact hY _ _ _ _ _ _ _ (by assumption) (by assumption) (by exact ha) (by exact hb) (by rw [← e]; exact hp) (by exact hm)
  clear ha hb hm
  intro h1 tk1 m1 ua ub up um F1 N1 ha hb hp hm
  generalize pre2 x y = p at hp hret
  with_reducible refine cutK3 (fun X => ∀ h tk m u1 u2 u3 u4, Fr s.heap L' h m → News s.heap L' h [] → m (Str.ofString "a") = some (.str (T (x.drop p)) u1) → m (Str.ofString "b") = some (.str (T (y.drop p)) u2) → m (Str.ofString "post") = some (.int (-((0 : Nat) : Int)) u3) → m (Str.ofString "max_cost") = some (.int mx u4) → X h tk) ?_ ?_
  · intro Y hY
    (repeat' (first | (( (with_reducible show wpAny _ _ (call (Value.ref 67) _ _) _ _ _); refine' Spec.use (sub_spec _ _ _ _ _ _ ?spx ?spy) ?spA ?spB ?spF ?spN ?spX ?spT ?spD ?spU ?_; walk_at "MY use"; (case spx => first | omega | (rw [T_len]; simp)); (case spy => first | omega | (rw [T_len]; simp)); intro v_c h_c tk_c hk_c F_c N_c hp_c; revert v_c; refine un10 ?_; intro t_c; (try dsimp only))) | (first | ((with_reducible show wpAny _ _ (subscriptTail _ (Expr.Name _ _) (Value.str (Mine.T _) _) (Value.int _ _)) _ _ _); (try dsimp only); refine item_T (by first | exact from_ne (by assumption) | assumption) (by omega) ?_) | ((with_reducible show wpAny _ _ (subscriptTail _ (Expr.BinOp _ _ _ _) (Value.str (Mine.T _) _) (Value.int _ _)) _ _ _); (try dsimp only); refine item_Tr (tk_ne (by assumption)) (by omega) ?_)) | (((with_reducible show wpAny _ _ (eval (Expr.Subscript (Expr.Name _ _) (Expr.Slice none (some (Expr.BoolOp _ _ _)) none _) _) _) _ _ _); (try dsimp only); refine sl_post (by assumption) (by assumption) (by assumption) (by assumption) (by assumption) ?_; intro _ _ _ _ _)) | (walk_at "MY one")))
    exact hY _ _ _ _ _ _ _ (by assumption) (by assumption) (by rw [← T_from]; exact rfl) (by rw [← T_from]; exact rfl) (by exact rfl) (by exact hm)
  have hu40 := drop40 p hx
  have hv40 := drop40 p hy
  clear F1 N1 ha hb hp hm
  intro h1 tk1 m1 ua ub up um F1 N1 ha hb hp hm
  generalize x.drop p = u at *
  generalize y.drop p = v at *
  clear hx hy
  -- the common signs behind
  with_reducible refine cutKS (fun X => ∀ h tk m u1 u2 u3 u4, Fr s.heap L' h m → News s.heap L' h [] → m (Str.ofString "a") = some (.str (T u) u1) → m (Str.ofString "b") = some (.str (T v) u2) → m (Str.ofString "post") = some (.int (-(pre2 u.reverse v.reverse : Nat)) u3) → m (Str.ofString "max_cost") = some (.int mx u4) → X h tk) ?_ ?_
  · intro Y hY
    with_reducible refine whileK (fun n h tk => ∀ X : Prop, (∀ m (k : Nat) u1 u2 u3 u4, Fr s.heap L' h m → News s.heap L' h [] → m (Str.ofString "a") = some (.str (T u) u1) → m (Str.ofString "b") = some (.str (T v) u2) → m (Str.ofString "post") = some (.int (-(k : Int)) u3) → m (Str.ofString "max_cost") = some (.int mx u4) → k + n = u.reverse.length → k + pre2 (u.reverse.drop k) (v.reverse.drop k) = pre2 u.reverse v.reverse → X) → X) u.reverse.length ?_ ?_
    · exact fun X K => K _ 0 _ _ _ _ (by assumption) (by assumption) (by exact ha) (by exact hb) (by exact hp) (by exact hm) (Nat.zero_add _) (Nat.zero_add _)
    clear ha hb hp hm
    intro n h1 tk1 Q' hQ' hJ
    refine hJ _ ?_
    clear hJ
    intro m1 k ua ub up um F1 N1 ha hb hp hm hk he
    (repeat' (first | (( (with_reducible show wpAny _ _ (call (Value.ref 67) _ _) _ _ _); refine' Spec.use (sub_spec _ _ _ _ _ _ ?spx ?spy) ?spA ?spB ?spF ?spN ?spX ?spT ?spD ?spU ?_; walk_at "MY use"; (case spx => first | omega | (rw [T_len]; simp)); (case spy => first | omega | (rw [T_len]; simp)); intro v_c h_c tk_c hk_c F_c N_c hp_c; revert v_c; refine un10 ?_; intro t_c; (try dsimp only))) | (first | ((with_reducible show wpAny _ _ (subscriptTail _ (Expr.Name _ _) (Value.str (Mine.T _) _) (Value.int _ _)) _ _ _); (try dsimp only); refine item_T (by first | exact from_ne (by assumption) | assumption) (by omega) ?_) | ((with_reducible show wpAny _ _ (subscriptTail _ (Expr.BinOp _ _ _ _) (Value.str (Mine.T _) _) (Value.int _ _)) _ _ _); (try dsimp only); refine item_Tr (tk_ne (by assumption)) (by omega) ?_)) | (((with_reducible show wpAny _ _ (eval (Expr.Subscript (Expr.Name _ _) (Expr.Slice none (some (Expr.BoolOp _ _ _)) none _) _) _) _ _ _); (try dsimp only); refine sl_post (by assumption) (by assumption) (by assumption) (by assumption) (by assumption) ?_; intro _ _ _ _ _)) | (walk_at "MY one")))
    · have kx := tk_ne (x := u) (k := k) (by assumption)
      have ky := tk_ne (x := v) (k := k) (by assumption)
      rename ((_ == _) = true) => hc
      obtain ⟨d, hd⟩ := left_pos hk kx
      refine WhK.again d (by rw [hd]; exact Nat.lt_succ_self d) ?_
      exact fun X K => K _ (k + 1) _ _ _ _ (by assumption) (by assumption) (by exact ha) (by exact hb) (by rw [← neg_pred]; exact rfl) (by exact hm) (by rw [← hk, hd, Nat.add_assoc, Nat.add_comm 1]) (by rw [← he, pre2_step kx ky (T1_eq hc), Nat.add_assoc, Nat.add_comm 1])
    · have kx := tk_ne (x := u) (k := k) (by assumption)
      have ky := tk_ne (x := v) (k := k) (by assumption)
      rename ((_ == _) = false) => hc
      have e : k = pre2 u.reverse v.reverse := by rw [← he, pre2_stop kx ky (T1_ne hc), Nat.add_zero]
      exact hY _ _ _ _ _ _ _ (by assumption) (by assumption) (by exact ha) (by exact hb) (by rw [← e]; exact hp) (by exact hm)
    · have ky := tk_eq (x := v) (k := k) (by assumption)
      have e : k = pre2 u.reverse v.reverse := by rw [← he, List.drop_of_length_le ky, pre2_nil_right, Nat.add_zero]
      exact hY _ _ _ _ _ _ _ (by assumption) (by assumption) (by exact ha) (by exact hb) (by rw [← e]; exact hp) (by exact hm)
    · have kx := tk_eq (x := u) (k := k) (by assumption)
      have e : k = pre2 u.reverse v.reverse := by rw [← he, List.drop_of_length_le kx, pre2_nil_left, Nat.add_zero]
      exact hY _ _ _ _ _ _ _ (by assumption) (by assumption) (by exact ha) (by exact hb) (by rw [← e]; exact hp) (by exact hm)
  clear F1 N1 ha hb hp hm
  intro h1 tk1 m1 ua ub up um F1 N1 ha hb hp hm
  unfold lvSuf at hret
  generalize pre2 u.reverse v.reverse = q at hp hret
  -- what is left of both
  with_reducible refine cutK2 (fun X => ∀ h tk m u1 u2 u3, Fr s.heap L' h m → News s.heap L' h [] → m (Str.ofString "a") = some (.str (T (u.take (u.length - q))) u1) → m (Str.ofString "b") = some (.str (T (v.take (v.length - q))) u2) → m (Str.ofString "max_cost") = some (.int mx u3) → X h tk) ?_ ?_
  · intro Y hY
    (repeat' (first | (( (with_reducible show wpAny _ _ (call (Value.ref 67) _ _) _ _ _); refine' Spec.use (sub_spec _ _ _ _ _ _ ?spx ?spy) ?spA ?spB ?spF ?spN ?spX ?spT ?spD ?spU ?_; walk_at "MY use"; (case spx => first | omega | (rw [T_len]; simp)); (case spy => first | omega | (rw [T_len]; simp)); intro v_c h_c tk_c hk_c F_c N_c hp_c; revert v_c; refine un10 ?_; intro t_c; (try dsimp only))) | (first | ((with_reducible show wpAny _ _ (subscriptTail _ (Expr.Name _ _) (Value.str (Mine.T _) _) (Value.int _ _)) _ _ _); (try dsimp only); refine item_T (by first | exact from_ne (by assumption) | assumption) (by omega) ?_) | ((with_reducible show wpAny _ _ (subscriptTail _ (Expr.BinOp _ _ _ _) (Value.str (Mine.T _) _) (Value.int _ _)) _ _ _); (try dsimp only); refine item_Tr (tk_ne (by assumption)) (by omega) ?_)) | (((with_reducible show wpAny _ _ (eval (Expr.Subscript (Expr.Name _ _) (Expr.Slice none (some (Expr.BoolOp _ _ _)) none _) _) _) _ _ _); (try dsimp only); refine sl_post (by assumption) (by assumption) (by assumption) (by assumption) (by assumption) ?_; intro _ _ _ _ _)) | (walk_at "MY one")))
    exact hY _ _ _ _ _ _ (by assumption) (by assumption) (by exact rfl) (by exact rfl) (by exact hm)
  have ha40 := take40 (u.length - q) hu40
  have hb40 := take40 (v.length - q) hv40
  clear F1 N1 ha hb hp hm
  intro h1 tk1 m1 ua ub um F1 N1 ha hb hm
  generalize u.take (u.length - q) = a at *
  generalize v.take (v.length - q) = b at *
  clear hu40 hv40
  with_reducible refine cutKR2 (fun X => ∀ h tk m u1 u2 u3, Fr s.heap L' h m → News s.heap L' h [] → m (Str.ofString "a") = some (.str (T a) u1) → m (Str.ofString "b") = some (.str (T b) u2) → m (Str.ofString "max_cost") = some (.int mx u3) → a ≠ [] → b ≠ [] → X h tk) ?_ ?_
  · intro Y R hR hY
    (repeat' (first | (( (with_reducible show wpAny _ _ (call (Value.ref 67) _ _) _ _ _); refine' Spec.use (sub_spec _ _ _ _ _ _ ?spx ?spy) ?spA ?spB ?spF ?spN ?spX ?spT ?spD ?spU ?_; walk_at "MY use"; (case spx => first | omega | (rw [T_len]; simp)); (case spy => first | omega | (rw [T_len]; simp)); intro v_c h_c tk_c hk_c F_c N_c hp_c; revert v_c; refine un10 ?_; intro t_c; (try dsimp only))) | (first | ((with_reducible show wpAny _ _ (subscriptTail _ (Expr.Name _ _) (Value.str (Mine.T _) _) (Value.int _ _)) _ _ _); (try dsimp only); refine item_T (by first | exact from_ne (by assumption) | assumption) (by omega) ?_) | ((with_reducible show wpAny _ _ (subscriptTail _ (Expr.BinOp _ _ _ _) (Value.str (Mine.T _) _) (Value.int _ _)) _ _ _); (try dsimp only); refine item_Tr (tk_ne (by assumption)) (by omega) ?_)) | (((with_reducible show wpAny _ _ (eval (Expr.Subscript (Expr.Name _ _) (Expr.Slice none (some (Expr.BoolOp _ _ _)) none _) _) _) _ _ _); (try dsimp only); refine sl_post (by assumption) (by assumption) (by assumption) (by assumption) (by assumption) ?_; intro _ _ _ _ _)) | (walk_at "MY one")))
    · exact hY _ _ _ _ _ _ (by assumption) (by assumption) (by exact ha) (by exact hb) (by exact hm) (T_nn (by assumption)) (T_nn (by assumption))
    · exact hret _ _ _ (Fr.keep (by assumption)) ⟨_, congrArg (fun z => Value.int z _) (by rw [lvTail, if_pos (.inr (T_nil (by assumption)))])⟩
    · exact hret _ _ _ (Fr.keep (by assumption)) ⟨_, congrArg (fun z => Value.int z _) (by rw [lvTail, if_pos (.inl (T_nil (by assumption)))])⟩
  clear F1 N1 ha hb hm
  intro h1 tk1 m1 ua ub um F1 N1 ha hb hm hane hbne
  rw [show lvTail a b mx = lvCore a b mx from by rw [lvTail, if_neg (fun h => h.elim hane hbne)]] at hret
  clear hane hbne
  -- the shorter one ahead
  with_reducible refine cutK1 (fun X => ∀ h tk m u1 u2 u3 (p q : List Nat), Fr s.heap L' h m → News s.heap L' h [] → m (Str.ofString "a") = some (.str (T p) u1) → m (Str.ofString "b") = some (.str (T q) u2) → m (Str.ofString "max_cost") = some (.int mx u3) → lvCore a b mx = lvTab p q mx → p.length ≤ 40 → q.length ≤ 40 → X h tk) ?_ ?_
  · intro Y hY
    (repeat' (first | (( (with_reducible show wpAny _ _ (call (Value.ref 67) _ _) _ _ _); refine' Spec.use (sub_spec _ _ _ _ _ _ ?spx ?spy) ?spA ?spB ?spF ?spN ?spX ?spT ?spD ?spU ?_; walk_at "MY use"; (case spx => first | omega | (rw [T_len]; simp)); (case spy => first | omega | (rw [T_len]; simp)); intro v_c h_c tk_c hk_c F_c N_c hp_c; revert v_c; refine un10 ?_; intro t_c; (try dsimp only))) | (first | ((with_reducible show wpAny _ _ (subscriptTail _ (Expr.Name _ _) (Value.str (Mine.T _) _) (Value.int _ _)) _ _ _); (try dsimp only); refine item_T (by first | exact from_ne (by assumption) | assumption) (by omega) ?_) | ((with_reducible show wpAny _ _ (subscriptTail _ (Expr.BinOp _ _ _ _) (Value.str (Mine.T _) _) (Value.int _ _)) _ _ _); (try dsimp only); refine item_Tr (tk_ne (by assumption)) (by omega) ?_)) | (((with_reducible show wpAny _ _ (eval (Expr.Subscript (Expr.Name _ _) (Expr.Slice none (some (Expr.BoolOp _ _ _)) none _) _) _) _ _ _); (try dsimp only); refine sl_post (by assumption) (by assumption) (by assumption) (by assumption) (by assumption) ?_; intro _ _ _ _ _)) | (walk_at "MY one")))
    · rename (_ < _) => h
      exact hY _ _ _ _ _ _ b a (by assumption) noNews (by exact rfl) (by exact rfl) (by exact hm) (by rw [lvCore, if_pos (by omega)]) hb40 ha40
    · rename (¬ _ < _) => h
      exact hY _ _ _ _ _ _ a b (by assumption) noNews (by exact ha) (by exact hb) (by exact hm) (by rw [lvCore, if_neg (by omega)]) ha40 hb40
  clear F1 N1 ha hb hm ha40 hb40
  intro h1 tk1 m1 ua ub um p q F1 N1 ha hb hm hpq hp40 hq40
  rw [hpq] at hret
  clear hpq
  with_reducible refine cutKR3 (fun X => ∀ h tk m u1 u2 u3 u4 (D : Addr) (ys : List Value) (c : Nat), Fr s.heap L' h m → News s.heap L' h [(D, listOf (List.toArray ys) c)] → m (Str.ofString "a") = some (.str (T p) u1) → m (Str.ofString "b") = some (.str (T q) u2) → m (Str.ofString "max_cost") = some (.int mx u3) → m (Str.ofString "result") = some (.int 0 u4) → m (Str.ofString "row") = some (.ref D) → IntsAre ys (lvRow p.length) → ¬ mx < ((q.length : Int) - p.length) * 2 → X h tk) ?_ ?_
  · intro Y R hR hY
    (repeat' (first | (( (with_reducible show wpAny _ _ (call (Value.ref 67) _ _) _ _ _); refine' Spec.use (sub_spec _ _ _ _ _ _ ?spx ?spy) ?spA ?spB ?spF ?spN ?spX ?spT ?spD ?spU ?_; walk_at "MY use"; (case spx => first | omega | (rw [T_len]; simp)); (case spy => first | omega | (rw [T_len]; simp)); intro v_c h_c tk_c hk_c F_c N_c hp_c; revert v_c; refine un10 ?_; intro t_c; (try dsimp only))) | (first | ((with_reducible show wpAny _ _ (subscriptTail _ (Expr.Name _ _) (Value.str (Mine.T _) _) (Value.int _ _)) _ _ _); (try dsimp only); refine item_T (by first | exact from_ne (by assumption) | assumption) (by omega) ?_) | ((with_reducible show wpAny _ _ (subscriptTail _ (Expr.BinOp _ _ _ _) (Value.str (Mine.T _) _) (Value.int _ _)) _ _ _); (try dsimp only); refine item_Tr (tk_ne (by assumption)) (by omega) ?_)) | (((with_reducible show wpAny _ _ (eval (Expr.Subscript (Expr.Name _ _) (Expr.Slice none (some (Expr.BoolOp _ _ _)) none _) _) _) _ _ _); (try dsimp only); refine sl_post (by assumption) (by assumption) (by assumption) (by assumption) (by assumption) ?_; intro _ _ _ _ _)) | (walk_at "MY one")))
    · rename (mx < _) => hlt
      exact hret _ _ _ (Fr.keep (by assumption)) ⟨_, congrArg (fun z => Value.int z _) (by rw [lvTab, if_pos hlt])⟩
    · rename (¬ mx < _) => hlt
      refine list_range2 (by rfl) (by assumption) (by assumption) (by assumption) (by omega) ?_
      intro D ys c h3 tk3 F3 N3 _ hI
      (repeat' (first | (( (with_reducible show wpAny _ _ (call (Value.ref 67) _ _) _ _ _); refine' Spec.use (sub_spec _ _ _ _ _ _ ?spx ?spy) ?spA ?spB ?spF ?spN ?spX ?spT ?spD ?spU ?_; walk_at "MY use"; (case spx => first | omega | (rw [T_len]; simp)); (case spy => first | omega | (rw [T_len]; simp)); intro v_c h_c tk_c hk_c F_c N_c hp_c; revert v_c; refine un10 ?_; intro t_c; (try dsimp only))) | (first | ((with_reducible show wpAny _ _ (subscriptTail _ (Expr.Name _ _) (Value.str (Mine.T _) _) (Value.int _ _)) _ _ _); (try dsimp only); refine item_T (by first | exact from_ne (by assumption) | assumption) (by omega) ?_) | ((with_reducible show wpAny _ _ (subscriptTail _ (Expr.BinOp _ _ _ _) (Value.str (Mine.T _) _) (Value.int _ _)) _ _ _); (try dsimp only); refine item_Tr (tk_ne (by assumption)) (by omega) ?_)) | (((with_reducible show wpAny _ _ (eval (Expr.Subscript (Expr.Name _ _) (Expr.Slice none (some (Expr.BoolOp _ _ _)) none _) _) _) _ _ _); (try dsimp only); refine sl_post (by assumption) (by assumption) (by assumption) (by assumption) (by assumption) ?_; intro _ _ _ _ _)) | (walk_at "MY one")))
      exact hY _ _ _ _ _ _ _ _ _ _ (by assumption) (by assumption) (by exact ha) (by exact hb) (by exact hm) (by exact rfl) (by exact rfl) hI hlt
  clear F1 N1 ha hb hm
  intro h1 tk1 m1 ua ub um ur D ys c F1 N1 ha hb hm hr hrow hys hlt
  rw [show lvTab p q mx = lvOut p mx q 0 (lvRow p.length) 0 from by rw [lvTab, if_neg hlt]] at hret
  clear hlt
  have hrl : (lvRow p.length).length = p.length := by simp [lvRow]
  with_reducible refine cutKR1 (fun X => ∀ h tk m u1, Fr s.heap L' h m → m (Str.ofString "result") = some (.int (lvOut p mx q 0 (lvRow p.length) 0) u1) → X h tk) ?_ ?_
  · intro Y R hR hY
    refine oneK ?_
    refine For_invVF F1 ?a1 ?a2 ?_
    case a1 => exact rfl
    case a2 => exact rfl
    (repeat' (first | (( (with_reducible show wpAny _ _ (call (Value.ref 67) _ _) _ _ _); refine' Spec.use (sub_spec _ _ _ _ _ _ ?spx ?spy) ?spA ?spB ?spF ?spN ?spX ?spT ?spD ?spU ?_; walk_at "MY use"; (case spx => first | omega | (rw [T_len]; simp)); (case spy => first | omega | (rw [T_len]; simp)); intro v_c h_c tk_c hk_c F_c N_c hp_c; revert v_c; refine un10 ?_; intro t_c; (try dsimp only))) | (first | ((with_reducible show wpAny _ _ (subscriptTail _ (Expr.Name _ _) (Value.str (Mine.T _) _) (Value.int _ _)) _ _ _); (try dsimp only); refine item_T (by first | exact from_ne (by assumption) | assumption) (by omega) ?_) | ((with_reducible show wpAny _ _ (subscriptTail _ (Expr.BinOp _ _ _ _) (Value.str (Mine.T _) _) (Value.int _ _)) _ _ _); (try dsimp only); refine item_Tr (tk_ne (by assumption)) (by omega) ?_)) | (((with_reducible show wpAny _ _ (eval (Expr.Subscript (Expr.Name _ _) (Expr.Slice none (some (Expr.BoolOp _ _ _)) none _) _) _) _ _ _); (try dsimp only); refine sl_post (by assumption) (by assumption) (by assumption) (by assumption) (by assumption) ?_; intro _ _ _ _ _)) | (walk_at "MY one")))
    rename IsRange _ _ _ _ _ _ _ _ => R1
    rename Fr _ _ _ _ => F2
    rename News _ _ _ _ => N2
    refine iterR (n := q.length) (fun i m nw => ∀ X : Prop, (∀ (ys : List Value) (c : Nat) (row : List Int) (res : Int) u1 u2 u3 u4, nw = [(D, listOf (List.toArray ys) c)] → m (Str.ofString "a") = some (.str (T p) u1) → m (Str.ofString "b") = some (.str (T q) u2) → m (Str.ofString "max_cost") = some (.int mx u3) → m (Str.ofString "result") = some (.int res u4) → m (Str.ofString "row") = some (.ref D) → IntsAre ys row → row.length = p.length → lvOut p mx (q.drop i) i row res = lvOut p mx q 0 (lvRow p.length) 0 → X) → X) rfl R1 (small_one (by omega) (by omega) (by omega) (by omega)) (by rw [rangeSize_one]; split <;> omega) F2 N2
      (fun X K => K ys c _ 0 _ _ _ _ rfl ha hb hm hr hrow hys hrl rfl) ?_ ?_
    · clear ha hb hm hr hrow hys
      intro I hI i bv m2 nw h2 tk2 own hi hJ hoff hown hoI F3 N3
      refine hJ _ ?_
      clear hJ
      intro ys c row res ua ub um ur hnw ha hb hm hr hrow hys hrl2 he
      obtain ⟨hiq, bt, hbv⟩ := hi
      subst hbv
      have hN3 : News s.heap L' h2 ((D, listOf (List.toArray ys) c) :: own) := News.at' hnw N3
      have hDI : D ≠ I := hoff (D, _) (by rw [hnw]; exact .head _)
      clear N3 hoff hnw
      simp only [Int.zero_add] at F3
      with_reducible refine cutK3 (fun X => ∀ h tk m u1 u2 u3 u4 u5 u6 u7, Fr s.heap L' h m → News s.heap L' h ((D, listOf (List.toArray ys) c) :: own) → m (Str.ofString "a") = some (.str (T p) u1) → m (Str.ofString "b") = some (.str (T q) u2) → m (Str.ofString "bchar") = some (.str (T [q[i]]) u3) → m (Str.ofString "max_cost") = some (.int mx u4) → m (Str.ofString "result") = some (.int ((i : Int) * 2) u5) → m (Str.ofString "distance") = some (.int ((i : Int) * 2) u6) → m (Str.ofString "minimum") = some (.int 9223372036854775807 u7) → m (Str.ofString "row") = some (.ref D) → X h tk) ?_ ?_
      · intro Z hZ
        (repeat' (first | (( (with_reducible show wpAny _ _ (call (Value.ref 67) _ _) _ _ _); refine' Spec.use (sub_spec _ _ _ _ _ _ ?spx ?spy) ?spA ?spB ?spF ?spN ?spX ?spT ?spD ?spU ?_; walk_at "MY use"; (case spx => first | omega | (rw [T_len]; simp)); (case spy => first | omega | (rw [T_len]; simp)); intro v_c h_c tk_c hk_c F_c N_c hp_c; revert v_c; refine un10 ?_; intro t_c; (try dsimp only))) | (first | ((with_reducible show wpAny _ _ (subscriptTail _ (Expr.Name _ _) (Value.str (Mine.T _) _) (Value.int _ _)) _ _ _); (try dsimp only); refine item_T (by first | exact from_ne (by assumption) | assumption) (by omega) ?_) | ((with_reducible show wpAny _ _ (subscriptTail _ (Expr.BinOp _ _ _ _) (Value.str (Mine.T _) _) (Value.int _ _)) _ _ _); (try dsimp only); refine item_Tr (tk_ne (by assumption)) (by omega) ?_)) | (((with_reducible show wpAny _ _ (eval (Expr.Subscript (Expr.Name _ _) (Expr.Slice none (some (Expr.BoolOp _ _ _)) none _) _) _) _ _ _); (try dsimp only); refine sl_post (by assumption) (by assumption) (by assumption) (by assumption) (by assumption) ?_; intro _ _ _ _ _)) | (walk_at "MY one")))
        exact hZ _ _ _ _ _ _ _ _ _ _ (by assumption) (by assumption) (by exact ha) (by exact hb) (by exact rfl) (by exact hm) (by exact rfl) (by exact rfl) (by exact rfl) (by exact hrow)
      clear ha hb hm hr hrow hN3 F3
      generalize hbc : q[i] = bc
      intro h1 tk1 m1 ua ub uc um ur ud un F1 N1 ha hb hc hm hr hdd hmn hrow
      have hstep : lvOut p mx (q.drop i) i row res = (let z := lvIn bc p row ((i : Int) * 2) ((i : Int) * 2) 9223372036854775807; if mx < z.2.2 then mx + 1 else lvOut p mx (q.drop (i + 1)) ((i : Int) + 1) z.1 z.2.1) := by
        rw [List.drop_eq_getElem_cons hiq, hbc]
        rfl
      obtain ⟨z, hz⟩ : ∃ z, z = lvIn bc p row ((i : Int) * 2) ((i : Int) * 2) 9223372036854775807 := ⟨_, rfl⟩
      rw [← hz] at hstep
      with_reducible refine cutK1 (fun X => ∀ h tk m (ys : List Value) (c : Nat) u1 u2 u3 u4 u5, Fr s.heap L' h m → News s.heap L' h ((D, listOf (List.toArray ys) c) :: own) → m (Str.ofString "a") = some (.str (T p) u1) → m (Str.ofString "b") = some (.str (T q) u2) → m (Str.ofString "max_cost") = some (.int mx u3) → m (Str.ofString "result") = some (.int z.2.1 u4) → m (Str.ofString "minimum") = some (.int z.2.2 u5) → m (Str.ofString "row") = some (.ref D) → IntsAre ys z.1 → z.1.length = p.length → X h tk) ?_ ?_
      · intro Z hZ
        refine oneK ?_
        refine For_invVF F1 ?a1 ?a2 ?_
        case a1 => exact rfl
        case a2 => exact rfl
        (repeat' (first | (( (with_reducible show wpAny _ _ (call (Value.ref 67) _ _) _ _ _); refine' Spec.use (sub_spec _ _ _ _ _ _ ?spx ?spy) ?spA ?spB ?spF ?spN ?spX ?spT ?spD ?spU ?_; walk_at "MY use"; (case spx => first | omega | (rw [T_len]; simp)); (case spy => first | omega | (rw [T_len]; simp)); intro v_c h_c tk_c hk_c F_c N_c hp_c; revert v_c; refine un10 ?_; intro t_c; (try dsimp only))) | (first | ((with_reducible show wpAny _ _ (subscriptTail _ (Expr.Name _ _) (Value.str (Mine.T _) _) (Value.int _ _)) _ _ _); (try dsimp only); refine item_T (by first | exact from_ne (by assumption) | assumption) (by omega) ?_) | ((with_reducible show wpAny _ _ (subscriptTail _ (Expr.BinOp _ _ _ _) (Value.str (Mine.T _) _) (Value.int _ _)) _ _ _); (try dsimp only); refine item_Tr (tk_ne (by assumption)) (by omega) ?_)) | (((with_reducible show wpAny _ _ (eval (Expr.Subscript (Expr.Name _ _) (Expr.Slice none (some (Expr.BoolOp _ _ _)) none _) _) _) _ _ _); (try dsimp only); refine sl_post (by assumption) (by assumption) (by assumption) (by assumption) (by assumption) ?_; intro _ _ _ _ _)) | (walk_at "MY one")))
        rename IsRange _ _ _ _ _ _ _ _ => R2
        rename Fr _ _ _ _ => F2
        rename News _ _ _ _ => N2
        refine iterR (n := p.length) (fun j m nw => ∀ X : Prop, (∀ (ys : List Value) (c : Nat) (zs : List Int) (d res mn : Int) u1 u2 u3 u4 u5 u6 u7, nw = (D, listOf (List.toArray ys) c) :: own → m (Str.ofString "a") = some (.str (T p) u1) → m (Str.ofString "b") = some (.str (T q) u2) → m (Str.ofString "bchar") = some (.str (T [bc]) u3) → m (Str.ofString "max_cost") = some (.int mx u4) → m (Str.ofString "result") = some (.int res u5) → m (Str.ofString "distance") = some (.int d u6) → m (Str.ofString "minimum") = some (.int mn u7) → m (Str.ofString "row") = some (.ref D) → IntsAre ys zs → zs.length = p.length → lvAt bc p j zs d res mn = z → X) → X) rfl R2 (small_one (by omega) (by omega) (by omega) (by omega)) (by rw [rangeSize_one]; split <;> omega) F2 N2
          (fun X K => K ys c row _ _ _ _ _ _ _ _ _ _ rfl ha hb hc hm hr hdd hmn hrow hys hrl2 hz.symm) ?_ ?_
        · clear ha hb hc hm hr hdd hmn hrow hys hrl2 he hstep
          intro J hJ j bv m2 nw h2 tk2 own2 hj hJ' hoff2 hown2 hoJ F3 N3
          refine hJ' _ ?_
          clear hJ'
          intro ys c zs d res mn ua ub uc um ur ud un hnw ha hb hc hm hr hdd hmn hrow hys hzl he
          obtain ⟨hjp, bt, hbv⟩ := hj
          subst hbv
          have hN3 : News s.heap L' h2 ((D, listOf (List.toArray ys) c) :: (own ++ own2)) := News.at' hnw N3
          have hDJ : D ≠ J := hoff2 (D, _) (by rw [hnw]; exact .head _)
          have hoJ2 : ∀ p ∈ own, p.1 ≠ J := fun p hp => hoff2 p (by rw [hnw]; exact .tail _ hp)
          clear N3 hoff2 hnw
          simp only [Int.zero_add] at F3
          (repeat' (first | (( (with_reducible show wpAny _ _ (call (Value.ref 67) _ _) _ _ _); refine' Spec.use (sub_spec _ _ _ _ _ _ ?spx ?spy) ?spA ?spB ?spF ?spN ?spX ?spT ?spD ?spU ?_; walk_at "MY use"; (case spx => first | omega | (rw [T_len]; simp)); (case spy => first | omega | (rw [T_len]; simp)); intro v_c h_c tk_c hk_c F_c N_c hp_c; revert v_c; refine un10 ?_; intro t_c; (try dsimp only))) | (first | ((with_reducible show wpAny _ _ (subscriptTail _ (Expr.Name _ _) (Value.str (Mine.T _) _) (Value.int _ _)) _ _ _); (try dsimp only); refine item_T (by first | exact from_ne (by assumption) | assumption) (by omega) ?_) | ((with_reducible show wpAny _ _ (subscriptTail _ (Expr.BinOp _ _ _ _) (Value.str (Mine.T _) _) (Value.int _ _)) _ _ _); (try dsimp only); refine item_Tr (tk_ne (by assumption)) (by omega) ?_)) | (((with_reducible show wpAny _ _ (eval (Expr.Subscript (Expr.Name _ _) (Expr.Slice none (some (Expr.BoolOp _ _ _)) none _) _) _) _ _ _); (try dsimp only); refine sl_post (by assumption) (by assumption) (by assumption) (by assumption) (by assumption) ?_; intro _ _ _ _ _)) | (walk_at "MY one")))
          refine ksa_set (by assumption) (by assumption) (.head (offA (fun p hp => by rw [List.mem_singleton.mp (hown p hp)]; exact hDI.symm) (fun p hp => by rw [show p.1 = J by have := hown2 p hp; simpa using this]; exact hDJ.symm))) hys (by omega) (by omega) (by omega) ?_
          intro h5 F5 N5 hi5 hl5 _
          (repeat' (first | (( (with_reducible show wpAny _ _ (call (Value.ref 67) _ _) _ _ _); refine' Spec.use (sub_spec _ _ _ _ _ _ ?spx ?spy) ?spA ?spB ?spF ?spN ?spX ?spT ?spD ?spU ?_; walk_at "MY use"; (case spx => first | omega | (rw [T_len]; simp)); (case spy => first | omega | (rw [T_len]; simp)); intro v_c h_c tk_c hk_c F_c N_c hp_c; revert v_c; refine un10 ?_; intro t_c; (try dsimp only))) | (first | ((with_reducible show wpAny _ _ (subscriptTail _ (Expr.Name _ _) (Value.str (Mine.T _) _) (Value.int _ _)) _ _ _); (try dsimp only); refine item_T (by first | exact from_ne (by assumption) | assumption) (by omega) ?_) | ((with_reducible show wpAny _ _ (subscriptTail _ (Expr.BinOp _ _ _ _) (Value.str (Mine.T _) _) (Value.int _ _)) _ _ _); (try dsimp only); refine item_Tr (tk_ne (by assumption)) (by omega) ?_)) | (((with_reducible show wpAny _ _ (eval (Expr.Subscript (Expr.Name _ _) (Expr.Slice none (some (Expr.BoolOp _ _ _)) none _) _) _) _ _ _); (try dsimp only); refine sl_post (by assumption) (by assumption) (by assumption) (by assumption) (by assumption) ?_; intro _ _ _ _ _)) | (walk_at "MY one")))
          · rename (_ < mn) => hlt
            refine TurnEnd.next ((D, _) :: own) (by assumption) (by assumption) (offC hDJ hoJ2) ?_
            exact fun X K => K _ _ _ _ _ _ _ _ _ _ _ _ _ rfl (by exact ha) (by exact hb) (by exact hc) (by exact hm) (by exact rfl) (by exact rfl) (by exact rfl) (by exact hrow) hi5 (hl5.trans hzl) (lvIn_next hjp hzl he rfl rfl rfl (if_pos hlt).symm)
          · rename (¬ _ < mn) => hlt
            refine TurnEnd.next ((D, _) :: own) (by assumption) (by assumption) (offC hDJ hoJ2) ?_
            exact fun X K => K _ _ _ _ _ _ _ _ _ _ _ _ _ rfl (by exact ha) (by exact hb) (by exact hc) (by exact hm) (by exact rfl) (by exact rfl) (by exact hmn) (by exact hrow) hi5 (hl5.trans hzl) (lvIn_next hjp hzl he rfl rfl rfl (if_neg hlt).symm)
        · intro m2 nw2 h2 tk2 hJ F3 N3
          refine hJ _ ?_
          clear hJ
          intro ys c zs d res mn ua ub uc um ur ud un hnw ha hb hc hm hr hdd hmn hrow hys hzl he
          unfold lvAt at he
          rw [List.drop_length, ← hzl, List.take_length] at he
          simp only [lvIn, List.append_nil] at he
          refine NxK.mk ?_
          exact hZ _ _ _ _ _ _ _ _ _ _ F3 (News.at0 hnw N3) ha hb hm (by rw [← he]; exact hr) (by rw [← he]; exact hmn) hrow (by rw [← he]; exact hys) (by rw [← he]; exact hzl)
      clear ha hb hc hm hr hdd hmn hrow hys hrl2 F1 N1
      intro h1 tk1 m1 ys c ua ub um ur un F1 N1 ha hb hm hr hmn hrow hys hrl2
      (repeat' (first | (( (with_reducible show wpAny _ _ (call (Value.ref 67) _ _) _ _ _); refine' Spec.use (sub_spec _ _ _ _ _ _ ?spx ?spy) ?spA ?spB ?spF ?spN ?spX ?spT ?spD ?spU ?_; walk_at "MY use"; (case spx => first | omega | (rw [T_len]; simp)); (case spy => first | omega | (rw [T_len]; simp)); intro v_c h_c tk_c hk_c F_c N_c hp_c; revert v_c; refine un10 ?_; intro t_c; (try dsimp only))) | (first | ((with_reducible show wpAny _ _ (subscriptTail _ (Expr.Name _ _) (Value.str (Mine.T _) _) (Value.int _ _)) _ _ _); (try dsimp only); refine item_T (by first | exact from_ne (by assumption) | assumption) (by omega) ?_) | ((with_reducible show wpAny _ _ (subscriptTail _ (Expr.BinOp _ _ _ _) (Value.str (Mine.T _) _) (Value.int _ _)) _ _ _); (try dsimp only); refine item_Tr (tk_ne (by assumption)) (by omega) ?_)) | (((with_reducible show wpAny _ _ (eval (Expr.Subscript (Expr.Name _ _) (Expr.Slice none (some (Expr.BoolOp _ _ _)) none _) _) _) _ _ _); (try dsimp only); refine sl_post (by assumption) (by assumption) (by assumption) (by assumption) (by assumption) ?_; intro _ _ _ _ _)) | (walk_at "MY one")))
      · rename (mx < _) => hlt
        exact hret _ _ _ (Fr.keep (by assumption)) ⟨_, congrArg (fun z => Value.int z _) (by rw [← he, hstep, if_pos hlt])⟩
      · rename (¬ mx < _) => hlt
        refine TurnEnd.next [(D, _)] (by assumption) (by assumption) (offC hDI off0) ?_
        exact fun X K => K _ _ _ _ _ _ _ _ rfl (by exact ha) (by exact hb) (by exact hm) (by exact hr) (by exact hrow) hys hrl2 (by rw [← he, hstep, if_neg hlt]; rfl)
    · intro m2 nw2 h2 tk2 hJ F3 N3
      refine hJ _ ?_
      clear hJ
      intro ys c row res ua ub um ur hnw ha hb hm hr hrow hys hrl2 he
      rw [List.drop_length] at he
      refine NxKR.mk ?_
      exact hY _ _ _ _ F3 ((show res = _ from he) ▸ hr)
  clear F1 N1 ha hb hm hr hrow
  intro h1 tk1 m1 ur F1 hr
  (repeat' (first | (( (with_reducible show wpAny _ _ (call (Value.ref 67) _ _) _ _ _); refine' Spec.use (sub_spec _ _ _ _ _ _ ?spx ?spy) ?spA ?spB ?spF ?spN ?spX ?spT ?spD ?spU ?_; walk_at "MY use"; (case spx => first | omega | (rw [T_len]; simp)); (case spy => first | omega | (rw [T_len]; simp)); intro v_c h_c tk_c hk_c F_c N_c hp_c; revert v_c; refine un10 ?_; intro t_c; (try dsimp only))) | (first | ((with_reducible show wpAny _ _ (subscriptTail _ (Expr.Name _ _) (Value.str (Mine.T _) _) (Value.int _ _)) _ _ _); (try dsimp only); refine item_T (by first | exact from_ne (by assumption) | assumption) (by omega) ?_) | ((with_reducible show wpAny _ _ (subscriptTail _ (Expr.BinOp _ _ _ _) (Value.str (Mine.T _) _) (Value.int _ _)) _ _ _); (try dsimp only); refine item_Tr (tk_ne (by assumption)) (by omega) ?_)) | (((with_reducible show wpAny _ _ (eval (Expr.Subscript (Expr.Name _ _) (Expr.Slice none (some (Expr.BoolOp _ _ _)) none _) _) _) _ _ _); (try dsimp only); refine sl_post (by assumption) (by assumption) (by assumption) (by assumption) (by assumption) ?_; intro _ _ _ _ _)) | (walk_at "MY one")))
  exact hret _ _ _ (Fr.keep (by assumption)) ⟨_, rfl⟩

end
section
local macro_rules | `(tactic| walk_at "MY st") => `(tactic| walk_at "MY st0")
noncomputable def sg (i : Int) : Nat := [97, 65, 98].getD i.toNat 0
noncomputable def wordOf (cell : Int) : List Nat := (List.range (cell.fmod 4).toNat).map fun p => sg (Int.fmod (Int.fdiv (Int.fdiv cell 4) (3 ^ p)) 3)
theorem wordOf_len (cell : Int) : (wordOf cell).length ≤ 3 := by
  have := fmod_hi cell (n := 4) (by decide)
  simp only [wordOf, List.length_map, List.length_range]
  omega
theorem sg_item {i : Int} (h0 : 0 ≤ i) (h3 : i < 3) : Txt.item (Str.ofString "aAb") i = T [sg i] := by
  rcases (by omega : i = 0 ∨ i = 1 ∨ i = 2) with rfl | rfl | rfl <;> decide +kernel
theorem flat_single (f : Nat → Nat) (l : List Nat) : (l.map fun p => [f p]).flatten = l.map f := by
  induction l with
  | nil => rfl
  | cons a l ih => simp [ih]
theorem word_spec (w : World) (s : Shared) (cell : Int) (t : Tok) : Spec w 236 [.int cell t] 6 60 s (fun v _ => ∃ t', v = .str (T (wordOf cell)) t') := by
  intro mean mg mb C A₀ base h₀ m Q E B F X Tp hd hu hret
  have i0 := fmod_lo cell (n := 4) (by decide)
  have i1 := fmod_hi cell (n := 4) (by decide)
  ((refine wpAny_call (enterC (by k_asm) (by k_asm) (by k_asm) (by k_asm) rfl rfl rfl (by k_is) (by k_is) (by k_room) (by walk_at "MY bind") rfl (by decide +kernel) ?_ rfl rfl rfl); k_whole))
  intro L' h' tk0 cells F0 N0 X0 B1 X1 T1
  obtain ⟨oc, hE, d0⟩ := CellsAre.one X0
  subst hE
  have d1 : oc.data = .cell (some (.int cell t)) := d0
  clear d0 X0
  walk_at "MY go"
  refine' LCg.CompSrc.range (n := (cell.fmod 4).toNat) (by rfl) (by k_asm) (by k_asm) (by assumption) ?sm ?rn ?sz ?_
  case sm => exact small_one (by omega) (by omega) (by omega) (by omega)
  case rn => (rw [rangeSize_one]; (first | omega | (split <;> omega)))
  case sz => (rw [PySem.sizeLine_eq]; omega)
  intro g'
  refine compJ (fun i ys nw => nw = _ ∧ TxtsAre ys ((List.range i).map fun p => [sg (Int.fmod (Int.fdiv (Int.fdiv cell 4) (3 ^ p)) 3)])) (fun _ _ _ _ => trivial) ⟨rfl, .nil⟩ ?_ ?_
  · rintro i v I oI C oC D m₂ ys nw h tk E' hi ⟨t2, rfl⟩ ⟨rfl, hys⟩ hC hx F2 N2 off ne
    dsimp only at F2 N2 ⊢
    have hp0 : 0 < (3 : Int) ^ ((0 : Int) + (i : Nat)).toNat ∧ (3 : Int) ^ ((0 : Int) + (i : Nat)).toNat < 1000 := by
      rcases (by omega : i = 0 ∨ i = 1 ∨ i = 2) with rfl | rfl | rfl <;> decide
    walk_at "MY go"
    (refine TurnC.end _ (by assumption) (by assumption) (by kcf_all) (by assumption) ?_)
    have e := sg_item (fmod_lo (Int.fdiv (Int.fdiv cell 4) (3 ^ ((0 : Int) + (i : Nat)).toNat)) (n := 3) (by decide)) (fmod_hi (Int.fdiv (Int.fdiv cell 4) (3 ^ ((0 : Int) + (i : Nat)).toNat)) (n := 3) (by decide))
    have e' : sg (Int.fmod (Int.fdiv (Int.fdiv cell 4) (3 ^ ((0 : Int) + (i : Nat)).toNat)) 3) = sg (Int.fmod (Int.fdiv (Int.fdiv cell 4) (3 ^ i)) 3) := by rw [show ((0 : Int) + (i : Nat)).toNat = i by omega]
    exact ⟨rfl, hys.map_range ⟨_, congrArg (fun z => Value.str z _) (e.trans (by rw [e']))⟩⟩
  · rintro ys nw ⟨rfl, hys⟩
    unfold LCg.FinE
    intro D h3 tk3 F3 N3 _
    walk_at "MY go"
    refine join_TL [] rfl (by decide) (News.isList N3 (.head _)) hys (by simp only [List.length_map, List.length_range]; omega) (fun l hl => ?_) ?_
    · obtain ⟨p, -, rfl⟩ := List.mem_map.mp hl
      exact (by decide : (1 : Nat) ≤ 1000)
    intro t' k
    repeat walk_at "MY sq"
    exact hret _ _ _ F3.keep ⟨_, by rw [jn_nil]; exact congrArg (fun z => Value.str (T z) _) (flat_single _ _)⟩

end
section
local macro_rules | `(tactic| walk_at "MY st") => `(tactic| walk_at "MY st0")
/-- the blanks ahead, n at most -/
noncomputable def lsp : List Nat → Nat → Nat
  | c :: x, n + 1 => if c = 32 then lsp x n + 1 else 0
  | _, _ => 0
theorem lsp_zero (x : List Nat) : lsp x 0 = 0 := by cases x <;> rfl
theorem lsp_step {x : List Nat} {k n : Nat} (hk : k < x.length) (h : x[k] = 32) : lsp (x.drop k) (n + 1) = lsp (x.drop (k + 1)) n + 1 := by
  rw [List.drop_eq_getElem_cons hk, lsp, if_pos h]
theorem lsp_stop {x : List Nat} {k n : Nat} (hk : k < x.length) (h : x[k] ≠ 32) : lsp (x.drop k) (n + 1) = 0 := by
  rw [List.drop_eq_getElem_cons hk, lsp, if_neg h]
theorem lsp_le : ∀ (x : List Nat) (n : Nat), lsp x n ≤ n
  | [], n => by cases n <;> simp [lsp]
  | c :: x, 0 => by simp [lsp]
  | c :: x, n + 1 => by
    unfold lsp
    have := lsp_le x n
    split <;> omega
theorem lsp_le' : ∀ (x : List Nat) (n : Nat), lsp x n ≤ x.length
  | [], n => by cases n <;> simp [lsp]
  | c :: x, 0 => by simp [lsp]
  | c :: x, n + 1 => by
    unfold lsp
    have := lsp_le' x n
    simp only [List.length_cons]
    split <;> omega
noncomputable def stripOf (x : List Nat) (n : Nat) : List Nat := (x.take (x.length - lsp x.reverse (n - lsp x n))).drop (lsp x n)
theorem lsp_split (x : List Nat) (n : Nat) : ∃ q, n = lsp x n + q := ⟨_, (Nat.add_sub_cancel' (lsp_le x n)).symm⟩
theorem strip_spec (w : World) (s : Shared) (x : List Nat) (t1 : Tok) (i : Int) (t2 : Tok) (n : Nat) (hi : i = n) (hn : n ≤ x.length) (hx : x.length ≤ 1000) : Spec w 60 [.str (T x) t1, .int i t2] 3 60 s (fun v _ => ∃ t, v = .str (T (stripOf x n)) t) := by
  subst hi
  intro mean mg mb C A₀ base h₀ m Q E B F X Tp hd hu hret
  ((refine wpAny_call (enterP (by k_asm) (by k_asm) (by k_asm) (by k_asm) rfl rfl rfl (by k_is) (by k_is) (by k_room) (by walk_at "MY bind") (locs rfl) ?_ rfl rfl rfl (by decide)); k_whole))
  intro L' h' F0 B1 X1 T1
  try dsimp only
  have N0 : News s.heap L' h' [] := noNews
  refine (show ∀ X : Prop, (∀ m0, Fr s.heap L' h' m0 → m0 (Str.ofString "s") = some (.str (T x) t1) → m0 (Str.ofString "amount") = some (.int (n : Nat) t2) → X) → X from fun X k => k _ F0 rfl rfl) _ ?_
  clear F0
  intro m0 F0 hs ha
  have hst : stripOf x n = (x.take (x.length - lsp x.reverse (n - lsp x n))).drop (lsp x n) := rfl
  have l2 := lsp_le' x n
  obtain ⟨q, hq⟩ := lsp_split x n
  have hq' : n - lsp x n = q := Nat.sub_eq_of_eq_add' hq
  rw [hq'] at hst
  with_reducible refine cutK2 (fun X => ∀ h tk m u1 u2 u3, Fr s.heap L' h m → News s.heap L' h [] → m (Str.ofString "s") = some (.str (T x) u1) → m (Str.ofString "lpos") = some (.int (lsp x n : Nat) u2) → m (Str.ofString "amount") = some (.int (q : Nat) u3) → X h tk) ?_ ?_
  · intro Y hY
    walk_at "MY go"
    refine oneK ?_
    with_reducible refine whileK (fun c h tk => ∀ X : Prop, (∀ m k u1 u2 u3, Fr s.heap L' h m → News s.heap L' h [] → m (Str.ofString "s") = some (.str (T x) u1) → m (Str.ofString "lpos") = some (.int (k : Nat) u2) → m (Str.ofString "amount") = some (.int (c : Nat) u3) → n = k + c → k + lsp (x.drop k) c = lsp x n → X) → X) n ?_ ?_
    · exact fun X k => k _ 0 _ _ _ (by assumption) (by assumption) (by exact hs) (by exact rfl) (by exact ha) (Nat.zero_add _).symm (Nat.zero_add _)
    intro c h1 tk1 Q' hQ' hJ
    refine hJ _ ?_
    intro m1 k us ul ua F1 N1 hs hl ha hk he
    walk_at "MY go"
    · rename ((_ == _) = true) => hb
      rename (_ ≠ (0 : Int)) => hc
      obtain ⟨d, hd⟩ := ex_pred hc
      have kx : k < x.length := Nat.lt_of_lt_of_le (by rw [hk, hd]; exact Nat.lt_add_of_pos_right (Nat.succ_pos d)) hn
      refine WhK.again d (by rw [hd]; exact Nat.lt_succ_self d) ?_
      exact fun X K => K _ (k + 1) _ _ _ (by assumption) (by assumption) (by exact hs) (by exact rfl) (by exact congrArg (fun z => some (Value.int z _)) (pred_cast hd)) (by rw [hk, hd, Nat.add_assoc, Nat.add_comm d 1])
        (by rw [← he, hd, lsp_step kx (item_is kx hb), Nat.add_assoc, Nat.add_comm 1])
    · rename ((_ == _) = false) => hb
      rename (_ ≠ (0 : Int)) => hc
      obtain ⟨d, hd⟩ := ex_pred hc
      have kx : k < x.length := Nat.lt_of_lt_of_le (by rw [hk, hd]; exact Nat.lt_add_of_pos_right (Nat.succ_pos d)) hn
      have e : lsp x n = k := he.symm.trans (by rw [hd, lsp_stop kx (item_not kx hb), Nat.add_zero])
      have e2 : q = c := Nat.add_left_cancel (hq.symm.trans (hk.trans (by rw [e])))
      exact hY _ _ _ _ _ _ (by assumption) (by assumption) (by exact hs) (by rw [e]; exact hl) (by rw [e2]; exact ha)
    · rename (_ = (0 : Int)) => hc
      have e : lsp x n = k := he.symm.trans (by rw [nat0 hc, lsp_zero, Nat.add_zero])
      have e2 : q = c := Nat.add_left_cancel (hq.symm.trans (hk.trans (by rw [e])))
      exact hY _ _ _ _ _ _ (by assumption) (by assumption) (by exact hs) (by rw [e]; exact hl) (by rw [e2]; exact ha)
  clear N0 F0 hs ha
  intro h1 tk1 m1 us ul ua F1 N1 hs hl ha
  generalize lsp x n = p at *
  with_reducible refine cutK2 (fun X => ∀ h tk m u1 u2 u3 r, Fr s.heap L' h m → News s.heap L' h [] → m (Str.ofString "s") = some (.str (T x) u1) → m (Str.ofString "lpos") = some (.int (p : Nat) u2) → m (Str.ofString "rpos") = some (.int (((r : Nat) : Int) - 1) u3) → r + lsp x.reverse q = x.length → X h tk) ?_ ?_
  · intro Y hY
    walk_at "MY go"
    refine oneK ?_
    with_reducible refine whileK (fun c h tk => ∀ X : Prop, (∀ m k r u1 u2 u3 u4, Fr s.heap L' h m → News s.heap L' h [] → m (Str.ofString "s") = some (.str (T x) u1) → m (Str.ofString "lpos") = some (.int (p : Nat) u2) → m (Str.ofString "rpos") = some (.int (((r : Nat) : Int) - 1) u3) → m (Str.ofString "amount") = some (.int (c : Nat) u4) → q = k + c → r + k = x.length → k + lsp (x.reverse.drop k) c = lsp x.reverse q → X) → X) q ?_ ?_
    · exact fun X K => K _ 0 x.length _ _ _ _ (by assumption) (by assumption) (by exact hs) (by exact hl) (by exact rfl) (by exact ha) (Nat.zero_add _).symm rfl (Nat.zero_add _)
    clear hs hl ha
    intro c h1 tk1 Q' hQ' hJ
    refine hJ _ ?_
    clear hJ
    intro m1 k r us ul ur ua F1 N1 hs hl hr ha hk hrk he
    walk_at "MY go"
    · rename ((_ == _) = true) => hb
      rename (_ ≠ (0 : Int)) => hc
      obtain ⟨d, hd⟩ := ex_pred hc
      have kx : k < x.reverse.length := by rw [List.length_reverse]; omega
      obtain ⟨i, hi⟩ : ∃ i, r = i + 1 := ⟨r - 1, by omega⟩
      rw [pred_cast hi] at hb
      have hik : i + 1 + k = x.length := hi ▸ hrk
      have ix : i < x.length := by omega
      refine WhK.again d (by rw [hd]; exact Nat.lt_succ_self d) ?_
      exact fun X K => K _ (k + 1) i _ _ _ _ (by assumption) (by assumption) (by exact hs) (by exact hl) (by exact congrArg (fun z => some (Value.int (z - 1) _)) (pred_cast hi)) (by exact congrArg (fun z => some (Value.int z _)) (pred_cast hd)) (by rw [hk, hd, Nat.add_assoc, Nat.add_comm d 1]) (by rw [← hik, Nat.add_assoc, Nat.add_comm 1])
        (by rw [← he, hd, lsp_step kx ((rev_at hik ix kx).symm.trans (item_is ix hb)), Nat.add_assoc, Nat.add_comm 1])
    · rename ((_ == _) = false) => hb
      rename (_ ≠ (0 : Int)) => hc
      obtain ⟨d, hd⟩ := ex_pred hc
      have kx : k < x.reverse.length := by rw [List.length_reverse]; omega
      obtain ⟨i, hi⟩ : ∃ i, r = i + 1 := ⟨r - 1, by omega⟩
      rw [pred_cast hi] at hb
      have hik : i + 1 + k = x.length := hi ▸ hrk
      have ix : i < x.length := by omega
      have e : lsp x.reverse q = k := he.symm.trans (by rw [hd, lsp_stop kx (fun e => item_not ix hb ((rev_at hik ix kx).trans e)), Nat.add_zero])
      exact hY _ _ _ _ _ _ r (by assumption) (by assumption) (by exact hs) (by exact hl) (by exact hr) (by rw [e]; exact hrk)
    · rename (_ = (0 : Int)) => hc
      have e : lsp x.reverse q = k := he.symm.trans (by rw [nat0 hc, lsp_zero, Nat.add_zero])
      exact hY _ _ _ _ _ _ r (by assumption) (by assumption) (by exact hs) (by exact hl) (by exact hr) (by rw [e]; exact hrk)
  clear N1 F1 hs hl ha
  intro h1 tk1 m1 us ul ur r F1 N1 hs hl hr hrl
  have l3 := lsp_le x.reverse q
  have e1 : stripOf x n = (x.take r).drop p := by rw [hst, ← hrl, Nat.add_sub_cancel]
  walk_at "MY go"
  refine hret _ _ _ (Fr.keep (by assumption)) ⟨_, congrArg (fun z => Value.str z _) ?_⟩
  rw [Int.sub_add_cancel, T_cut x p r (by omega) (by omega), e1]

end
section
local macro_rules | `(tactic| walk_at "MY st") => `(tactic| walk_at "MY st0")
noncomputable def scat (x : List Nat) : List Nat → Nat → Nat
  | [], p => p
  | c :: y, p => scat x y (if x[p]? = some c then p + 1 else p)
theorem scat_spec (w : World) (s : Shared) (x : List Nat) (t1 : Tok) (y : List Nat) (t2 : Tok) (hx : x.length ≤ 1000) (hy : y.length ≤ 1000) : Spec w 281 [.str (T x) t1, .str (T y) t2] 3 60 s (fun v _ => v = .bool (decide (scat x y 0 = x.length))) := by
  intro mean mg mb C A₀ base h₀ m Q E B F X Tp hd hu hret
  ((refine wpAny_call (enterP (by k_asm) (by k_asm) (by k_asm) (by k_asm) rfl rfl rfl (by k_is) (by k_is) (by k_room) (by walk_at "MY bind") (locs rfl) ?_ rfl rfl rfl (by decide)); k_whole))
  intro L' h' F0 B1 X1 T1
  try dsimp only
  have N0 : News s.heap L' h' [] := fun _ hp => nomatch hp
  walk_at "MY go"
  with_reducible refine cutS (At s s.heap L' (fun m nw => AndN3 (nw = []) (sv m "low" x) (iv m "place" (scat x y 0 : Nat)))) ?_ ?_
  · refine For_invVF (by assumption) ?a1 ?a2 ?_
    case a1 => exact rfl
    case a2 => exact rfl
    walk_at "MY go"
    refine iterC (fun i m nw => ExN1 fun (p : Nat) => AndN5 (nw = []) (sv m "low" x) (iv m "place" p) (p ≤ i) (scat x (y.drop i) p = scat x y 0)) rfl (by assumption) (by assumption) ⟨0, rfl, ⟨_, rfl⟩, ⟨_, rfl⟩, by omega, rfl⟩ ?_ ?_
    · rintro I hI i v m nw h tk own ⟨c, u, hc, rfl⟩ ⟨p, rfl, ⟨ts, hs⟩, ⟨tp, hp⟩, hpi, he⟩ off hown hoI F3 N3
      have hc' : y[i]? = some c := by simpa [T] using hc
      obtain ⟨hiy, hci⟩ := List.getElem?_eq_some_iff.mp hc'
      have hstep : scat x (y.drop i) p = scat x (y.drop (i + 1)) (if x[p]? = some c then p + 1 else p) := by rw [List.drop_eq_getElem_cons hiy, hci]; rfl
      rw [hstep] at he
      walk_at "MY go"
      · have px : p < x.length := by omega
        rename ((_ == _) = true) => hb
        rw [beq_iff_eq, T_item x p px] at hb
        have e : c = x[p] := (List.cons.inj (T_inj (a := [c]) hb)).1
        rw [if_pos (by rw [List.getElem?_eq_getElem px, e])] at he
        refine' TurnEnd.next [] ?F ?N ?O ?_
        case F => assumption
        case N => assumption
        case O => exact fun _ hp => nomatch hp
        exact ⟨p + 1, rfl, ⟨_, hs⟩, ⟨_, rfl⟩, by omega, he⟩
      · have px : p < x.length := by omega
        rename ((_ == _) = false) => hb
        rw [beq_eq_false_iff_ne, ne_eq, T_item x p px] at hb
        rw [if_neg (by rw [List.getElem?_eq_getElem px]; intro e; exact hb (by rw [Option.some.inj e]; rfl))] at he
        refine' TurnEnd.next [] ?F ?N ?O ?_
        case F => assumption
        case N => assumption
        case O => exact fun _ hp => nomatch hp
        exact ⟨p, rfl, ⟨_, hs⟩, ⟨_, hp⟩, by omega, he⟩
      · rw [if_neg (by rw [List.getElem?_eq_none (by omega)]; intro e; cases e)] at he
        refine' TurnEnd.next [] ?F ?N ?O ?_
        case F => assumption
        case N => assumption
        case O => exact fun _ hp => nomatch hp
        exact ⟨p, rfl, ⟨_, hs⟩, ⟨_, hp⟩, by omega, he⟩
    · rintro m nw h tk ⟨p, rfl, hs, hp, hpi, he⟩ F3 N3
      rw [show (T y).cps.size = y.length by simp [T], List.drop_length] at he
      replace he : p = _ := he
      refine Nxt.at [] F3 N3 ⟨rfl, hs, he ▸ hp⟩
  rintro s' ⟨h1, tk1, m1, nw1, rfl, F1, N1, rfl, ⟨ts, hs⟩, ⟨tl, hl⟩⟩
  walk_at "MY go"
  refine hret _ _ _ (Fr.keep (by assumption)) (congrArg Value.bool ?_)
  rw [Bool.eq_iff_iff, beq_iff_eq, decide_eq_true_eq]
  omega

end
section
local macro_rules | `(tactic| walk_at "MY st") => `(tactic| walk_at "MY st0")
noncomputable def nm10 : List (List Nat) := ["OPTIMIZED", "NEWLOCALS", "VARARGS", "VARKEYWORDS", "NESTED", "GENERATOR", "NOFREE", "COROUTINE", "ITERABLE_COROUTINE", "ASYNC_GENERATOR"].map fun s => (Str.ofString s).cps.toList
noncomputable def nmOf (p : Nat) : List Nat := if p < 10 then nm10.getD p [] else [48, 120] ++ [[49, 50, 52, 56].getD (p % 4) 0] ++ List.replicate (p / 4) 48
theorem nm_lo : ∀ q : Fin 10, (["OPTIMIZED", "NEWLOCALS", "VARARGS", "VARKEYWORDS", "NESTED", "GENERATOR", "NOFREE", "COROUTINE", "ITERABLE_COROUTINE", "ASYNC_GENERATOR"].map Str.ofString).getD ((q.val : Nat) : Int).toNat Str.empty = T (nmOf q.val) := by decide +kernel
theorem nm_hi : ∀ q : Fin 32, 10 ≤ q.val → Str.ofString "0x" ++ Txt.item (Str.ofString "1248") (Int.fmod (q.val : Int) 4) ++ Txt.mul (Str.ofString "0") (Int.fdiv (q.val : Int) 4) = T (nmOf q.val) := by decide +kernel
theorem names_spec (w : World) (s : Shared) (sh : Int) (t : Tok) (h0 : 0 ≤ sh) (h1 : sh < 27) : Spec w 269 [.int sh t] 3 60 s (fun v h' => ∃ c ys k, v = .ref c ∧ s.heap.get? c = none ∧ h'.get? c = some (listOf ys.toArray k) ∧ TxtsAre ys ((List.range 6).map fun i => nmOf (sh.toNat + i))) := by
  intro mean mg mb C A₀ base h₀ m Q E B F X Tp hd hu hret
  ((refine wpAny_call (enterC (by k_asm) (by k_asm) (by k_asm) (by k_asm) rfl rfl rfl (by k_is) (by k_is) (by k_room) (by walk_at "MY bind") rfl (by decide +kernel) ?_ rfl rfl rfl); k_whole))
  intro L' h' tk0 cells F0 N0 X0 B1 X1 T1
  obtain ⟨oc, hE, d0⟩ := CellsAre.one X0
  subst hE
  have d1 : oc.data = .cell none := d0
  clear d0 X0
  walk_at "MY go"
  refine' LCg.CompSrc.range (n := 6) (by rfl) (by k_asm) (by k_asm) (by assumption) ?sm ?rn ?sz ?_
  case sm => exact small_one (by omega) (by omega) (by omega) (by omega)
  case rn => (rw [rangeSize_one]; (first | omega | (split <;> omega)))
  case sz => (rw [PySem.sizeLine_eq]; omega)
  intro g'
  refine compJ (fun i ys nw => nw = _ ∧ TxtsAre ys ((List.range i).map fun i => nmOf (sh.toNat + i))) (fun _ _ _ _ => trivial) ⟨rfl, .nil⟩ ?_ ?_
  · rintro i v I oI C oC D m₂ ys nw h tk E' hi ⟨t2, rfl⟩ ⟨rfl, hys⟩ hC hx F2 N2 off ne
    dsimp only at F2 N2 ⊢
    obtain ⟨q, hq⟩ : ∃ q : Nat, sh + (i : Int) = q := ⟨(sh + i).toNat, by omega⟩
    rw [hq] at hx
    have hd := fdiv_eq (q : Int) (b := 4) (by decide)
    have q32 : q < 32 := by omega
    have hqq : sh.toNat + i = q := by omega
    walk_at "MY go"
    · (refine TurnC.end _ (by assumption) (by assumption) (by kcf_all) (by assumption) ?_)
      exact ⟨rfl, hys.map_range ⟨_, congrArg (fun z => Value.str z _) (by rw [hqq]; exact nm_lo ⟨q, by omega⟩)⟩⟩
    · (refine TurnC.end _ (by assumption) (by assumption) (by kcf_all) (by assumption) ?_)
      exact ⟨rfl, hys.map_range ⟨_, congrArg (fun z => Value.str z _) (by rw [hqq]; exact nm_hi ⟨q, q32⟩ (show 10 ≤ q by omega))⟩⟩
  · rintro ys nw ⟨rfl, hys⟩
    unfold LCg.FinE
    intro D h3 tk3 F3 N3 _
    walk_at "MY go"
    exact hret _ _ _ F3.keep ⟨D, ys, _, rfl, (N3 _ (.head _)).2.2, (N3 _ (.head _)).1, hys⟩

end
section
local macro_rules | `(tactic| walk_at "MY st") => `(tactic| walk_at "MY st0")
noncomputable def rowOf (cell : Int) : List Int := let f := cell.fmod 3 + 3; let g := (cell.fdiv 3).fmod 3 + 3
  match ((cell.fdiv 9).fmod 3).toNat with | 0 => [f, g, 0, 1] | 1 => [f, g, g, g, g, 127, 2] | _ => [f, 0, g]
noncomputable def widOf (cell : Int) : List Int := let f := cell.fmod 3 + 3; let g := (cell.fdiv 3).fmod 3 + 3
  match ((cell.fdiv 9).fmod 3).toNat with | 0 => [f, g, g, g, g, g] | 1 => [f, g, g, g, g, g + 2] | _ => [f, f, f, f, f, f]
theorem item_pick {prog : Program} {w : World} {A : Around} {E : Value → Shared → Prop} {s : Shared} {value slice : Expr} {l a b c : Addr} {k : Int} {u : Tok} {Q : Value → Shared → Prop} (hl : s.heap.IsList l [.ref a, .ref b, .ref c].toArray)
    (h0 : 0 ≤ k) (h1 : k < 3) (h : ∀ x, (k = 0 ∧ x = a) ∨ (k = 1 ∧ x = b) ∨ (k = 2 ∧ x = c) → Q (.ref x) s)
    (hs : subscripted slice false (.ref l) (.int k u) = operate [.ref l, .int k u] (getItem (.ref l) (.int k u)) := by with_unfolding_all rfl) (hg : ∀ r, letTemporaryGo value (.ref l) r = pure () := by intro _; with_unfolding_all rfl) :
    wpAny (model prog w) A (subscriptTail value slice (.ref l) (.int k u)) Q E s := by
  have h3 : k = 0 ∨ k = 1 ∨ k = 2 := by omega
  rcases h3 with rfl | rfl | rfl
  · exact item_listL hl (by decide) (by decide) rfl (h _ (.inl ⟨rfl, rfl⟩)) hs hg
  · exact item_listL hl (by decide) (by decide) rfl (h _ (.inr (.inl ⟨rfl, rfl⟩))) hs hg
  · exact item_listL hl (by decide) (by decide) rfl (h _ (.inr (.inr ⟨rfl, rfl⟩))) hs hg
theorem rul_fin {cell : Int} {P : Addr → Obj → Prop} {x y a b c a' b' c' : Addr} {va vb vc va' vb' vc' : List Value} {ka kb kc ka' kb' kc' : Nat} (hx : ((cell.fdiv 9).fmod 3 = 0 ∧ x = a) ∨ ((cell.fdiv 9).fmod 3 = 1 ∧ x = b) ∨ ((cell.fdiv 9).fmod 3 = 2 ∧ x = c)) (hy : ((cell.fdiv 9).fmod 3 = 0 ∧ y = a') ∨ ((cell.fdiv 9).fmod 3 = 1 ∧ y = b') ∨ ((cell.fdiv 9).fmod 3 = 2 ∧ y = c'))
    (pa : P a (listOf va.toArray ka)) (pb : P b (listOf vb.toArray kb)) (pc : P c (listOf vc.toArray kc)) (pa' : P a' (listOf va'.toArray ka')) (pb' : P b' (listOf vb'.toArray kb')) (pc' : P c' (listOf vc'.toArray kc'))
    (ia : IntsAre va [(cell.fmod 3 + 3), ((cell.fdiv 3).fmod 3 + 3), 0, 1]) (ib : IntsAre vb [(cell.fmod 3 + 3), ((cell.fdiv 3).fmod 3 + 3), ((cell.fdiv 3).fmod 3 + 3), ((cell.fdiv 3).fmod 3 + 3), ((cell.fdiv 3).fmod 3 + 3), 127, 2]) (ic : IntsAre vc [(cell.fmod 3 + 3), 0, ((cell.fdiv 3).fmod 3 + 3)]) (ia' : IntsAre va' [(cell.fmod 3 + 3), ((cell.fdiv 3).fmod 3 + 3), ((cell.fdiv 3).fmod 3 + 3), ((cell.fdiv 3).fmod 3 + 3), ((cell.fdiv 3).fmod 3 + 3), ((cell.fdiv 3).fmod 3 + 3)]) (ib' : IntsAre vb' [(cell.fmod 3 + 3), ((cell.fdiv 3).fmod 3 + 3), ((cell.fdiv 3).fmod 3 + 3), ((cell.fdiv 3).fmod 3 + 3), ((cell.fdiv 3).fmod 3 + 3), ((cell.fdiv 3).fmod 3 + 3) + 2]) (ic' : IntsAre vc' [(cell.fmod 3 + 3), (cell.fmod 3 + 3), (cell.fmod 3 + 3), (cell.fmod 3 + 3), (cell.fmod 3 + 3), (cell.fmod 3 + 3)]) {X : Prop}
    (k : ∀ ys n zs n', P x (listOf (List.toArray ys) n) → P y (listOf (List.toArray zs) n') → IntsAre ys (rowOf cell) → IntsAre zs (widOf cell) → X) : X := by
  rcases hx with ⟨e, rfl⟩ | ⟨e, rfl⟩ | ⟨e, rfl⟩
  · rcases hy with ⟨_, rfl⟩ | ⟨e', _⟩ | ⟨e', _⟩
    · exact k _ _ _ _ pa pa' (by unfold rowOf; rw [e]; exact ia) (by unfold widOf; rw [e]; exact ia')
    · rw [e] at e'; cases e'
    · rw [e] at e'; cases e'
  · rcases hy with ⟨e', _⟩ | ⟨_, rfl⟩ | ⟨e', _⟩
    · rw [e] at e'; cases e'
    · exact k _ _ _ _ pb pb' (by unfold rowOf; rw [e]; exact ib) (by unfold widOf; rw [e]; exact ib')
    · rw [e] at e'; cases e'
  · rcases hy with ⟨e', _⟩ | ⟨e', _⟩ | ⟨_, rfl⟩
    · rw [e] at e'; cases e'
    · rw [e] at e'; cases e'
    · exact k _ _ _ _ pc pc' (by unfold rowOf; rw [e]; exact ic) (by unfold widOf; rw [e]; exact ic')
theorem rul_spec (w : World) (s : Shared) (cell : Int) (t : Tok) : Spec w 243 [.int cell t] 3 60 s (fun v h' => ∃ a b c ys n zs n', v = .ref a ∧ IsTup h' a #[.ref b, .ref c] ∧
    s.heap.get? b = none ∧ s.heap.get? c = none ∧ s.heap.get? a = none ∧ h'.get? b = some (listOf ys.toArray n) ∧ h'.get? c = some (listOf zs.toArray n') ∧ IntsAre ys (rowOf cell) ∧ IntsAre zs (widOf cell)) := by
  intro mean mg mb C A₀ base h₀ m Q E B F X Tp hd hu hret
  have i0 := fmod_lo (cell.fdiv 9) (n := 3) (by decide)
  have i1 := fmod_hi (cell.fdiv 9) (n := 3) (by decide)
  ((refine wpAny_call (enterP (by k_asm) (by k_asm) (by k_asm) (by k_asm) rfl rfl rfl (by k_is) (by k_is) (by k_room) (by walk_at "MY bind") (locs rfl) ?_ rfl rfl rfl (by decide)); k_whole))
  intro L' h' F0 B1 X1 T1
  try dsimp only
  have N0 : News s.heap L' h' [] := noNews
  refine (show ∀ X : Prop, (∀ m0, Fr s.heap L' h' m0 → m0 (Str.ofString "cell") = some (.int cell t) → X) → X from fun X k => k _ F0 rfl) _ ?_
  clear F0
  intro m0 F0 hce
  with_reducible refine cutK3 (fun X => ∀ h tk m nw R a b c va vb vc ka kb kc kr tf tg, Fr s.heap L' h m → News s.heap L' h nw → (R, listOf (List.toArray [.ref a, .ref b, .ref c]) kr) ∈ nw → (a, listOf (List.toArray va) ka) ∈ nw → (b, listOf (List.toArray vb) kb) ∈ nw → (c, listOf (List.toArray vc) kc) ∈ nw → IntsAre va [(cell.fmod 3 + 3), ((cell.fdiv 3).fmod 3 + 3), 0, 1] → IntsAre vb [(cell.fmod 3 + 3), ((cell.fdiv 3).fmod 3 + 3), ((cell.fdiv 3).fmod 3 + 3), ((cell.fdiv 3).fmod 3 + 3), ((cell.fdiv 3).fmod 3 + 3), 127, 2] → IntsAre vc [(cell.fmod 3 + 3), 0, ((cell.fdiv 3).fmod 3 + 3)] → m (Str.ofString "cell") = some (.int cell t) → m (Str.ofString "first") = some (.int (cell.fmod 3 + 3) tf) → m (Str.ofString "second") = some (.int ((cell.fdiv 3).fmod 3 + 3) tg) → m (Str.ofString "rows") = some (.ref R) → X h tk) ?_ ?_
  · intro Y hY
    (repeat' (first | (( (with_reducible show wpAny _ _ (subscriptTail (Expr.Name _ _) (Expr.BinOp _ _ _ _) (Value.ref _) (Value.int _ _)) _ _ _); refine item_pick (News.isList (by assumption) (by assumption)) (by assumption) (by assumption) ?_; intro _ _)) | (walk_at "MY one")))
    rename Fr _ L' _ _ => F2
    rename News _ L' _ _ => N2
    refine hY _ _ _ _ _ _ _ _ _ _ _ _ _ _ _ _ _ F2 N2 (.head _) (.tail _ (.tail _ (.tail _ (.head _)))) (.tail _ (.tail _ (.head _))) (.tail _ (.head _)) ?_ ?_ ?_ (by exact hce) rfl rfl rfl
    all_goals ((repeat' (first | exact IntsAre.nil | apply IntsAre.cons)))
  clear N0 F0 hce
  intro h1 tk1 m1 nw R a b c va vb vc ka kb kc kr tf tg F1 N1 mR ma mb' mc ia ib ic hce hf hg hro
  with_reducible refine cutK1 (fun X => ∀ h tk m nw' D a' b' c' va' vb' vc' ka' kb' kc' kr', Fr s.heap L' h m → News s.heap L' h nw' → (∀ p ∈ nw, p ∈ nw') → (D, listOf (List.toArray [.ref a', .ref b', .ref c']) kr') ∈ nw' → (a', listOf (List.toArray va') ka') ∈ nw' → (b', listOf (List.toArray vb') kb') ∈ nw' → (c', listOf (List.toArray vc') kc') ∈ nw' → IntsAre va' [(cell.fmod 3 + 3), ((cell.fdiv 3).fmod 3 + 3), ((cell.fdiv 3).fmod 3 + 3), ((cell.fdiv 3).fmod 3 + 3), ((cell.fdiv 3).fmod 3 + 3), ((cell.fdiv 3).fmod 3 + 3)] → IntsAre vb' [(cell.fmod 3 + 3), ((cell.fdiv 3).fmod 3 + 3), ((cell.fdiv 3).fmod 3 + 3), ((cell.fdiv 3).fmod 3 + 3), ((cell.fdiv 3).fmod 3 + 3), ((cell.fdiv 3).fmod 3 + 3) + 2] → IntsAre vc' [(cell.fmod 3 + 3), (cell.fmod 3 + 3), (cell.fmod 3 + 3), (cell.fmod 3 + 3), (cell.fmod 3 + 3), (cell.fmod 3 + 3)] → m (Str.ofString "cell") = some (.int cell t) → m (Str.ofString "rows") = some (.ref R) → m (Str.ofString "widths") = some (.ref D) → X h tk) ?_ ?_
  · intro Y hY
    (repeat' (first | (( (with_reducible show wpAny _ _ (subscriptTail (Expr.Name _ _) (Expr.BinOp _ _ _ _) (Value.ref _) (Value.int _ _)) _ _ _); refine item_pick (News.isList (by assumption) (by assumption)) (by assumption) (by assumption) ?_; intro _ _)) | (walk_at "MY one")))
    rename Fr _ L' _ _ => F2
    rename News _ L' _ _ => N2
    refine hY _ _ _ _ _ _ _ _ _ _ _ _ _ _ _ F2 N2 (by walk_at "MY sub") (.head _) (.tail _ (.tail _ (.tail _ (.tail _ (.tail _ (.tail _ (.tail _ (.tail _ (.tail _ (.head _)))))))))) (.tail _ (.tail _ (.tail _ (.head _)))) (.tail _ (.head _)) ?_ ?_ ?_ (by exact hce) (by exact hro) rfl
    all_goals ((repeat' (first | exact IntsAre.nil | apply IntsAre.cons)))
  clear N1 F1 hce hf hg hro
  intro h1 tk1 m1 nw' D a' b' c' va' vb' vc' ka' kb' kc' kr' F1 N1 hs mD ma' mb'' mc' ia' ib' ic' hce hro hwi
  have mR' := hs _ mR
  (repeat' (first | (( (with_reducible show wpAny _ _ (subscriptTail (Expr.Name _ _) (Expr.BinOp _ _ _ _) (Value.ref _) (Value.int _ _)) _ _ _); refine item_pick (News.isList (by assumption) (by assumption)) (by assumption) (by assumption) ?_; intro _ _)) | (walk_at "MY one")))
  rename News _ L' _ _ => N2
  rename Fr _ L' _ _ => F2
  rename ((_ ∧ _ = a) ∨ _) => hx
  rename ((_ ∧ _ = a') ∨ _) => hy
  refine rul_fin (P := fun p o => (p, o) ∈ nw') hx hy (hs _ ma) (hs _ mb') (hs _ mc) ma' mb'' mc' ia ib ic ia' ib' ic' ?_
  intro ys n zs n' my mz iy iz
  refine hret _ _ _ (Fr.keep F2) ⟨_, _, _, ys, n, zs, n', rfl, News.isTup N2 (.head _), (N2 _ (.tail _ my)).2.2, (N2 _ (.tail _ mz)).2.2, (N2 _ (.head _)).2.2, (N2 _ (.tail _ my)).1, (N2 _ (.tail _ mz)).1, iy, iz⟩

end
section
local macro_rules | `(tactic| walk_at "MY st") => `(tactic| walk_at "MY st0")
/-- the places above the word at k -/
noncomputable def isAb (ws : List (List Nat)) (k p : Nat) : Bool :=
  let x := ws.getD k []; let y := ws.getD p []
  let gap : Int := 2 * ((y.length : Int) - x.length)
  (decide (gap > 0) || (decide (gap = 0) && decide (p > k))) && decide (lev x y gap = gap)
noncomputable def aboveTo (ws : List (List Nat)) (k i : Nat) : List Int := ((List.range i).filter fun p => isAb ws k p).map Int.ofNat
theorem aboveTo_succ (ws : List (List Nat)) (k i : Nat) : aboveTo ws k (i + 1) = if isAb ws k i then aboveTo ws k i ++ [(i : Int)] else aboveTo ws k i := by
  unfold aboveTo
  rw [List.range_succ, List.filter_append]
  split <;> simp_all
noncomputable abbrev aboveOf (ws : List (List Nat)) (k : Nat) : List Int := aboveTo ws k ws.length
theorem above_spec (w : World) (s : Shared) (lw : Addr) (vs : List Value) (ws : List (List Nat)) (k : Nat) (t : Tok) (hl : s.heap.IsList lw vs.toArray) (hi : TxtsAre vs ws) (hk : k < ws.length) (hn : ws.length ≤ 6) (h3 : ∀ x ∈ ws, x.length ≤ 3) :
    Spec w 264 [.ref lw, .int k t] 8 160 s (fun v h' => ∃ c ys n, v = .ref c ∧ s.heap.get? c = none ∧ h'.get? c = some (listOf ys.toArray n) ∧ IntsAre ys (aboveOf ws k)) := by
  intro mean mg mb C A₀ base h₀ m Q E B F X Tp hd hu hret
  ((refine wpAny_call (enterP (by k_asm) (by k_asm) (by k_asm) (by k_asm) rfl rfl rfl (by k_is) (by k_is) (by k_room) (by walk_at "MY bind") (locs rfl) ?_ rfl rfl rfl (by decide)); k_whole))
  intro L' h' F0 B1 X1 T1
  try dsimp only
  have N0 : News s.heap L' h' [] := fun _ hp => nomatch hp
  with_reducible refine cutL1 (At s s.heap L' (fun m nw => ExN2 fun c k' => AndN4 (nw = [(c, listOf #[] k')]) (m (Str.ofString "words") = some (.ref lw)) (iv m "k" k) (rv m "above" c))) ?_ ?_
  · (repeat' (first | (( (with_reducible show wpAny _ _ (call (Value.ref 74) _ _) _ _ _); refine' Spec.use (lev_spec _ _ _ _ _ _ _ _ ?spx ?spy) ?spA ?spB ?spF ?spN ?spX ?spT ?spD ?spU ?_; walk_at "MY use"; (case spx => omega); (case spy => omega); intro v_c h_c tk_c hk_c F_c N_c hp_c; revert v_c; refine un10 ?_; intro t_c; (try dsimp only))) | (walk_at "MY one")))
    (refine Nxt.at _ (by assumption) (by assumption) ?_)
    exact ⟨_, _, rfl, rfl, ⟨_, rfl⟩, rfl⟩
  rintro s' ⟨h1, tk1, m1, nw1, rfl, F1, N1, c, k', rfl, hw, ⟨tk', hk'⟩, hc⟩
  with_reducible refine cutS (At s s.heap L' (fun m nw => ExN2 fun ys n => AndN3 (rv m "above" c) (nw = [(c, listOf ys.toArray n)]) (IntsAre ys (aboveOf ws k)))) ?_ ?_
  · refine For_pair3 (h₀ := s.heap) ?a1 ?a2 ?a3 ?a4 ?_ ?a5 ?a6
    case a1 => exact rfl
    case a2 => exact rfl
    case a3 => exact rfl
    case a4 => exact rfl
    case a5 => intro _; exact rfl
    case a6 => exact PassesOwn.never
    (repeat' (first | (( (with_reducible show wpAny _ _ (call (Value.ref 74) _ _) _ _ _); refine' Spec.use (lev_spec _ _ _ _ _ _ _ _ ?spx ?spy) ?spA ?spB ?spF ?spN ?spX ?spT ?spD ?spU ?_; walk_at "MY use"; (case spx => omega); (case spy => omega); intro v_c h_c tk_c hk_c F_c N_c hp_c; revert v_c; refine un10 ?_; intro t_c; (try dsimp only))) | (walk_at "MY one")))
    rename PairSrcL _ _ _ _ _ _ _ _ _ _ _ _ => S
    refine S _ rfl _ _ _ _ (fun i m nw => ExN2 fun ys n => AndN6 (m (Str.ofString "words") = some (.ref lw)) (iv m "k" k) (rv m "above" c) (nw = [(c, listOf ys.toArray n)]) (IntsAre ys (aboveTo ws k i)) (ys.length ≤ i)) ⟨[], _, hw, ⟨_, hk'⟩, hc, rfl, .nil, Nat.le_refl _⟩ ?_ ?_
    · clear hw hk' hc
      rintro i a t v m₁ nw s₁ own ⟨h2, tk2, rfl⟩ ha ⟨t2, rfl⟩ ⟨ys, n, hw, ⟨tk', hk'⟩, hc, rfl, hys, hyl⟩ - hoff F2 N2
      obtain ⟨hia, rfl⟩ := List.getElem?_eq_some_iff.mp ha
      have la := h3 _ (List.getElem_mem hia)
      have ea : ws[i] = ws.getD i [] := by simp [List.getD, hia]
      have lk : (ws.getD k []).length ≤ 3 := by rw [show ws.getD k [] = ws[k] by simp [List.getD, hk]]; exact h3 _ (List.getElem_mem hk)
      have i6 : i < 6 := by omega
      rw [ea] at la F2
      have hstep := aboveTo_succ ws k i
      have lk' : (ws.getD ((k : Nat) : Int).toNat []).length ≤ 3 := lk
      have hg : isAb ws k i = ((decide (2 * (((ws.getD i []).length : Int) - (ws.getD ((k : Nat) : Int).toNat []).length) > 0) || (decide (2 * (((ws.getD i []).length : Int) - (ws.getD ((k : Nat) : Int).toNat []).length) = 0) && decide (i > k))) && decide (lev (ws.getD ((k : Nat) : Int).toNat []) (ws.getD i []) (2 * (((ws.getD i []).length : Int) - (ws.getD ((k : Nat) : Int).toNat []).length)) = 2 * (((ws.getD i []).length : Int) - (ws.getD ((k : Nat) : Int).toNat []).length))) := rfl
      (repeat' (first | (( (with_reducible show wpAny _ _ (call (Value.ref 74) _ _) _ _ _); refine' Spec.use (lev_spec _ _ _ _ _ _ _ _ ?spx ?spy) ?spA ?spB ?spF ?spN ?spX ?spT ?spD ?spU ?_; walk_at "MY use"; (case spx => omega); (case spy => omega); intro v_c h_c tk_c hk_c F_c N_c hp_c; revert v_c; refine un10 ?_; intro t_c; (try dsimp only))) | (walk_at "MY one")))
      · have hd : isAb ws k i = true := by
          rw [hg]
          simp only [Bool.and_eq_true, Bool.or_eq_true, decide_eq_true_eq]
          omega
        rw [if_pos hd] at hstep
        rename News _ _ _ _ => N
        have N' := news_re N ((c, listOf ys.toArray n) :: own) (by kcf_all)
        refine' append_K ?F N' (.head fun p hp => hoff p hp _ (.head _)) ?_ ?z
        case F => assumption
        case z => (rw [PySem.sizeLine_eq, List.size_toArray]; omega)
        intro h5 F5 N5
        rw [List.push_toArray] at N5
        (repeat' (first | (( (with_reducible show wpAny _ _ (call (Value.ref 74) _ _) _ _ _); refine' Spec.use (lev_spec _ _ _ _ _ _ _ _ ?spx ?spy) ?spA ?spB ?spF ?spN ?spX ?spT ?spD ?spU ?_; walk_at "MY use"; (case spx => omega); (case spy => omega); intro v_c h_c tk_c hk_c F_c N_c hp_c; revert v_c; refine un10 ?_; intro t_c; (try dsimp only))) | (walk_at "MY one")))
        refine' ls3_end [(c, listOf (ys ++ [Value.int (i : Nat) t]).toArray (n + 1))] ?F ?N ?sub rfl ?_
        case F => assumption
        case N => assumption
        case sub => kcf_all
        exact ⟨_, _, hw, ⟨_, hk'⟩, hc, rfl, by rw [hstep]; exact hys.append (.cons _ _ .nil), by rw [List.length_append]; simp only [List.length_cons, List.length_nil]; omega⟩
      · have hd : ¬ isAb ws k i = true := by
          rw [hg]
          simp only [Bool.and_eq_true, Bool.or_eq_true, decide_eq_true_eq]
          omega
        rw [if_neg hd] at hstep
        refine' ls3_end [(c, _)] ?F ?N ?sub rfl ?_
        case F => assumption
        case N => assumption
        case sub => kcf_all
        exact ⟨_, _, hw, ⟨_, hk'⟩, hc, rfl, by rw [hstep]; exact hys, by omega⟩
      · have hd : isAb ws k i = true := by
          rw [hg]
          simp only [Bool.and_eq_true, Bool.or_eq_true, decide_eq_true_eq]
          omega
        rw [if_pos hd] at hstep
        rename News _ _ _ _ => N
        have N' := news_re N ((c, listOf ys.toArray n) :: own) (by kcf_all)
        refine' append_K ?F N' (.head fun p hp => hoff p hp _ (.head _)) ?_ ?z
        case F => assumption
        case z => (rw [PySem.sizeLine_eq, List.size_toArray]; omega)
        intro h5 F5 N5
        rw [List.push_toArray] at N5
        (repeat' (first | (( (with_reducible show wpAny _ _ (call (Value.ref 74) _ _) _ _ _); refine' Spec.use (lev_spec _ _ _ _ _ _ _ _ ?spx ?spy) ?spA ?spB ?spF ?spN ?spX ?spT ?spD ?spU ?_; walk_at "MY use"; (case spx => omega); (case spy => omega); intro v_c h_c tk_c hk_c F_c N_c hp_c; revert v_c; refine un10 ?_; intro t_c; (try dsimp only))) | (walk_at "MY one")))
        refine' ls3_end [(c, listOf (ys ++ [Value.int (i : Nat) t]).toArray (n + 1))] ?F ?N ?sub rfl ?_
        case F => assumption
        case N => assumption
        case sub => kcf_all
        exact ⟨_, _, hw, ⟨_, hk'⟩, hc, rfl, by rw [hstep]; exact hys.append (.cons _ _ .nil), by rw [List.length_append]; simp only [List.length_cons, List.length_nil]; omega⟩
      · have hd : ¬ isAb ws k i = true := by
          rw [hg]
          simp only [Bool.and_eq_true, Bool.or_eq_true, decide_eq_true_eq]
          omega
        rw [if_neg hd] at hstep
        refine' ls3_end [(c, _)] ?F ?N ?sub rfl ?_
        case F => assumption
        case N => assumption
        case sub => kcf_all
        exact ⟨_, _, hw, ⟨_, hk'⟩, hc, rfl, by rw [hstep]; exact hys, by omega⟩
      · have hd : ¬ isAb ws k i = true := by
          rw [hg]
          simp only [Bool.and_eq_true, Bool.or_eq_true, decide_eq_true_eq]
          omega
        rw [if_neg hd] at hstep
        refine' ls3_end [(c, _)] ?F ?N ?sub rfl ?_
        case F => assumption
        case N => assumption
        case sub => kcf_all
        exact ⟨_, _, hw, ⟨_, hk'⟩, hc, rfl, by rw [hstep]; exact hys, by omega⟩
      · have hd : ¬ isAb ws k i = true := by
          rw [hg]
          simp only [Bool.and_eq_true, Bool.or_eq_true, decide_eq_true_eq]
          omega
        rw [if_neg hd] at hstep
        refine' ls3_end [(c, _)] ?F ?N ?sub rfl ?_
        case F => assumption
        case N => assumption
        case sub => kcf_all
        exact ⟨_, _, hw, ⟨_, hk'⟩, hc, rfl, by rw [hstep]; exact hys, by omega⟩
    · rintro h2 tk2 m2 nw2 F2 N2 - ⟨ys, n, -, -, hc, rfl, hys, -⟩
      exact Nxt.at _ F2 N2 ⟨ys, n, hc, rfl, hys⟩
  rintro s' ⟨h1, tk1, m1, nw1, rfl, F1, N1, ys, n, hc, rfl, hys⟩
  (repeat' (first | (( (with_reducible show wpAny _ _ (call (Value.ref 74) _ _) _ _ _); refine' Spec.use (lev_spec _ _ _ _ _ _ _ _ ?spx ?spy) ?spA ?spB ?spF ?spN ?spX ?spT ?spD ?spU ?_; walk_at "MY use"; (case spx => omega); (case spy => omega); intro v_c h_c tk_c hk_c F_c N_c hp_c; revert v_c; refine un10 ?_; intro t_c; (try dsimp only))) | (walk_at "MY one")))
  exact hret _ _ _ (Fr.keep (by assumption)) ⟨_, ys, n, rfl, (N1 _ (.head _)).2.2, (N1 _ (.head _)).1, hys⟩

end
section
local macro_rules | `(tactic| walk_at "MY st") => `(tactic| walk_at "MY st0")
noncomputable def leadOf (marks : Int) (k : Nat) (room : Int) : Int := (marks.fdiv (3 ^ k)).fmod (room + 1)
noncomputable def roomOf (ws : List (List Nat)) (wd : List Int) (k : Nat) : Int := wd.getD k 0 - (ws.getD k []).length
noncomputable def bl (n : Int) : List Nat := List.replicate n.toNat 32
noncomputable def fieldOf (ws : List (List Nat)) (wd : List Int) (marks : Int) (k : Nat) : List Nat :=
  let room := roomOf ws wd k; let lead := leadOf marks k room
  bl lead ++ ws.getD k [] ++ bl (room - lead)
noncomputable def fewOf (ws : List (List Nat)) (wd : List Int) (marks few : Int) (k : Nat) : List Nat :=
  let room := roomOf ws wd k; let lead := leadOf marks k room
  bl (lead - few) ++ ws.getD k [] ++ bl (room - lead - max (few - lead) 0)
theorem szF2 (hlen : ∀ k : Int, k ≤ 100 → (Txt.mul (Str.ofString " ") k).length ≤ 100) {k : Int} {x : List Nat} (hk : k ≤ 100) (hx : x.length ≤ 3) : (Txt.mul (Str.ofString " ") k).length + (T x).length ≤ 16777216 :=
  Nat.le_trans (Nat.add_le_add (hlen k hk) (by rw [T_len]; exact hx)) (by decide)
theorem szF3 (hlen : ∀ k : Int, k ≤ 100 → (Txt.mul (Str.ofString " ") k).length ≤ 100) {k j : Int} {x : List Nat} (hk : k ≤ 100) (hx : x.length ≤ 3) (hj : j ≤ 100) : (Txt.mul (Str.ofString " ") k ++ T x).length + (Txt.mul (Str.ofString " ") j).length ≤ 16777216 := by
  rw [str_len_append]
  exact Nat.le_trans (Nat.add_le_add (Nat.add_le_add (hlen k hk) (by rw [T_len]; exact hx)) (hlen j hj)) (by decide)
local macro_rules | `(tactic| walk_at "binaryOp Add str str") => `(tactic| ((with_reducible refine PyProof.Rows.add_str ?_ ?hsz); (case hsz => (rw [PySem.sizeLine_eq]; first | exact szF2 (by assumption) (by omega) (by assumption) | exact szF3 (by assumption) (by omega) (by assumption) (by omega))); intro _ _))
theorem fields_spec (w : World) (s : Shared) (lw lde : Addr) (vs us : List Value) (ws : List (List Nat)) (wd : List Int) (marks few : Int) (t u : Tok) (hl : s.heap.IsList lw vs.toArray) (hi : TxtsAre vs ws) (hl2 : s.heap.IsList lde us.toArray) (hi2 : IntsAre us wd)
    (hn : ws.length = 6) (hn2 : wd.length = 6) (h3 : ∀ x ∈ ws, x.length ≤ 3) (hw : ∀ x ∈ wd, 3 ≤ x ∧ x ≤ 7) (hf : 0 ≤ few ∧ few ≤ 3) :
    Spec w 250 [.ref lw, .ref lde, .int marks t, .int few u] 8 160 s (fun v h' => ∃ a b c ys n zs n', v = .ref a ∧ IsTup h' a #[.ref b, .ref c] ∧
    s.heap.get? b = none ∧ s.heap.get? c = none ∧ s.heap.get? a = none ∧ h'.get? b = some (listOf ys.toArray n) ∧ h'.get? c = some (listOf zs.toArray n') ∧ TxtsAre ys ((List.range 6).map (fieldOf ws wd marks)) ∧ TxtsAre zs ((List.range 6).map (fewOf ws wd marks few))) := by
  intro mean mg mb C A₀ base h₀ m Q E B F X Tp hd hu hret
  ((refine wpAny_call (enterP (by k_asm) (by k_asm) (by k_asm) (by k_asm) rfl rfl rfl (by k_is) (by k_is) (by k_room) (by walk_at "MY bind") (locs rfl) ?_ rfl rfl rfl (by decide)); k_whole))
  intro L' h' F0 B1 X1 T1
  try dsimp only
  have N0 : News s.heap L' h' [] := fun _ hp => nomatch hp
  with_reducible refine cutL2 (At s s.heap L' (fun m nw => ExN4 fun b c k1 k2 => AndN8 (nw = [(c, listOf #[] k2), (b, listOf #[] k1)]) (b ≠ c) (m (Str.ofString "words") = some (.ref lw)) (m (Str.ofString "widths") = some (.ref lde)) (iv m "marks" marks) (iv m "few" few) (rv m "fields" b) (rv m "fewer" c))) ?_ ?_
  · walk_at "MY go"
    (refine Nxt.at _ (by assumption) (by assumption) ?_)
    exact ⟨_, _, _, _, rfl, Nat.ne_of_lt (by assumption), rfl, rfl, ⟨_, rfl⟩, ⟨_, rfl⟩, rfl, rfl⟩
  rintro s' ⟨h1, tk1, m1, nw1, rfl, F1, N1, b, c, k1, k2, rfl, hbc, hmw, hmd, ⟨tm, hmm⟩, ⟨tf, hmf⟩, hmb, hmc⟩
  with_reducible refine cutS (At s s.heap L' (fun m nw => ExN4 fun ys n zs n' => AndN5 (rv m "fields" b) (rv m "fewer" c) (nw = [(c, listOf zs.toArray n'), (b, listOf ys.toArray n)]) (TxtsAre ys ((List.range 6).map (fieldOf ws wd marks))) (TxtsAre zs ((List.range 6).map (fewOf ws wd marks few))))) ?_ ?_
  · refine For_pair3 (h₀ := s.heap) ?a1 ?a2 ?a3 ?a4 ?_ ?a5 ?a6
    case a1 => exact rfl
    case a2 => exact rfl
    case a3 => exact rfl
    case a4 => exact rfl
    case a5 => intro _; exact rfl
    case a6 => exact PassesOwn.never
    walk_at "MY go"
    rename PairSrcL _ _ _ _ _ _ _ _ _ _ _ _ => S
    refine S _ rfl _ _ _ _ (fun i m nw => ExN4 fun ys n zs n' => AndN9 (m (Str.ofString "words") = some (.ref lw)) (m (Str.ofString "widths") = some (.ref lde)) (iv m "marks" marks) (iv m "few" few) (rv m "fields" b) (rv m "fewer" c) (nw = [(c, listOf zs.toArray n'), (b, listOf ys.toArray n)]) (TxtsAre ys ((List.range i).map (fieldOf ws wd marks))) (TxtsAre zs ((List.range i).map (fewOf ws wd marks few)))) ⟨[], _, [], _, hmw, hmd, ⟨_, hmm⟩, ⟨_, hmf⟩, hmb, hmc, rfl, .nil, .nil⟩ ?_ ?_
    · clear hmw hmd hmm hmf hmb hmc
      rintro i a t v m₁ nw s₁ own ⟨h2, tk2, rfl⟩ ha ⟨t2, rfl⟩ ⟨ys, n, zs, n', hmw, hmd, ⟨tm, hmm⟩, ⟨tf, hmf⟩, hmb, hmc, rfl, hys, hzs⟩ - hoff F2 N2
      obtain ⟨hia, rfl⟩ := List.getElem?_eq_some_iff.mp ha
      have la := h3 _ (List.getElem_mem hia)
      have ea : ws[i] = ws.getD i [] := by simp [List.getD, hia]
      have i6 : i < 6 := by omega
      rw [ea] at la F2
      obtain ⟨lwd, hwd⟩ : ∃ z, z = wd.getD i 0 := ⟨_, rfl⟩
      have lwd' := hw (wd.getD i 0) (by rw [show wd.getD i 0 = wd[i]'(by omega) by simp [List.getD, show i < wd.length by omega]]; exact List.getElem_mem _)
      have hyl := hys.length
      have hzl := hzs.length
      rw [List.length_map, List.length_range] at hyl hzl
      have hp0 : 0 < (3 : Int) ^ ((i : Nat) : Int).toNat ∧ (3 : Int) ^ ((i : Nat) : Int).toNat < 1000 := by
        rcases (by omega : i = 0 ∨ i = 1 ∨ i = 2 ∨ i = 3 ∨ i = 4 ∨ i = 5) with rfl | rfl | rfl | rfl | rfl | rfl <;> decide
      obtain ⟨r, hr⟩ : ∃ r, r = roomOf ws wd i := ⟨_, rfl⟩
      obtain ⟨l, hl'⟩ : ∃ l, l = leadOf marks i r := ⟨_, rfl⟩
      have r0 : 0 ≤ r ∧ r ≤ 7 := by rw [hr]; unfold roomOf; omega
      have l0 : 0 ≤ l := by rw [hl']; exact fmod_lo _ (by omega)
      have l1 : l < r + 1 := by rw [hl']; exact fmod_hi _ (by omega)
      with_reducible refine cutL2 (At { s with heap := h2, toks := tk2 } s.heap L' (fun m nw => AndN10 (nw = own ++ [(c, listOf zs.toArray n'), (b, listOf ys.toArray n)]) (m (Str.ofString "words") = some (.ref lw)) (m (Str.ofString "widths") = some (.ref lde)) (iv m "marks" marks) (iv m "few" few) (rv m "fields" b) (rv m "fewer" c) (sv m "word" (ws.getD i [])) (iv m "room" r) (iv m "lead" l))) ?_ ?_
      · have lwd'' : 3 ≤ wd.getD ((i : Nat) : Int).toNat 0 ∧ wd.getD ((i : Nat) : Int).toNat 0 ≤ 7 := lwd'
        walk_at "MY go"
        (refine Nxt.at _ (by assumption) (by assumption) ?_)
        exact ⟨rfl, hmw, hmd, ⟨_, hmm⟩, ⟨_, hmf⟩, hmb, hmc, ⟨_, rfl⟩, ⟨_, by rw [hr]; rfl⟩, ⟨_, by rw [hl', hr]; rfl⟩⟩
      clear hmw hmd hmm hmf hmb hmc
      generalize hx : ws.getD i [] = x at *
      rintro s' ⟨h4, tk4, m4, nw4, rfl, F4, N4, rfl, hmw, hmd, ⟨tm, hmm⟩, ⟨tf, hmf⟩, hmb, hmc, ⟨tw, hmx⟩, ⟨tr, hmr⟩, ⟨tl, hml⟩⟩
      have hlen : ∀ k : Int, k ≤ 100 → (Txt.mul (Str.ofString " ") k).length ≤ 100 := fun k hk => by
        rw [show Str.ofString " " = T [32] from rfl, T_mul, T_len, List.length_replicate]; omega
      walk_at "MY go"
      have hcb : c ≠ b := fun e => hbc e.symm
      rename News _ _ _ _ => N
      have N' := news_re N ((b, listOf ys.toArray n) :: (c, listOf zs.toArray n') :: own) (by kcf_all)
      refine' append_K ?F N' (.head fun p hp => ?_) ?_ ?z
      case F => assumption
      case z => (rw [PySem.sizeLine_eq, List.size_toArray]; omega)
      · rcases List.mem_cons.mp hp with rfl | hp
        · exact hcb
        · exact hoff p hp _ (.tail _ (.head _))
      intro h5 F5 N5
      rw [List.push_toArray] at N5
      walk_at "MY go"
      rename News _ _ _ ((b, _) :: (c, _) :: own) => N5
      have N6 := news_re N5 ((c, listOf zs.toArray n') :: (b, listOf (ys ++ [Value.str (Txt.mul (Str.ofString " ") l ++ T x ++ Txt.mul (Str.ofString " ") (r - l)) _]).toArray (n + 1)) :: own) (by kcf_all)
      refine' append_K ?F N6 (.head fun p hp => ?_) ?_ ?z
      case F => assumption
      case z => (rw [PySem.sizeLine_eq, List.size_toArray]; omega)
      · rcases List.mem_cons.mp hp with rfl | hp
        · exact hbc
        · exact hoff p hp _ (.head _)
      intro h7 F7 N7
      rw [List.push_toArray] at N7
      walk_at "MY go"
      have e1 : fieldOf ws wd marks i = bl l ++ x ++ bl (r - l) := by unfold fieldOf; dsimp only; rw [← hr, ← hl', hx]
      have e2 : fewOf ws wd marks few i = bl (l - few) ++ x ++ bl (r - l - if 0 > few - l then 0 else few - l) := by
        unfold fewOf
        try dsimp only
        rw [← hr, ← hl', hx, show max (few - l) 0 = (if 0 > few - l then 0 else few - l) by split <;> omega]
      have em : ∀ k : Int, Txt.mul (Str.ofString " ") k = T (bl k) := fun k => T_mul 32 k
      refine' ls3_end [(c, listOf (zs ++ [_]).toArray (n' + 1)), (b, listOf (ys ++ [_]).toArray (n + 1))] ?F N7 ?sub rfl ?_
      case F => assumption
      case sub => kcf_all
      refine ⟨_, _, _, _, hmw, hmd, ⟨_, hmm⟩, ⟨_, hmf⟩, hmb, hmc, rfl, hys.map_range ?_, hzs.map_range ?_⟩
      · exact ⟨_, congrArg (fun z => Value.str z _) (by rw [e1, em, em, T_add, T_add])⟩
      · exact ⟨_, congrArg (fun z => Value.str z _) (by rw [e2, em, em, T_add, T_add])⟩
    · rintro h2 tk2 m2 nw2 F2 N2 - ⟨ys, n, zs, n', -, -, -, -, hmb, hmc, rfl, hys, hzs⟩
      rw [hn] at hys hzs
      exact Nxt.at _ F2 N2 ⟨ys, n, zs, n', hmb, hmc, rfl, hys, hzs⟩
  rintro s' ⟨h1, tk1, m1, nw1, rfl, F1, N1, ys, n, zs, n', hmb, hmc, rfl, hys, hzs⟩
  walk_at "MY go"
  rename News _ _ _ _ => N
  exact hret _ _ _ (Fr.keep (by assumption)) ⟨_, b, c, ys, n, zs, n', rfl, News.isTup N (.head _), (N (b, _) (by kcf_m)).2.2, (N (c, _) (by kcf_m)).2.2, (N _ (.head _)).2.2, (N (b, listOf _ _) (by kcf_m)).1, (N (c, listOf _ _) (by kcf_m)).1, hys, hzs⟩

end
section
noncomputable def hexS (i : Int) : Str := Str.ofString (if i < 0 then "-" else "") ++ Str.ofString "0x" ++ Str.ofString (String.ofList (Nat.toDigits 16 i.natAbs))
theorem kind_hex : builtinKind "hex" = none := by decide +kernel
theorem plain_hex : plainId "hex" = true := by decide +kernel
theorem entry_hex : entryFor table "hex" = some Builtin.«hex» := entryFor_of_fast (by kernel_rfl)
theorem args_hex (a : Value) : argsOk "hex" ⟨[a], []⟩ := by unfold argsOk; kernel_rfl
theorem gives_hex (i : Int) (t : Tok) : Gives (Builtin.«hex» ⟨[.int i t], []⟩) (.str (hexS i)) := by
  show Gives (retStr _) _
  exact .of_eq rfl
theorem hex_int {prog : Program} {w : World} {A : Around} {E : Value → Shared → Prop} {s : Shared} {i : Int} {t : Tok} {Q : Value → Shared → Prop} (l : List Nat) (e : hexS i = T l) (hl : l.length ≤ 1000) (h : Q (.str (T l) s.toks) { s with toks := s.toks + 1 }) :
    wpAny (model prog w) A (call (.builtin "hex") [.int i t]) Q E s :=
  call_function_meets kind_hex plain_hex entry_hex (args_hex _) (gives_hex i t).meets ⟨by rw [e, T_len, PySem.sizeLine_eq]; omega, e ▸ h⟩
theorem hexS_pow : ∀ p : Fin 32, hexS ((2 : Int) ^ p.val) = T ([48, 120] ++ [[49, 50, 52, 56].getD (p.val % 4) 0] ++ List.replicate (p.val / 4) 48) := by decide +kernel
theorem hexS_top : ∀ p : Fin 10, hexS ((2 : Int) ^ 32 * (p.val : Int)) = T (if p.val = 0 then [48, 120, 48] else [48, 120] ++ [48 + p.val] ++ List.replicate 8 48) := by decide +kernel
noncomputable def hx (p : Nat) : List Nat := [48, 120] ++ [[49, 50, 52, 56].getD (p % 4) 0] ++ List.replicate (p / 4) 48
noncomputable def hxTop (r : Nat) : List Nat := if r = 0 then [48, 120, 48] else [48, 120] ++ [48 + r] ++ List.replicate 8 48
/-- the names told from the bit i on, f bits more -/
noncomputable def pfR : Nat → Nat → Nat → List (List Nat)
  | 0, _, fl => [hxTop (fl / 2 ^ 32)]
  | f + 1, i, fl => if fl / 2 ^ i % 2 = 1 then nmOf i :: (if fl - 2 ^ i = 0 then [] else pfR f (i + 1) (fl - 2 ^ i)) else pfR f (i + 1) fl
noncomputable def pfOf (n : Nat) : List Nat := jn [44, 32] (pfR 32 0 n)
local macro_rules | `(tactic| walk_at "call builtin:hex") => `(tactic| (refine' hex_int _ ?hxe ?hxl ?_; (case hxe => assumption); (case hxl => assumption)))
theorem bit_of {fl i : Nat} : Builtin.bitAnd (fl : Int) (1 * 2 ^ ((i : Nat) : Int).toNat) = ((fl / 2 ^ i % 2 * 2 ^ i : Nat) : Int) := by
  rw [Int.one_mul, Int.toNat_natCast, kbt_bit]
  norm_cast
theorem hx_len {i : Nat} (hi : i < 32) : (hx i).length ≤ 1000 := by
  simp only [hx, List.length_append, List.length_cons, List.length_nil, List.length_replicate]
  omega
local macro_rules | `(tactic| walk_at "MY st") => `(tactic| ((fail_if_success (with_reducible first
  | show wpAny _ _ (execs (PySem.Stmt.Expr _ _ :: PySem.Stmt.AugAssign _ _ _ _ :: _) _) _ _ _)); (walk_at "MY st0")))
theorem pw_inj {i j : Nat} (h : (1 : Int) * 2 ^ ((i : Nat) : Int).toNat = 2 ^ j) : i = j := by
  rw [Int.one_mul, Int.toNat_natCast] at h
  have h' : (2 : Nat) ^ i = 2 ^ j := by exact_mod_cast h
  exact (Nat.pow_right_inj (by decide)).mp h'
theorem nmk {i : Nat} (j : Nat) (K : Int) (hK : K = 2 ^ j) (x : Str) (hx : x = T (nmOf j)) (h : (1 : Int) * 2 ^ ((i : Nat) : Int).toNat = K) : x = T (nmOf i) := by
  rw [hx, pw_inj (h.trans hK)]
theorem nmd {i : Nat} (h1 : ¬ (1 : Int) * 2 ^ ((i : Nat) : Int).toNat = 1) (h2 : ¬ (1 : Int) * 2 ^ ((i : Nat) : Int).toNat = 2) (h3 : ¬ (1 : Int) * 2 ^ ((i : Nat) : Int).toNat = 4) (h4 : ¬ (1 : Int) * 2 ^ ((i : Nat) : Int).toNat = 8) (h5 : ¬ (1 : Int) * 2 ^ ((i : Nat) : Int).toNat = 16)
    (h6 : ¬ (1 : Int) * 2 ^ ((i : Nat) : Int).toNat = 32) (h7 : ¬ (1 : Int) * 2 ^ ((i : Nat) : Int).toNat = 64) (h8 : ¬ (1 : Int) * 2 ^ ((i : Nat) : Int).toNat = 128) (h9 : ¬ (1 : Int) * 2 ^ ((i : Nat) : Int).toNat = 256) (h10 : ¬ (1 : Int) * 2 ^ ((i : Nat) : Int).toNat = 512) : T (hx i) = T (nmOf i) := by
  have : 10 ≤ i := by
    rcases (by omega : i = 0 ∨ i = 1 ∨ i = 2 ∨ i = 3 ∨ i = 4 ∨ i = 5 ∨ i = 6 ∨ i = 7 ∨ i = 8 ∨ i = 9 ∨ 10 ≤ i) with rfl | rfl | rfl | rfl | rfl | rfl | rfl | rfl | rfl | rfl | h
    · exact absurd (by decide) h1
    · exact absurd (by decide) h2
    · exact absurd (by decide) h3
    · exact absurd (by decide) h4
    · exact absurd (by decide) h5
    · exact absurd (by decide) h6
    · exact absurd (by decide) h7
    · exact absurd (by decide) h8
    · exact absurd (by decide) h9
    · exact absurd (by decide) h10
    · exact h
  unfold hx nmOf
  rw [if_neg (by omega)]
theorem nmOf_len {i : Nat} (hi : i < 32) : (nmOf i).length ≤ 1000 := by
  unfold nmOf
  split
  · have : ∀ j : Fin 10, (nm10.getD j.val []).length ≤ 1000 := by decide +kernel
    exact this ⟨i, by assumption⟩
  · simp only [List.length_append, List.length_cons, List.length_nil, List.length_replicate]
    omega
theorem pfR_len : ∀ f i n, (pfR f i n).length ≤ f + 1
  | 0, _, _ => by simp [pfR]
  | f + 1, i, n => by
    have h1 := pfR_len f (i + 1) n
    have h2 := pfR_len f (i + 1) (n - 2 ^ i)
    unfold pfR
    split
    · split
      · simp
      · simp only [List.length_cons]; omega
    · omega
theorem pfR_lens : ∀ f i n, i + f ≤ 32 → ∀ l ∈ pfR f i n, l.length ≤ 1000
  | 0, _, _, _, l, hl => by
    rw [pfR, List.mem_singleton] at hl
    rw [hl]
    unfold hxTop
    split <;> simp
  | f + 1, i, n, h, l, hl => by
    unfold pfR at hl
    split at hl
    · rcases List.mem_cons.mp hl with rfl | hl
      · exact nmOf_len (by omega)
      · split at hl
        · simp at hl
        · exact pfR_lens f (i + 1) _ (by omega) l hl
    · exact pfR_lens f (i + 1) _ (by omega) l hl
theorem pf_spec (w : World) (s : Shared) (n : Nat) (t : Tok) (hn : n < 10 * 2 ^ 32) : Spec w 46 [.int n t] 3 60 s (fun v h' => ∃ t, v = .str (T (pfOf n)) t) := by
  intro mean mg mb C A₀ base h₀ m Q E B F X Tp hd hu hret
  ((refine wpAny_call (enterP (by k_asm) (by k_asm) (by k_asm) (by k_asm) rfl rfl rfl (by k_is) (by k_is) (by k_room) (by walk_at "MY bind") (locs rfl) ?_ rfl rfl rfl (by decide)); k_whole))
  intro L' h' F0 B1 X1 T1
  try dsimp only
  have N0 : News s.heap L' h' [] := fun _ hp => nomatch hp
  with_reducible refine cutL1 (At s s.heap L' (fun m nw => ExN2 fun c k1 => AndN3 (nw = [(c, listOf #[] k1)]) (iv m "flags" n) (rv m "names" c))) ?_ ?_
  · walk_at "MY go"
    (refine Nxt.at _ (by assumption) (by assumption) ?_)
    exact ⟨_, _, rfl, ⟨_, rfl⟩, rfl⟩
  rintro s' ⟨h1, tk1, m1, nw1, rfl, F1, N1, c, k1, rfl, ⟨tm, hmm⟩, hmc⟩
  with_reducible refine cutS (At s s.heap L' (fun m nw => ExN2 fun (ys : List Value) (k : Nat) => AndN3 (rv m "names" c) (nw = [(c, listOf ys.toArray k)]) (TxtsAre ys (pfR 32 0 n)))) ?_ ?_
  · refine forX ?_
    walk_at "MY go"
    rename IsRange _ _ _ _ _ _ _ _ => R2
    rename Fr _ _ _ _ => F2
    rename News _ _ _ _ => N2
    refine iterRX (n := 32) (fun i m nw => ExN5 fun (ys : List Value) (k fl q : Nat) (l : List (List Nat)) => AndN8 (nw = [(c, listOf ys.toArray k)]) (rv m "names" c) (iv m "flags" (fl : Nat)) (TxtsAre ys l) (l.length ≤ i) (fl = 2 ^ i * q) (fl ≤ n) (l ++ pfR (32 - i) i fl = pfR 32 0 n)) rfl R2 (by decide) (by decide) F2 N2
      ⟨[], _, n, n, [], rfl, hmc, ⟨_, hmm⟩, .nil, Nat.le_refl _, by simp, Nat.le_refl _, rfl⟩ ?_ ?_
    · clear hmm hmc
      rintro I hI i bv m2 nw h2 tk2 own hi ⟨ys, k, fl, q, l, hnw, hmc, ⟨tm, hmm⟩, hys, hll, hq, hfn, he⟩ hoff hown hoI F3 N3
      obtain ⟨hi32, bt, rfl⟩ := hi
      subst hnw
      simp only [Int.zero_add] at F3 ⊢
      have hxe : hexS (1 * 2 ^ ((i : Nat) : Int).toNat) = T (hx i) := by rw [Int.one_mul]; exact hexS_pow ⟨i, hi32⟩
      have hxl := hx_len hi32
      have hyl := hys.length
      have hbit := bit_of (fl := fl) (i := i)
      have hqd : fl / 2 ^ i = q := by rw [hq, Nat.mul_div_cancel_left _ (Nat.two_pow_pos i)]
      rw [hqd] at hbit
      have hpos := Nat.two_pow_pos i
      have hstep : pfR (32 - i) i fl = if q % 2 = 1 then nmOf i :: (if fl - 2 ^ i = 0 then [] else pfR (32 - (i + 1)) (i + 1) (fl - 2 ^ i)) else pfR (32 - (i + 1)) (i + 1) fl := by
        rw [show 32 - i = (32 - (i + 1)) + 1 by omega, pfR, hqd]
      have hpw : ∀ r : Nat, 2 ^ (i + 1) * r = 2 ^ i * (2 * r) := fun r => by rw [Nat.pow_succ, Nat.mul_assoc]
      have hoc : ∀ p ∈ own, p.1 ≠ c := fun p hp e => hoff (c, listOf ys.toArray k) (.head _) (by rw [← e]; simpa using hown p hp)
      walk_at "MY go"
      · rename (Builtin.bitAnd _ _ ≠ 0) => hne
        rw [hbit] at hne
        have hodd : q % 2 = 1 := by
          rcases Nat.mod_two_eq_zero_or_one q with e | e
          · rw [e] at hne; simp at hne
          · exact e
        rw [if_pos hodd] at hstep
        with_reducible refine cutL1 (At { s with heap := h2, toks := tk2 } s.heap L' (fun m nw => ExN1 fun (v : Value) => AndN5 (nw = (c, listOf (ys ++ [v]).toArray (k + 1)) :: own) (rv m "names" c) (iv m "flags" (fl : Nat)) (iv m "flag" (1 * 2 ^ ((i : Nat) : Int).toNat)) (∃ t, v = .str (T (nmOf i)) t))) ?_ ?_
        · walk_at "MY go"
          all_goals (
            rename News _ _ _ _ => N
            have N' := news_re N ((c, listOf ys.toArray k) :: own) (by kcf_all)
            refine' append_K ?F N' (.head fun p hp => hoc p hp) ?_ ?z
            case F => assumption
            case z => (rw [PySem.sizeLine_eq, List.size_toArray]; omega)
            intro h5 F5 N5
            rw [List.push_toArray] at N5
            walk_at "MY go"
            refine' Nxt.at _ ?F N5 ?_
            case F => assumption
            refine ⟨_, rfl, hmc, ⟨_, hmm⟩, ⟨_, rfl⟩, _, congrArg (fun z => Value.str z _) ?_⟩
            first
              | exact nmk 0 1 (by decide) _ (by decide +kernel) (by assumption)
              | exact nmk 1 2 (by decide) _ (by decide +kernel) (by assumption)
              | exact nmk 2 4 (by decide) _ (by decide +kernel) (by assumption)
              | exact nmk 3 8 (by decide) _ (by decide +kernel) (by assumption)
              | exact nmk 4 16 (by decide) _ (by decide +kernel) (by assumption)
              | exact nmk 5 32 (by decide) _ (by decide +kernel) (by assumption)
              | exact nmk 6 64 (by decide) _ (by decide +kernel) (by assumption)
              | exact nmk 7 128 (by decide) _ (by decide +kernel) (by assumption)
              | exact nmk 8 256 (by decide) _ (by decide +kernel) (by assumption)
              | exact nmk 9 512 (by decide) _ (by decide +kernel) (by assumption)
              | exact nmd (by assumption) (by assumption) (by assumption) (by assumption) (by assumption) (by assumption) (by assumption) (by assumption) (by assumption) (by assumption))
        clear hmc hmm
        rintro s' ⟨h6, tk6, m6, nw6, rfl, F6, N6, v, rfl, hmc, ⟨tm, hmm⟩, ⟨tg, hmg⟩, tv, rfl⟩
        have hq1 : 2 ^ i ≤ fl := by rw [hq]; exact Nat.le_mul_of_pos_right _ (by omega)
        have hbx : Builtin.bitXor (fl : Int) (1 * 2 ^ ((i : Nat) : Int).toNat) = ((fl - 2 ^ i : Nat) : Int) := by
          rw [bitXor_and, hbit, hodd, Int.one_mul, Int.toNat_natCast, Int.natCast_sub hq1]
          push_cast
          omega
        walk_at "MY go"
        · rename (Builtin.bitXor _ _ ≠ 0) => hnz
          rw [hbx] at hnz
          rw [if_neg (by omega)] at hstep
          refine' TurnEnd.next [(c, listOf (ys ++ [_]).toArray (k + 1))] ?F ?N ?O ?_
          case F => assumption
          case N => assumption
          case O => exact fun p hp => by rw [List.mem_singleton.mp hp]; exact hoff (c, listOf ys.toArray k) (.head _)
          refine ⟨_, _, fl - 2 ^ i, q / 2, l ++ [nmOf i], rfl, hmc, ⟨_, by rw [← hbx]; rfl⟩, hys.snoc _ _, by rw [List.length_append]; simp only [List.length_cons, List.length_nil]; omega, ?_, by omega, ?_⟩
          · rw [hpw, hq, show 2 * (q / 2) = q - 1 by omega, Nat.mul_sub, Nat.mul_one]
          · rw [← he, hstep, List.append_assoc]
            rfl
        · rename (Builtin.bitXor _ _ = 0) => hz
          rw [hbx] at hz
          rw [if_pos (by omega)] at hstep
          rename News _ _ _ ((c, _) :: own) => N
          show Nxt (At s s.heap L' (fun m nw => ExN2 fun (ys : List Value) (k : Nat) => AndN3 (rv m "names" c) (nw = [(c, listOf ys.toArray k)]) (TxtsAre ys (pfR 32 0 n)))) .next _
          refine' Nxt.at [(c, listOf (ys ++ [_]).toArray (k + 1))] ?F ?N ?_
          case F => assumption
          case N => exact news_re N _ (by kcf_all)
          exact ⟨_, _, hmc, rfl, by rw [← he, hstep]; exact hys.snoc _ _⟩
      · rename (Builtin.bitAnd _ _ = 0) => hne
        rw [hbit] at hne
        have hev : ¬ q % 2 = 1 := fun e => by rw [e] at hne; omega
        rw [if_neg hev] at hstep
        refine' TurnEnd.next [(c, listOf ys.toArray k)] ?F ?N ?O ?_
        case F => assumption
        case N => assumption
        case O => exact hoff
        exact ⟨ys, k, fl, q / 2, l, rfl, hmc, ⟨_, hmm⟩, hys, by omega, by rw [hpw, hq]; congr 1; omega, hfn, by rw [← he, hstep]⟩
    · rintro m nw h tk ⟨ys, k, fl, q, l, rfl, hmc, ⟨tm, hmm⟩, hys, hll, hq, hfn, he⟩ F3 N3
      have hyl := hys.length
      have q10 : q < 10 := by omega
      have hxe : hexS (fl : Int) = T (hxTop q) := by
        have := hexS_top ⟨q, q10⟩
        rw [hq, Int.natCast_mul]
        exact this
      have hxl : (hxTop q).length ≤ 1000 := by unfold hxTop; split <;> simp
      have e : pfR (32 - 32) 32 fl = [hxTop q] := by
        show [hxTop (fl / 2 ^ 32)] = _
        rw [hq, Nat.mul_div_cancel_left _ (by decide)]
      rw [e] at he
      walk_at "MY go"
      rename News _ _ _ [_] => N
      rw [List.push_toArray] at N
      refine' Nxt.at _ ?F N ?_
      case F => assumption
      exact ⟨_, _, hmc, rfl, he ▸ hys.snoc _ _⟩
  rintro s' ⟨h1, tk1, m1, nw1, rfl, F1, N1, ys, k, hmc, rfl, hys⟩
  walk_at "MY go"
  refine join_TL [44, 32] rfl (by decide) (News.isList N1 (.head _)) hys (by have := pfR_len 32 0 n; omega) (pfR_lens 32 0 n (by decide)) ?_
  intro t' k
  repeat walk_at "MY sq"
  exact hret _ _ _ (Fr.keep (by assumption)) ⟨_, rfl⟩

end
section
local macro_rules | `(tactic| walk_at "MY inst") => `(tactic| (apply_assumption; exact Fr.keep (by assumption)))
local macro_rules | `(tactic| walk_at "MY noname") => `(tactic| (apply_assumption; decide))
local macro_rules | `(tactic| walk_at "getMethod ref") => `(tactic| (refine method_inst (by k_asm) (by k_asm) (by walk_at "MY inst") (by k_is) (by k_is) (by k_is) (by walk_at "MY noname") ?_; k_whole))
local macro_rules | `(tactic| walk_at "getAttr ref") => `(tactic| (
  (with_reducible show wpAny _ _ (getAttr (Value.ref _) (PySem.Str.ofString "_headers") _) _ _ _);
  refine get_own (by k_asm) (by k_asm) (by walk_at "MY inst") (by k_is) (by k_is) (by k_is) (by k_is) (by assumption) (by k_handed) ?_; k_whole))
local macro_rules | `(tactic| walk_at "call builtin:str.lower") => `(tactic| ((with_reducible show wpAny _ _ (call (Value.builtin "str.lower") [Value.str (Mine.T _) _]) _ _ _); refine low_T (by assumption) (by first | assumption | omega) ?_))
local macro_rules | `(tactic| walk_at "compareOp NotEq ref ref") => `(tactic| refine ne_nil (News.isList (by assumption) (by kcf_m)) (News.isList (by assumption) (by kcf_m)) (by walk_at "MY rm") ?_)
local macro_rules | `(tactic| walk_at "MY st1") => `(tactic| (fail_if_success (with_reducible first | refine gApp ?_ | refine gPop ?_ | refine gTup ?_ | refine gGet ?_ | refine gIdx ?_ | refine gSplit ?_ | refine gAdd ?_)))
/-- rows of texts -/
inductive RowsP (P : Addr → Obj → Prop) : List Value → List (List (List Nat)) → Prop
  | nil : RowsP P [] []
  | cons (c : Addr) (us : List Value) (n : Nat) (row : List (List Nat)) {vs : List Value} {rows : List (List (List Nat))} : P c (listOf us.toArray n) → TxtsAre us row → RowsP P vs rows → RowsP P (.ref c :: vs) (row :: rows)
theorem RowsP.mono {P P' : Addr → Obj → Prop} {vs : List Value} {rows : List (List (List Nat))} (x : RowsP P vs rows) (k : ∀ b o, P b o → P' b o) : RowsP P' vs rows := by
  induction x with
  | nil => exact .nil
  | cons c us n row h1 h2 _ ih => exact .cons c us n row (k _ _ h1) h2 ih
theorem RowsP.append {P : Addr → Obj → Prop} {vs vs' : List Value} {rows rows' : List (List (List Nat))} (x : RowsP P vs rows) (y : RowsP P vs' rows') : RowsP P (vs ++ vs') (rows ++ rows') := by
  induction x with
  | nil => exact y
  | cons c us n row h1 h2 _ ih => exact .cons c us n row h1 h2 ih
theorem RowsP.length {P : Addr → Obj → Prop} {vs : List Value} {rows : List (List (List Nat))} (x : RowsP P vs rows) : vs.length = rows.length := by
  induction x with
  | nil => rfl
  | cons _ _ _ _ _ _ _ ih => simp [ih]
theorem RowsP.at {P : Addr → Obj → Prop} {vs : List Value} {rows : List (List (List Nat))} (x : RowsP P vs rows) : ∀ {i : Nat} {v : Value}, vs[i]? = some v → ∃ (_ : i < rows.length) (c : Addr) (us : List Value) (n : Nat), v = .ref c ∧ P c (listOf us.toArray n) ∧ TxtsAre us rows[i] := by
  induction x with
  | nil => intro i v e; simp at e
  | cons c us n row h1 h2 _ ih =>
    intro i v e
    cases i with
    | zero => exact ⟨by simp, c, us, n, by simpa using e.symm, h1, h2⟩
    | succ i =>
      obtain ⟨hi, c', us', n', e1, e2, e3⟩ := ih (by simpa using e)
      exact ⟨by simpa using hi, c', us', n', e1, e2, by simpa using e3⟩
noncomputable def bars (ws : List (List Nat)) (y : List Nat) : List (List Nat) := ws.filter fun x => decide (scat x y 0 = x.length) || decide (scat y x 0 = y.length)
noncomputable def rowStep (ws : List (List Nat)) (rows : List (List (List Nat))) (y : List Nat) : List (List (List Nat)) := rows ++ (rows.filter fun row => (row.filter fun x => (bars ws y).contains x).isEmpty).map (· ++ [y])
noncomputable def widRows (ws : List (List Nat)) (l : List (List Nat)) : List (List (List Nat)) := l.foldl (rowStep ws) [[]]
noncomputable def IsWidest (ws : List (List Nat)) (M : Nat) : Prop := (∃ row ∈ widRows ws ws, row.length = M) ∧ ∀ row ∈ widRows ws ws, row.length ≤ M
local macro_rules | `(tactic| walk_at "compareOp In str ref") => `(tactic| (refine' in_list_strs ?il ?ii ?_; (case ii => assumption); (case il => exact News.isList (by assumption) (by assumption))))
local macro_rules | `(tactic| walk_at "MY st") => `(tactic| ((fail_if_success (with_reducible first
  | show wpAny _ _ (compareOp CmpOp.Eq (Value.ref _) (Value.ref _)) _ _ _
  | show wpAny _ _ (call (Value.builtin "len") [Value.ref _]) _ _ _
  | show wpAny _ _ (call (Value.builtin "max") [Value.ref _]) _ _ _)); (walk_at "MY st1"); (walk_at "MY st0")))
theorem eq_nil {prog : Program} {w : World} {A : Around} {E : Value → Shared → Prop} {s : Shared} {a b : Addr} {xs : List Value} {Q : Value → Shared → Prop} (ha : s.heap.IsList a xs.toArray) (hb : s.heap.IsList b #[]) (hu : A.units + 64 < cLine) (h : Q (.bool xs.isEmpty) s) :
    wpAny (model prog w) A (compareOp .Eq (.ref a) (.ref b)) Q E s := by
  cases xs with
  | nil => exact ke_eq_ints (xs := []) (ys := []) (ns := []) (ms := []) ha hb .nil .nil hu (by rw [show decide (([] : List Int) = []) = ([] : List Value).isEmpty from rfl]; exact h)
  | cons x r =>
    refine PySem.SeqAt.eq_list_lengthsAt ha hb ?_ ?_ h
    · simp
    · exact Nat.lt_of_le_of_lt (Nat.le_add_right _ _) hu
theorem any_T (x : List Nat) : ∀ l : List (List Nat), ((l.map T).any (· == T x)) = l.contains x
  | [] => rfl
  | y :: r => by
    rw [List.map_cons, List.any_cons, any_T x r, List.contains_cons]
    congr 1
    rw [Bool.eq_iff_iff, beq_iff_eq, beq_iff_eq, T_eq]
    exact eq_comm
theorem add_listsW {prog : Program} {w : World} {A : Around} {E : Value → Shared → Prop} {s : Shared} {h₀ : Heap} {L : Addr} {m : Str → Option Value} {news : List (Addr × Obj)} {l b : Addr} {vs ws : List Value} {Q : Value → Shared → Prop} (F : Fr h₀ L s.heap m) (N : News h₀ L s.heap news) (hl : s.heap.IsList l vs.toArray) (hb : s.heap.IsList b ws.toArray)
    (hsz : vs.length + ws.length ≤ 1000) (h : ∀ D h', Fr h₀ L h' m → News h₀ L h' ((D, listOf (vs ++ ws).toArray 0) :: news) → (∀ p ∈ news, @LT.lt Nat _ p.1 D) → Q (.ref D) { s with heap := h' }) :
    wpAny (model prog w) A (binaryOp .Add (.ref l) (.ref b)) Q E s :=
  add_lists (hsz := by rw [PySem.sizeLine_eq]; omega) F N hl hb fun h' F' N' => h _ h' F' N' fun p hp => Heap.lt_size (N p hp).1
theorem widRows_len (ws : List (List Nat)) : ∀ (l : List (List Nat)) (rows : List (List (List Nat))) (k : Nat), (∀ row ∈ rows, row.length ≤ k) → (∀ row ∈ l.foldl (rowStep ws) rows, row.length ≤ k + l.length) ∧ (l.foldl (rowStep ws) rows).length ≤ rows.length * 2 ^ l.length
  | [], rows, k, h => ⟨h, by simp⟩
  | y :: r, rows, k, h => by
    have h1 : ∀ row ∈ rowStep ws rows y, row.length ≤ k + 1 := by
      intro row hr
      rcases List.mem_append.mp hr with hr | hr
      · exact Nat.le_succ_of_le (h row hr)
      · obtain ⟨row', hr', rfl⟩ := List.mem_map.mp hr
        rw [List.length_append, List.length_singleton]
        exact Nat.succ_le_succ (h row' (List.mem_filter.mp hr').1)
    have h2 : (rowStep ws rows y).length ≤ rows.length * 2 := by
      unfold rowStep
      rw [List.length_append, List.length_map]
      have := List.length_filter_le (fun row : List (List Nat) => (row.filter fun x => (bars ws y).contains x).isEmpty) rows
      omega
    obtain ⟨h3, h4⟩ := widRows_len ws r (rowStep ws rows y) (k + 1) h1
    refine ⟨fun row hr => ?_, Nat.le_trans h4 ?_⟩
    · have := h3 row hr
      rw [List.length_cons]
      omega
    · rw [List.length_cons, Nat.pow_succ, Nat.mul_comm (2 ^ r.length) 2, ← Nat.mul_assoc]
      exact Nat.mul_le_mul_right _ h2
theorem off1_mem {D : Addr} {l : List (Addr × Obj)} (h : LCg.Off1 D l) : ∀ p ∈ l, p.1 ≠ D := by
  induction l with
  | nil => intro p hp; cases hp
  | cons q r ih =>
    intro p hp
    rcases List.mem_cons.mp hp with rfl | hp
    · exact h.1
    · exact ih h.2 p hp
inductive WidJ (L' lw : Addr) (ws : List (List Nat)) (i : Nat) (m : Str → Option Value) (nw : List (Addr × Obj)) : Prop
  | mk (R : Addr) (vr : List Value) (n : Nat) (oC oD : Obj) (x y : Option Value) (ts : List (Addr × Obj)) (h0 : nw = (L' + 1 + 1, oC) :: (L' + 1, oD) :: ts) (h1 : rv m "words" lw) (h2 : rv m "rows" R) (h3 : oC.data = .cell x) (h4 : oD.data = .cell y) (h5 : (R, listOf vr.toArray n) ∈ ts) (h6 : RowsP (fun p o => (p, o) ∈ ts) vr (widRows ws (ws.take i))) (h7 : ∀ p ∈ ts, p.1 ≠ L' + 1 ∧ p.1 ≠ L' + 1 + 1) : WidJ L' lw ws i m nw
theorem wid_spec (w : World) (s : Shared) (lw : Addr) (vs : List Value) (ws : List (List Nat)) (hl : s.heap.IsList lw vs.toArray) (hi : TxtsAre vs ws) (hn : ws.length = 6) (h3 : ∀ x ∈ ws, x.length ≤ 3) : Spec w 286 [.ref lw] 8 160 s (fun v h' => ∃ (M : Nat) (t : Tok), v = .int (M : Nat) t ∧ IsWidest ws M) := by
  intro mean mg mb C A₀ base h₀ m Q E B F X Tp hd hu hret
  ((refine wpAny_call (enterC (by k_asm) (by k_asm) (by k_asm) (by k_asm) rfl rfl rfl (by k_is) (by k_is) (by k_room) (by walk_at "MY bind") rfl (by decide +kernel) ?_ rfl rfl rfl); k_whole))
  intro L' h' tk0 cells F0 N0 X0 B1 X1 T1
  obtain ⟨oc, od, hE, d0, d0'⟩ := CellsAre.two X0
  subst hE
  have d1 : oc.data = .cell none := d0
  have d2 : od.data = .cell none := d0'
  clear d0 d0' X0
  have N1 : News s.heap L' h' [(L' + 1 + 1, oc), (L' + 1, od)] := N0
  clear N0
  with_reducible refine cutL1 (At s s.heap L' (fun m nw => WidJ L' lw ws 0 m nw)) ?_ ?_
  · (repeat' (first | (( (with_reducible show wpAny _ _ (call (Value.ref 281) _ _) _ _ _); refine' Spec.use (scat_spec _ _ _ _ _ _ ?spx ?spy) ?spA ?spB ?spF ?spN ?spX ?spT ?spD ?spU ?_; walk_at "MY use"; (case spx => omega); (case spy => omega); intro v_c h_c tk_c hk_c F_c N_c e_c; subst e_c; (try dsimp only))) | (( (with_reducible show wpAny _ _ (call (Value.ref 119) _ _) _ _ _); refine' SpecK.use (conv_spec _ _ _ _ _ _ ?spx ?spl) ?spA ?spB ?spF ?spN ?spX ?spT ?spD ?spU ?_; walk_at "MY use"; (case spx => first | assumption | (rw [List.length_map]; omega) | omega); (case spl => assumption); intro v_c h_c tk_c hk_c F_c N_c e_c; subst e_c; (try dsimp only))) | (walk_at "MY one")))
    rename Fr s.heap L' _ _ => F2
    rename News s.heap L' _ _ => N2
    have fin : ∀ (h9 : Heap) (k9 : Nat) (m9 : Str → Option Value) (R c : Addr), Fr s.heap L' h9 m9 → News s.heap L' h9 [(R, listOf #[.ref c] 0), (c, listOf #[] 0), (L' + 1 + 1, oc), (L' + 1, od)] →
        rv m9 "words" lw → rv m9 "rows" R → @LT.lt Nat _ (L' + 1 + 1) c → @LT.lt Nat _ c R → Nxt (At s s.heap L' (fun m nw => WidJ L' lw ws 0 m nw)) .next { s with heap := h9, toks := k9 } := by
      intro h9 k9 m9 R c F9 N9 e1 e2 o1 o2
      refine Nxt.at [(L' + 1 + 1, oc), (L' + 1, od), (R, listOf #[.ref c] 0), (c, listOf #[] 0)] F9 (news_re N9 _ (by kcf_all)) ?_
      refine ⟨R, [.ref c], 0, oc, od, _, _, [(R, listOf #[.ref c] 0), (c, listOf #[] 0)], rfl, e1, e2, d1, d2, .head _, .cons c [] 0 [] (.tail _ (.head _)) .nil .nil, fun p hp => ?_⟩
      rcases List.mem_cons.mp hp with rfl | hp
      · exact ⟨Nat.ne_of_gt (Nat.lt_trans (Nat.lt_succ_self _) (Nat.lt_trans o1 o2)), Nat.ne_of_gt (Nat.lt_trans o1 o2)⟩
      · obtain rfl := List.mem_singleton.mp hp
        exact ⟨Nat.ne_of_gt (Nat.lt_trans (Nat.lt_succ_self _) o1), Nat.ne_of_gt o1⟩
    exact fin _ _ _ _ _ F2 N2 rfl rfl (by (first | assumption | exact And.left (by assumption) | exact And.left (And.right (by assumption)) | exact And.left (And.right (And.right (by assumption))) | exact And.left (And.right (And.right (And.right (by assumption)))) | exact And.left (And.right (And.right (And.right (And.right (by assumption))))) | exact And.left (And.right (And.right (And.right (And.right (And.right (by assumption)))))) | exact And.left (And.right (And.right (And.right (And.right (And.right (And.right (by assumption))))))) | exact And.left (And.right (And.right (And.right (And.right (And.right (And.right (And.right (by assumption)))))))) | exact And.left (And.right (And.right (And.right (And.right (And.right (And.right (And.right (And.right (by assumption))))))))) | exact And.right (by assumption) | exact And.right (And.right (by assumption)) | exact And.right (And.right (And.right (by assumption))) | exact And.right (And.right (And.right (And.right (by assumption)))) | exact And.right (And.right (And.right (And.right (And.right (by assumption))))) | exact And.right (And.right (And.right (And.right (And.right (And.right (by assumption)))))) | exact And.right (And.right (And.right (And.right (And.right (And.right (And.right (by assumption))))))) | exact And.right (And.right (And.right (And.right (And.right (And.right (And.right (And.right (by assumption)))))))))) (by (first | assumption | exact And.left (by assumption) | exact And.left (And.right (by assumption)) | exact And.left (And.right (And.right (by assumption))) | exact And.left (And.right (And.right (And.right (by assumption)))) | exact And.left (And.right (And.right (And.right (And.right (by assumption))))) | exact And.left (And.right (And.right (And.right (And.right (And.right (by assumption)))))) | exact And.left (And.right (And.right (And.right (And.right (And.right (And.right (by assumption))))))) | exact And.left (And.right (And.right (And.right (And.right (And.right (And.right (And.right (by assumption)))))))) | exact And.left (And.right (And.right (And.right (And.right (And.right (And.right (And.right (And.right (by assumption))))))))) | exact And.right (by assumption) | exact And.right (And.right (by assumption)) | exact And.right (And.right (And.right (by assumption))) | exact And.right (And.right (And.right (And.right (by assumption)))) | exact And.right (And.right (And.right (And.right (And.right (by assumption))))) | exact And.right (And.right (And.right (And.right (And.right (And.right (by assumption)))))) | exact And.right (And.right (And.right (And.right (And.right (And.right (And.right (by assumption))))))) | exact And.right (And.right (And.right (And.right (And.right (And.right (And.right (And.right (by assumption))))))))))
  clear N1 F0 d1 d2 oc od
  rintro s' ⟨h1, tk1, m1, nw1, rfl, F1, N1, R, vr, n, oC, oD, x, y, ts, rfl, hw, hr, c1, c2, hR, hrows, hts⟩
  have hlw : @LT.lt Nat _ lw L' := by
    obtain ⟨o, ho, _⟩ := hl
    exact Nat.lt_of_lt_of_le (Heap.lt_size ho) F1.above
  have hlL : lw ≠ L' := fun e => by
    obtain ⟨o, ho, _⟩ := hl
    rw [e, Heap.get?_none_of_le F1.above] at ho
    cases ho
  with_reducible refine cutS (At s s.heap L' (fun m nw => WidJ L' lw ws 6 m nw)) ?_ ?_
  · refine forX ?_
    (repeat' (first | (( (with_reducible show wpAny _ _ (call (Value.ref 281) _ _) _ _ _); refine' Spec.use (scat_spec _ _ _ _ _ _ ?spx ?spy) ?spA ?spB ?spF ?spN ?spX ?spT ?spD ?spU ?_; walk_at "MY use"; (case spx => omega); (case spy => omega); intro v_c h_c tk_c hk_c F_c N_c e_c; subst e_c; (try dsimp only))) | (( (with_reducible show wpAny _ _ (call (Value.ref 119) _ _) _ _ _); refine' SpecK.use (conv_spec _ _ _ _ _ _ ?spx ?spl) ?spA ?spB ?spF ?spN ?spX ?spT ?spD ?spU ?_; walk_at "MY use"; (case spx => first | assumption | (rw [List.length_map]; omega) | omega); (case spl => assumption); intro v_c h_c tk_c hk_c F_c N_c e_c; subst e_c; (try dsimp only))) | (walk_at "MY one")))
    rename Fr s.heap L' _ _ => F2
    rename News s.heap L' _ _ => N2
    refine' iterLX (l := lw) (vs := vs) (fun i m nw => WidJ L' lw ws i m nw) ?jh ?j1 hlL F2 N2 ?j5 ?_ ?_
    case jh => exact rfl
    case j1 => exact F2.lst hl
    case j5 => exact ⟨R, vr, n, oC, oD, x, y, ts, rfl, hw, hr, c1, c2, hR, hrows, hts⟩
    · clear F2 N2 hw hr c1 c2 hR hrows hts
      rintro I hIlt i v m nw h tk own hPv ⟨R, vr, n, oC, oD, x, y, ts, hnw, hw, hr, c1, c2, hR, hrows, hts⟩ off hown hIo F15 N15
      subst hnw
      obtain ⟨hi6, tv, hv⟩ := hi.get hPv
      subst hv
      obtain ⟨oI, hoI⟩ := hIo
      have F16 : Fr s.heap L' h m := F15
      have N16 : News s.heap L' h (((L' + 1 + 1, oC) :: (L' + 1, oD) :: ts) ++ own) := N15
      clear F15 N15
      have N17 : News s.heap L' h ((L' + 1, oD) :: ((L' + 1 + 1, oC) :: ts ++ own)) := news_re N16 _ (by walk_at "MY sub")
      have ltI : @LT.lt Nat _ (L' + 1 + 1) I := hIlt _ (.head _)
      have hownC : ∀ p ∈ own, p.1 ≠ L' + 1 ∧ p.1 ≠ L' + 1 + 1 := fun p hp => by
        rcases List.mem_cons.mp (hown p hp) with e | e
        · rw [e]; exact ⟨Nat.ne_of_gt (Nat.lt_trans (Nat.lt_succ_self _) ltI), Nat.ne_of_gt ltI⟩
        · rw [List.mem_singleton.mp e]; exact ⟨Nat.ne_of_lt (Nat.lt_succ_of_lt hlw), Nat.ne_of_lt (Nat.lt_succ_of_lt (Nat.lt_succ_of_lt hlw))⟩
      refine storeX_C F16 N17 rfl (.head fun z hz => ?_) c2 ?_
      · rcases List.mem_append.mp hz with hz | hz
        · rcases List.mem_cons.mp hz with rfl | hz
          · exact Nat.ne_of_gt (Nat.lt_succ_self _)
          · exact (hts z hz).1
        · exact (hownC z hz).1
      intro h18 oD' F18 N18 c2'
      clear N17 N16 F16 c2
      have wl : (ws[i]).length ≤ 3 := h3 _ (List.getElem_mem hi6)
      with_reducible refine cutL1 (At s s.heap L' (fun m nw => ExN5 fun oC' B nB ys ts' => AndN8 (nw = (L' + 1, oD') :: (L' + 1 + 1, oC') :: ((B, listOf ys.toArray nB) :: ts' ++ own)) (rv m "words" lw) (rv m "rows" R) (oC'.data = .cell (some (.ref B))) (TxtsAre ys (bars ws ws[i])) ((R, listOf vr.toArray n) ∈ ts') (RowsP (fun p o => (p, o) ∈ ts') vr (widRows ws (ws.take i))) ((∀ p ∈ (B, listOf ys.toArray nB) :: ts', (p.1 ≠ L' + 1 ∧ p.1 ≠ L' + 1 + 1) ∧ p.1 ≠ I)))) ?_ ?_
      · (repeat' (first | (( (with_reducible show wpAny _ _ (call (Value.ref 281) _ _) _ _ _); refine' Spec.use (scat_spec _ _ _ _ _ _ ?spx ?spy) ?spA ?spB ?spF ?spN ?spX ?spT ?spD ?spU ?_; walk_at "MY use"; (case spx => omega); (case spy => omega); intro v_c h_c tk_c hk_c F_c N_c e_c; subst e_c; (try dsimp only))) | (( (with_reducible show wpAny _ _ (call (Value.ref 119) _ _) _ _ _); refine' SpecK.use (conv_spec _ _ _ _ _ _ ?spx ?spl) ?spA ?spB ?spF ?spN ?spX ?spT ?spD ?spU ?_; walk_at "MY use"; (case spx => first | assumption | (rw [List.length_map]; omega) | omega); (case spl => assumption); intro v_c h_c tk_c hk_c F_c N_c e_c; subst e_c; (try dsimp only))) | (walk_at "MY one")))
        refine LCt.CompSrcT.base (by rfl) F18 N18 hl (by rw [List.size_toArray, hi.length, hn, sizeLine_eq]; omega) ?_
        intro g'
        obtain ⟨y0, hy0⟩ : ∃ y0, y0 = ws[i] := ⟨_, rfl⟩
        rw [← hy0] at c2' wl
        try rw [← hy0]
        refine compJT (fun j ys nw => nw = _ ∧ TxtsAre ys ((ws.take j).filter fun x => decide (scat x y0 0 = x.length) || decide (scat y0 x 0 = y0.length))) (fun _ _ _ _ => .inl hl) ⟨rfl, .nil⟩ ?_ ?_
        · rintro j v I2 oI2 C oC2 D m₂ ys nw h tk E' hj hv ⟨rfl, hys⟩ hC hxx F2 N2 off2 ne2
          obtain ⟨hj6, tj, hvj⟩ := hi.get (by simpa using hv)
          subst hvj
          have wj : (ws[j]).length ≤ 3 := h3 _ (List.getElem_mem hj6)
          have hstep := filter_take_succ (fun x => decide (scat x y0 0 = x.length) || decide (scat y0 x 0 = y0.length)) ws j [] hj6
          rw [show ws.getD j [] = ws[j] by simp [List.getD, hj6]] at hstep
          generalize ws[j] = x0 at wj hstep hxx
          (repeat' (first | (( (with_reducible show wpAny _ _ (call (Value.ref 281) _ _) _ _ _); refine' Spec.use (scat_spec _ _ _ _ _ _ ?spx ?spy) ?spA ?spB ?spF ?spN ?spX ?spT ?spD ?spU ?_; walk_at "MY use"; (case spx => omega); (case spy => omega); intro v_c h_c tk_c hk_c F_c N_c e_c; subst e_c; (try dsimp only))) | (( (with_reducible show wpAny _ _ (call (Value.ref 119) _ _) _ _ _); refine' SpecK.use (conv_spec _ _ _ _ _ _ ?spx ?spl) ?spA ?spB ?spF ?spN ?spX ?spT ?spD ?spU ?_; walk_at "MY use"; (case spx => first | assumption | (rw [List.length_map]; omega) | omega); (case spl => assumption); intro v_c h_c tk_c hk_c F_c N_c e_c; subst e_c; (try dsimp only))) | (walk_at "MY one")))
          · rename (scat x0 y0 0 = x0.length) => e1
            rw [if_pos (by simp [e1])] at hstep
            (refine TurnC.end _ (by assumption) (by assumption) (by kcf_all) (by assumption) ?_)
            exact ⟨rfl, by rw [hstep]; exact hys.snoc _ _⟩
          · rename (scat y0 x0 0 = y0.length) => e1
            rw [if_pos (by simp [e1])] at hstep
            (refine TurnC.end _ (by assumption) (by assumption) (by kcf_all) (by assumption) ?_)
            exact ⟨rfl, by rw [hstep]; exact hys.snoc _ _⟩
          · rw [if_neg (by simp only [Bool.or_eq_true, decide_eq_true_eq, not_or]; exact ⟨by assumption, by assumption⟩), List.append_nil] at hstep
            (refine TurnC.end _ (by assumption) (by assumption) (by kcf_all) (by assumption) ?_)
            exact ⟨rfl, by rw [hstep]; exact hys⟩
        rintro ys nw ⟨rfl, hys⟩
        rw [List.size_toArray, hi.length, List.take_length] at hys
        unfold LCg.FinE
        intro D2 h19 tk19 F19 N19 off1
        (repeat' (first | (( (with_reducible show wpAny _ _ (call (Value.ref 281) _ _) _ _ _); refine' Spec.use (scat_spec _ _ _ _ _ _ ?spx ?spy) ?spA ?spB ?spF ?spN ?spX ?spT ?spD ?spU ?_; walk_at "MY use"; (case spx => omega); (case spy => omega); intro v_c h_c tk_c hk_c F_c N_c e_c; subst e_c; (try dsimp only))) | (( (with_reducible show wpAny _ _ (call (Value.ref 119) _ _) _ _ _); refine' SpecK.use (conv_spec _ _ _ _ _ _ ?spx ?spl) ?spA ?spB ?spF ?spN ?spX ?spT ?spD ?spU ?_; walk_at "MY use"; (case spx => first | assumption | (rw [List.length_map]; omega) | omega); (case spl => assumption); intro v_c h_c tk_c hk_c F_c N_c e_c; subst e_c; (try dsimp only))) | (walk_at "MY one")))
        rename Fr s.heap L' _ _ => F20
        rename News s.heap L' _ _ => N20
        have N21 : News s.heap L' _ ((L' + 1 + 1, oC) :: (D2, LCg.lst ys) :: (L' + 1, oD') :: (ts ++ own)) := news_re N20 _ (by walk_at "MY sub")
        refine storeX_C F20 N21 rfl (.head fun z hz => ?_) c1 ?_
        · rcases List.mem_cons.mp hz with rfl | hz
          · exact Ne.symm (off1_mem off1 _ (.tail _ (.head _)))
          rcases List.mem_cons.mp hz with rfl | hz
          · exact Nat.ne_of_lt (Nat.lt_succ_self _)
          rcases List.mem_append.mp hz with hz | hz
          · exact (hts z hz).2
          · exact (hownC z hz).2
        intro h22 oC' F22 N22 c1'
        (repeat' (first | (( (with_reducible show wpAny _ _ (call (Value.ref 281) _ _) _ _ _); refine' Spec.use (scat_spec _ _ _ _ _ _ ?spx ?spy) ?spA ?spB ?spF ?spN ?spX ?spT ?spD ?spU ?_; walk_at "MY use"; (case spx => omega); (case spy => omega); intro v_c h_c tk_c hk_c F_c N_c e_c; subst e_c; (try dsimp only))) | (( (with_reducible show wpAny _ _ (call (Value.ref 119) _ _) _ _ _); refine' SpecK.use (conv_spec _ _ _ _ _ _ ?spx ?spl) ?spA ?spB ?spF ?spN ?spX ?spT ?spD ?spU ?_; walk_at "MY use"; (case spx => first | assumption | (rw [List.length_map]; omega) | omega); (case spl => assumption); intro v_c h_c tk_c hk_c F_c N_c e_c; subst e_c; (try dsimp only))) | (walk_at "MY one")))
        refine Nxt.at _ F22 (news_re N22 _ ?_) ⟨oC', D2, ys.length, ys, ts, rfl, hw, hr, c1', by rw [← hy0]; exact hys, hR, hrows, fun p hp => ?_⟩
        · walk_at "MY sub"
        · rcases List.mem_cons.mp hp with rfl | hp
          · exact ⟨⟨Ne.symm (off1_mem off1 _ (.head _)), Ne.symm (off1_mem off1 _ (.tail _ (.head _)))⟩, Ne.symm (off1_mem off1 (I, oI) (.tail _ (List.mem_append_right _ hoI)))⟩
          · exact ⟨hts p hp, off p (.tail _ (.tail _ hp))⟩
      rintro s' ⟨h23, tk23, m23, nw23, rfl, F23, N23, oC', B, nB, ys, ts', rfl, hw', hr', c1', hys, hR', hrows', hts'⟩
      obtain ⟨y0, hy0⟩ : ∃ y0, y0 = ws[i] := ⟨_, rfl⟩
      rw [← hy0] at c2' wl hys
      obtain ⟨rows0, hrows0⟩ : ∃ rows0, rows0 = widRows ws (ws.take i) := ⟨_, rfl⟩
      rw [← hrows0] at hrows'
      have hstepR : widRows ws (ws.take (i + 1)) = rowStep ws rows0 y0 := by
        rw [hrows0, hy0, List.take_add_one, List.getElem?_eq_getElem hi6]
        exact List.foldl_append ..
      have hwl := widRows_len ws (ws.take i) [[]] 0 (by intro row hr; obtain rfl := List.mem_singleton.mp hr; exact Nat.le_refl 0)
      have hti : (ws.take i).length ≤ 6 := Nat.le_trans (List.length_take_le' ..) (by omega)
      have hp6 : 2 ^ (ws.take i).length ≤ 64 := Nat.pow_le_pow_right (by decide) hti
      have hr64 : rows0.length ≤ 64 := by
        rw [hrows0]
        have h9 := hwl.2
        rw [List.length_singleton, Nat.one_mul] at h9
        exact Nat.le_trans h9 hp6
      have hr6 : ∀ row ∈ rows0, row.length ≤ 6 := fun row hr => by
        rw [hrows0] at hr
        have := hwl.1 row hr
        omega
      clear N18 F18
      (repeat' (first | (( (with_reducible show wpAny _ _ (call (Value.ref 281) _ _) _ _ _); refine' Spec.use (scat_spec _ _ _ _ _ _ ?spx ?spy) ?spA ?spB ?spF ?spN ?spX ?spT ?spD ?spU ?_; walk_at "MY use"; (case spx => omega); (case spy => omega); intro v_c h_c tk_c hk_c F_c N_c e_c; subst e_c; (try dsimp only))) | (( (with_reducible show wpAny _ _ (call (Value.ref 119) _ _) _ _ _); refine' SpecK.use (conv_spec _ _ _ _ _ _ ?spx ?spl) ?spA ?spB ?spF ?spN ?spX ?spT ?spD ?spU ?_; walk_at "MY use"; (case spx => first | assumption | (rw [List.length_map]; omega) | omega); (case spl => assumption); intro v_c h_c tk_c hk_c F_c N_c e_c; subst e_c; (try dsimp only))) | (walk_at "MY one")))
      rename Fr s.heap L' _ _ => F24
      rename News s.heap L' _ _ => N24
      refine LCt.CompSrcT.ledger (ax := R) (its := vr.toArray) (k := n) (by rfl) F24 N24 (.tail _ (.tail _ (List.mem_append_left _ (.tail _ hR')))) ?_ ?_
      · (rw [PySem.sizeLine_eq, List.size_toArray, hrows'.length]; omega)
      intro g'
      refine compJT (fun j us nw => ∃ ts2, nw = (L' + 1, oD') :: (L' + 1 + 1, oC') :: (ts2 ++ own) ∧ (B, listOf ys.toArray nB) ∈ ts2 ∧ (R, listOf vr.toArray n) ∈ ts2 ∧ RowsP (fun p o => (p, o) ∈ ts2) vr rows0 ∧
        RowsP (fun p o => (p, o) ∈ ts2) us (((rows0.take j).filter fun row => (row.filter fun x => (bars ws y0).contains x).isEmpty).map (· ++ [y0])) ∧ (∀ p ∈ ts2, (p.1 ≠ L' + 1 ∧ p.1 ≠ L' + 1 + 1) ∧ p.1 ≠ I)) ?_ ⟨_, rfl, .head _, .tail _ hR', hrows'.mono fun p o hp => .tail _ hp, .nil, hts'⟩ ?_ ?_
      · rintro j us nw ⟨ts2, rfl, h1, h2, -⟩
        exact .inr ⟨_, .tail _ (.tail _ (List.mem_append_left _ h2)), rfl, _, rfl⟩
      · rintro j v I2 oI2 C oC2 D m₂ us nw h tk E' hj hv ⟨ts2, rfl, hB2, hR2, hro2, hus2, hts2⟩ hC hxx F2 N2 off2 ne2
        obtain ⟨hj2, c, cs, nc, hvc, hcm, hcs⟩ := hro2.at (by simpa using hv)
        subst hvc
        have hst3 := filter_take_succ (fun row : List (List Nat) => (row.filter fun x => (bars ws y0).contains x).isEmpty) rows0 j [] hj2
        rw [show rows0.getD j [] = rows0[j] by simp [List.getD, hj2]] at hst3
        have hrow6 := hr6 _ (List.getElem_mem hj2)
        generalize rows0[j] = row0 at hcs hst3 hrow6
        (repeat' (first | (( (with_reducible show wpAny _ _ (call (Value.ref 281) _ _) _ _ _); refine' Spec.use (scat_spec _ _ _ _ _ _ ?spx ?spy) ?spA ?spB ?spF ?spN ?spX ?spT ?spD ?spU ?_; walk_at "MY use"; (case spx => omega); (case spy => omega); intro v_c h_c tk_c hk_c F_c N_c e_c; subst e_c; (try dsimp only))) | (( (with_reducible show wpAny _ _ (call (Value.ref 119) _ _) _ _ _); refine' SpecK.use (conv_spec _ _ _ _ _ _ ?spx ?spl) ?spA ?spB ?spF ?spN ?spX ?spT ?spD ?spU ?_; walk_at "MY use"; (case spx => first | assumption | (rw [List.length_map]; omega) | omega); (case spl => assumption); intro v_c h_c tk_c hk_c F_c N_c e_c; subst e_c; (try dsimp only))) | (walk_at "MY one")))
        rename Fr s.heap L' _ _ => F25
        rename News s.heap L' _ _ => N25
        have hBs := hys.strs
        refine LCt.CompSrcT.ledger (ax := c) (its := cs.toArray) (k := nc) (by rfl) F25 N25 (.tail _ (.tail _ (.tail _ (.tail _ (.tail _ (List.mem_append_left _ hcm)))))) ?_ ?_
        · (rw [PySem.sizeLine_eq, List.size_toArray, hcs.length]; omega)
        intro g2
        refine compJT (fun j us nw => nw = _ ∧ TxtsAre us ((row0.take j).filter fun x => (bars ws y0).contains x)) ?_ ⟨rfl, .nil⟩ ?_ ?_
        · rintro j us nw ⟨rfl, -⟩
          exact .inr ⟨_, .tail _ (.tail _ (.tail _ (.tail _ (.tail _ (List.mem_append_left _ hcm))))), rfl, _, rfl⟩
        · rintro j4 v4 I4 oI4 C4 oC4 D4 m4 us4 nw4 h4 tk4 E4 hj4 hv4 ⟨rfl, hus4⟩ hC4 hxx4 F4 N4 off4 ne4
          obtain ⟨hj5, t5, hv5⟩ := hcs.get (by simpa using hv4)
          subst hv5
          have hst5 := filter_take_succ (fun x : List Nat => (bars ws y0).contains x) row0 j4 [] hj5
          rw [show row0.getD j4 [] = row0[j4] by simp [List.getD, hj5]] at hst5
          generalize row0[j4] = x5 at hst5 hxx4
          have hBm : (B, listOf ys.toArray nB) ∈ (I4, oI4) :: (C4, oC4) :: (D4, LCg.lst us4) :: (I2, oI2) :: (C, oC2) :: (D, LCg.lst us) :: (L' + 1, oD') :: (L' + 1 + 1, oC') :: (ts2 ++ own) := by simp [hB2]
          (repeat' (first | (( (with_reducible show wpAny _ _ (call (Value.ref 281) _ _) _ _ _); refine' Spec.use (scat_spec _ _ _ _ _ _ ?spx ?spy) ?spA ?spB ?spF ?spN ?spX ?spT ?spD ?spU ?_; walk_at "MY use"; (case spx => omega); (case spy => omega); intro v_c h_c tk_c hk_c F_c N_c e_c; subst e_c; (try dsimp only))) | (( (with_reducible show wpAny _ _ (call (Value.ref 119) _ _) _ _ _); refine' SpecK.use (conv_spec _ _ _ _ _ _ ?spx ?spl) ?spA ?spB ?spF ?spN ?spX ?spT ?spD ?spU ?_; walk_at "MY use"; (case spx => first | assumption | (rw [List.length_map]; omega) | omega); (case spl => assumption); intro v_c h_c tk_c hk_c F_c N_c e_c; subst e_c; (try dsimp only))) | (walk_at "MY one")))
          · rename (_ = true) => e1
            rw [any_T] at e1
            rw [if_pos e1] at hst5
            (refine TurnC.end _ (by assumption) (by assumption) (by kcf_all) (by assumption) ?_)
            exact ⟨rfl, by rw [hst5]; exact hus4.snoc _ _⟩
          · rename (_ = false) => e1
            rw [any_T] at e1
            rw [if_neg (by rw [e1]; exact Bool.false_ne_true), List.append_nil] at hst5
            (refine TurnC.end _ (by assumption) (by assumption) (by kcf_all) (by assumption) ?_)
            exact ⟨rfl, by rw [hst5]; exact hus4⟩
        rintro us4 nw4 ⟨rfl, hus4⟩
        rw [List.size_toArray, hcs.length, List.take_length] at hus4
        unfold LCg.FinE
        intro D5 h26 tk26 F26 N26 off5
        have hem : us4.isEmpty = (row0.filter fun x => (bars ws y0).contains x).isEmpty := by
          rw [Bool.eq_iff_iff, List.isEmpty_iff_length_eq_zero, List.isEmpty_iff_length_eq_zero, hus4.length]
        (repeat' (first | (( (with_reducible show wpAny _ _ (call (Value.ref 281) _ _) _ _ _); refine' Spec.use (scat_spec _ _ _ _ _ _ ?spx ?spy) ?spA ?spB ?spF ?spN ?spX ?spT ?spD ?spU ?_; walk_at "MY use"; (case spx => omega); (case spy => omega); intro v_c h_c tk_c hk_c F_c N_c e_c; subst e_c; (try dsimp only))) | (( (with_reducible show wpAny _ _ (call (Value.ref 119) _ _) _ _ _); refine' SpecK.use (conv_spec _ _ _ _ _ _ ?spx ?spl) ?spA ?spB ?spF ?spN ?spX ?spT ?spD ?spU ?_; walk_at "MY use"; (case spx => first | assumption | (rw [List.length_map]; omega) | omega); (case spl => assumption); intro v_c h_c tk_c hk_c F_c N_c e_c; subst e_c; (try dsimp only))) | (walk_at "MY one")))
        rename Fr s.heap L' _ _ => F27
        rename News s.heap L' _ _ => N27
        refine eq_nil (xs := us4) (News.isList N27 (.tail _ (.head _))) (News.isList N27 (.head _)) ?_ ?_
        · (try dsimp only [Clr.top, ktrTop, Around.deeper]); omega
        rw [hem]
        (repeat' (first | (( (with_reducible show wpAny _ _ (call (Value.ref 281) _ _) _ _ _); refine' Spec.use (scat_spec _ _ _ _ _ _ ?spx ?spy) ?spA ?spB ?spF ?spN ?spX ?spT ?spD ?spU ?_; walk_at "MY use"; (case spx => omega); (case spy => omega); intro v_c h_c tk_c hk_c F_c N_c e_c; subst e_c; (try dsimp only))) | (( (with_reducible show wpAny _ _ (call (Value.ref 119) _ _) _ _ _); refine' SpecK.use (conv_spec _ _ _ _ _ _ ?spx ?spl) ?spA ?spB ?spF ?spN ?spX ?spT ?spD ?spU ?_; walk_at "MY use"; (case spx => first | assumption | (rw [List.length_map]; omega) | omega); (case spl => assumption); intro v_c h_c tk_c hk_c F_c N_c e_c; subst e_c; (try dsimp only))) | (walk_at "MY one")))
        · rename (_ = true) => e1
          rw [if_pos e1] at hst3
          rename Fr s.heap L' _ _ => F28
          rename News s.heap L' _ _ => N28
          refine add_listsW (vs := cs) (ws := [_]) F28 N28 (News.isList N28 (.tail _ (.tail _ (.tail _ (.tail _ (.tail _ (.tail _ (.tail _ (.tail _ (List.mem_append_left _ hcm)))))))))) (News.isList N28 (.head _)) ?_ ?_
          · (rw [hcs.length, List.length_singleton]; omega)
          intro st h29 F29 N29 ltS
          refine TurnC.end ((L' + 1, oD') :: (L' + 1 + 1, oC') :: (((st, _) :: ts2) ++ own)) F29 N29 ?_ ⟨off2.1, off2.2.1, ⟨?_, ?_, ?_⟩, off2.2.2⟩ ⟨(st, listOf (cs ++ [Value.str (T y0) tv]).toArray 0) :: ts2, rfl, .tail _ hB2, .tail _ hR2, hro2.mono fun p o hp => .tail _ hp, ?_, ?_⟩
          · walk_at "MY sub"
          · exact Nat.ne_of_gt (ltS (I2, oI2) (by simp))
          · exact Nat.ne_of_gt (ltS (C, oC2) (by simp))
          · exact Nat.ne_of_gt (ltS (D, LCg.lst us) (by simp))
          · rw [hst3, List.map_append]
            exact (hus2.mono fun p o hp => .tail _ hp).append (.cons st _ _ _ (.head _) (hcs.snoc _ _) .nil)
          · intro p hp
            rcases List.mem_cons.mp hp with rfl | hp
            · exact ⟨⟨Nat.ne_of_gt (ltS (L' + 1, oD') (by simp)), Nat.ne_of_gt (ltS (L' + 1 + 1, oC') (by simp))⟩, Nat.ne_of_gt (ltS (I, oI) (by simp [hoI]))⟩
            · exact hts2 p hp
        · rename (_ = false) => e1
          rw [if_neg (by rw [e1]; exact Bool.false_ne_true), List.append_nil] at hst3
          refine TurnC.end ((L' + 1, oD') :: (L' + 1 + 1, oC') :: (ts2 ++ own)) F27 N27 (by walk_at "MY sub") off2 ⟨ts2, rfl, hB2, hR2, hro2, by rw [hst3]; exact hus2, hts2⟩
      · rintro us nw ⟨ts2, rfl, hB2, hR2, hro2, hus2, hts2⟩
        rw [List.size_toArray, hrows'.length, List.take_length] at hus2
        unfold LCg.FinE
        intro D6 h30 tk30 F30 N30 off6
        (repeat' (first | (( (with_reducible show wpAny _ _ (call (Value.ref 281) _ _) _ _ _); refine' Spec.use (scat_spec _ _ _ _ _ _ ?spx ?spy) ?spA ?spB ?spF ?spN ?spX ?spT ?spD ?spU ?_; walk_at "MY use"; (case spx => omega); (case spy => omega); intro v_c h_c tk_c hk_c F_c N_c e_c; subst e_c; (try dsimp only))) | (( (with_reducible show wpAny _ _ (call (Value.ref 119) _ _) _ _ _); refine' SpecK.use (conv_spec _ _ _ _ _ _ ?spx ?spl) ?spA ?spB ?spF ?spN ?spX ?spT ?spD ?spU ?_; walk_at "MY use"; (case spx => first | assumption | (rw [List.length_map]; omega) | omega); (case spl => assumption); intro v_c h_c tk_c hk_c F_c N_c e_c; subst e_c; (try dsimp only))) | (walk_at "MY one")))
        rename Fr s.heap L' _ _ => F31
        rename News s.heap L' _ _ => N31
        refine add_listsW (vs := vr) (ws := us) F31 N31 (News.isList N31 (.tail _ (.tail _ (.tail _ (List.mem_append_left _ hR2))))) (News.isList N31 (.head _)) ?_ ?_
        · have h9 := List.length_filter_le (fun row : List (List Nat) => (row.filter fun x => (bars ws y0).contains x).isEmpty) rows0
          rw [hrows'.length, hus2.length, List.length_map]
          omega
        intro R' h32 F32 N32 ltR
        (repeat' (first | (( (with_reducible show wpAny _ _ (call (Value.ref 281) _ _) _ _ _); refine' Spec.use (scat_spec _ _ _ _ _ _ ?spx ?spy) ?spA ?spB ?spF ?spN ?spX ?spT ?spD ?spU ?_; walk_at "MY use"; (case spx => omega); (case spy => omega); intro v_c h_c tk_c hk_c F_c N_c e_c; subst e_c; (try dsimp only))) | (( (with_reducible show wpAny _ _ (call (Value.ref 119) _ _) _ _ _); refine' SpecK.use (conv_spec _ _ _ _ _ _ ?spx ?spl) ?spA ?spB ?spF ?spN ?spX ?spT ?spD ?spU ?_; walk_at "MY use"; (case spx => first | assumption | (rw [List.length_map]; omega) | omega); (case spl => assumption); intro v_c h_c tk_c hk_c F_c N_c e_c; subst e_c; (try dsimp only))) | (walk_at "MY one")))
        rename Fr s.heap L' _ _ => F33
        rename News s.heap L' _ _ => N33
        refine TurnEnd.next ((L' + 1 + 1, oC') :: (L' + 1, oD') :: (R', listOf (vr ++ us).toArray 0) :: ts2) F33 (news_re N33 _ ?_) ?_ ⟨R', vr ++ us, 0, oC', oD', _, _, (R', listOf (vr ++ us).toArray 0) :: ts2, rfl, hw', rfl, c1', c2', .head _, ?_, ?_⟩
        · walk_at "MY sub"
        · intro p hp
          rcases List.mem_cons.mp hp with rfl | hp
          · exact off (L' + 1 + 1, oC) (.head _)
          rcases List.mem_cons.mp hp with rfl | hp
          · exact off (L' + 1, oD) (.tail _ (.head _))
          rcases List.mem_cons.mp hp with rfl | hp
          · exact Nat.ne_of_gt (ltR (I, oI) (by simp [hoI]))
          · exact (hts2 p hp).2
        · rw [hstepR]
          exact (hro2.mono fun p o hp => .tail _ hp).append (hus2.mono fun p o hp => .tail _ hp)
        · intro p hp
          rcases List.mem_cons.mp hp with rfl | hp
          · exact ⟨Nat.ne_of_gt (ltR (L' + 1, oD') (by simp)), Nat.ne_of_gt (ltR (L' + 1 + 1, oC') (by simp))⟩
          · exact (hts2 p hp).1
    · intro m nw h tk hJ F3 N3
      rw [hi.length, hn] at hJ
      (repeat' (first | (( (with_reducible show wpAny _ _ (call (Value.ref 281) _ _) _ _ _); refine' Spec.use (scat_spec _ _ _ _ _ _ ?spx ?spy) ?spA ?spB ?spF ?spN ?spX ?spT ?spD ?spU ?_; walk_at "MY use"; (case spx => omega); (case spy => omega); intro v_c h_c tk_c hk_c F_c N_c e_c; subst e_c; (try dsimp only))) | (( (with_reducible show wpAny _ _ (call (Value.ref 119) _ _) _ _ _); refine' SpecK.use (conv_spec _ _ _ _ _ _ ?spx ?spl) ?spA ?spB ?spF ?spN ?spX ?spT ?spD ?spU ?_; walk_at "MY use"; (case spx => first | assumption | (rw [List.length_map]; omega) | omega); (case spl => assumption); intro v_c h_c tk_c hk_c F_c N_c e_c; subst e_c; (try dsimp only))) | (walk_at "MY one")))
      exact Nxt.at _ F3 N3 hJ
  rintro s' ⟨h1, tk1, m1, nw1, rfl, F1, N1, R, vr, n, oC, oD, x, y, ts, rfl, hw, hr, c1, c2, hR, hrows, hts⟩
  rw [List.take_of_length_le (by omega)] at hrows
  have hwl := widRows_len ws ws [[]] 0 (by intro row hr; obtain rfl := List.mem_singleton.mp hr; exact Nat.le_refl 0)
  have hp6 : 2 ^ ws.length ≤ 64 := by rw [hn]; decide
  have hr64 : (widRows ws ws).length ≤ 64 := by
    have h9 := hwl.2
    rw [List.length_singleton, Nat.one_mul] at h9
    exact Nat.le_trans h9 hp6
  have hr6 : ∀ row ∈ widRows ws ws, row.length ≤ 6 := fun row hr => by
    have := hwl.1 row hr
    omega
  have hpos : 0 < (widRows ws ws).length := by
    have key : ∀ (l : List (List Nat)) (rows : List (List (List Nat))), 0 < rows.length → 0 < (l.foldl (rowStep ws) rows).length := by
      intro l
      induction l with
      | nil => exact fun rows h => h
      | cons y r ih =>
        intro rows h
        refine ih _ ?_
        unfold rowStep
        rw [List.length_append]
        omega
    exact key ws [[]] (by decide)
  obtain ⟨rows0, hrows0⟩ : ∃ rows0, rows0 = widRows ws ws := ⟨_, rfl⟩
  rw [← hrows0] at hrows hr6 hr64 hpos
  (repeat' (first | (( (with_reducible show wpAny _ _ (call (Value.ref 281) _ _) _ _ _); refine' Spec.use (scat_spec _ _ _ _ _ _ ?spx ?spy) ?spA ?spB ?spF ?spN ?spX ?spT ?spD ?spU ?_; walk_at "MY use"; (case spx => omega); (case spy => omega); intro v_c h_c tk_c hk_c F_c N_c e_c; subst e_c; (try dsimp only))) | (( (with_reducible show wpAny _ _ (call (Value.ref 119) _ _) _ _ _); refine' SpecK.use (conv_spec _ _ _ _ _ _ ?spx ?spl) ?spA ?spB ?spF ?spN ?spX ?spT ?spD ?spU ?_; walk_at "MY use"; (case spx => first | assumption | (rw [List.length_map]; omega) | omega); (case spl => assumption); intro v_c h_c tk_c hk_c F_c N_c e_c; subst e_c; (try dsimp only))) | (walk_at "MY one")))
  rename Fr s.heap L' _ _ => F2
  rename News s.heap L' _ _ => N2
  refine LCg.CompSrc.ledger (ax := R) (its := vr.toArray) (k := n) (by rfl) F2 N2 (.tail _ (.tail _ hR)) ?_ ?_
  · (rw [PySem.sizeLine_eq, List.size_toArray, hrows.length]; omega)
  intro g'
  refine compJ (fun i ys nw => nw = _ ∧ IntsAre ys ((rows0.take i).map fun row => (row.length : Int))) ?_ ⟨rfl, .nil⟩ ?_ ?_
  · rintro i ys nw ⟨rfl, -⟩
    exact .inr ⟨_, .tail _ (.tail _ hR), rfl, _, rfl⟩
  · rintro i v I oI C oC9 D m₂ ys nw h tk E' hi9 hv ⟨rfl, hys⟩ hC hxx F3 N3 off ne
    obtain ⟨hj2, c, cs, nc, hvc, hcm, hcs⟩ := hrows.at (by simpa using hv)
    subst hvc
    have hrow6 := hr6 _ (List.getElem_mem hj2)
    have hst3 : (rows0.take (i + 1)).map (fun row => (row.length : Int)) = (rows0.take i).map (fun row => (row.length : Int)) ++ [((rows0[i]).length : Int)] := by
      rw [List.take_add_one, List.getElem?_eq_getElem hj2, List.map_append]
      rfl
    generalize rows0[i] = row0 at hcs hst3 hrow6
    (repeat' (first | (( (with_reducible show wpAny _ _ (call (Value.ref 281) _ _) _ _ _); refine' Spec.use (scat_spec _ _ _ _ _ _ ?spx ?spy) ?spA ?spB ?spF ?spN ?spX ?spT ?spD ?spU ?_; walk_at "MY use"; (case spx => omega); (case spy => omega); intro v_c h_c tk_c hk_c F_c N_c e_c; subst e_c; (try dsimp only))) | (( (with_reducible show wpAny _ _ (call (Value.ref 119) _ _) _ _ _); refine' SpecK.use (conv_spec _ _ _ _ _ _ ?spx ?spl) ?spA ?spB ?spF ?spN ?spX ?spT ?spD ?spU ?_; walk_at "MY use"; (case spx => first | assumption | (rw [List.length_map]; omega) | omega); (case spl => assumption); intro v_c h_c tk_c hk_c F_c N_c e_c; subst e_c; (try dsimp only))) | (walk_at "MY one")))
    rename Fr s.heap L' _ _ => F4
    rename News s.heap L' _ _ => N4
    refine len_list (items := cs.toArray) (News.isList N4 (.tail _ (.tail _ (.tail _ (.tail _ (.tail _ hcm)))))) ?_ ?_
    · (rw [List.size_toArray, hcs.length]; omega)
    rw [List.size_toArray, hcs.length]
    (refine TurnC.end _ (by assumption) (by assumption) (by kcf_all) (by assumption) ?_)
    exact ⟨rfl, by rw [hst3]; exact hys.append (.cons _ _ .nil)⟩
  rintro ys nw ⟨rfl, hys⟩
  rw [List.size_toArray, hrows.length, List.take_length] at hys
  unfold LCg.FinE
  intro D h3 tk3 F3 N3 _
  (repeat' (first | (( (with_reducible show wpAny _ _ (call (Value.ref 281) _ _) _ _ _); refine' Spec.use (scat_spec _ _ _ _ _ _ ?spx ?spy) ?spA ?spB ?spF ?spN ?spX ?spT ?spD ?spU ?_; walk_at "MY use"; (case spx => omega); (case spy => omega); intro v_c h_c tk_c hk_c F_c N_c e_c; subst e_c; (try dsimp only))) | (( (with_reducible show wpAny _ _ (call (Value.ref 119) _ _) _ _ _); refine' SpecK.use (conv_spec _ _ _ _ _ _ ?spx ?spl) ?spA ?spB ?spF ?spN ?spX ?spT ?spD ?spU ?_; walk_at "MY use"; (case spx => first | assumption | (rw [List.length_map]; omega) | omega); (case spl => assumption); intro v_c h_c tk_c hk_c F_c N_c e_c; subst e_c; (try dsimp only))) | (walk_at "MY one")))
  rename Fr s.heap L' _ _ => F4
  rename News s.heap L' _ _ => N4
  refine max_list_N (by rfl) F4 N4 (News.isList N4 (.head _)) hys (by rw [List.length_map]; exact hpos) ?_
  intro h5 M t5 tk5 F5 N5 hM1 hM2
  obtain ⟨row, hrm, rfl⟩ := List.mem_map.mp hM1
  (repeat' (first | (( (with_reducible show wpAny _ _ (call (Value.ref 281) _ _) _ _ _); refine' Spec.use (scat_spec _ _ _ _ _ _ ?spx ?spy) ?spA ?spB ?spF ?spN ?spX ?spT ?spD ?spU ?_; walk_at "MY use"; (case spx => omega); (case spy => omega); intro v_c h_c tk_c hk_c F_c N_c e_c; subst e_c; (try dsimp only))) | (( (with_reducible show wpAny _ _ (call (Value.ref 119) _ _) _ _ _); refine' SpecK.use (conv_spec _ _ _ _ _ _ ?spx ?spl) ?spA ?spB ?spF ?spN ?spX ?spT ?spD ?spU ?_; walk_at "MY use"; (case spx => first | assumption | (rw [List.length_map]; omega) | omega); (case spl => assumption); intro v_c h_c tk_c hk_c F_c N_c e_c; subst e_c; (try dsimp only))) | (walk_at "MY one")))
  refine hret _ _ _ F5.keep ⟨row.length, t5, rfl, ⟨row, hrows0 ▸ hrm, rfl⟩, fun row' hr' => ?_⟩
  exact Int.ofNat_le.mp (hM2 _ (List.mem_map.mpr ⟨row', hrows0 ▸ hr', rfl⟩))

end
section
open PySem.Sre in
theorem adm_none {m : Sre.M} (h : ∀ s, s < m.lim → ∀ seen, ∃ seen', Sre.inSet m.code (m.text.getD s 0) m.code.size 5 true seen = .ok (false, seen')) : ∀ (f s : Nat) (seen : Sre.Seen), ∃ seen', Sre.M.admitted m f s seen = .ok (none, seen')
  | 0, s, seen => ⟨seen, rfl⟩
  | f + 1, s, seen => by
    unfold Sre.M.admitted
    by_cases hs : s ≥ m.lim
    · exact ⟨seen, by rw [if_pos hs]⟩
    · rw [if_neg hs]
      obtain ⟨s1, e⟩ := h s (by omega) seen
      rw [e]
      exact adm_none h f (s + 1) s1
noncomputable def codeN : Array Nat := #[14, 10, 4, 1, 1, 22, 0, 31, 16, 127, 0, 13, 7, 22, 0, 31, 16, 127, 0, 1]
noncomputable def codeV : Array Nat := #[14, 14, 4, 1, 1, 9, 4294966783, 0, 0, 2147483648, 0, 0, 0, 0, 0, 13, 11, 9, 4294966783, 0, 0, 2147483648, 0, 0, 0, 0, 0, 1]
theorem setN {c : Nat} (h0 : 32 ≤ c) (h1 : c ≤ 126) (seen : Sre.Seen) : ∃ seen', Sre.inSet codeN c codeN.size 5 true seen = .ok (false, seen') := by
  have e1 : Sre.inSet codeN c codeN.size 5 true seen = (if (decide (0 ≤ c) && decide (c ≤ 31)) = true then .ok (true, seen.add 22) else Sre.inSet codeN c (18 + 1) 8 true (seen.add 22)) := rfl
  have e2 : ∀ sn : Sre.Seen, Sre.inSet codeN c (18 + 1) 8 true sn = (if (c == 127) = true then .ok (true, sn.add 16) else Sre.inSet codeN c (17 + 1) 10 true (sn.add 16)) := fun _ => rfl
  rw [if_neg (by simp; omega)] at e1
  rw [e1, e2, if_neg (by simp; omega)]
  exact ⟨_, rfl⟩
theorem bitV : ∀ c : Fin 127, 32 ≤ c.val → (codeV.getD (5 + (1 + c.val / 32)) 0).testBit (c.val % 32) = false := by decide +kernel
theorem setV {c : Nat} (h0 : 32 ≤ c) (h1 : c ≤ 126) (seen : Sre.Seen) : ∃ seen', Sre.inSet codeV c codeV.size 5 true seen = .ok (false, seen') := by
  have e1 : Sre.inSet codeV c codeV.size 5 true seen = (if (decide (c < 256) && (codeV.getD (5 + (1 + c / 32)) 0).testBit (c % 32)) = true then .ok (true, seen.add 9) else Sre.inSet codeV c (26 + 1) 14 true (seen.add 9)) := rfl
  have hb : (codeV.getD (5 + (1 + c / 32)) 0).testBit (c % 32) = false := bitV ⟨c, by omega⟩ h0
  rw [hb, Bool.and_false, if_neg (by decide)] at e1
  rw [e1]
  exact ⟨_, rfl⟩
theorem set_rej {code : Array Nat} (hc : code = codeN ∨ code = codeV) {c : Nat} (h0 : 32 ≤ c) (h1 : c ≤ 126) (seen : Sre.Seen) : ∃ seen', Sre.inSet code c code.size 5 true seen = .ok (false, seen') := by
  rcases hc with rfl | rfl
  · exact setN h0 h1 seen
  · exact setV h0 h1 seen
theorem say_fails (m : Sre.M) (h1 : m.frames = []) (h2 : m.outcome = none) : ((m.say false).runFor 4).outcome = some .failed := by
  obtain ⟨⟩ := m
  cases h1
  cases h2
  rfl
theorem att_fails {code : Array Nat} (hcode : code = codeN ∨ code = codeV) (l : List Nat) (hl : ∀ c ∈ l, 32 ≤ c ∧ c ≤ 126) (m : Sre.M) (h1 : m.code = code) (h2 : m.text = l.toArray) (h3 : m.lim = l.length) (h4 : m.frames = []) (h5 : m.outcome = none) :
    ((m.attemptFrom 0 true).runFor 4).outcome = some .failed := by
  have hrej : ∀ s, s < m.lim → ∀ seen, ∃ seen', Sre.inSet m.code (m.text.getD s 0) m.code.size 5 true seen = .ok (false, seen') := by
    intro s hs seen
    rw [h3] at hs
    have hm : l.toArray.getD s 0 = l[s] := by simp [Array.getD, hs]
    rw [h2, hm, h1]
    have := hl _ (List.getElem_mem hs)
    exact set_rej hcode this.1 this.2 seen
  have hfirst : m.hasFirstSet = true := by
    unfold Sre.M.hasFirstSet
    rw [h1]
    rcases hcode with h | h <;> (rw [h]; rfl)
  obtain ⟨seen', e⟩ := adm_none hrej (m.lim + 1 - 0) 0 m.seen
  unfold Sre.M.attemptFrom
  rw [hfirst]
  simp only [Bool.not_true, Bool.false_eq_true, if_false]
  rw [e]
  exact say_fails _ h4 h5
/-- the machine on a text of plain signs ends without a find -/
theorem search_none {code : Array Nat} (hcode : code = codeN ∨ code = codeV) (l : List Nat) (hl : ∀ c ∈ l, 32 ≤ c ∧ c ≤ 126) : ((Sre.forSearch code l.toArray 0 0 l.length false).runFor 4).outcome = some .failed := by
  unfold Sre.forSearch
  try dsimp only
  split
  · exact say_fails _ rfl rfl
  · exact att_fails hcode l hl _ rfl rfl rfl rfl rfl
open PySem.Builtin.Re in
theorem re_run {M : Model} {A : Around} {E : Value → Shared → Prop} {s : Shared} {Q : Option Sre.M → Shared → Prop} {m : Sre.M} (h : (m.runFor 4).outcome = some .failed) (k : Q none s) : wpAny M A (reRunToEnd m) Q E s := by
  unfold reRunToEnd
  have h1 : reDrive (2 ^ 64) m = pure (m.runFor 4) := by
    rw [show (2 : Nat) ^ 64 = 18446744073709551615 + 1 from rfl]
    show (if (m.runFor 4).outcome.isSome = true then pure (m.runFor 4) else _) = _
    rw [h]
    rfl
  rw [h1, pure_bind]
  refine wpAny_bind (wpAny_forIn_list _ (fun _ _ s' => s' = s) _ ?_ ?_ _ _ rfl)
  · rintro x rest b s' rfl
    split
    · exact wpAny_bind (wpAny_rule (wpAny_pure rfl))
    · exact wpAny_pure rfl
  · rintro b s' rfl
    rw [h]
    exact wpAny_pure k
theorem slot_search : Slot "re.Pattern" (Str.ofString "search") "re.Pattern.search" :=
  .of (owner := "re.Pattern") (n := "search") (by rw [typeLookup_type, builtinLookup_eq_fast]; kernel_rfl) (by decide +kernel) (by decide +kernel) (by decide +kernel)
    (by first | exact .inl (by decide +kernel) | exact .inr (by decide +kernel)) (by rw [isSubtype_type]; kernel_rfl)
theorem plainAttrs_pat : PlainAttrs "re.Pattern" :=
  ⟨⟨"object.__getattribute__", by rw [typeLookup_type, builtinLookup_eq_fast]; kernel_rfl, by decide +kernel⟩, by rw [typeLookup_type, builtinLookup_eq_fast]; kernel_rfl⟩
theorem type_search : typeOf (.builtin "re.Pattern.search") = pure (.type "method_descriptor") := by show builtinType _ = _; rw [builtinType_eq_fast]; kernel_rfl
theorem entry_search : entryFor table "re.Pattern.search" = some Builtin.«re.Pattern.search» := entryFor_of_fast (by kernel_rfl)
theorem args_search (a b : Value) : argsOk "re.Pattern.search" ⟨[a, b], []⟩ := by unfold argsOk; kernel_rfl
section
variable {prog : Program} {w : World} {A : Around} {E : Value → Shared → Prop} {s : Shared}
/-- the method search of a pattern -/
theorem getMethod_search {a : Addr} {o : Obj} {pl : Sem Bool} {Q : Value × List Value → Shared → Prop} (ho : s.heap.get? a = some o) (hc : o.cls = .type "re.Pattern") (hd : o.dict = none) (h : Q (.builtin "re.Pattern.search", [.ref a]) s) :
    wpAny (model prog w) A (getMethod (.ref a) (Str.ofString "search") pl) Q E s :=
  getMethod_builtin ⟨o, ho, hc⟩ plainAttrs_pat slot_search type_search (fun b e => by cases e; exact ⟨o, ho, hd⟩) h
open PySem.Builtin.Re in
theorem call_search {p q : Addr} {o oq : Obj} {v0 v1 v3 v4 : Value} {t1 t2 t : Tok} {items : Array Value} {n : Nat} {code : Array Nat} {l : List Nat} {Q : Value → Shared → Prop} (hcode : code = codeN ∨ code = codeV) (hp : s.heap.get? p = some o) (hc : o.cls = .type "re.Pattern")
    (hd : o.data = .fields #[v0, v1, .int 0 t1, v3, v4, .ref q, .int 0 t2]) (hq : s.heap.get? q = some oq) (hqd : oq.data = .seq items n) (hit : (items.map reRawOf).map Int.toNat = code) (hl : ∀ c ∈ l, 32 ≤ c ∧ c ≤ 126) (h1 : l.length ≤ 1000000)
    (h : Q .none s) : wpAny (model prog w) A (call (.builtin "re.Pattern.search") [.ref p, .str (T l) t]) Q E s := by
  refine wpAny_call (codeAny_call_builtin slot_search.plain entry_search (slot_search.check _ _ _ _ _ _ _ _ ⟨o, hp, hc⟩ (args_search _ _) ?_))
  unfold Builtin.«re.Pattern.search»
  have e1 : reNamed "re.Pattern.search" "search" ["string", "pos", "endpos"] 1 [.str (T l) t] [] = pure [some (.str (T l) t), none, none] := rfl
  have e2 : reTextOf (.str (T l) t) = pure (l.toArray, 0) := rfl
  have e3 : reNoCollectionInside (.str (T l) t) 0 = pure () := rfl
  refine wpAny_bind ?_
  unfold reTarget
  try dsimp only
  rw [e1, pure_bind]
  try dsimp only
  rw [pure_bind, pure_bind]
  refine wpAny_bind (wpAny_fieldsOf hp hd ?_)
  rw [e2, pure_bind]
  try dsimp only
  have e6 : reRawNat (#[v0, v1, .int 0 t1, v3, v4, .ref q, .int 0 t2].getD 6 .none) = 0 := rfl
  have e5 : #[v0, v1, .int 0 t1, v3, v4, .ref q, .int 0 t2].getD 5 .none = .ref q := rfl
  have e7 : reRawNat (#[v0, v1, .int 0 t1, v3, v4, .ref q, .int 0 t2].getD 2 .none) = 0 := rfl
  rw [e6, e5, e7, if_neg (by decide), if_neg (by decide), e3, pure_bind]
  unfold reRawItems
  refine wpAny_bind (wpAny_bind (wpAny_seqItems hq hqd (wpAny_pure (wpAny_pure ?_))))
  try dsimp only
  have ec : Array.map (fun x : Int => x.toNat) (Array.map reRawOf ((some items).getD #[])) = code := hit
  have el : min (2 ^ 63 - 1 : Int).toNat l.toArray.size = l.length := by
    rw [List.size_toArray]
    have : ((2 : Int) ^ 63 - 1).toNat = 9223372036854775807 := rfl
    omega
  rw [ec, el, show min (Int.toNat 0) l.toArray.size = 0 from Nat.zero_min _]
  unfold reAnswer
  refine wpAny_bind (re_run (search_none hcode l hl) ?_)
  try dsimp only
  exact wpAny_pure h
end

end
section
local macro_rules | `(tactic| walk_at "MY st") => `(tactic| ((fail_if_success (with_reducible first
  | show wpAny _ _ (getMethod (Value.ref _) _ _) _ _ _
  | show wpAny _ _ (call (Value.builtin "re.Pattern.search") _ _) _ _ _)); (walk_at "MY st0")))
theorem conv_spec (w : World) (s : Shared) (self : Value) (x : List Nat) (t : Tok) (b : Bool) (hx : x.length ≤ 1000) (hl : ∀ c ∈ x, 32 ≤ c ∧ c ≤ 126) : SpecK w 119 [self, .str (T x) t] [(Str.ofString "name", .bool b)] 3 60 s (fun v h' => v = .str (T x) t) := by
  intro mean mg mb C A₀ base h₀ m Q E B F X Tp hd hu hret
  ((refine wpAny_call (enterP (by k_asm) (by k_asm) (by k_asm) (by k_asm) rfl rfl rfl (by k_is) (by k_is) (by k_room) (by walk_at "MY bind") (locs rfl) ?_ rfl rfl rfl (by decide)); k_whole))
  intro L' h' F0 B1 X1 T1
  try dsimp only
  have N0 : News s.heap L' h' [] := fun _ hp => nomatch hp
  walk_at "MY go"
  all_goals (
    refine getMethod_search (Fr.keep (by assumption) _ _ (X1 _ _ (by k_is))) rfl rfl ?_
    walk_at "MY go"
    first
      | (refine call_search (.inl rfl) (Fr.keep (by assumption) _ _ (X1 _ _ (by k_is))) rfl rfl (Fr.keep (by assumption) _ _ (X1 _ _ (by k_is))) rfl ?hit hl (by omega) ?_; (case hit => simp [codeN, Builtin.Re.reRawOf]; done))
      | (refine call_search (.inr rfl) (Fr.keep (by assumption) _ _ (X1 _ _ (by k_is))) rfl rfl (Fr.keep (by assumption) _ _ (X1 _ _ (by k_is))) rfl ?hit hl (by omega) ?_; (case hit => simp [codeV, Builtin.Re.reRawOf]; done))
    walk_at "MY go"
    exact hret _ _ _ (Fr.keep (by assumption)) rfl)

end
section
local macro_rules | `(tactic| walk_at "MY inst") => `(tactic| (apply_assumption; exact Fr.keep (by assumption)))
local macro_rules | `(tactic| walk_at "MY noname") => `(tactic| (apply_assumption; decide))
local macro_rules | `(tactic| walk_at "getMethod ref") => `(tactic| (refine method_inst (by k_asm) (by k_asm) (by walk_at "MY inst") (by k_is) (by k_is) (by k_is) (by walk_at "MY noname") ?_; k_whole))
local macro_rules | `(tactic| walk_at "getAttr ref") => `(tactic| (
  (with_reducible show wpAny _ _ (getAttr (Value.ref _) (PySem.Str.ofString "_headers") _) _ _ _);
  refine get_own (by k_asm) (by k_asm) (by walk_at "MY inst") (by k_is) (by k_is) (by k_is) (by k_is) (by assumption) (by k_handed) ?_; k_whole))
local macro_rules | `(tactic| walk_at "call builtin:str.lower") => `(tactic| ((with_reducible show wpAny _ _ (call (Value.builtin "str.lower") [Value.str (Mine.T _) _]) _ _ _); refine low_T (by assumption) (by first | assumption | omega) ?_))
local macro_rules | `(tactic| walk_at "compareOp NotEq ref ref") => `(tactic| refine ne_nil (News.isList (by assumption) (by kcf_m)) (News.isList (by assumption) (by kcf_m)) (by walk_at "MY rm") ?_)
local macro_rules | `(tactic| walk_at "MY st1") => `(tactic| (fail_if_success (with_reducible first | refine gApp ?_ | refine gPop ?_ | refine gTup ?_ | refine gGet ?_ | refine gIdx ?_ | refine gSplit ?_ | refine gAdd ?_)))
local macro_rules | `(tactic| walk_at "MY st") => `(tactic| ((walk_at "MY st1"); (walk_at "MY st0")))
theorem get_spec (w : World) (s : Shared) (self l : Addr) (x : List Nat) (t : Tok) (vs : List Value) (kvs : List (List Nat × List Nat)) (hx : x.length ≤ 1000) (hxp : ∀ c ∈ x, 32 ≤ c ∧ c ≤ 126) (hI : HInst s.heap self l)
    (hl : s.heap.IsList l vs.toArray) (hp : PairsIn s.heap vs kvs) (hkl : ∀ kv ∈ kvs, kv.1.length ≤ 1000 ∧ ∀ c ∈ kv.1, c < 128) :
    Spec w 167 [.ref self, .str (T x) t] 6 100 s (fun v h' => match getOf x kvs with | some y => ∃ t, v = .str (T y) t | none => v = .none) := by
  intro mean mg mb C A₀ base h₀ m Q E B F X Tp hd hu hret
  obtain ⟨dx, es, n, hi1, hi2, hi3, hi4⟩ := hI
  have hx1 : ∀ c ∈ x, c < 128 := fun c hc => by have := hxp c hc; omega
  have hx2 : ∀ c ∈ x.map lo1, 32 ≤ c ∧ c ≤ 126 := fun c hc => by
    obtain ⟨d, hd, rfl⟩ := List.mem_map.mp hc
    have := hxp d hd
    exact lo1_ok ⟨d, by omega⟩ this.1
  ((refine wpAny_call (enterP (by k_asm) (by k_asm) (by k_asm) (by k_asm) rfl rfl rfl (by k_is) (by k_is) (by k_room) (by walk_at "MY bind") (locs rfl) ?_ rfl rfl rfl (by decide)); k_whole))
  intro L' h' F0 B1 X1 T1
  try dsimp only
  have N0 : News s.heap L' h' [] := fun _ hp => nomatch hp
  have I1 : ∀ hh : Heap, Keep s.heap hh → InstAt hh self ⟨.ref 220, some dx, .plain, #[]⟩ 220 (some (dictOf es n)) := fun hh k => ⟨k _ _ hi1, rfl, rfl, k _ _ hi2⟩
  obtain ⟨Ts, u1, u2, hT⟩ := hp.at
  have hpl := hp.length
  (repeat' (first | (( (with_reducible show wpAny _ _ (call (Value.ref 119) _ _) _ _ _); refine' SpecK.use (conv_spec _ _ _ _ _ _ ?spx ?spl) ?spA ?spB ?spF ?spN ?spX ?spT ?spD ?spU ?_; walk_at "MY use"; (case spx => first | assumption | (rw [List.length_map]; omega) | omega); (case spl => assumption); intro v_c h_c tk_c hk_c F_c N_c e_c; subst e_c; (try dsimp only))) | (walk_at "MY one")))
  rename Fr _ _ _ _ => F9
  rename News _ _ _ _ => N9
  with_reducible refine cutR1 (fun s' => getOf x kvs = none ∧ At s s.heap L' (fun m nw => m (Str.ofString "default") = some .none) s') ?_ ?_
  · refine wpAny_execs_cons ?_
    refine forP s.heap (fun i m nw => AndN4 (nw = []) (sv m "name" (x.map lo1)) (m (Str.ofString "default") = some .none) (getOf x (kvs.drop i) = getOf x kvs)) ?_
    (repeat' (first | (( (with_reducible show wpAny _ _ (call (Value.ref 119) _ _) _ _ _); refine' SpecK.use (conv_spec _ _ _ _ _ _ ?spx ?spl) ?spA ?spB ?spF ?spN ?spX ?spT ?spD ?spU ?_; walk_at "MY use"; (case spx => first | assumption | (rw [List.length_map]; omega) | omega); (case spl => assumption); intro v_c h_c tk_c hk_c F_c N_c e_c; subst e_c; (try dsimp only))) | (walk_at "MY one")))
    rename Fr _ _ _ _ => F9
    rename News _ _ _ _ => N9
    have hLl : ∀ (b : Addr) o, s.heap.get? b = some o → b ≠ L' := fun b o e q => by rw [q, Heap.get?_none_of_le F9.above] at e; cases e
    refine' iterLP Ts (fun j => #[.str (T (kvs.getD j ([], [])).1) (u1 j), .str (T (kvs.getD j ([], [])).2) (u2 j)]) ?jh ?l1 ?l2 ?l3 ?l4 ?l5 ?l6 ?l7 ?l8 ?_ ?_
    case jh => exact rfl
    case l1 => exact F9.lst hl
    case l2 => exact fun j hj => (hT j (by omega)).1
    case l3 => exact fun j hj => (tup2_is (hT j (by omega)).2).at fun o e => F9.keep _ o e
    case l4 => obtain ⟨o, e, _⟩ := hl; exact hLl _ _ e
    case l5 => intro j hj; have e := (hT j (by omega)).2; exact hLl _ _ e
    case l6 => exact F9
    case l7 => exact N9
    case l8 => exact ⟨rfl, ⟨_, rfl⟩, rfl, rfl⟩
    · rintro I hI s₂ hs₂ i T' vals m nw h tk own ⟨hi, hv⟩ ⟨hnw, ⟨tn, hn⟩, hd1, he⟩ off hown hoI hTup F3 N3
      obtain ⟨h9, rfl⟩ := hs₂
      subst hv hnw
      have hik : i < kvs.length := by omega
      have hke := hkl _ (List.getElem_mem hik)
      rw [show kvs[i] = kvs.getD i ([], []) by simp [List.getD, hik]] at hke
      have hstep : getOf x (kvs.drop i) = if (kvs.getD i ([], [])).1.map lo1 = x.map lo1 then some (kvs.getD i ([], [])).2 else getOf x (kvs.drop (i + 1)) := by
        rw [List.drop_eq_getElem_cons hik, show kvs.getD i ([], []) = kvs[i] by simp [List.getD, hik]]
        rfl
      obtain ⟨hk1, hk2⟩ := hke
      refine assign2 rfl hTup F3 N3 rfl rfl rfl fun h4 tk4 F4 N4 => ?_
      (repeat' (first | (( (with_reducible show wpAny _ _ (call (Value.ref 119) _ _) _ _ _); refine' SpecK.use (conv_spec _ _ _ _ _ _ ?spx ?spl) ?spA ?spB ?spF ?spN ?spX ?spT ?spD ?spU ?_; walk_at "MY use"; (case spx => first | assumption | (rw [List.length_map]; omega) | omega); (case spl => assumption); intro v_c h_c tk_c hk_c F_c N_c e_c; subst e_c; (try dsimp only))) | (walk_at "MY one")))
      · rename ((_ == _) = true) => hb
        rw [beq_iff_eq, T_eq] at hb
        rw [if_pos hb] at hstep
        rw [← he, hstep] at hret
        exact hret _ _ _ (Fr.keep (by assumption)) ⟨_, rfl⟩
      · rename ((_ == _) = false) => hb
        rw [beq_eq_false_iff_ne, ne_eq, T_eq] at hb
        rw [if_neg hb] at hstep
        exact ⟨_, _, _, [], rfl, F4, N4, (fun _ hp => nomatch hp), rfl, ⟨_, hn⟩, hd1, by rw [← hstep]; exact he⟩
    · rintro m nw h tk ⟨rfl, -, hd1, he⟩ F3 N3
      rw [hpl, List.drop_length] at he
      (repeat' (first | (( (with_reducible show wpAny _ _ (call (Value.ref 119) _ _) _ _ _); refine' SpecK.use (conv_spec _ _ _ _ _ _ ?spx ?spl) ?spA ?spB ?spF ?spN ?spX ?spT ?spD ?spU ?_; walk_at "MY use"; (case spx => first | assumption | (rw [List.length_map]; omega) | omega); (case spl => assumption); intro v_c h_c tk_c hk_c F_c N_c e_c; subst e_c; (try dsimp only))) | (walk_at "MY one")))
      refine ⟨he.symm, At.mk' [] F3 N3 hd1⟩
  rintro s' ⟨hg, h1, tk1, m1, nw1, rfl, F1, N1, hd1⟩
  rw [hg] at hret
  (repeat' (first | (( (with_reducible show wpAny _ _ (call (Value.ref 119) _ _) _ _ _); refine' SpecK.use (conv_spec _ _ _ _ _ _ ?spx ?spl) ?spA ?spB ?spF ?spN ?spX ?spT ?spD ?spU ?_; walk_at "MY use"; (case spx => first | assumption | (rw [List.length_map]; omega) | omega); (case spl => assumption); intro v_c h_c tk_c hk_c F_c N_c e_c; subst e_c; (try dsimp only))) | (walk_at "MY one")))
  exact hret _ _ _ (Fr.keep (by assumption)) rfl

end
section
local macro_rules | `(tactic| walk_at "MY inst") => `(tactic| (apply_assumption; exact Fr.keep (by assumption)))
local macro_rules | `(tactic| walk_at "MY noname") => `(tactic| (apply_assumption; decide))
local macro_rules | `(tactic| walk_at "getMethod ref") => `(tactic| (refine method_inst (by k_asm) (by k_asm) (by walk_at "MY inst") (by k_is) (by k_is) (by k_is) (by walk_at "MY noname") ?_; k_whole))
local macro_rules | `(tactic| walk_at "getAttr ref") => `(tactic| (
  (with_reducible show wpAny _ _ (getAttr (Value.ref _) (PySem.Str.ofString "_headers") _) _ _ _);
  refine get_own (by k_asm) (by k_asm) (by walk_at "MY inst") (by k_is) (by k_is) (by k_is) (by k_is) (by assumption) (by k_handed) ?_; k_whole))
local macro_rules | `(tactic| walk_at "call builtin:str.lower") => `(tactic| ((with_reducible show wpAny _ _ (call (Value.builtin "str.lower") [Value.str (Mine.T _) _]) _ _ _); refine low_T (by assumption) (by first | assumption | omega) ?_))
local macro_rules | `(tactic| walk_at "compareOp NotEq ref ref") => `(tactic| refine ne_nil (News.isList (by assumption) (by kcf_m)) (News.isList (by assumption) (by kcf_m)) (by walk_at "MY rm") ?_)
local macro_rules | `(tactic| walk_at "MY st1") => `(tactic| (fail_if_success (with_reducible first | refine gApp ?_ | refine gPop ?_ | refine gTup ?_ | refine gGet ?_ | refine gIdx ?_ | refine gSplit ?_ | refine gAdd ?_)))
local macro_rules | `(tactic| walk_at "MY st") => `(tactic| ((walk_at "MY st1"); (walk_at "MY st0")))
local macro_rules | `(tactic| walk_at "exec Assign") => `(tactic| (
  (with_reducible show wpAny _ _ (exec (PySem.Stmt.Assign [PySem.Expr.Subscript _ _ _] _ _) _) _ _ _); with_reducible refine wpAny_Assign_Subscript ?_ ?hsw; (case hsw => rfl)))
theorem del_spec (w : World) (s : Shared) (self l : Addr) (x : List Nat) (t : Tok) (vs : List Value) (n : Nat) (kvs : List (List Nat × List Nat)) (hx : x.length ≤ 1000) (hxp : ∀ c ∈ x, 32 ≤ c ∧ c ≤ 126) (hI : HInst s.heap self l)
    (hl : s.heap.get? l = some (listOf vs.toArray n)) (hp : PairsIn s.heap vs kvs) (hkl : ∀ kv ∈ kvs, kv.1.length ≤ 1000 ∧ ∀ c ∈ kv.1, c < 128) (hn : kvs.length ≤ 100) :
    SpecM w 138 [.ref self, .str (T x) t] [] 8 120 s [l] (fun v h' => v = .none ∧ ∃ vs' n', h'.get? l = some (listOf vs'.toArray n') ∧ ∀ P, Pairs P vs kvs → Pairs P vs' (kvs.filter fun kv => !decide (kv.1.map lo1 = x.map lo1))) := by
  intro mean mg mb C A₀ base h₀ m Q E B F hw X Tp hd hu hret
  obtain ⟨dx, es, n1, hi1, hi2, hi3, hi4⟩ := hI
  have hx1 : ∀ c ∈ x, c < 128 := fun c hc => by have := hxp c hc; omega
  have hx2 : ∀ c ∈ x.map lo1, 32 ≤ c ∧ c ≤ 126 := fun c hc => by
    obtain ⟨d, hd, rfl⟩ := List.mem_map.mp hc
    have := hxp d hd
    exact lo1_ok ⟨d, by omega⟩ this.1
  have NM : News h₀ C.L s.heap [(l, listOf vs.toArray n)] := fun p hp => by
    obtain rfl := List.mem_singleton.mp hp
    exact ⟨hl, hw l (by simp)⟩
  ((refine wpAny_call (enterMC (by k_asm) (by k_asm) (by assumption) (by k_asm) (by k_asm) rfl rfl rfl (by k_is) (by k_is) (by k_room) (by walk_at "MY bind") rfl (by decide +kernel) ?_ rfl rfl rfl); k_whole))
  intro g L' h' tk' cells gs sg F0 N0 offC X0 B1 X1 T1
  obtain ⟨oc, hE, d0⟩ := CellsAre.one X0
  subst hE
  have d1 : oc.data = .cell (some (.str (T x) t)) := d0
  clear d0 X0
  have hll : L' + 1 ≠ l := fun e => absurd (offC _ (.head _)) (by dsimp only; rw [← e]; exact Nat.not_lt.mpr (Nat.le_succ _))
  have sg' : ∀ b o, b ≠ l → s.heap.get? b = some o → g.get? b = some o := fun b o hb e => sg b o (by simpa using hb) e
  have nl : ∀ b o, s.heap.get? b = some o → (∀ a k, o ≠ listOf a k) → b ≠ l := fun b o e hne q => by
    rw [q, hl] at e
    exact hne _ _ (Option.some.inj e).symm
  have hi1' := sg' _ _ (nl _ _ hi1 (by intro _ _ e; have := congrArg Obj.data e; cases this)) hi1
  have hi2' := sg' _ _ (nl _ _ hi2 (by intro _ _ e; have := congrArg Obj.data e; cases this)) hi2
  have I1 : ∀ hh : Heap, Keep g hh → InstAt hh self ⟨.ref 220, some dx, .plain, #[]⟩ 220 (some (dictOf es n1)) := fun hh k => ⟨k _ _ hi1', rfl, rfl, k _ _ hi2'⟩
  try dsimp only
  iterate 21 ((first | (( (with_reducible show wpAny _ _ (call (Value.ref 119) _ _) _ _ _); refine' SpecK.use (conv_spec _ _ _ _ _ _ ?spx ?spl) ?spA ?spB ?spF ?spN ?spX ?spT ?spD ?spU ?_; walk_at "MY use"; (case spx => first | assumption | (rw [List.length_map]; omega) | omega); (case spl => assumption); intro v_c h_c tk_c hk_c F_c N_c e_c; subst e_c; (try dsimp only))) | (walk_at "MY one")))
  with_reducible refine wpAny_Assign_Subscript ?_ ?hsw
  case hsw => rfl
  (repeat' (first | (( (with_reducible show wpAny _ _ (call (Value.ref 119) _ _) _ _ _); refine' SpecK.use (conv_spec _ _ _ _ _ _ ?spx ?spl) ?spA ?spB ?spF ?spN ?spX ?spT ?spD ?spU ?_; walk_at "MY use"; (case spx => first | assumption | (rw [List.length_map]; omega) | omega); (case spl => assumption); intro v_c h_c tk_c hk_c F_c N_c e_c; subst e_c; (try dsimp only))) | (walk_at "MY one")))
  rename_i F2 N2 d2
  have hpg : PairsIn g vs kvs := hp.mono fun b o e hc => sg' b o (nl b o e (by intro _ _ q; rw [q] at hc; injection hc with e9; exact absurd e9 (by decide))) e
  obtain ⟨Ts, u1, u2, hT⟩ := hpg.at
  have hpl := hpg.length
  have N2' : News g L' _ [(L' + 1, _), (l, listOf vs.toArray n)] := N2
  refine LCt.CompSrcT.ledger (by rfl) F2 N2' (.tail _ (.head _)) (by rw [List.size_toArray, sizeLine_eq]; omega) ?_
  intro g'
  refine compJT (fun i ys nw => nw = _ ∧ ∀ P, Pairs P vs kvs → Pairs P ys ((kvs.take i).filter fun kv => !decide (kv.1.map lo1 = x.map lo1))) (fun i ys nw h => h.1 ▸ .inr ⟨_, .tail _ (.head _), rfl, _, rfl⟩) ⟨rfl, fun _ _ => .nil⟩ ?_ ?_
  · rintro i v I oI C oC D m₂ ys nw h tk E' hi hv ⟨rfl, hys⟩ hC hx F3 N3 off ne
    have hik : i < kvs.length := by simpa [hpl] using hi
    obtain ⟨hvi, hti⟩ := hT i hik
    have hv' : v = .ref (Ts i) := by
      rw [List.getElem?_toArray, hvi] at hv
      exact (Option.some.inj hv).symm
    subst hv'
    obtain ⟨hk1, hk2⟩ := hkl _ (List.getElem_mem hik)
    rw [show kvs[i] = kvs.getD i ([], []) by simp [List.getD, hik]] at hk1 hk2
    have hti' : g.IsTuple (Ts i) #[.str (T (kvs.getD i ([], [])).1) (u1 i), .str (T (kvs.getD i ([], [])).2) (u2 i)] := tup2_is hti
    have hstep := filter_take_succ (fun kv : List Nat × List Nat => !decide (kv.1.map lo1 = x.map lo1)) kvs i ([], []) hik
    (repeat' (first | (( (with_reducible show wpAny _ _ (call (Value.ref 119) _ _) _ _ _); refine' SpecK.use (conv_spec _ _ _ _ _ _ ?spx ?spl) ?spA ?spB ?spF ?spN ?spX ?spT ?spD ?spU ?_; walk_at "MY use"; (case spx => first | assumption | (rw [List.length_map]; omega) | omega); (case spl => assumption); intro v_c h_c tk_c hk_c F_c N_c e_c; subst e_c; (try dsimp only))) | (walk_at "MY one")))
    · rename ((_ != _) = true) => hb
      rw [bne_iff_ne, ne_eq, T_eq] at hb
      rw [if_pos (by simpa using hb)] at hstep
      (refine TurnC.end _ (by assumption) (by assumption) (by kcf_all) (by assumption) ?_)
      refine ⟨rfl, fun P hP => ?_⟩
      rw [hstep]
      obtain ⟨Ts', a', b', H'⟩ := hP.at
      obtain ⟨q1, q2⟩ := H' i hik
      rw [hvi] at q1
      injection q1 with q1
      injection q1 with q1
      rw [← q1] at q2
      exact (hys P hP).snoc q2
    · rename ((_ != _) = false) => hb
      rw [bne_eq_false_iff_eq, T_eq] at hb
      rw [if_neg (by simpa using hb), List.append_nil] at hstep
      (refine TurnC.end _ (by assumption) (by assumption) (by kcf_all) (by assumption) ?_)
      exact ⟨rfl, fun P hP => by rw [hstep]; exact hys P hP⟩
  · rintro ys nw ⟨rfl, hys⟩
    rw [List.size_toArray, hpl, List.take_length] at hys
    have hyl := (hys _ hpg).length
    unfold LCg.FinE
    intro D h3 tk3 F3 N3 _
    rename LCg.Off1 _ _ => oD
    (repeat' (first | (( (with_reducible show wpAny _ _ (call (Value.ref 119) _ _) _ _ _); refine' SpecK.use (conv_spec _ _ _ _ _ _ ?spx ?spl) ?spA ?spB ?spF ?spN ?spX ?spT ?spD ?spU ?_; walk_at "MY use"; (case spx => first | assumption | (rw [List.length_map]; omega) | omega); (case spl => assumption); intro v_c h_c tk_c hk_c F_c N_c e_c; subst e_c; (try dsimp only))) | (walk_at "MY one")))
    have hDl : l ≠ D := oD.2.1
    have hll3 := (N3 _ (.tail _ (.tail _ (.head _)))).1
    have hD3 := (N3 _ (.head _)).1
    refine setslice_all (n := n) (items := vs.toArray) (new := ys.toArray) (Heap.get?_push_of_some _ hll3) (Heap.IsSliceOf.new ..) ⟨_, Heap.get?_push_of_some _ hD3, rfl, _, rfl⟩ hDl (by rw [List.size_toArray]; omega) (by rw [List.size_toArray, hyl]; exact Nat.le_trans (List.length_filter_le ..) (by omega)) ?_
    intro h5 n5 hl5 hsb
    (repeat' (first | (( (with_reducible show wpAny _ _ (call (Value.ref 119) _ _) _ _ _); refine' SpecK.use (conv_spec _ _ _ _ _ _ ?spx ?spl) ?spA ?spB ?spF ?spN ?spX ?spT ?spD ?spU ?_; walk_at "MY use"; (case spx => first | assumption | (rw [List.length_map]; omega) | omega); (case spl => assumption); intro v_c h_c tk_c hk_c F_c N_c e_c; subst e_c; (try dsimp only))) | (walk_at "MY one")))
    have kp : ∀ b o, b ≠ l → s.heap.get? b = some o → h5.get? b = some o := fun b o hb e => hsb.extBut _ _ hb (Heap.get?_push_of_some _ (F3.keep _ _ (sg' _ _ hb e)))
    refine hret _ _ _ (fun b o hb e => kp b o (by simpa using hb) e) ⟨rfl, ys, n5, hl5, hys⟩

end
section
local macro_rules | `(tactic| walk_at "MY inst") => `(tactic| (apply_assumption; exact Fr.keep (by assumption)))
local macro_rules | `(tactic| walk_at "MY noname") => `(tactic| (apply_assumption; decide))
local macro_rules | `(tactic| walk_at "getMethod ref") => `(tactic| (refine method_inst (by k_asm) (by k_asm) (by walk_at "MY inst") (by k_is) (by k_is) (by k_is) (by walk_at "MY noname") ?_; k_whole))
local macro_rules | `(tactic| walk_at "getAttr ref") => `(tactic| (
  (with_reducible show wpAny _ _ (getAttr (Value.ref _) (PySem.Str.ofString "_headers") _) _ _ _);
  refine get_own (by k_asm) (by k_asm) (by walk_at "MY inst") (by k_is) (by k_is) (by k_is) (by k_is) (by assumption) (by k_handed) ?_; k_whole))
local macro_rules | `(tactic| walk_at "call builtin:str.lower") => `(tactic| ((with_reducible show wpAny _ _ (call (Value.builtin "str.lower") [Value.str (Mine.T _) _]) _ _ _); refine low_T (by assumption) (by first | assumption | omega) ?_))
local macro_rules | `(tactic| walk_at "compareOp NotEq ref ref") => `(tactic| refine ne_nil (News.isList (by assumption) (by kcf_m)) (News.isList (by assumption) (by kcf_m)) (by walk_at "MY rm") ?_)
local macro_rules | `(tactic| walk_at "MY st1") => `(tactic| (fail_if_success (with_reducible first | refine gApp ?_ | refine gPop ?_ | refine gTup ?_ | refine gGet ?_ | refine gIdx ?_ | refine gSplit ?_ | refine gAdd ?_)))
local macro_rules | `(tactic| walk_at "MY st") => `(tactic| ((walk_at "MY st1"); (walk_at "MY st0")))
theorem add_spec (w : World) (s : Shared) (self l : Addr) (x y : List Nat) (t ty : Tok) (vs : List Value) (n : Nat) (kvs : List (List Nat × List Nat)) (hx : x.length ≤ 1000) (hxp : ∀ c ∈ x, 32 ≤ c ∧ c ≤ 126) (hy : y.length ≤ 1000) (hyp : ∀ c ∈ y, 32 ≤ c ∧ c ≤ 126) (hI : HInst s.heap self l)
    (hl : s.heap.get? l = some (listOf vs.toArray n)) (hp : PairsIn s.heap vs kvs) (hn : kvs.length ≤ 100) :
    SpecM w 217 [.ref self, .str (T x) t, .str (T y) ty] [] 12 160 s [l] (fun v h' => v = .none ∧ ∃ n' D t1 t2, h'.get? l = some (listOf (vs ++ [Value.ref D]).toArray n') ∧ s.heap.get? D = none ∧ h'.get? D = some (tup2 x y t1 t2)) := by
  intro mean mg mb C A₀ base h₀ m Q E B F hw X Tp hd hu hret
  obtain ⟨dx, es, n1, hi1, hi2, hi3, hi4⟩ := hI
  have NM : News h₀ C.L s.heap [(l, listOf vs.toArray n)] := fun p hp => by
    obtain rfl := List.mem_singleton.mp hp
    exact ⟨hl, hw l (by simp)⟩
  ((refine wpAny_call (enterKw (by k_asm) (by k_asm) (by assumption) (by k_asm) (by k_asm) rfl rfl rfl (by k_is) (by k_is) (by k_room) (by exact rfl) (fun _ => rfl) (fun _ => locs rfl) ?_ rfl rfl rfl (by decide)); k_whole))
  intro D g L' h' tk0 hDm hDl gs sg F0 N0 B1 X1 T1
  have sg' : ∀ b o, b ≠ l → s.heap.get? b = some o → g.get? b = some o := fun b o hb e => sg b o (by simpa using hb) e
  have nl : ∀ b o, s.heap.get? b = some o → (∀ a k, o ≠ listOf a k) → b ≠ l := fun b o e hne q => by
    rw [q, hl] at e
    exact hne _ _ (Option.some.inj e).symm
  have hi1' := sg' _ _ (nl _ _ hi1 (by intro _ _ e; have := congrArg Obj.data e; cases this)) hi1
  have hi2' := sg' _ _ (nl _ _ hi2 (by intro _ _ e; have := congrArg Obj.data e; cases this)) hi2
  have I1 : ∀ hh : Heap, Keep g hh → InstAt hh self ⟨.ref 220, some dx, .plain, #[]⟩ 220 (some (dictOf es n1)) := fun hh k => ⟨k _ _ hi1', rfl, rfl, k _ _ hi2'⟩
  have hpg : PairsIn g vs kvs := hp.mono fun b o e hc => sg' b o (nl b o e (by intro _ _ q; rw [q] at hc; injection hc with e9; exact absurd e9 (by decide))) e
  have hDl' : l ≠ D := hDl _ (.head _)
  try dsimp only
  with_reducible refine cutL2 (At s g L' (fun m nw => ExN3 fun P t2 nP => AndN6 (nw = [(P, listOf #[.str (T y) t2] nP), (D, emptyDict), (l, listOf vs.toArray n)]) (P ≠ l) (m (Str.ofString "self") = some (.ref self)) (sv m "_name" x) (m (Str.ofString "_params") = some (.ref D)) (rv m "parts" P))) ?_ ?_
  · (repeat' (first | (( (with_reducible show wpAny _ _ (call (Value.ref 119) _ _) _ _ _); refine' SpecK.use (conv_spec _ _ _ _ _ _ ?spx ?spl) ?spA ?spB ?spF ?spN ?spX ?spT ?spD ?spU ?_; walk_at "MY use"; (case spx => first | assumption | (rw [List.length_map]; omega) | omega); (case spl => assumption); intro v_c h_c tk_c hk_c F_c N_c e_c; subst e_c; (try dsimp only))) | (walk_at "MY one")))
    rename Fr g _ _ _ => F5
    rename News g _ _ _ => N5
    have lt : ∀ z : Addr, D < z ∧ l < z → ∀ p ∈ [((D : Addr), emptyDict), (l, listOf vs.toArray n)], p.1 ≠ z := fun z hz p hp => by
      rcases List.mem_cons.mp hp with rfl | hp
      · exact Nat.ne_of_lt hz.1
      · obtain rfl := List.mem_singleton.mp hp
        exact Nat.ne_of_lt hz.2
    refine' append_K ?F N5 (.head (lt _ (by assumption))) ?_ ?z
    case F => exact F5
    case z => (rw [PySem.sizeLine_eq]; decide)
    intro h6 F6 N6
    (repeat' (first | (( (with_reducible show wpAny _ _ (call (Value.ref 119) _ _) _ _ _); refine' SpecK.use (conv_spec _ _ _ _ _ _ ?spx ?spl) ?spA ?spB ?spF ?spN ?spX ?spT ?spD ?spU ?_; walk_at "MY use"; (case spx => first | assumption | (rw [List.length_map]; omega) | omega); (case spl => assumption); intro v_c h_c tk_c hk_c F_c N_c e_c; subst e_c; (try dsimp only))) | (walk_at "MY one")))
    (refine Nxt.at _ (by assumption) (by assumption) ?_)
    exact ⟨_, _, _, rfl, Ne.symm (lt _ (by assumption) _ (.tail _ (.head _))), rfl, ⟨_, rfl⟩, rfl, rfl⟩
  rintro s' ⟨h1, tk1, m1, nw1, rfl, F1, N1, P, t2, nP, rfl, hPl, hsf, ⟨t3, hnm⟩, hpr, hpa⟩
  refine wpAny_execs_cons ?_
  refine forItems0 (d := D) (by exact rfl) (by exact rfl) (by exact rfl) (by exact rfl) F1 N1 (.tail _ (.head _)) hDm (by exact rfl) (by decide) ?ho ?_
  case ho =>
    intro Q' hQ'
    (repeat' (first | (( (with_reducible show wpAny _ _ (call (Value.ref 119) _ _) _ _ _); refine' SpecK.use (conv_spec _ _ _ _ _ _ ?spx ?spl) ?spA ?spB ?spF ?spN ?spX ?spT ?spD ?spU ?_; walk_at "MY use"; (case spx => first | assumption | (rw [List.length_map]; omega) | omega); (case spl => assumption); intro v_c h_c tk_c hk_c F_c N_c e_c; subst e_c; (try dsimp only))) | (walk_at "MY one")))
    exact hQ'
  intro h2 tk2 F2 N2
  try dsimp only
  (repeat' (first | (( (with_reducible show wpAny _ _ (call (Value.ref 119) _ _) _ _ _); refine' SpecK.use (conv_spec _ _ _ _ _ _ ?spx ?spl) ?spA ?spB ?spF ?spN ?spX ?spT ?spD ?spU ?_; walk_at "MY use"; (case spx => first | assumption | (rw [List.length_map]; omega) | omega); (case spl => assumption); intro v_c h_c tk_c hk_c F_c N_c e_c; subst e_c; (try dsimp only))) | (walk_at "MY one")))
  rename Fr g _ _ _ => F5
  rename News g _ _ _ => N5
  have hN5 := N5
  refine join_TL (vs := [.str (T y) t2]) (ls := [y]) [59, 32] (by decide) (by decide) (News.isList N5 (.head _)) (.cons _ _ .nil) (by simp) (fun l hl => by obtain rfl := List.mem_singleton.mp hl; exact hy) ?_
  intro t7 k7
  show wpAny _ _ _ _ _ _
  rw [show jn [59, 32] [y] = y from rfl]
  (repeat' (first | (( (with_reducible show wpAny _ _ (call (Value.ref 119) _ _) _ _ _); refine' SpecK.use (conv_spec _ _ _ _ _ _ ?spx ?spl) ?spA ?spB ?spF ?spN ?spX ?spT ?spD ?spU ?_; walk_at "MY use"; (case spx => first | assumption | (rw [List.length_map]; omega) | omega); (case spl => assumption); intro v_c h_c tk_c hk_c F_c N_c e_c; subst e_c; (try dsimp only))) | (walk_at "MY one")))
  have vl : vs.length ≤ 100 := by rw [hp.length]; exact hn
  have lt : ∀ z : Addr, P < z ∧ D < z ∧ l < z → z ≠ l := fun z hz => Nat.ne_of_gt hz.2.2
  rename Fr g _ _ _ => F5
  rename News g _ _ _ => N5
  refine' append_K ?F N5 (.tail (lt _ (by assumption)) (.tail hPl (.tail (Ne.symm hDl') (.head fun p hp => nomatch hp)))) ?_ ?z
  case F => exact F5
  case z => (rw [PySem.sizeLine_eq, List.size_toArray]; omega)
  intro h6 F6 N6
  rw [List.push_toArray] at N6
  (repeat' (first | (( (with_reducible show wpAny _ _ (call (Value.ref 119) _ _) _ _ _); refine' SpecK.use (conv_spec _ _ _ _ _ _ ?spx ?spl) ?spA ?spB ?spF ?spN ?spX ?spT ?spD ?spU ?_; walk_at "MY use"; (case spx => first | assumption | (rw [List.length_map]; omega) | omega); (case spl => assumption); intro v_c h_c tk_c hk_c F_c N_c e_c; subst e_c; (try dsimp only))) | (walk_at "MY one")))
  refine hret _ _ _ (fun b o hb e => F6.keep _ _ (sg' b o (by simpa using hb) e)) ⟨rfl, _, _, _, _, (N6 _ (.tail _ (.tail _ (.tail _ (.head _))))).1, ?_, (N6 _ (.head _)).1⟩
  have hg := (N6 _ (.head _)).2.2
  dsimp only at hg
  refine Option.eq_none_iff_forall_ne_some.mpr fun o e => ?_
  rw [sg' _ _ (lt _ (by assumption)) e] at hg
  cases hg

end
section
local macro_rules | `(tactic| walk_at "MY inst") => `(tactic| (apply_assumption; exact Fr.keep (by assumption)))
local macro_rules | `(tactic| walk_at "MY noname") => `(tactic| (apply_assumption; decide))
local macro_rules | `(tactic| walk_at "getMethod ref") => `(tactic| (refine method_inst (by k_asm) (by k_asm) (by walk_at "MY inst") (by k_is) (by k_is) (by k_is) (by walk_at "MY noname") ?_; k_whole))
local macro_rules | `(tactic| walk_at "getAttr ref") => `(tactic| (
  (with_reducible show wpAny _ _ (getAttr (Value.ref _) (PySem.Str.ofString "_headers") _) _ _ _);
  refine get_own (by k_asm) (by k_asm) (by walk_at "MY inst") (by k_is) (by k_is) (by k_is) (by k_is) (by assumption) (by k_handed) ?_; k_whole))
local macro_rules | `(tactic| walk_at "call builtin:str.lower") => `(tactic| ((with_reducible show wpAny _ _ (call (Value.builtin "str.lower") [Value.str (Mine.T _) _]) _ _ _); refine low_T (by assumption) (by first | assumption | omega) ?_))
local macro_rules | `(tactic| walk_at "compareOp NotEq ref ref") => `(tactic| refine ne_nil (News.isList (by assumption) (by kcf_m)) (News.isList (by assumption) (by kcf_m)) (by walk_at "MY rm") ?_)
local macro_rules | `(tactic| walk_at "MY st1") => `(tactic| (fail_if_success (with_reducible first | refine gApp ?_ | refine gPop ?_ | refine gTup ?_ | refine gGet ?_ | refine gIdx ?_ | refine gSplit ?_ | refine gAdd ?_)))
local macro_rules | `(tactic| walk_at "MY st") => `(tactic| ((walk_at "MY st1"); (walk_at "MY st0")))
theorem items_spec (w : World) (s : Shared) (self l : Addr) (vs : List Value) (n : Nat) (hI : HInst s.heap self l)
    (hl : s.heap.get? l = some (listOf vs.toArray n)) (hn : vs.length ≤ 100) :
    Spec w 184 [.ref self] 6 100 s (fun v h' => ∃ c n', v = .ref c ∧ s.heap.get? c = none ∧ h'.get? c = some (listOf vs.toArray n')) := by
  intro mean mg mb C A₀ base h₀ m Q E B F X Tp hd hu hret
  obtain ⟨dx, es, n1, hi1, hi2, hi3, hi4⟩ := hI
  ((refine wpAny_call (enterP (by k_asm) (by k_asm) (by k_asm) (by k_asm) rfl rfl rfl (by k_is) (by k_is) (by k_room) (by walk_at "MY bind") (locs rfl) ?_ rfl rfl rfl (by decide)); k_whole))
  intro L' h' F0 B1 X1 T1
  have N0 : News s.heap L' h' [] := fun _ hp => nomatch hp
  have I1 : ∀ hh : Heap, Keep s.heap hh → InstAt hh self ⟨.ref 220, some dx, .plain, #[]⟩ 220 (some (dictOf es n1)) := fun hh k => ⟨k _ _ hi1, rfl, rfl, k _ _ hi2⟩
  try dsimp only
  (repeat' (first | (( (with_reducible show wpAny _ _ (call (Value.ref 119) _ _) _ _ _); refine' SpecK.use (conv_spec _ _ _ _ _ _ ?spx ?spl) ?spA ?spB ?spF ?spN ?spX ?spT ?spD ?spU ?_; walk_at "MY use"; (case spx => first | assumption | (rw [List.length_map]; omega) | omega); (case spl => assumption); intro v_c h_c tk_c hk_c F_c N_c e_c; subst e_c; (try dsimp only))) | (walk_at "MY one")))
  rename Fr _ _ _ _ => F9
  refine' slice_list (vl := .none) (vu := .none) (lo := none) (hi := none) (s := ⟨_, _, _, _, _⟩) (items := vs.toArray) ?F ?N ?hl .none .none ?_ ?hs ?ht ?hz
  case F => exact F9
  case N => exact (fun p hp => nomatch hp : News s.heap L' _ [])
  case hl => exact F9.lst ⟨_, hl, rfl, _, rfl⟩
  case hs => with_unfolding_all rfl
  case ht => (intro _; with_unfolding_all rfl)
  case hz => (rw [PySem.sizeLine_eq, List.size_toArray]; omega)
  intro h5 F5 N5
  rw [slicePick_all] at N5
  (repeat' (first | (( (with_reducible show wpAny _ _ (call (Value.ref 119) _ _) _ _ _); refine' SpecK.use (conv_spec _ _ _ _ _ _ ?spx ?spl) ?spA ?spB ?spF ?spN ?spX ?spT ?spD ?spU ?_; walk_at "MY use"; (case spx => first | assumption | (rw [List.length_map]; omega) | omega); (case spl => assumption); intro v_c h_c tk_c hk_c F_c N_c e_c; subst e_c; (try dsimp only))) | (walk_at "MY one")))
  exact hret _ _ _ F5.keep ⟨_, _, rfl, (N5 _ (.head _)).2.2, (N5 _ (.head _)).1⟩

end
section
local macro_rules | `(tactic| walk_at "MY inst") => `(tactic| (apply_assumption; exact Fr.keep (by assumption)))
local macro_rules | `(tactic| walk_at "MY noname") => `(tactic| (apply_assumption; decide))
local macro_rules | `(tactic| walk_at "getMethod ref") => `(tactic| (refine method_inst (by k_asm) (by k_asm) (by walk_at "MY inst") (by k_is) (by k_is) (by k_is) (by walk_at "MY noname") ?_; k_whole))
local macro_rules | `(tactic| walk_at "getAttr ref") => `(tactic| (
  (with_reducible show wpAny _ _ (getAttr (Value.ref _) (PySem.Str.ofString "_headers") _) _ _ _);
  refine get_own (by k_asm) (by k_asm) (by walk_at "MY inst") (by k_is) (by k_is) (by k_is) (by k_is) (by assumption) (by k_handed) ?_; k_whole))
local macro_rules | `(tactic| walk_at "call builtin:str.lower") => `(tactic| ((with_reducible show wpAny _ _ (call (Value.builtin "str.lower") [Value.str (Mine.T _) _]) _ _ _); refine low_T (by assumption) (by first | assumption | omega) ?_))
local macro_rules | `(tactic| walk_at "compareOp NotEq ref ref") => `(tactic| refine ne_nil (News.isList (by assumption) (by kcf_m)) (News.isList (by assumption) (by kcf_m)) (by walk_at "MY rm") ?_)
local macro_rules | `(tactic| walk_at "MY st1") => `(tactic| (fail_if_success (with_reducible first | refine gApp ?_ | refine gPop ?_ | refine gTup ?_ | refine gGet ?_ | refine gIdx ?_ | refine gSplit ?_ | refine gAdd ?_)))
local macro_rules | `(tactic| walk_at "MY st") => `(tactic| ((walk_at "MY st1"); (walk_at "MY st0")))
/-- a contract of a code that may write the objects of wr -/
noncomputable abbrev SpecC (w : World) (f : Addr) (vs : List Value) (kw : List (Str × Value)) (dd uu : Nat) (s : Shared) (wr : List Addr) (Post : Value → Heap → Prop) : Prop :=
  ∀ (mean : ExcName → Option Value) (mg mb : Str → Option Value) (C : Clr) (A₀ : Around) (base h₀ : Heap) (m : Str → Option Value) (R : Result → Shared → Prop),
    Below A₀ base C.outer h₀ → Fr h₀ C.L s.heap m → (∀ b ∈ wr, b ≠ C.L ∧ h₀.get? b = none) → (hd.heap_39 w.params).In h₀ → Top VW LO mean mg mb h₀ →
    C.dp + dd < recursionLimit → C.un + uu < cLine →
    (∀ v h' tk', (∀ b o, b ∉ wr → s.heap.get? b = some o → h'.get? b = some o) → Post v h' → R (.ok (.ret v)) { s with heap := h', toks := tk' }) →
    codeAny (model PR w) C.top (.call (.ref f) ⟨vs, kw⟩) R s
theorem init_code (w : World) (s : Shared) (x dx : Addr) (hx : s.heap.get? x = some (instObj 220 dx)) (hdx : s.heap.get? dx = some (dictOf [] 0)) :
    SpecC w 112 [.ref x] [] 6 100 s [x, dx] (fun v h' => v = .none ∧ ∃ l es n, h'.get? x = some (instObj 220 dx) ∧ h'.get? dx = some (dictOf es n) ∧ getL (Str.ofString "_headers") es = some (some (Value.ref l)) ∧ (∀ nm : Str, nm ≠ Str.ofString "_headers" → getL nm es = some none) ∧ s.heap.get? l = none ∧ h'.get? l = some (listOf #[] 0)) := by
  intro mean mg mb C A₀ base h₀ m R B F hw X Tp hd hu hret
  have NM : News h₀ C.L s.heap [(x, instObj 220 dx), (dx, dictOf [] 0)] := fun p hp => by
    rcases List.mem_cons.mp hp with rfl | hp
    · exact ⟨hx, hw x (by simp)⟩
    obtain rfl := List.mem_singleton.mp hp
    exact ⟨hdx, hw dx (by simp)⟩
  (( refine' enterM ?k1 ?k2 ?kN ?k3 ?k5 ?kA ?kF ?kK ?k6 ?k7 ?k8 ?k9 ?kB ?_ ?c2 ?c3 ?c4 ?c5; (case kA => exact rfl); (case kF => exact rfl); (case kK => exact rfl); (case k1 => k_asm); (case k2 => k_asm); (case k3 => k_asm); (case k5 => k_asm); (case kN => assumption); (case k6 => k_is); (case k7 => k_is); (case k8 => k_room); (case k9 => first | exact BindsTo.of_eq rfl | exact binds_K (by k_in) rfl (by k_is) rfl rfl rfl); (case c5 => decide); (case kB => exact locs rfl); (case c2 => exact rfl); (case c3 => exact rfl); (case c4 => exact rfl); k_whole))
  intro g L' h' gs sg F0 N0 B1 X1 T1
  have hne : x ≠ dx := fun e => by
    rw [e, hdx] at hx
    have := congrArg (fun o => (Option.getD o (listOf #[] 0)).data) hx
    cases this
  try dsimp only
  (repeat' (first | (( (with_reducible show wpAny _ _ (call (Value.ref 119) _ _) _ _ _); refine' SpecK.use (conv_spec _ _ _ _ _ _ ?spx ?spl) ?spA ?spB ?spF ?spN ?spX ?spT ?spD ?spU ?_; walk_at "MY use"; (case spx => first | assumption | (rw [List.length_map]; omega) | omega); (case spl => assumption); intro v_c h_c tk_c hk_c F_c N_c e_c; subst e_c; (try dsimp only))) | (walk_at "MY one")))
  rename Fr g _ _ _ => F2
  rename News g _ _ _ => N2
  have lx : ∀ z : Addr, x < z ∧ dx < z → z ≠ x ∧ z ≠ dx := fun z hz => ⟨Nat.ne_of_gt hz.1, Nat.ne_of_gt hz.2⟩
  refine wpAny_execs_cons ?_
  refine forP g (fun i m nw => ExN2 fun (l : Addr) (k : Tok) => AndN3 (nw = [(l, listOf #[] 0), (x, instObj 220 dx), (dx, dictOf [{ hash := PyData.keyHash w.params (Str.ofString "_headers"), key := .str (Str.ofString "_headers") k, val := .ref l }] 1)]) (l ≠ x) (l ≠ dx)) ?_
  (repeat' (first | (( (with_reducible show wpAny _ _ (call (Value.ref 119) _ _) _ _ _); refine' SpecK.use (conv_spec _ _ _ _ _ _ ?spx ?spl) ?spA ?spB ?spF ?spN ?spX ?spT ?spD ?spU ?_; walk_at "MY use"; (case spx => first | assumption | (rw [List.length_map]; omega) | omega); (case spl => assumption); intro v_c h_c tk_c hk_c F_c N_c e_c; subst e_c; (try dsimp only))) | (walk_at "MY one")))
  rename Fr g _ _ _ => F3
  rename News g _ _ _ => N3
  refine' iterLP (vs := []) (fun _ => 0) (fun _ => #[]) ?jh ?l1 ?l2 ?l3 ?l4 ?l5 ?l6 ?l7 ?l8 ?_ ?_
  case jh => exact rfl
  case l1 => exact News.isList N3 (.head _)
  case l2 => exact fun j hj => absurd hj (Nat.not_lt_zero _)
  case l3 => exact fun j hj => absurd hj (Nat.not_lt_zero _)
  case l4 => exact (N3 _ (.head _)).2.1
  case l5 => exact fun j hj => absurd hj (Nat.not_lt_zero _)
  case l6 => exact F3
  case l7 => exact N3
  case l8 => exact ⟨_, _, rfl, (lx _ (by assumption)).1, (lx _ (by assumption)).2⟩
  · rintro I hI s₂ hs₂ i T' vals m nw h tk own ⟨hi, hv⟩
    exact absurd hi (Nat.not_lt_zero _)
  rintro m nw h tk ⟨l, k, rfl, hl1, hl2⟩ F4 N4
  (repeat' (first | (( (with_reducible show wpAny _ _ (call (Value.ref 119) _ _) _ _ _); refine' SpecK.use (conv_spec _ _ _ _ _ _ ?spx ?spl) ?spA ?spB ?spF ?spN ?spX ?spT ?spD ?spU ?_; walk_at "MY use"; (case spx => first | assumption | (rw [List.length_map]; omega) | omega); (case spl => assumption); intro v_c h_c tk_c hk_c F_c N_c e_c; subst e_c; (try dsimp only))) | (walk_at "MY one")))
  have sg' : ∀ b o, b ∉ [x, dx] → s.heap.get? b = some o → g.get? b = some o := fun b o hb e => sg b o (by simpa using hb) e
  refine hret _ _ _ (fun b o hb e => F4.keep _ _ (sg' b o hb e)) ⟨rfl, l, _, _, (N4 _ (.tail _ (.head _))).1, (N4 _ (.tail _ (.tail _ (.head _)))).1, ?_, ?_, ?_, (N4 _ (.head _)).1⟩
  · rfl
  · intro nm hnm
    have e1 : (Value.str (Str.ofString "_headers") k).isStr nm = false := by
      show (Str.ofString "_headers" == nm) = false
      exact beq_eq_false_iff_ne.mpr fun e => hnm e.symm
    unfold getL
    rw [List.find?_cons_of_neg (by rw [e1]; exact Bool.false_ne_true)]
    rfl
  · refine Option.eq_none_iff_forall_ne_some.mpr fun o e => ?_
    have hg := (N4 _ (.head _)).2.2
    dsimp only at hg
    rw [sg' _ _ (by simp [hl1, hl2]) e] at hg
    cases hg

end
section
local macro_rules | `(tactic| walk_at "MY inst") => `(tactic| (apply_assumption; exact Fr.keep (by assumption)))
local macro_rules | `(tactic| walk_at "MY noname") => `(tactic| (apply_assumption; decide))
local macro_rules | `(tactic| walk_at "getMethod ref") => `(tactic| (refine method_inst (by k_asm) (by k_asm) (by walk_at "MY inst") (by k_is) (by k_is) (by k_is) (by walk_at "MY noname") ?_; k_whole))
local macro_rules | `(tactic| walk_at "getAttr ref") => `(tactic| (
  (with_reducible show wpAny _ _ (getAttr (Value.ref _) (PySem.Str.ofString "_headers") _) _ _ _);
  refine get_own (by k_asm) (by k_asm) (by walk_at "MY inst") (by k_is) (by k_is) (by k_is) (by k_is) (by assumption) (by k_handed) ?_; k_whole))
local macro_rules | `(tactic| walk_at "call builtin:str.lower") => `(tactic| ((with_reducible show wpAny _ _ (call (Value.builtin "str.lower") [Value.str (Mine.T _) _]) _ _ _); refine low_T (by assumption) (by first | assumption | omega) ?_))
local macro_rules | `(tactic| walk_at "compareOp NotEq ref ref") => `(tactic| refine ne_nil (News.isList (by assumption) (by kcf_m)) (News.isList (by assumption) (by kcf_m)) (by walk_at "MY rm") ?_)
local macro_rules | `(tactic| walk_at "MY st1") => `(tactic| (fail_if_success (with_reducible first | refine gApp ?_ | refine gPop ?_ | refine gTup ?_ | refine gGet ?_ | refine gIdx ?_ | refine gSplit ?_ | refine gAdd ?_)))
local macro_rules | `(tactic| walk_at "MY st") => `(tactic| ((walk_at "MY st1"); (walk_at "MY st0")))
local macro_rules | `(tactic| walk_at "delItem ref str") => `(tactic| (
  (rename (∀ hh : Heap, Keep _ hh → InstAt hh _ _ _ _) => instI); refine' del_own ?k1 ?k2 (instI _ ?kk) ?k4 ?k5 ?k6 ?_; (case k1 => k_asm); (case k2 => k_asm); (case kk => exact Fr.keep (by assumption)); (case k4 => k_is); (case k5 => k_is); (case k6 => k_is); k_whole))
theorem set_spec (w : World) (s : Shared) (self l : Addr) (x y : List Nat) (t ty : Tok) (vs : List Value) (n : Nat) (kvs : List (List Nat × List Nat)) (hx : x.length ≤ 1000) (hxp : ∀ c ∈ x, 32 ≤ c ∧ c ≤ 126) (hy : y.length ≤ 1000) (hyp : ∀ c ∈ y, 32 ≤ c ∧ c ≤ 126) (hI : HInst s.heap self l)
    (hl : s.heap.get? l = some (listOf vs.toArray n)) (hp : PairsIn s.heap vs kvs) (hkl : ∀ kv ∈ kvs, kv.1.length ≤ 1000 ∧ ∀ c ∈ kv.1, c < 128) (hn : kvs.length ≤ 100) :
    SpecM w 133 [.ref self, .str (T x) t, .str (T y) ty] [] 12 160 s [l] (fun v h' => v = .none ∧ ∃ vs' n' D t1 t2, h'.get? l = some (listOf (vs' ++ [.ref D]).toArray n') ∧ s.heap.get? D = none ∧ h'.get? D = some (tup2 x y t1 t2) ∧ ∀ P, Pairs P vs kvs → Pairs P vs' (kvs.filter fun kv => !decide (kv.1.map lo1 = x.map lo1))) := by
  intro mean mg mb C A₀ base h₀ m Q E B F hw X Tp hd hu hret
  obtain ⟨dx, es, n1, hi1, hi2, hi3, hi4⟩ := hI
  have NM : News h₀ C.L s.heap [(l, listOf vs.toArray n)] := fun p hp => by
    obtain rfl := List.mem_singleton.mp hp
    exact ⟨hl, hw l (by simp)⟩
  ((refine wpAny_call (enterM (by k_asm) (by k_asm) (by assumption) (by k_asm) (by k_asm) rfl rfl rfl (by k_is) (by k_is) (by k_room) (by walk_at "MY bind") (locs rfl) ?_ rfl rfl rfl (by decide)); k_whole))
  intro g L' h' gs sg F0 N0 B1 X1 T1
  have sg' : ∀ b o, b ≠ l → s.heap.get? b = some o → g.get? b = some o := fun b o hb e => sg b o (by simpa using hb) e
  have nl : ∀ b o, s.heap.get? b = some o → (∀ a k, o ≠ listOf a k) → b ≠ l := fun b o e hne q => by
    rw [q, hl] at e
    exact hne _ _ (Option.some.inj e).symm
  have hi1' := sg' _ _ (nl _ _ hi1 (by intro _ _ e; have := congrArg Obj.data e; cases this)) hi1
  have hi2' := sg' _ _ (nl _ _ hi2 (by intro _ _ e; have := congrArg Obj.data e; cases this)) hi2
  have I1 : ∀ hh : Heap, Keep g hh → InstAt hh self ⟨.ref 220, some dx, .plain, #[]⟩ 220 (some (dictOf es n1)) := fun hh k => ⟨k _ _ hi1', rfl, rfl, k _ _ hi2'⟩
  have hpg : PairsIn g vs kvs := hp.mono fun b o e hc => sg' b o (nl b o e (by intro _ _ q; rw [q] at hc; injection hc with e9; exact absurd e9 (by decide))) e
  try dsimp only
  (repeat' (first | (( (with_reducible show wpAny _ _ (call (Value.ref 119) _ _) _ _ _); refine' SpecK.use (conv_spec _ _ _ _ _ _ ?spx ?spl) ?spA ?spB ?spF ?spN ?spX ?spT ?spD ?spU ?_; walk_at "MY use"; (case spx => first | assumption | (rw [List.length_map]; omega) | omega); (case spl => assumption); intro v_c h_c tk_c hk_c F_c N_c e_c; subst e_c; (try dsimp only))) | (walk_at "MY one")))
  rename Fr g _ _ _ => F2
  rename News g _ _ _ => N2
  refine' SpecM.use (own := [(l, listOf vs.toArray n)]) (rest := []) (del_spec _ _ _ l _ _ vs n kvs hx hxp ⟨dx, es, n1, ?i1, ?i2, hi3, hi4⟩ ?il ?ip hkl hn) ?spA ?spB ?spF ?spN ?spX ?spT ?spD ?spU rfl ?so ?sr ?sx ?_
  case i1 => exact F2.keep _ _ hi1'
  case i2 => exact F2.keep _ _ hi2'
  case il => exact (N2 _ (.head _)).1
  case ip => exact hpg.mono fun b o e _ => F2.keep _ _ e
  walk_at "MY use"
  case so => exact fun p hp => hp
  case sr => exact fun p hp => nomatch hp
  case sx => exact fun p hp => nomatch hp
  rintro v' h3 tk3 hk3 F3 N3 hw3 ⟨hv, vs', n', hl3, hp3⟩
  subst hv
  have N4 : News g L' h3 [(l, listOf vs'.toArray n')] := fun p hp => by
    obtain rfl := List.mem_singleton.mp hp
    exact ⟨hl3, hw3 l (by simp)⟩
  clear N3
  (repeat' (first | (( (with_reducible show wpAny _ _ (call (Value.ref 119) _ _) _ _ _); refine' SpecK.use (conv_spec _ _ _ _ _ _ ?spx ?spl) ?spA ?spB ?spF ?spN ?spX ?spT ?spD ?spU ?_; walk_at "MY use"; (case spx => first | assumption | (rw [List.length_map]; omega) | omega); (case spl => assumption); intro v_c h_c tk_c hk_c F_c N_c e_c; subst e_c; (try dsimp only))) | (walk_at "MY one")))
  rename Fr g _ _ _ => F5
  rename News g _ _ _ => N5
  have hlen := (hp3 _ hp).length
  refine' append_K ?F N5 (.tail ?ne (.head fun p hp => nomatch hp)) ?_ ?z
  case F => exact F5
  case ne => exact fun e => absurd e (Nat.ne_of_gt (by assumption))
  case z => (rw [PySem.sizeLine_eq, List.size_toArray, hlen]; exact Nat.le_trans (List.length_filter_le ..) (by omega))
  intro h6 F6 N6
  rw [List.push_toArray] at N6
  (repeat' (first | (( (with_reducible show wpAny _ _ (call (Value.ref 119) _ _) _ _ _); refine' SpecK.use (conv_spec _ _ _ _ _ _ ?spx ?spl) ?spA ?spB ?spF ?spN ?spX ?spT ?spD ?spU ?_; walk_at "MY use"; (case spx => first | assumption | (rw [List.length_map]; omega) | omega); (case spl => assumption); intro v_c h_c tk_c hk_c F_c N_c e_c; subst e_c; (try dsimp only))) | (walk_at "MY one")))
  refine hret _ _ _ (fun b o hb e => F6.keep _ _ (sg' b o (by simpa using hb) e)) ⟨rfl, vs', _, _, t, ty, (N6 _ (.tail _ (.head _))).1, ?_, (N6 _ (.head _)).1, hp3⟩
  have hg := (N6 _ (.head _)).2.2
  dsimp only at hg
  have hne : ∀ z : Addr, l < z → z ≠ l := fun z h => Nat.ne_of_gt h
  refine Option.eq_none_iff_forall_ne_some.mpr fun o e => ?_
  rw [sg' _ _ (hne _ (by assumption)) e] at hg
  cases hg

end
section
local macro_rules | `(tactic| walk_at "MY inst") => `(tactic| (apply_assumption; exact Fr.keep (by assumption)))
local macro_rules | `(tactic| walk_at "MY noname") => `(tactic| (apply_assumption; decide))
local macro_rules | `(tactic| walk_at "getMethod ref") => `(tactic| (refine method_inst (by k_asm) (by k_asm) (by walk_at "MY inst") (by k_is) (by k_is) (by k_is) (by walk_at "MY noname") ?_; k_whole))
local macro_rules | `(tactic| walk_at "getAttr ref") => `(tactic| (
  (with_reducible show wpAny _ _ (getAttr (Value.ref _) (PySem.Str.ofString "_headers") _) _ _ _);
  refine get_own (by k_asm) (by k_asm) (by walk_at "MY inst") (by k_is) (by k_is) (by k_is) (by k_is) (by assumption) (by k_handed) ?_; k_whole))
local macro_rules | `(tactic| walk_at "call builtin:str.lower") => `(tactic| ((with_reducible show wpAny _ _ (call (Value.builtin "str.lower") [Value.str (Mine.T _) _]) _ _ _); refine low_T (by assumption) (by first | assumption | omega) ?_))
local macro_rules | `(tactic| walk_at "compareOp NotEq ref ref") => `(tactic| refine ne_nil (News.isList (by assumption) (by kcf_m)) (News.isList (by assumption) (by kcf_m)) (by walk_at "MY rm") ?_)
local macro_rules | `(tactic| walk_at "MY st1") => `(tactic| (fail_if_success (with_reducible first | refine gApp ?_ | refine gPop ?_ | refine gTup ?_ | refine gGet ?_ | refine gIdx ?_ | refine gSplit ?_ | refine gAdd ?_)))
theorem pq_item : ∀ q : Fin 6, Txt.item (Str.ofString "PQRSTU") (q.val : Int) = T [80 + q.val] := by decide +kernel
theorem uz_item : ∀ q : Fin 6, Txt.item (Str.ofString "uvwxyz") (q.val : Int) = T [117 + q.val] := by decide +kernel
theorem pu_item : ∀ q : Fin 6, Txt.item (Str.ofString "pqrstu") (q.val : Int) = T [112 + q.val] := by decide +kernel
local macro_rules | `(tactic| walk_at "compareOp In str ref") => `(tactic| (refine' in_list_strs ?il ?ii ?_; (case ii => assumption); (case il => exact News.isList (by assumption) (by kcf_m))))
local macro_rules | `(tactic| walk_at "compareOp NotIn int ref") => `(tactic| (refine' notin_list_ints ?il ?ii ?_; (case ii => assumption); (case il => exact News.isList (by assumption) (by kcf_m))))
theorem any_nat (h : Nat) : ∀ l : List Nat, ((l.map Int.ofNat).any (· == (h : Int))) = decide (h ∈ l)
  | [] => rfl
  | x :: r => by
    rw [List.map_cons, List.any_cons, any_nat h r]
    by_cases e : x = h
    · subst e; simp
    · have h1 : (Int.ofNat x == (h : Int)) = false := beq_eq_false_iff_ne.mpr fun q => e (Int.ofNat.inj q)
      rw [h1, Bool.false_or]
      have h2 : (h ∈ x :: r) ↔ h ∈ r := by simp [Ne.symm e]
      simp [h2]
theorem add_lists2 {prog : Program} {w : World} {A : Around} {E : Value → Shared → Prop} {s : Shared} {h₀ : Heap} {L : Addr} {m : Str → Option Value} {news : List (Addr × Obj)} {l b : Addr} {vs ws : List Value} {Q : Value → Shared → Prop} (F : Fr h₀ L s.heap m) (N : News h₀ L s.heap news) (hl : s.heap.IsList l vs.toArray) (hb : s.heap.IsList b ws.toArray)
    (hsz : vs.length + ws.length ≤ 1000) (h : ∀ D h', Fr h₀ L h' m → News h₀ L h' ((D, listOf (vs ++ ws).toArray 0) :: news) → (∀ p ∈ news, @LT.lt Nat _ p.1 D) → Q (.ref D) { s with heap := h' }) :
    wpAny (model prog w) A (binaryOp .Add (.ref l) (.ref b)) Q E s :=
  add_lists (hsz := by rw [PySem.sizeLine_eq]; omega) F N hl hb fun h' F' N' => h _ h' F' N' fun p hp => Heap.lt_size (N p hp).1
theorem pq_idx : ∀ q : Fin 6, Builtin.Str.occurrences (Str.ofString "pqrstu") (T [112 + q.val]) 0 (Str.ofString "pqrstu").length 1 = [q.val] := by decide +kernel
theorem pq_index {prog : Program} {w : World} {A : Around} {E : Value → Shared → Prop} {s : Shared} {Q : Value → Shared → Prop} {t u : Tok} (lo : Nat) (h : lo < 6) (k : Q (.int (lo : Nat) s.toks) { s with toks := s.toks + 1 }) :
    wpAny (model prog w) A (call (.builtin "str.index") [.str (Str.ofString "pqrstu") t, .str (T [112 + lo]) u]) Q E s :=
  call_gives F.slot_str_index (typeIs_str _ _ _) F.entry_str_index (F.args_str_index_2 _ _) (gives_str_index _ _ t u lo [] (pq_idx ⟨lo, h⟩)) k
section
variable {g h : Heap} {L : Addr} {r : List (Addr × Obj)} {x0 x1 x2 x3 x4 x5 x6 x7 : Addr × Obj}
theorem bring4 (N : News g L h (x0 :: x1 :: x2 :: x3 :: x4 :: r)) : News g L h (x4 :: x0 :: x1 :: x2 :: x3 :: r) := news_re N _ (by walk_at "MY sub")
theorem permQ (N : News g L h (x0 :: x1 :: x2 :: x3 :: x4 :: x5 :: x6 :: x7 :: r)) : News g L h (x0 :: x4 :: x5 :: x6 :: x7 :: x1 :: x2 :: x3 :: r) := news_re N _ (by walk_at "MY sub")
end
local macro_rules | `(tactic| walk_at "MY st") => `(tactic| ((fail_if_success (with_reducible first
  | show wpAny _ _ (subscriptTail _ (Expr.BinOp _ _ _ _) (Value.ref _) _) _ _ _
  | show wpAny _ _ (setItem (Value.ref _) (Value.str _ _) _) _ _ _)); (walk_at "MY st1"); (walk_at "MY st0")))
theorem key_cases : ∀ up : Fin 6, ∀ lo : Fin 6, (((lo.val : Nat) : Int).fmod 2 = 0 ∧ Txt.item (Str.ofString "uvwxyz") (up.val : Int) = T (keyOf up.val lo.val)) ∨ (((lo.val : Nat) : Int).fmod 2 = 1 ∧ Txt.item (Str.ofString "UVWXYZ") (up.val : Int) = T (keyOf up.val lo.val)) := by decide +kernel
/-- where the search stands -/
inductive AskI (L' ways mates lm ln : Addr) (mv : List Value) (n : Nat) (q : List (Nat × List (Nat × Nat))) (seen : List Nat) (ts : List (Addr × Obj)) (m : Str → Option Value) (nw : List (Addr × Obj)) : Prop
  | mk (W S : Addr) (wvs svs : List Value) (kW kS : Nat) (oT oN : Obj) (x : Option Value) (h0 : nw = (W, listOf wvs.toArray kW) :: (S, listOf svs.toArray kS) :: (lm, listOf mv.toArray n) :: (L' + 1 + 1, oT) :: (L' + 1, oN) :: ts) (h1 : rv m "waiting" W) (h2 : rv m "seen" S) (h3 : rv m "ways" ways) (h4 : rv m "mates" mates) (h5 : oN.data = .cell (some (.ref ln))) (h6 : oT.data = .cell x) (h7 : Que (fun p o => (p, o) ∈ ts) wvs q) (h8 : IntsAre svs (seen.map Int.ofNat)) (h9 : L' + 1 + 1 < W) (h10 : W < S) (h11 : ∀ p ∈ ts, L' + 1 + 1 < p.1 ∧ p.1 ≠ W ∧ p.1 ≠ S) : AskI L' ways mates lm ln mv n q seen ts m nw
section
variable {L' W S lm : Addr} {a b c d : Obj} {ts : List (Addr × Obj)} (hlm : lm < L') (o1 : L' + 1 + 1 < W) (o2 : W < S) (o3 : ∀ p ∈ ts, L' + 1 + 1 < p.1 ∧ p.1 ≠ W ∧ p.1 ≠ S)
include hlm o1 o2 o3
theorem ask_W : ∀ z ∈ (S, a) :: (lm, b) :: (L' + 1 + 1, c) :: (L' + 1, d) :: ts, z.1 ≠ W := by
  intro z hz
  have h1 : lm < W := Nat.lt_trans hlm (Nat.lt_trans (Nat.lt_succ_of_lt (Nat.lt_succ_self _)) o1)
  rcases List.mem_cons.mp hz with rfl | hz
  · exact Nat.ne_of_gt o2
  rcases List.mem_cons.mp hz with rfl | hz
  · exact Nat.ne_of_lt h1
  rcases List.mem_cons.mp hz with rfl | hz
  · exact Nat.ne_of_lt o1
  rcases List.mem_cons.mp hz with rfl | hz
  · exact Nat.ne_of_lt (Nat.lt_trans (Nat.lt_succ_self _) o1)
  · exact (o3 z hz).2.1
theorem ask_S : ∀ z ∈ (W, a) :: (lm, b) :: (L' + 1 + 1, c) :: (L' + 1, d) :: ts, z.1 ≠ S := by
  intro z hz
  have h1 : lm < W := Nat.lt_trans hlm (Nat.lt_trans (Nat.lt_succ_of_lt (Nat.lt_succ_self _)) o1)
  rcases List.mem_cons.mp hz with rfl | hz
  · exact Nat.ne_of_lt o2
  rcases List.mem_cons.mp hz with rfl | hz
  · exact Nat.ne_of_lt (Nat.lt_trans h1 o2)
  rcases List.mem_cons.mp hz with rfl | hz
  · exact Nat.ne_of_lt (Nat.lt_trans o1 o2)
  rcases List.mem_cons.mp hz with rfl | hz
  · exact Nat.ne_of_lt (Nat.lt_trans (Nat.lt_trans (Nat.lt_succ_self _) o1) o2)
  · exact (o3 z hz).2.2
theorem ask_C : ∀ z ∈ (W, a) :: (S, b) :: (lm, c) :: (L' + 1, d) :: ts, z.1 ≠ L' + 1 + 1 := by
  intro z hz
  rcases List.mem_cons.mp hz with rfl | hz
  · exact Nat.ne_of_gt o1
  rcases List.mem_cons.mp hz with rfl | hz
  · exact Nat.ne_of_gt (Nat.lt_trans o1 o2)
  rcases List.mem_cons.mp hz with rfl | hz
  · exact Nat.ne_of_lt (Nat.lt_succ_of_lt (Nat.lt_succ_of_lt hlm))
  rcases List.mem_cons.mp hz with rfl | hz
  · exact Nat.ne_of_lt (Nat.lt_succ_self _)
  · exact Nat.ne_of_gt (o3 z hz).1
end
theorem filter_range_succ (f : Nat → Bool) (i : Nat) : (List.range (i + 1)).filter f = (List.range i).filter f ++ (if f i then [i] else []) := by
  rw [List.range_succ, List.filter_append]
  cases hf : f i <;> simp [hf]
theorem seq0 (x : Value) (r : List Value) : seqIndex? 0 (x :: r).toArray.size = some 0 := by
  rw [List.size_toArray, List.length_cons]
  unfold seqIndex?
  simp
theorem asks_spec (w : World) (s : Shared) (ways wl mates lm ln : Addr) (start : Nat) (t : Tok) (wv : List Value) (wkv : List (List Nat × List Nat)) (mv : List Value) (n : Nat) (mkv : List (List Nat × List Nat)) (nv : List Value) (nms : List (List Nat)) (hx : Nat → List Nat) (ab : Nat → Nat → Bool)
    (hst : start < 6) (hW : HInst s.heap ways wl) (hwl : s.heap.IsList wl wv.toArray) (hwp : PairsIn s.heap wv wkv) (hwk : ∀ kv ∈ wkv, kv.1.length ≤ 1000 ∧ ∀ c ∈ kv.1, c < 128)
    (hww : ∀ low, low < 6 → getOf [80 + low] wkv = some (hx low)) (hxl : ∀ low, low < 6 → (hx low).length ≤ 1000)
    (hM : HInst s.heap mates lm) (hml : s.heap.get? lm = some (listOf mv.toArray n)) (hmp : PairsIn s.heap mv mkv) (hmk : MatesOk mkv) (hmn : mkv.length ≤ 40)
    (hnl : s.heap.IsList ln nv.toArray) (hnv : TxtsAre nv nms) (hn6 : nms.length = 6) (hwlm : wl ≠ lm) (hlnm : ln ≠ lm)
    (hab : ∀ low, low < 6 → ∀ p, p < 6 → (Txt.split (T (hx low)) (T [44, 32])).any (· == T (nms.getD p [])) = ab low p) :
    SpecM w 274 [.ref ways, .ref mates, .ref ln, .int start t] [] 24 400 s [lm] (fun v h' => ∃ (c : Addr) (n' : Nat) (us : List Value) (ts : List (Addr × Obj)) (mv' : List Value) (n'' : Nat), v = .ref c ∧ (c, listOf us.toArray n') ∈ ts ∧ (∀ p ∈ ts, s.heap.get? p.1 = none ∧ h'.get? p.1 = some p.2) ∧ IPairs (fun p o => (p, o) ∈ ts) us (bfs ab mkv 7 [(start, [])] []) ∧
      h'.get? lm = some (listOf mv'.toArray n'') ∧ ∀ P : Addr → Obj → Prop, (∀ p o, (p, o) ∈ ts → P p o) → Pairs P mv mkv → Pairs P mv' (setAll mkv (bfs ab mkv 7 [(start, [])] []))) := by
  intro mean mg mb C A₀ base h₀ m Q E B F hw X Tp hd hu hret
  obtain ⟨dx, es, n1, wi1, wi2, wi3, wi4⟩ := hW
  obtain ⟨dx', es', n1', mi1, mi2, mi3, mi4⟩ := hM
  have NM : News h₀ C.L s.heap [(lm, listOf mv.toArray n)] := fun p hp => by
    obtain rfl := List.mem_singleton.mp hp
    exact ⟨hml, hw lm (by simp)⟩
  ((refine wpAny_call (enterMC (by k_asm) (by k_asm) (by assumption) (by k_asm) (by k_asm) rfl rfl rfl (by k_is) (by k_is) (by k_room) (by walk_at "MY bind") rfl (by decide +kernel) ?_ rfl rfl rfl); k_whole))
  intro g L' h' tk' cells gs sg F0 N0 offC X0 B1 X1 T1
  have sg' : ∀ b o, b ≠ lm → s.heap.get? b = some o → g.get? b = some o := fun b o hb e => sg b o (by simpa using hb) e
  have nl : ∀ b o, s.heap.get? b = some o → (∀ a k, o ≠ listOf a k) → b ≠ lm := fun b o e hne q => by
    rw [q, hml] at e
    exact hne _ _ (Option.some.inj e).symm
  replace wi1 := sg' _ _ (nl _ _ wi1 (by intro _ _ e; have := congrArg Obj.data e; cases this)) wi1
  replace wi2 := sg' _ _ (nl _ _ wi2 (by intro _ _ e; have := congrArg Obj.data e; cases this)) wi2
  replace mi1 := sg' _ _ (nl _ _ mi1 (by intro _ _ e; have := congrArg Obj.data e; cases this)) mi1
  replace mi2 := sg' _ _ (nl _ _ mi2 (by intro _ _ e; have := congrArg Obj.data e; cases this)) mi2
  have I1 : ∀ hh : Heap, Keep g hh → InstAt hh ways ⟨.ref 220, some dx, .plain, #[]⟩ 220 (some (dictOf es n1)) := fun hh k => ⟨k _ _ wi1, rfl, rfl, k _ _ wi2⟩
  have I2 : ∀ hh : Heap, Keep g hh → InstAt hh mates ⟨.ref 220, some dx', .plain, #[]⟩ 220 (some (dictOf es' n1')) := fun hh k => ⟨k _ _ mi1, rfl, rfl, k _ _ mi2⟩
  replace hwl : g.IsList wl wv.toArray := hwl.at fun o e => sg' _ _ hwlm e
  replace hnl : g.IsList ln nv.toArray := hnl.at fun o e => sg' _ _ hlnm e
  have tupK : ∀ b o, s.heap.get? b = some o → o.cls = .type "tuple" → g.get? b = some o := fun b o e hc => sg' b o (nl b o e (by intro _ _ q; rw [q] at hc; injection hc with e9; exact absurd e9 (by decide))) e
  have hwpg : PairsIn g wv wkv := hwp.mono tupK
  have hmpg : PairsIn g mv mkv := hmp.mono tupK
  obtain ⟨oc, od, hE, d0, d0'⟩ := CellsAre.two X0
  subst hE
  have d1 : oc.data = .cell none := d0
  have d2 : od.data = .cell (some (.ref ln)) := d0'
  clear d0 d0' X0
  try dsimp only
  have hlm : lm < L' := offC _ (.head _)
  have N1 : News g L' h' [(L' + 1 + 1, oc), (L' + 1, od), (lm, listOf mv.toArray n)] := N0
  clear N0
  with_reducible refine cutL2 (At s g L' (fun m nw => ∃ ts, AskI L' ways mates lm ln mv n [(start, [])] [] ts m nw)) ?_ ?_
  · (repeat' (first | (( (with_reducible show wpAny _ _ (call (Value.ref 119) _ _) _ _ _); refine' SpecK.use (conv_spec _ _ _ _ _ _ ?spx ?spl) ?spA ?spB ?spF ?spN ?spX ?spT ?spD ?spU ?_; walk_at "MY use"; (case spx => first | assumption | (rw [List.length_map]; omega) | omega); (case spl => assumption); intro v_c h_c tk_c hk_c F_c N_c e_c; subst e_c; (try dsimp only))) | (walk_at "MY one")))
    rename Fr g _ _ _ => F2
    rename News g _ _ _ => N2
    have fin : ∀ (h9 : Heap) (k9 : Nat) (m9 : Str → Option Value) (W S D c : Addr), Fr g L' h9 m9 → News g L' h9 [(S, listOf #[] 0), (W, listOf #[.ref D] 0), (D, qtup start c t), (c, listOf #[] 0), (L' + 1 + 1, oc), (L' + 1, od), (lm, listOf mv.toArray n)] →
        rv m9 "waiting" W → rv m9 "seen" S → rv m9 "ways" ways → rv m9 "mates" mates → L' + 1 + 1 < W → W < S → L' + 1 + 1 < D → D < W → D < S → L' + 1 + 1 < c → c < W → c < S → Nxt (At s g L' (fun m nw => ∃ ts, AskI L' ways mates lm ln mv n [(start, [])] [] ts m nw)) .next { s with heap := h9, toks := k9 } := by
      intro h9 k9 m9 W S D c F9 N9 e1 e2 e3 e4 o1 o2 o3 o4 o5 o6 o7 o8
      refine Nxt.at [(W, listOf #[.ref D] 0), (S, listOf #[] 0), (lm, listOf mv.toArray n), (L' + 1 + 1, oc), (L' + 1, od), (D, qtup start c t), (c, listOf #[] 0)] F9 (news_re N9 _ (by kcf_all)) ?_
      refine ⟨[(D, qtup start c t), (c, listOf #[] 0)], W, S, [.ref D], [], _, _, _, _, _, rfl, e1, e2, e3, e4, d2, d1, .cons _ _ _ _ _ [] [] (.head _) (.tail _ (.head _)) .nil .nil, .nil, o1, o2, fun p hp => ?_⟩
      rcases List.mem_cons.mp hp with rfl | hp
      · exact ⟨o3, Nat.ne_of_lt o4, Nat.ne_of_lt o5⟩
      · obtain rfl := List.mem_singleton.mp hp
        exact ⟨o6, Nat.ne_of_lt o7, Nat.ne_of_lt o8⟩
    exact fin _ _ _ _ _ _ _ F2 N2 rfl rfl rfl rfl (by (first | assumption | exact And.left (by assumption) | exact And.left (And.right (by assumption)) | exact And.left (And.right (And.right (by assumption))) | exact And.left (And.right (And.right (And.right (by assumption)))) | exact And.left (And.right (And.right (And.right (And.right (by assumption))))) | exact And.left (And.right (And.right (And.right (And.right (And.right (by assumption)))))) | exact And.left (And.right (And.right (And.right (And.right (And.right (And.right (by assumption))))))) | exact And.left (And.right (And.right (And.right (And.right (And.right (And.right (And.right (by assumption)))))))) | exact And.left (And.right (And.right (And.right (And.right (And.right (And.right (And.right (And.right (by assumption))))))))) | exact And.right (by assumption) | exact And.right (And.right (by assumption)) | exact And.right (And.right (And.right (by assumption))) | exact And.right (And.right (And.right (And.right (by assumption)))) | exact And.right (And.right (And.right (And.right (And.right (by assumption))))) | exact And.right (And.right (And.right (And.right (And.right (And.right (by assumption)))))) | exact And.right (And.right (And.right (And.right (And.right (And.right (And.right (by assumption))))))) | exact And.right (And.right (And.right (And.right (And.right (And.right (And.right (And.right (by assumption)))))))))) (by (first | assumption | exact And.left (by assumption) | exact And.left (And.right (by assumption)) | exact And.left (And.right (And.right (by assumption))) | exact And.left (And.right (And.right (And.right (by assumption)))) | exact And.left (And.right (And.right (And.right (And.right (by assumption))))) | exact And.left (And.right (And.right (And.right (And.right (And.right (by assumption)))))) | exact And.left (And.right (And.right (And.right (And.right (And.right (And.right (by assumption))))))) | exact And.left (And.right (And.right (And.right (And.right (And.right (And.right (And.right (by assumption)))))))) | exact And.left (And.right (And.right (And.right (And.right (And.right (And.right (And.right (And.right (by assumption))))))))) | exact And.right (by assumption) | exact And.right (And.right (by assumption)) | exact And.right (And.right (And.right (by assumption))) | exact And.right (And.right (And.right (And.right (by assumption)))) | exact And.right (And.right (And.right (And.right (And.right (by assumption))))) | exact And.right (And.right (And.right (And.right (And.right (And.right (by assumption)))))) | exact And.right (And.right (And.right (And.right (And.right (And.right (And.right (by assumption))))))) | exact And.right (And.right (And.right (And.right (And.right (And.right (And.right (And.right (by assumption)))))))))) (by (first | assumption | exact And.left (by assumption) | exact And.left (And.right (by assumption)) | exact And.left (And.right (And.right (by assumption))) | exact And.left (And.right (And.right (And.right (by assumption)))) | exact And.left (And.right (And.right (And.right (And.right (by assumption))))) | exact And.left (And.right (And.right (And.right (And.right (And.right (by assumption)))))) | exact And.left (And.right (And.right (And.right (And.right (And.right (And.right (by assumption))))))) | exact And.left (And.right (And.right (And.right (And.right (And.right (And.right (And.right (by assumption)))))))) | exact And.left (And.right (And.right (And.right (And.right (And.right (And.right (And.right (And.right (by assumption))))))))) | exact And.right (by assumption) | exact And.right (And.right (by assumption)) | exact And.right (And.right (And.right (by assumption))) | exact And.right (And.right (And.right (And.right (by assumption)))) | exact And.right (And.right (And.right (And.right (And.right (by assumption))))) | exact And.right (And.right (And.right (And.right (And.right (And.right (by assumption)))))) | exact And.right (And.right (And.right (And.right (And.right (And.right (And.right (by assumption))))))) | exact And.right (And.right (And.right (And.right (And.right (And.right (And.right (And.right (by assumption)))))))))) (by (first | assumption | exact And.left (by assumption) | exact And.left (And.right (by assumption)) | exact And.left (And.right (And.right (by assumption))) | exact And.left (And.right (And.right (And.right (by assumption)))) | exact And.left (And.right (And.right (And.right (And.right (by assumption))))) | exact And.left (And.right (And.right (And.right (And.right (And.right (by assumption)))))) | exact And.left (And.right (And.right (And.right (And.right (And.right (And.right (by assumption))))))) | exact And.left (And.right (And.right (And.right (And.right (And.right (And.right (And.right (by assumption)))))))) | exact And.left (And.right (And.right (And.right (And.right (And.right (And.right (And.right (And.right (by assumption))))))))) | exact And.right (by assumption) | exact And.right (And.right (by assumption)) | exact And.right (And.right (And.right (by assumption))) | exact And.right (And.right (And.right (And.right (by assumption)))) | exact And.right (And.right (And.right (And.right (And.right (by assumption))))) | exact And.right (And.right (And.right (And.right (And.right (And.right (by assumption)))))) | exact And.right (And.right (And.right (And.right (And.right (And.right (And.right (by assumption))))))) | exact And.right (And.right (And.right (And.right (And.right (And.right (And.right (And.right (by assumption)))))))))) (by (first | assumption | exact And.left (by assumption) | exact And.left (And.right (by assumption)) | exact And.left (And.right (And.right (by assumption))) | exact And.left (And.right (And.right (And.right (by assumption)))) | exact And.left (And.right (And.right (And.right (And.right (by assumption))))) | exact And.left (And.right (And.right (And.right (And.right (And.right (by assumption)))))) | exact And.left (And.right (And.right (And.right (And.right (And.right (And.right (by assumption))))))) | exact And.left (And.right (And.right (And.right (And.right (And.right (And.right (And.right (by assumption)))))))) | exact And.left (And.right (And.right (And.right (And.right (And.right (And.right (And.right (And.right (by assumption))))))))) | exact And.right (by assumption) | exact And.right (And.right (by assumption)) | exact And.right (And.right (And.right (by assumption))) | exact And.right (And.right (And.right (And.right (by assumption)))) | exact And.right (And.right (And.right (And.right (And.right (by assumption))))) | exact And.right (And.right (And.right (And.right (And.right (And.right (by assumption)))))) | exact And.right (And.right (And.right (And.right (And.right (And.right (And.right (by assumption))))))) | exact And.right (And.right (And.right (And.right (And.right (And.right (And.right (And.right (by assumption)))))))))) (by (first | assumption | exact And.left (by assumption) | exact And.left (And.right (by assumption)) | exact And.left (And.right (And.right (by assumption))) | exact And.left (And.right (And.right (And.right (by assumption)))) | exact And.left (And.right (And.right (And.right (And.right (by assumption))))) | exact And.left (And.right (And.right (And.right (And.right (And.right (by assumption)))))) | exact And.left (And.right (And.right (And.right (And.right (And.right (And.right (by assumption))))))) | exact And.left (And.right (And.right (And.right (And.right (And.right (And.right (And.right (by assumption)))))))) | exact And.left (And.right (And.right (And.right (And.right (And.right (And.right (And.right (And.right (by assumption))))))))) | exact And.right (by assumption) | exact And.right (And.right (by assumption)) | exact And.right (And.right (And.right (by assumption))) | exact And.right (And.right (And.right (And.right (by assumption)))) | exact And.right (And.right (And.right (And.right (And.right (by assumption))))) | exact And.right (And.right (And.right (And.right (And.right (And.right (by assumption)))))) | exact And.right (And.right (And.right (And.right (And.right (And.right (And.right (by assumption))))))) | exact And.right (And.right (And.right (And.right (And.right (And.right (And.right (And.right (by assumption)))))))))) (by (first | assumption | exact And.left (by assumption) | exact And.left (And.right (by assumption)) | exact And.left (And.right (And.right (by assumption))) | exact And.left (And.right (And.right (And.right (by assumption)))) | exact And.left (And.right (And.right (And.right (And.right (by assumption))))) | exact And.left (And.right (And.right (And.right (And.right (And.right (by assumption)))))) | exact And.left (And.right (And.right (And.right (And.right (And.right (And.right (by assumption))))))) | exact And.left (And.right (And.right (And.right (And.right (And.right (And.right (And.right (by assumption)))))))) | exact And.left (And.right (And.right (And.right (And.right (And.right (And.right (And.right (And.right (by assumption))))))))) | exact And.right (by assumption) | exact And.right (And.right (by assumption)) | exact And.right (And.right (And.right (by assumption))) | exact And.right (And.right (And.right (And.right (by assumption)))) | exact And.right (And.right (And.right (And.right (And.right (by assumption))))) | exact And.right (And.right (And.right (And.right (And.right (And.right (by assumption)))))) | exact And.right (And.right (And.right (And.right (And.right (And.right (And.right (by assumption))))))) | exact And.right (And.right (And.right (And.right (And.right (And.right (And.right (And.right (by assumption)))))))))) (by (first | assumption | exact And.left (by assumption) | exact And.left (And.right (by assumption)) | exact And.left (And.right (And.right (by assumption))) | exact And.left (And.right (And.right (And.right (by assumption)))) | exact And.left (And.right (And.right (And.right (And.right (by assumption))))) | exact And.left (And.right (And.right (And.right (And.right (And.right (by assumption)))))) | exact And.left (And.right (And.right (And.right (And.right (And.right (And.right (by assumption))))))) | exact And.left (And.right (And.right (And.right (And.right (And.right (And.right (And.right (by assumption)))))))) | exact And.left (And.right (And.right (And.right (And.right (And.right (And.right (And.right (And.right (by assumption))))))))) | exact And.right (by assumption) | exact And.right (And.right (by assumption)) | exact And.right (And.right (And.right (by assumption))) | exact And.right (And.right (And.right (And.right (by assumption)))) | exact And.right (And.right (And.right (And.right (And.right (by assumption))))) | exact And.right (And.right (And.right (And.right (And.right (And.right (by assumption)))))) | exact And.right (And.right (And.right (And.right (And.right (And.right (And.right (by assumption))))))) | exact And.right (And.right (And.right (And.right (And.right (And.right (And.right (And.right (by assumption))))))))))
  clear N1 F0 d1 d2 oc od
  rintro s' ⟨h1, tk1, m1, nw1, rfl, F1, N1, ts0, hA⟩
  obtain ⟨RES, hRES⟩ : ∃ R, R = bfs ab mkv 7 [(start, [])] [] := ⟨_, rfl⟩
  rw [← hRES] at hret
  with_reducible refine cutR1 (fun s' => RES = [] ∧ At s g L' (fun m nw => ExN2 fun seen ts => AskI L' ways mates lm ln mv n [] seen ts m nw) s') ?_ ?_
  · walk_at "MY cons"
    with_reducible refine whileR (fun n' s' => At s g L' (fun m nw => ExN3 fun q seen ts => AndN7 (AskI L' ways mates lm ln mv n q seen ts m nw) (bfs ab mkv n' q seen = RES) ((∀ x ∈ q, x.1 < 6 ∧ (∀ p ∈ x.2, p.1 < 6 ∧ p.2 < 6) ∧ x.2.length + n' ≤ 7)) (seen.Nodup) ((∀ x ∈ seen, x < 6)) (q.length + 6 ≤ n' + seen.length) (n' ≤ 7)) s') 7 ?_ ?_
    · exact ⟨h1, _, m1, nw1, rfl, F1, N1, _, [], ts0, hA, hRES.symm, fun x hx => by obtain rfl := List.mem_singleton.mp hx; exact ⟨hst, (fun p hp => (nomatch hp)), Nat.le_refl 7⟩, List.nodup_nil, fun x hx => (nomatch hx), Nat.le_refl 7, Nat.le_refl 7⟩
    clear hA N1 F1
    rintro n' s' ⟨h1, tk1, m1, nw1, rfl, F1, N2, q, seen, ts, ⟨W, S, wvs, svs, kW, kS, oT, oN, x, rfl, e1, e2, e3, e4, c1, c2, hq, hs, o1, o2, o3⟩, hb, hq6, hsn, hs6, hfu, hn7⟩
    cases hq with
    | nil =>
      (repeat' (first | (( (with_reducible show wpAny _ _ (call (Value.ref 119) _ _) _ _ _); refine' SpecK.use (conv_spec _ _ _ _ _ _ ?spx ?spl) ?spA ?spB ?spF ?spN ?spX ?spT ?spD ?spU ?_; walk_at "MY use"; (case spx => first | assumption | (rw [List.length_map]; omega) | omega); (case spl => assumption); intro v_c h_c tk_c hk_c F_c N_c e_c; subst e_c; (try dsimp only))) | (walk_at "MY one")))
      rename Fr g _ _ _ => F3
      rename News g _ _ _ => N3
      have hR : RES = [] := by rw [← hb]; cases n' <;> rfl
      refine ⟨hR, At.mk' _ F3 (fun p hp => N3 p (.tail _ hp)) ⟨seen, ts, W, S, [], svs, kW, kS, oT, oN, x, rfl, e1, e2, e3, e4, c1, c2, .nil, hs, o1, o2, o3⟩⟩
    | cons p c tq low nq us path hq1 hq2 hq3 hq4 =>
      rename_i vs q
      have hlow : low < 6 := (hq6 _ (.head _)).1
      have hpath6 : ∀ p ∈ path, p.1 < 6 ∧ p.2 < 6 := (hq6 _ (.head _)).2.1
      have hpathl : path.length + n' ≤ 7 := (hq6 _ (.head _)).2.2
      have hwn : ¬ (Value.ref p :: vs).isEmpty = true := Bool.false_ne_true
      (repeat' (first | (( (with_reducible show wpAny _ _ (call (Value.ref 119) _ _) _ _ _); refine' SpecK.use (conv_spec _ _ _ _ _ _ ?spx ?spl) ?spA ?spB ?spF ?spN ?spX ?spT ?spD ?spU ?_; walk_at "MY use"; (case spx => first | assumption | (rw [List.length_map]; omega) | omega); (case spl => assumption); intro v_c h_c tk_c hk_c F_c N_c e_c; subst e_c; (try dsimp only))) | (walk_at "MY one")))
      rename Fr g _ _ _ => F3
      rename News g _ _ _ => N3
      have N4 : News g L' _ ((W, listOf (Value.ref p :: vs).toArray kW) :: (S, listOf svs.toArray kS) :: (lm, listOf mv.toArray n) :: (L' + 1 + 1, oT) :: (L' + 1, oN) :: ts) := fun p hp => N3 p (.tail _ hp)
      refine kl_popAt (its := (Value.ref p :: vs).toArray) (k := 0) (p := []) (y := .ref p) (q := vs) F3 N4 rfl ?_ rfl (.head (ask_W hlm o1 o2 o3)) ?_ ?_
      · exact seq0 _ _
      · (rw [PySem.sizeLine_eq, List.length_cons, hq4.length]; rw [List.length_cons] at hfu; have := nodup_small hsn hs6; omega)
      intro h5 F5 N5
      dsimp only [List.nil_append] at N5
      clear N4 N3 F3
      have hTup : h5.IsTuple p #[.int (low : Nat) tq, .ref c] := ⟨_, (N5 _ (.tail _ (.tail _ (.tail _ (.tail _ (.tail _ hq1)))))).1, rfl, _, rfl⟩
      (repeat' (first | (( (with_reducible show wpAny _ _ (call (Value.ref 119) _ _) _ _ _); refine' SpecK.use (conv_spec _ _ _ _ _ _ ?spx ?spl) ?spA ?spB ?spF ?spN ?spX ?spT ?spD ?spU ?_; walk_at "MY use"; (case spx => first | assumption | (rw [List.length_map]; omega) | omega); (case spl => assumption); intro v_c h_c tk_c hk_c F_c N_c e_c; subst e_c; (try dsimp only))) | (walk_at "MY one")))
      refine assign2 rfl hTup F5 N5 rfl rfl rfl fun h6 tk6 F6' N6' => ?_
      have F6 : Fr g L' h6 _ := F6'
      have N6 : News g L' h6 _ := N6'
      clear F6' N6'
      (repeat' (first | (( (with_reducible show wpAny _ _ (call (Value.ref 119) _ _) _ _ _); refine' SpecK.use (conv_spec _ _ _ _ _ _ ?spx ?spl) ?spA ?spB ?spF ?spN ?spX ?spT ?spD ?spU ?_; walk_at "MY use"; (case spx => first | assumption | (rw [List.length_map]; omega) | omega); (case spl => assumption); intro v_c h_c tk_c hk_c F_c N_c e_c; subst e_c; (try dsimp only))) | (walk_at "MY one")))
      rename Fr g L' _ _ => F7
      rename News g L' _ _ => N7
      have hget := fun (s1 : Shared) (t1 : Tok) (i1 : HInst s1.heap ways wl) (i2 : s1.heap.IsList wl wv.toArray) (i3 : PairsIn s1.heap wv wkv) => get_spec w s1 ways wl [80 + low] t1 wv wkv (by simp) (fun c hc => by obtain rfl := List.mem_singleton.mp hc; omega) i1 i2 i3 hwk
      rw [hww low hlow] at hget
      rw [pq_item ⟨low, hlow⟩]
      refine' Spec.use (hget _ _ ⟨dx, es, n1, ?g1, ?g2, wi3, wi4⟩ ?g3 ?g4) ?spA ?spB ?spF ?spN ?spX ?spT ?spD ?spU ?_
      case g1 => exact F7.keep _ _ wi1
      case g2 => exact F7.keep _ _ wi2
      case g3 => exact F7.lst hwl
      case g4 => exact hwpg.mono fun b o e _ => F7.keep _ _ e
      walk_at "MY use"
      intro v8 h8 tk8 hk8 F8 N8 hp8
      revert v8
      refine un10 ?_
      intro t8
      clear hget
      (repeat' (first | (( (with_reducible show wpAny _ _ (call (Value.ref 119) _ _) _ _ _); refine' SpecK.use (conv_spec _ _ _ _ _ _ ?spx ?spl) ?spA ?spB ?spF ?spN ?spX ?spT ?spD ?spU ?_; walk_at "MY use"; (case spx => first | assumption | (rw [List.length_map]; omega) | omega); (case spl => assumption); intro v_c h_c tk_c hk_c F_c N_c e_c; subst e_c; (try dsimp only))) | (walk_at "MY one")))
      rename Fr g L' _ _ => F9
      rename News g L' _ _ => N9
      refine KSpl.split1 F9 N9 (by decide) ?_ ?_
      rotate_left
      · have := hxl low hlow
        rw [T_len, PySem.sizeLine_eq]; omega
      intro D spl h9 tk9 hspl hsa F10 N10 ltD
      (repeat' (first | (( (with_reducible show wpAny _ _ (call (Value.ref 119) _ _) _ _ _); refine' SpecK.use (conv_spec _ _ _ _ _ _ ?spx ?spl) ?spA ?spB ?spF ?spN ?spX ?spT ?spD ?spU ?_; walk_at "MY use"; (case spx => first | assumption | (rw [List.length_map]; omega) | omega); (case spl => assumption); intro v_c h_c tk_c hk_c F_c N_c e_c; subst e_c; (try dsimp only))) | (walk_at "MY one")))
      have N11 : News g L' h9 ((L' + 1 + 1, oT) :: (D, listOf (strValues spl).toArray 0) :: (W, listOf vs.toArray (kW + 1)) :: (S, listOf svs.toArray kS) :: (lm, listOf mv.toArray n) :: (L' + 1, oN) :: ts) := news_re N10 _ (by walk_at "MY sub")
      refine storeX_C F10 N11 rfl (.head fun z hz => ?_) c2 ?_
      · rcases List.mem_cons.mp hz with rfl | hz
        · exact Nat.ne_of_gt (ltD (L' + 1 + 1, oT) (by simp))
        · exact ask_C hlm o1 o2 o3 z hz
      intro h12 oT' F12 N12 c2'
      clear N11 N10 F10 N9 F9
      (repeat' (first | (( (with_reducible show wpAny _ _ (call (Value.ref 119) _ _) _ _ _); refine' SpecK.use (conv_spec _ _ _ _ _ _ ?spx ?spl) ?spA ?spB ?spF ?spN ?spX ?spT ?spD ?spU ?_; walk_at "MY use"; (case spx => first | assumption | (rw [List.length_map]; omega) | omega); (case spl => assumption); intro v_c h_c tk_c hk_c F_c N_c e_c; subst e_c; (try dsimp only))) | (walk_at "MY one")))
      walk_at "MY cons"
      refine forX ?_
      (repeat' (first | (( (with_reducible show wpAny _ _ (call (Value.ref 119) _ _) _ _ _); refine' SpecK.use (conv_spec _ _ _ _ _ _ ?spx ?spl) ?spA ?spB ?spF ?spN ?spX ?spT ?spD ?spU ?_; walk_at "MY use"; (case spx => first | assumption | (rw [List.length_map]; omega) | omega); (case spl => assumption); intro v_c h_c tk_c hk_c F_c N_c e_c; subst e_c; (try dsimp only))) | (walk_at "MY one")))
      rename IsRange _ _ _ _ _ _ _ _ => hrng
      rename Fr g L' _ _ => F13
      rename News g L' _ _ => N13
      refine' LCt.CompSrcT.range (n := 6) (by rfl) F13 N13 hrng ?sm ?rn ?sz ?_
      case sm => decide
      case rn => decide
      case sz => (rw [PySem.sizeLine_eq]; omega)
      intro g'
      refine compJT (fun i ys nw => nw = _ ∧ IntsAre ys ((((List.range i).filter (ab low)).map Int.ofNat))) (fun _ _ _ _ => trivial) ⟨rfl, .nil⟩ ?_ ?_
      · rintro i v I oI C oC D0 m₂ ys nw h tk E' hi ⟨t2, rfl⟩ ⟨rfl, hys⟩ hC hxx F2 N2 off ne
        have hab1 := hab low hlow i hi
        rw [show T [44, 32] = Str.ofString ", " by decide, ← hspl] at hab1
        rw [show (0 : Int) + (i : Nat) = (i : Nat) by omega] at hxx
        have hst1 := filter_range_succ (ab low) i
        rw [show nms.getD i [] = nms.getD ((i : Nat) : Int).toNat [] from rfl] at hab1
        (repeat' (first | (( (with_reducible show wpAny _ _ (call (Value.ref 119) _ _) _ _ _); refine' SpecK.use (conv_spec _ _ _ _ _ _ ?spx ?spl) ?spA ?spB ?spF ?spN ?spX ?spT ?spD ?spU ?_; walk_at "MY use"; (case spx => first | assumption | (rw [List.length_map]; omega) | omega); (case spl => assumption); intro v_c h_c tk_c hk_c F_c N_c e_c; subst e_c; (try dsimp only))) | (walk_at "MY one")))
        · rename (_ = true) => hb1
          rw [hab1] at hb1
          rw [if_pos hb1] at hst1
          (refine TurnC.end _ (by assumption) (by assumption) (by kcf_all) (by assumption) ?_)
          exact ⟨rfl, by rw [hst1, List.map_append]; exact hys.append (.cons _ _ .nil)⟩
        · rename (_ = false) => hb1
          rw [hab1] at hb1
          rw [if_neg (by rw [hb1]; exact Bool.false_ne_true), List.append_nil] at hst1
          (refine TurnC.end _ (by assumption) (by assumption) (by kcf_all) (by assumption) ?_)
          exact ⟨rfl, by rw [hst1]; exact hys⟩
      rintro ys nw ⟨rfl, hys⟩
      unfold LCg.FinE
      obtain ⟨HS, hHS⟩ : ∃ HS, HS = (List.range 6).filter (ab low) := ⟨_, rfl⟩
      rw [← hHS] at hys
      intro D2 h14 tk14 F14 N14 off1
      clear N13 F13 hrng
      have hlen : seen.length ≤ 6 := nodup_small hsn hs6
      obtain ⟨k, rfl⟩ : ∃ k, n' = k + 1 := ⟨n' - 1, by rw [List.length_cons] at hfu; omega⟩
      have hb' : (match highs mkv low path HS seen q with
        | .inl steps => steps
        | .inr (seen', q') => bfs ab mkv k q' seen') = RES := by rw [hHS]; exact hb
      obtain ⟨R0, hR0⟩ : ∃ R0, R0 = highs mkv low path HS seen q := ⟨_, rfl⟩
      rw [← hR0] at hb'
      refine' iterLX (l := D2) (vs := ys) (fun i m nw => ExN3 fun q' seen' ts' => AndN11 (AskI L' ways mates lm ln mv n q' seen' ts' m nw) ((∀ p ∈ nw.take 2, p.1 ≠ D2)) (iv m "low" (low : Nat)) (rv m "path" c) ((c, listOf us.toArray nq) ∈ ts') (IPairs (fun p o => (p, o) ∈ ts') us path) (highs mkv low path (HS.drop i) seen' q' = R0) ((∀ x ∈ q', x.1 < 6 ∧ (∀ p ∈ x.2, p.1 < 6 ∧ p.2 < 6) ∧ x.2.length + k ≤ 7)) (seen'.Nodup) ((∀ x ∈ seen', x < 6)) (q'.length + 6 ≤ k + seen'.length)) ?jh ?j1 ?j2 F14 ?j4 ?j5 ?_ ?_
      case jh => exact rfl
      case j1 => exact News.isList N14 (.head _)
      case j2 => exact (N14 _ (.head _)).2.1
      case j4 =>
        exact news_re N14 ((W, listOf vs.toArray (kW + 1)) :: (S, listOf svs.toArray kS) :: (lm, listOf mv.toArray n) :: (L' + 1 + 1, oT') :: (L' + 1, oN) :: ts) (by walk_at "MY sub")
      case j5 =>
        exact ⟨q, seen, ts, ⟨W, S, vs, svs, _, _, _, _, _, rfl, e1, e2, e3, e4, c1, c2', hq4, hs, o1, o2, o3⟩, (fun p hp => by rcases List.mem_cons.mp hp with rfl | hp; exact off1.2.2.1; obtain rfl := List.mem_singleton.mp hp; exact off1.2.2.2.1), ⟨_, rfl⟩, rfl, hq2, hq3, hR0.symm, fun x hx => ⟨(hq6 x (.tail _ hx)).1, (hq6 x (.tail _ hx)).2.1, Nat.le_of_succ_le (hq6 x (.tail _ hx)).2.2⟩, hsn, hs6, by rw [List.length_cons] at hfu; omega⟩
      · rintro I hIlt i v m nw h tk own hPv ⟨q', seen', ts', ⟨W', S', wvs', svs', kW', kS', oT2, oN2, x2, hnw, f1, f2, f3, f4, d1, d2, hq', hs', p1, p2, p3⟩, hD2, ⟨tl, hlow1⟩, hpath, hcm, hip, hhi, hq6', hsn', hs6', hfu'⟩ off hown hIo F15 N15
        subst hnw
        obtain ⟨hi, th, hv⟩ := ints_get hys hPv
        have hi' : i < HS.length := by simpa using hi
        rw [List.getElem_map] at hv
        obtain ⟨hg, hhg⟩ : ∃ hg, hg = HS[i] := ⟨_, rfl⟩
        rw [← hhg] at hv
        replace hv : v = .int ((hg : Nat) : Int) th := hv
        subst hv
        have hg6 : hg < 6 := by
          have := List.getElem_mem hi'
          rw [← hhg, hHS] at this
          exact List.mem_range.mp (List.mem_filter.mp this).1
        rw [List.drop_eq_getElem_cons hi', ← hhg, highs] at hhi
        have F16 : Fr g L' h m := F15
        have N16 : News g L' h (((W', listOf wvs'.toArray kW') :: (S', listOf svs'.toArray kS') :: (lm, listOf mv.toArray n) :: (L' + 1 + 1, oT2) :: (L' + 1, oN2) :: ts') ++ own) := N15
        clear F15 N15
        try clear hq1; try clear hq2; try clear hq3; try clear hq4; try clear hq6; try clear hsn; try clear hs6; try clear hfu; try clear hs; try clear o1; try clear o2; try clear o3; try clear e1; try clear e2; try clear e3; try clear e4; try clear c1; try clear c2; try clear hb; try clear N14; try clear F14; try clear off1; try clear ltD; try clear hb; try clear hlen; try clear hwn
        have hW2 : W' ≠ D2 := hD2 _ (.head _)
        have hS2 : S' ≠ D2 := hD2 _ (.tail _ (.head _))
        have hWI : W' ≠ I := off _ (.head _)
        have hSI : S' ≠ I := off _ (.tail _ (.head _))
        have hoS : ∀ p ∈ own, p.1 ≠ S' := fun p hp e => by
          have := hown p hp
          rw [e] at this
          rcases List.mem_cons.mp this with q | q
          · exact hSI q
          · exact hS2 (List.mem_singleton.mp q)
        have hoW : ∀ p ∈ own, p.1 ≠ W' := fun p hp e => by
          have := hown p hp
          rw [e] at this
          rcases List.mem_cons.mp this with q | q
          · exact hWI q
          · exact hW2 (List.mem_singleton.mp q)
        (repeat' (first | (( (with_reducible show wpAny _ _ (call (Value.ref 119) _ _) _ _ _); refine' SpecK.use (conv_spec _ _ _ _ _ _ ?spx ?spl) ?spA ?spB ?spF ?spN ?spX ?spT ?spD ?spU ?_; walk_at "MY use"; (case spx => first | assumption | (rw [List.length_map]; omega) | omega); (case spl => assumption); intro v_c h_c tk_c hk_c F_c N_c e_c; subst e_c; (try dsimp only))) | (walk_at "MY one")))
        · rename (_ = true) => hb1
          rw [any_nat, decide_eq_true_eq] at hb1
          rw [if_pos hb1] at hhi
          rename Fr g L' _ _ => F17
          rename News g L' _ _ => N17
          refine TurnEnd.next ((W', listOf wvs'.toArray kW') :: (S', listOf svs'.toArray kS') :: (lm, listOf mv.toArray n) :: (L' + 1 + 1, oT2) :: (L' + 1, oN2) :: ts') F17 N17 off ?_
          exact ⟨q', seen', ts', ⟨W', S', wvs', svs', kW', kS', oT2, oN2, x2, rfl, f1, f2, f3, f4, d1, d2, hq', hs', p1, p2, p3⟩, hD2, ⟨_, hlow1⟩, hpath, hcm, hip, hhi, hq6', hsn', hs6', hfu'⟩
        rename (_ = false) => hb1
        rw [any_nat, decide_eq_false_iff_not] at hb1
        rw [if_neg hb1] at hhi
        rename Fr g L' _ _ => F17
        rename News g L' _ _ => N17
        have N18 : News g L' _ ((S', listOf svs'.toArray kS') :: ((W', listOf wvs'.toArray kW') :: (lm, listOf mv.toArray n) :: (L' + 1 + 1, oT2) :: (L' + 1, oN2) :: ts') ++ own) := news_re N17 _ (by walk_at "MY sub")
        have hsl := nodup_small hsn' hs6'
        have hsvl : svs'.length = seen'.length := by rw [hs'.length, List.length_map]
        refine' append_K ?F N18 (.head fun p hp => ?_) ?_ ?z
        case F => exact F17
        case z => (rw [PySem.sizeLine_eq, List.size_toArray, hsvl]; omega)
        · rcases List.mem_append.mp hp with hp | hp
          · exact ask_S hlm p1 p2 p3 p hp
          · exact hoS p hp
        intro h19 F19 N19
        rw [List.push_toArray] at N19
        (repeat' (first | (( (with_reducible show wpAny _ _ (call (Value.ref 119) _ _) _ _ _); refine' SpecK.use (conv_spec _ _ _ _ _ _ ?spx ?spl) ?spA ?spB ?spF ?spN ?spX ?spT ?spD ?spU ?_; walk_at "MY use"; (case spx => first | assumption | (rw [List.length_map]; omega) | omega); (case spl => assumption); intro v_c h_c tk_c hk_c F_c N_c e_c; subst e_c; (try dsimp only))) | (walk_at "MY one")))
        rename Fr g L' _ _ => F20
        rename News g L' _ _ => N20
        refine add_lists2 (vs := us) (ws := [_]) F20 N20 (News.isList N20 (.tail _ (.tail _ (.tail _ (List.mem_append_left _ (.tail _ (.tail _ (.tail _ (.tail _ hcm))))))))) (News.isList N20 (.head _)) ?_ ?_
        · (rw [hip.length, List.length_singleton]; omega)
        intro st h21 F21 N21 ltS
        rename (_ < _ ∧ AllLt _ _) => lT1
        obtain ⟨oI, hoI⟩ := hIo
        obtain ⟨T1, N22, t1C, t1W, t1S, t1I, t1st⟩ : ∃ T1 : Addr, News g L' h21 ((st, listOf (us ++ [Value.ref T1]).toArray 0) :: (T1, itup hg low th tl) :: (S', listOf (svs' ++ [Value.int (hg : Nat) th]).toArray (kS' + 1)) :: ((W', listOf wvs'.toArray kW') :: (lm, listOf mv.toArray n) :: (L' + 1 + 1, oT2) :: (L' + 1, oN2) :: ts') ++ own) ∧
            @LT.lt Nat _ (L' + 1 + 1) T1 ∧ T1 ≠ W' ∧ T1 ≠ S' ∧ T1 ≠ I ∧ @LT.lt Nat _ T1 st := by
          have a2 := allLt_all lT1.2
          refine ⟨_, news_re N21 _ ?_, a2 (L' + 1 + 1, oT2) (List.mem_append_left _ (.tail _ (.tail _ (.head _)))), Nat.ne_of_gt (a2 (W', listOf wvs'.toArray kW') (List.mem_append_left _ (.head _))), Nat.ne_of_gt lT1.1, Nat.ne_of_gt (a2 (I, oI) (List.mem_append_right _ hoI)), ltS _ (.tail _ (.head _))⟩
          intro p hp
          rcases List.mem_cons.mp hp with rfl | hp
          · exact .head _
          · exact .tail _ (.tail _ hp)
        have stC : @LT.lt Nat _ (L' + 1 + 1) st := Nat.lt_trans t1C t1st
        have stW : st ≠ W' := Nat.ne_of_gt (ltS _ (.tail _ (.tail _ (.tail _ (.head _)))))
        have stS : st ≠ S' := Nat.ne_of_gt (ltS _ (.tail _ (.tail _ (.head _))))
        have stI : st ≠ I := Nat.ne_of_gt (ltS (I, oI) (.tail _ (.tail _ (.tail _ (List.mem_append_right _ hoI)))))
        clear N21 N20 F20 ltS lT1
        (repeat' (first | (( (with_reducible show wpAny _ _ (call (Value.ref 119) _ _) _ _ _); refine' SpecK.use (conv_spec _ _ _ _ _ _ ?spx ?spl) ?spA ?spB ?spF ?spN ?spX ?spT ?spD ?spU ?_; walk_at "MY use"; (case spx => first | assumption | (rw [List.length_map]; omega) | omega); (case spl => assumption); intro v_c h_c tk_c hk_c F_c N_c e_c; subst e_c; (try dsimp only))) | (walk_at "MY one")))
        rename Fr g L' _ _ => F23
        rename News g L' _ _ => N23
        have hget := fun (s1 : Shared) (t1 : Tok) (i1 : HInst s1.heap mates lm) (i2 : s1.heap.IsList lm mv.toArray) (i3 : PairsIn s1.heap mv mkv) => get_spec w s1 mates lm [117 + hg] t1 mv mkv (by simp) (fun c hc => by obtain rfl := List.mem_singleton.mp hc; omega) i1 i2 i3 (fun kv hkv => by
          obtain ⟨h9, lo, h99, h98, rfl⟩ := hmk kv hkv
          refine ⟨(by decide : (1 : Nat) ≤ 1000), fun c hc => ?_⟩
          obtain rfl := List.mem_singleton.mp hc
          split <;> omega)
        rw [uz_item ⟨hg, hg6⟩]
        refine' Spec.use (hget _ _ ⟨dx', es', n1', ?g1, ?g2, mi3, mi4⟩ ?g3 ?g4) ?spA ?spB ?spF ?spN ?spX ?spT ?spD ?spU ?_
        case g1 => exact F23.keep _ _ mi1
        case g2 => exact F23.keep _ _ mi2
        case g3 => exact News.isList N23 (.tail _ (.tail _ (.tail _ (List.mem_append_left _ (.tail _ (.head _))))))
        case g4 => exact hmpg.mono fun b o e _ => F23.keep _ _ e
        walk_at "MY use"
        intro v24 h24 tk24 hk24 F24 N24 hv24
        clear hget N23 F23
        cases hgo : getOf [117 + hg] mkv with
        | none =>
          rw [hgo] at hv24 hhi
          dsimp only at hv24 hhi
          subst hv24
          rw [← hhi] at hb'
          dsimp only at hb'
          have hus : IPairs (fun p o => (p, o) ∈ (T1, itup hg low th tl) :: ts') (us ++ [Value.ref T1]) (path ++ [(hg, low)]) := (hip.mono fun p o hp => .tail _ hp).snoc (.head _)
          rw [hb'] at hus
          have hR6 : ∀ p ∈ RES, p.1 < 6 ∧ p.2 < 6 := by
            intro p hp
            rw [← hb'] at hp
            rcases List.mem_append.mp hp with hp | hp
            · exact hpath6 p hp
            · obtain rfl := List.mem_singleton.mp hp
              exact ⟨hg6, hlow⟩
          have hRl : RES.length ≤ 7 := by rw [← hb', List.length_append, List.length_singleton]; omega
          (repeat' (first | (( (with_reducible show wpAny _ _ (call (Value.ref 119) _ _) _ _ _); refine' SpecK.use (conv_spec _ _ _ _ _ _ ?spx ?spl) ?spA ?spB ?spF ?spN ?spX ?spT ?spD ?spU ?_; walk_at "MY use"; (case spx => first | assumption | (rw [List.length_map]; omega) | omega); (case spl => assumption); intro v_c h_c tk_c hk_c F_c N_c e_c; subst e_c; (try dsimp only))) | (walk_at "MY one")))
          rename Fr g L' _ _ => F25
          rename News g L' _ _ => N25
          have N26 : News g L' _ ((lm, listOf mv.toArray n) :: (st, listOf (us ++ [Value.ref T1]).toArray 0) :: (T1, itup hg low th tl) :: ts') := news_re N25 _ (by walk_at "MY sub")
          have hlmt : ∀ p ∈ (st, listOf (us ++ [Value.ref T1]).toArray 0) :: (T1, itup hg low th tl) :: ts', p.1 ≠ lm := by
            have h1 : lm < L' + 1 + 1 := Nat.lt_succ_of_lt (Nat.lt_succ_of_lt hlm)
            intro p hp
            rcases List.mem_cons.mp hp with rfl | hp
            · exact Nat.ne_of_gt (Nat.lt_trans h1 stC)
            rcases List.mem_cons.mp hp with rfl | hp
            · exact Nat.ne_of_gt (Nat.lt_trans h1 t1C)
            · exact Nat.ne_of_gt (Nat.lt_trans h1 (p3 p hp).1)
          obtain ⟨Ts, u1, u2, hT⟩ := hus.at
          have hul := hus.length
          with_reducible refine cutL1 (At s g L' (fun m nw => ExN3 fun mv' n'' tsA => AndN6 (nw = (lm, listOf mv'.toArray n'') :: tsA) ((∀ p ∈ tsA, p.1 ≠ lm)) (rv m "steps" st) ((st, listOf (us ++ [Value.ref T1]).toArray 0) ∈ tsA) (IPairs (fun p o => (p, o) ∈ tsA) (us ++ [Value.ref T1]) RES) (∀ P : Addr → Obj → Prop, (∀ p o, (p, o) ∈ tsA → P p o) → Pairs P mv mkv → Pairs P mv' (setAll mkv RES)))) ?_ ?_
          · walk_at "MY cons"
            refine forP g (fun i m nw => ExN3 fun mv' n'' tsA => AndN7 (nw = (lm, listOf mv'.toArray n'') :: tsA) ((∀ p ∈ tsA, p.1 ≠ lm)) (rv m "steps" st) (rv m "mates" mates) ((st, listOf (us ++ [Value.ref T1]).toArray 0) ∈ tsA) (IPairs (fun p o => (p, o) ∈ tsA) (us ++ [Value.ref T1]) RES) (∀ P : Addr → Obj → Prop, (∀ p o, (p, o) ∈ tsA → P p o) → Pairs P mv mkv → Pairs P mv' (setAll mkv (RES.take i)))) ?_
            clear N26
            (repeat' (first | (( (with_reducible show wpAny _ _ (call (Value.ref 119) _ _) _ _ _); refine' SpecK.use (conv_spec _ _ _ _ _ _ ?spx ?spl) ?spA ?spB ?spF ?spN ?spX ?spT ?spD ?spU ?_; walk_at "MY use"; (case spx => first | assumption | (rw [List.length_map]; omega) | omega); (case spl => assumption); intro v_c h_c tk_c hk_c F_c N_c e_c; subst e_c; (try dsimp only))) | (walk_at "MY one")))
            rename Fr g L' _ _ => F27
            rename News g L' _ _ => N27
            have N28 : News g L' _ ((lm, listOf mv.toArray n) :: (st, listOf (us ++ [Value.ref T1]).toArray 0) :: (T1, itup hg low th tl) :: ts') := news_re N27 _ (by walk_at "MY sub")
            refine' iterLP (vs := us ++ [Value.ref T1]) Ts (fun j => #[.int ((RES.getD j (0, 0)).1 : Nat) (u1 j), .int ((RES.getD j (0, 0)).2 : Nat) (u2 j)]) ?jh ?j1 ?j2 ?j3 ?j4 ?j5 ?j6 N28 ?j8 ?_ ?_
            case jh => exact rfl
            case j1 => exact News.isList N28 (.tail _ (.head _))
            case j2 => exact fun j hj => (hT j (by omega)).1
            case j3 => exact fun j hj => ⟨_, (N28 _ (.tail _ (.tail _ (hT j (by omega)).2))).1, rfl, _, rfl⟩
            case j4 => exact (N28 _ (.tail _ (.head _))).2.1
            case j5 => exact fun j hj => (N28 _ (.tail _ (.tail _ (hT j (by omega)).2))).2.1
            case j6 => exact F27
            case j8 => exact ⟨mv, n, _, rfl, hlmt, rfl, f4, .head _, hus.mono fun p o hp => .tail _ hp, fun P _ hP => hP⟩
            · rintro I9 hI9 s₂ hs₂ i9 T9 vals9 m9 nw9 h9 tk9 own9 ⟨hi9, hv9⟩ ⟨mv9, n9, tsA, hnw9, hlm9, hst9, hma9, hstm9, hip9, hpr9⟩ off9 hown9 hoI9 hTup9 F30 N30
              obtain ⟨hh9, rfl⟩ := hs₂
              subst hv9 hnw9
              have F31 : Fr g L' _ _ := F30
              have N31 : News g L' _ _ := N30
              clear F30 N30
              have hi9' : i9 < RES.length := by rw [← hul]; exact hi9
              have hr9 := hR6 (RES.getD i9 (0, 0)) (by rw [show RES.getD i9 (0, 0) = RES[i9] by simp [List.getD, hi9']]; exact List.getElem_mem hi9')
              have htk9 : RES.take (i9 + 1) = RES.take i9 ++ [RES.getD i9 (0, 0)] := by rw [List.take_add_one, List.getElem?_eq_getElem hi9', show RES.getD i9 (0, 0) = RES[i9] by simp [List.getD, hi9']]; rfl
              generalize RES.getD i9 (0, 0) = r9 at hTup9 hr9 htk9
              obtain ⟨up, lo2⟩ := r9
              dsimp only at hTup9 hr9
              obtain ⟨hup6, hlo6⟩ := hr9
              refine assign2 rfl hTup9 F31 N31 rfl rfl rfl fun h10 tk10 F32' N32' => ?_
              have F32 : Fr g L' _ _ := F32'
              have N32 : News g L' _ _ := N32'
              clear F32' N32' F31 N31
              obtain ⟨oI9, hoI9'⟩ := hoI9 I9 (.head _)
              have hkv9 := hpr9 (fun p o => h10.get? p = some o) (fun p o hp => (N32 _ (.tail _ (List.mem_append_left _ hp))).1) (hmpg.mono fun b o e _ => F32.keep _ _ e)
              have hmo9 : MatesOk (setAll mkv (RES.take i9)) := hmk.setAll fun p hp => hR6 p (List.mem_of_mem_take hp)
              have hml9 : (setAll mkv (RES.take i9)).length ≤ 47 := by
                have h1 := setAll_length (RES.take i9) mkv
                have h2 : (RES.take i9).length ≤ 7 := Nat.le_trans (List.length_take_le ..) (by omega)
                omega
              have hmk9 : ∀ kv ∈ setAll mkv (RES.take i9), kv.1.length ≤ 1000 ∧ ∀ c ∈ kv.1, c < 128 := fun kv hkv => by
                obtain ⟨h9, lo, h99, h98, rfl⟩ := hmo9 kv hkv
                refine ⟨(by decide : (1 : Nat) ≤ 1000), fun c hc => ?_⟩
                obtain rfl := List.mem_singleton.mp hc
                split <;> omega
              have hs1 : setAll mkv (RES.take (i9 + 1)) = setOne (setAll mkv (RES.take i9)) (up, lo2) := by rw [htk9]; exact List.foldl_append ..
              (repeat' (first | (( (with_reducible show wpAny _ _ (call (Value.ref 119) _ _) _ _ _); refine' SpecK.use (conv_spec _ _ _ _ _ _ ?spx ?spl) ?spA ?spB ?spF ?spN ?spX ?spT ?spD ?spU ?_; walk_at "MY use"; (case spx => first | assumption | (rw [List.length_map]; omega) | omega); (case spl => assumption); intro v_c h_c tk_c hk_c F_c N_c e_c; subst e_c; (try dsimp only))) | (walk_at "MY one")))
              rcases key_cases ⟨up, hup6⟩ ⟨lo2, hlo6⟩ with ⟨hf, hk⟩ | ⟨hf, hk⟩
              all_goals (
                dsimp only at hf hk
                rw [hf]
                refine item_tupleT (News.isTup (by assumption) (.head _)) (by decide) (by decide) (by rfl) (by rfl) ?_
                (repeat' (first | (( (with_reducible show wpAny _ _ (call (Value.ref 119) _ _) _ _ _); refine' SpecK.use (conv_spec _ _ _ _ _ _ ?spx ?spl) ?spA ?spB ?spF ?spN ?spX ?spT ?spD ?spU ?_; walk_at "MY use"; (case spx => first | assumption | (rw [List.length_map]; omega) | omega); (case spl => assumption); intro v_c h_c tk_c hk_c F_c N_c e_c; subst e_c; (try dsimp only))) | (walk_at "MY one")))
                have hpu := pu_item ⟨lo2, hlo6⟩
                dsimp only at hpu
                rw [hk, hpu]
                rename Fr g L' _ _ => F33
                rename News g L' _ _ => N33
                refine ksp_setItem (C := 220) (f := 133) F33 X1 (I2 _ F33.keep) (by k_is) (by k_is) (by k_is) ?_
                have N34 : News g L' _ ((lm, listOf mv9.toArray n9) :: (tsA ++ own9)) := fun p hp => N33 p (.tail _ hp)
                refine' SpecM.use (own := [(lm, listOf mv9.toArray n9)]) (rest := tsA ++ own9) (set_spec _ _ mates lm (keyOf up lo2) [112 + lo2] _ _ mv9 n9 (setAll mkv (RES.take i9)) ?x1 ?x2 ?x3 ?x4 ⟨dx', es', n1', ?i1, ?i2, mi3, mi4⟩ ?il ?ip hmk9 ?x5) ?spA ?spB ?spF ?spN ?spX ?spT ?spD ?spU rfl ?so ?sr ?sx ?_
                case x1 => exact (by decide : (1 : Nat) ≤ 1000)
                case x2 => (intro c hc; obtain rfl := List.mem_singleton.mp hc; constructor <;> (split <;> omega))
                case x3 => exact (by decide : (1 : Nat) ≤ 1000)
                case x4 => (intro c hc; obtain rfl := List.mem_singleton.mp hc; omega)
                case x5 => exact Nat.le_trans hml9 (by decide)
                case i1 => exact F33.keep _ _ mi1
                case i2 => exact F33.keep _ _ mi2
                case il => exact (N34 _ (.head _)).1
                case ip => exact hpr9 _ (fun p o hp => (N34 _ (.tail _ (List.mem_append_left _ hp))).1) (hmpg.mono fun b o e _ => F33.keep _ _ e)
                walk_at "MY use"
                case so => exact fun p hp => by obtain rfl := List.mem_singleton.mp hp; exact .head _
                case sr => exact fun p hp => .tail _ hp
                case sx =>
                  intro p hp
                  rcases List.mem_append.mp hp with hp | hp
                  · simpa using hlm9 p hp
                  · have hoo := hown9 p hp
                    have hIl : I9 ≠ lm := fun e => off9 (lm, listOf mv9.toArray n9) (.head _) (by simp [e])
                    refine fun hq => ?_
                    have hq' : p.1 = lm := by simpa using hq
                    rw [hq'] at hoo
                    rcases List.mem_cons.mp hoo with e | hoo
                    · exact hIl e.symm
                    rcases List.mem_cons.mp hoo with e | hoo
                    · exact hlm9 _ hstm9 e.symm
                    obtain ⟨j, hj, e⟩ := List.mem_map.mp hoo
                    have hj' : j < RES.length := by rw [← hul]; exact List.mem_range.mp hj
                    obtain ⟨Ts', _, _, hT'⟩ := hip9.at
                    have e1 := (hT j hj').1
                    rw [(hT' j hj').1] at e1
                    injection e1 with e1
                    injection e1 with e1
                    exact hlm9 _ (hT' j hj').2 (e1.trans e)
                intro v35 h35 tk35 hk35 F35 N35 hw35 hp0
                revert v35
                refine unF54 ?_
                intro mv35 n35 D35 u35 u36 hl35 hD35 hDo35 hp35
                have hDI : D35 ≠ I9 := fun e => by rw [e, (N34 _ (.tail _ (List.mem_append_right _ hoI9'))).1] at hD35; cases hD35
                have hDl : D35 ≠ lm := fun e => by rw [e, (N34 _ (.head _)).1] at hD35; cases hD35
                have N36 : News g L' h35 (((lm, listOf (mv35 ++ [Value.ref D35]).toArray n35) :: (D35, tup2 (keyOf up lo2) [112 + lo2] u35 u36) :: tsA) ++ own9) := by
                  intro p hp
                  rcases List.mem_cons.mp hp with rfl | hp
                  · exact ⟨hl35, hw35 lm (by simp)⟩
                  rcases List.mem_cons.mp hp with rfl | hp
                  · refine ⟨hDo35, fun e => ?_, ?_⟩
                    · obtain ⟨oL, _, _, hoL, _⟩ := F33.ns
                      rw [show D35 = L' from e, hoL] at hD35
                      cases hD35
                    · refine Option.eq_none_iff_forall_ne_some.mpr fun o e => ?_
                      rw [F33.keep _ _ e] at hD35
                      cases hD35
                  · exact N35 p hp
                (repeat' (first | (( (with_reducible show wpAny _ _ (call (Value.ref 119) _ _) _ _ _); refine' SpecK.use (conv_spec _ _ _ _ _ _ ?spx ?spl) ?spA ?spB ?spF ?spN ?spX ?spT ?spD ?spU ?_; walk_at "MY use"; (case spx => first | assumption | (rw [List.length_map]; omega) | omega); (case spl => assumption); intro v_c h_c tk_c hk_c F_c N_c e_c; subst e_c; (try dsimp only))) | (walk_at "MY one")))
                refine ⟨_, _, _, (lm, listOf (mv35 ++ [Value.ref D35]).toArray n35) :: (D35, tup2 (keyOf up lo2) [112 + lo2] u35 u36) :: tsA, rfl, F35, N36, ?_, _, _, _, rfl, ?_, hst9, hma9, .tail _ hstm9, hip9.mono fun p o hp => .tail _ hp, ?_⟩
                · intro p hp
                  rcases List.mem_cons.mp hp with rfl | hp
                  · exact off9 (lm, listOf mv9.toArray n9) (.head _)
                  rcases List.mem_cons.mp hp with rfl | hp
                  · simpa using hDI
                  · exact off9 _ (.tail _ hp)
                · intro p hp
                  rcases List.mem_cons.mp hp with rfl | hp
                  · exact hDl
                  · exact hlm9 p hp
                · intro P hP hPm
                  rw [hs1]
                  exact (hp35 P (hpr9 P (fun p o hp => hP p o (.tail _ hp)) hPm)).snoc (hP _ _ (.head _)))
            · rintro m9 nw9 h9 tk9 ⟨mv9, n9, tsA, rfl, hlm9, hst9, hma9, hstm9, hip9, hpr9⟩ F30 N30
              rw [hul, List.take_length] at hpr9
              (repeat' (first | (( (with_reducible show wpAny _ _ (call (Value.ref 119) _ _) _ _ _); refine' SpecK.use (conv_spec _ _ _ _ _ _ ?spx ?spl) ?spA ?spB ?spF ?spN ?spX ?spT ?spD ?spU ?_; walk_at "MY use"; (case spx => first | assumption | (rw [List.length_map]; omega) | omega); (case spl => assumption); intro v_c h_c tk_c hk_c F_c N_c e_c; subst e_c; (try dsimp only))) | (walk_at "MY one")))
              exact Nxt.at _ F30 N30 ⟨mv9, n9, tsA, rfl, hlm9, hst9, hstm9, hip9, hpr9⟩
          · rintro s' ⟨h40, tk40, m40, nw40, rfl, F40, N40, mv40, n40, tsA, rfl, hlm40, hst40, hstm40, hip40, hpr40⟩
            (repeat' (first | (( (with_reducible show wpAny _ _ (call (Value.ref 119) _ _) _ _ _); refine' SpecK.use (conv_spec _ _ _ _ _ _ ?spx ?spl) ?spA ?spB ?spF ?spN ?spX ?spT ?spD ?spU ?_; walk_at "MY use"; (case spx => first | assumption | (rw [List.length_map]; omega) | omega); (case spl => assumption); intro v_c h_c tk_c hk_c F_c N_c e_c; subst e_c; (try dsimp only))) | (walk_at "MY one")))
            refine hret _ _ _ (fun b o hb e => F40.keep _ _ (sg' b o (by simpa using hb) e)) ⟨st, _, _, tsA, mv40, n40, rfl, hstm40, fun p hp => ⟨?_, (N40 _ (.tail _ hp)).1⟩, hip40, (N40 _ (.head _)).1, hpr40⟩
            refine Option.eq_none_iff_forall_ne_some.mpr fun o e => ?_
            have hg := (N40 _ (.tail _ hp)).2.2
            rw [sg' _ _ (hlm40 p hp) e] at hg
            cases hg
        | some y =>
          rw [hgo] at hv24 hhi
          dsimp only at hv24 hhi
          obtain ⟨t24, rfl⟩ := hv24
          obtain ⟨ky, hy1, -⟩ := getOf_some hgo
          obtain ⟨h9, lo, h99, h98, he9⟩ := hmk _ hy1
          obtain ⟨-, rfl⟩ := Prod.mk.inj he9
          rw [show [112 + lo].headD 0 - 112 = lo from Nat.add_sub_cancel_left ..] at hhi
          (repeat' (first | (( (with_reducible show wpAny _ _ (call (Value.ref 119) _ _) _ _ _); refine' SpecK.use (conv_spec _ _ _ _ _ _ ?spx ?spl) ?spA ?spB ?spF ?spN ?spX ?spT ?spD ?spU ?_; walk_at "MY use"; (case spx => first | assumption | (rw [List.length_map]; omega) | omega); (case spl => assumption); intro v_c h_c tk_c hk_c F_c N_c e_c; subst e_c; (try dsimp only))) | (walk_at "MY one")))
          refine pq_index lo h98 ?_
          (repeat' (first | (( (with_reducible show wpAny _ _ (call (Value.ref 119) _ _) _ _ _); refine' SpecK.use (conv_spec _ _ _ _ _ _ ?spx ?spl) ?spA ?spB ?spF ?spN ?spX ?spT ?spD ?spU ?_; walk_at "MY use"; (case spx => first | assumption | (rw [List.length_map]; omega) | omega); (case spl => assumption); intro v_c h_c tk_c hk_c F_c N_c e_c; subst e_c; (try dsimp only))) | (walk_at "MY one")))
          rename Fr g L' _ _ => F26
          rename News g L' _ _ => N26
          rename (∀ p : Addr × Obj, p ∈ _ → @LT.lt _ _ p.1 _) => lT2
          refine' append_K ?F (bring4 N26) (.head fun p hp => ?_) ?_ ?z
          case F => exact F26
          case z => (rw [PySem.sizeLine_eq, List.size_toArray, hq'.length]; omega)
          · rcases List.mem_cons.mp hp with rfl | hp
            · exact Nat.ne_of_gt (lT2 (W', listOf wvs'.toArray kW') (by simp))
            rcases List.mem_cons.mp hp with rfl | hp
            · exact stW
            rcases List.mem_cons.mp hp with rfl | hp
            · exact t1W
            rcases List.mem_cons.mp hp with rfl | hp
            · exact Nat.ne_of_gt p2
            rcases List.mem_append.mp (show p ∈ ((lm, listOf mv.toArray n) :: (L' + 1 + 1, oT2) :: (L' + 1, oN2) :: ts') ++ own from hp) with hp | hp
            · exact ask_W (a := oT2) hlm p1 p2 p3 p (.tail _ hp)
            · exact hoW p hp
          intro h28 F28 N28
          rw [List.push_toArray] at N28
          (repeat' (first | (( (with_reducible show wpAny _ _ (call (Value.ref 119) _ _) _ _ _); refine' SpecK.use (conv_spec _ _ _ _ _ _ ?spx ?spl) ?spA ?spB ?spF ?spN ?spX ?spT ?spD ?spU ?_; walk_at "MY use"; (case spx => first | assumption | (rw [List.length_map]; omega) | omega); (case spl => assumption); intro v_c h_c tk_c hk_c F_c N_c e_c; subst e_c; (try dsimp only))) | (walk_at "MY one")))
          rename Fr g L' _ _ => F29
          rename News g L' _ _ => N29
          refine TurnEnd.next (_ :: _ :: _ :: _ :: _ :: _ :: _ :: _ :: ts') F29 (permQ N29) ?_ ?_
          · intro p hp
            rcases List.mem_cons.mp hp with rfl | hp
            · exact hWI
            rcases List.mem_cons.mp hp with rfl | hp
            · exact hSI
            rcases List.mem_cons.mp hp with rfl | hp
            · exact off _ (.tail _ (.tail _ (.head _)))
            rcases List.mem_cons.mp hp with rfl | hp
            · exact off _ (.tail _ (.tail _ (.tail _ (.head _))))
            rcases List.mem_cons.mp hp with rfl | hp
            · exact off _ (.tail _ (.tail _ (.tail _ (.tail _ (.head _)))))
            rcases List.mem_cons.mp hp with rfl | hp
            · exact Nat.ne_of_gt (lT2 (I, oI) (by simp [hoI]))
            rcases List.mem_cons.mp hp with rfl | hp
            · exact stI
            rcases List.mem_cons.mp hp with rfl | hp
            · exact t1I
            exact off _ (.tail _ (.tail _ (.tail _ (.tail _ (.tail _ hp)))))
          refine ⟨q' ++ [(lo, path ++ [(hg, low)])], seen' ++ [hg], _ :: _ :: _ :: ts', ⟨W', S', wvs' ++ [_], svs' ++ [_], _, _, oT2, oN2, x2, rfl, f1, f2, f3, f4, d1, d2, ?_, ?_, p1, p2, ?_⟩, ?_, ⟨_, hlow1⟩, hpath, .tail _ (.tail _ (.tail _ hcm)), hip.mono fun p o hp => .tail _ (.tail _ (.tail _ hp)), hhi, ?_, ?_, ?_, ?_⟩
          · refine (hq'.mono fun p o hp => .tail _ (.tail _ (.tail _ hp))).snoc (.head _) (.tail _ (.head _)) ((hip.mono fun p o hp => .tail _ (.tail _ (.tail _ hp))).snoc (.tail _ (.tail _ (.head _))))
          · rw [List.map_append]
            exact hs'.append (.cons _ _ .nil)
          · intro p hp
            rcases List.mem_cons.mp hp with rfl | hp
            · exact ⟨lT2 (L' + 1 + 1, oT2) (by simp), Nat.ne_of_gt (lT2 (W', listOf wvs'.toArray kW') (by simp)), Nat.ne_of_gt (lT2 (S', listOf (svs' ++ [Value.int (hg : Nat) th]).toArray (kS' + 1)) (by simp))⟩
            rcases List.mem_cons.mp hp with rfl | hp
            · exact ⟨stC, stW, stS⟩
            rcases List.mem_cons.mp hp with rfl | hp
            · exact ⟨t1C, t1W, t1S⟩
            exact p3 p hp
          · intro p hp
            rcases List.mem_cons.mp hp with rfl | hp
            · exact hW2
            obtain rfl := List.mem_singleton.mp hp
            exact hS2
          · intro z hz
            rcases List.mem_append.mp hz with hz | hz
            · exact hq6' z hz
            · obtain rfl := List.mem_singleton.mp hz
              refine ⟨h98, fun p hp => ?_, by rw [List.length_append, List.length_singleton]; omega⟩
              rcases List.mem_append.mp hp with hp | hp
              · exact hpath6 p hp
              · obtain rfl := List.mem_singleton.mp hp
                exact ⟨hg6, hlow⟩
          · exact List.nodup_append.mpr ⟨hsn', by simp, fun a ha b hb e => by obtain rfl := List.mem_singleton.mp hb; exact hb1 (e ▸ ha)⟩
          · intro z hz
            rcases List.mem_append.mp hz with hz | hz
            · exact hs6' z hz
            · obtain rfl := List.mem_singleton.mp hz
              exact hg6
          · rw [List.length_append, List.length_append, List.length_singleton, List.length_singleton]
            omega
      · rintro m nw h tk ⟨q', seen', ts', hA, -, -, -, -, -, hhi, hq6', hsn', hs6', hfu'⟩ F15 N15
        have hyl : ys.length = HS.length := by rw [hys.length, List.length_map]
        rw [hyl, List.drop_length] at hhi
        rw [← hhi] at hb'
        (repeat' (first | (( (with_reducible show wpAny _ _ (call (Value.ref 119) _ _) _ _ _); refine' SpecK.use (conv_spec _ _ _ _ _ _ ?spx ?spl) ?spA ?spB ?spF ?spN ?spX ?spT ?spD ?spU ?_; walk_at "MY use"; (case spx => first | assumption | (rw [List.length_map]; omega) | omega); (case spl => assumption); intro v_c h_c tk_c hk_c F_c N_c e_c; subst e_c; (try dsimp only))) | (walk_at "MY one")))
        refine Again.at k (Nat.lt_succ_self k) ?_
        exact ⟨h, tk, m, nw, rfl, F15, N15, q', seen', ts', hA, hb', hq6', hsn', hs6', hfu', Nat.le_of_succ_le hn7⟩
  rintro s' ⟨hR0, h40, tk40, m40, nw40, rfl, F40, N40, seen, ts, W, S, wvs, svs, kW, kS, oT, oN, x, rfl, e1, e2, e3, e4, c1, c2, hq, hs, o1, o2, o3⟩
  subst hR0
  (repeat' (first | (( (with_reducible show wpAny _ _ (call (Value.ref 119) _ _) _ _ _); refine' SpecK.use (conv_spec _ _ _ _ _ _ ?spx ?spl) ?spA ?spB ?spF ?spN ?spX ?spT ?spD ?spU ?_; walk_at "MY use"; (case spx => first | assumption | (rw [List.length_map]; omega) | omega); (case spl => assumption); intro v_c h_c tk_c hk_c F_c N_c e_c; subst e_c; (try dsimp only))) | (walk_at "MY one")))
  rename Fr g L' _ _ => F41
  rename News g L' _ _ => N41
  have hlast : ∀ (c9 : Addr) (h9 : Heap) (t9 : Nat), c9 ≠ lm → Fr g L' h9 m40 → News g L' h9 ((c9, listOf #[] 0) :: (W, listOf wvs.toArray kW) :: (S, listOf svs.toArray kS) :: (lm, listOf mv.toArray n) :: (L' + 1 + 1, oT) :: (L' + 1, oN) :: ts) → Q (.ref c9) { s with heap := h9, toks := t9 } := by
    intro c9 h9 t9 hc9 F42 N42
    have hfresh : s.heap.get? c9 = none := by
      refine Option.eq_none_iff_forall_ne_some.mpr fun o e => ?_
      have hg := (N42 _ (.head _)).2.2
      rw [sg' _ _ hc9 e] at hg
      cases hg
    exact hret (.ref c9) _ _ (fun b o hb e => F42.keep _ _ (sg' b o (by simpa using hb) e)) ⟨c9, 0, [], [(c9, listOf #[] 0)], mv, n, rfl, .head _, (fun p hp => List.mem_singleton.mp hp ▸ ⟨hfresh, (N42 _ (.head _)).1⟩), .nil, (N42 _ (.tail _ (.tail _ (.tail _ (.head _))))).1, fun P _ hP => hP⟩
  refine hlast _ _ _ ?_ F41 N41
  (first | assumption | exact Nat.ne_of_lt (by (first | assumption | exact And.left (by assumption) | exact And.left (And.right (by assumption)) | exact And.left (And.right (And.right (by assumption))) | exact And.left (And.right (And.right (And.right (by assumption)))) | exact And.left (And.right (And.right (And.right (And.right (by assumption))))) | exact And.left (And.right (And.right (And.right (And.right (And.right (by assumption)))))) | exact And.left (And.right (And.right (And.right (And.right (And.right (And.right (by assumption))))))) | exact And.left (And.right (And.right (And.right (And.right (And.right (And.right (And.right (by assumption)))))))) | exact And.left (And.right (And.right (And.right (And.right (And.right (And.right (And.right (And.right (by assumption))))))))) | exact And.right (by assumption) | exact And.right (And.right (by assumption)) | exact And.right (And.right (And.right (by assumption))) | exact And.right (And.right (And.right (And.right (by assumption)))) | exact And.right (And.right (And.right (And.right (And.right (by assumption))))) | exact And.right (And.right (And.right (And.right (And.right (And.right (by assumption)))))) | exact And.right (And.right (And.right (And.right (And.right (And.right (And.right (by assumption))))))) | exact And.right (And.right (And.right (And.right (And.right (And.right (And.right (And.right (by assumption)))))))))) | exact Nat.ne_of_gt (by (first | assumption | exact And.left (by assumption) | exact And.left (And.right (by assumption)) | exact And.left (And.right (And.right (by assumption))) | exact And.left (And.right (And.right (And.right (by assumption)))) | exact And.left (And.right (And.right (And.right (And.right (by assumption))))) | exact And.left (And.right (And.right (And.right (And.right (And.right (by assumption)))))) | exact And.left (And.right (And.right (And.right (And.right (And.right (And.right (by assumption))))))) | exact And.left (And.right (And.right (And.right (And.right (And.right (And.right (And.right (by assumption)))))))) | exact And.left (And.right (And.right (And.right (And.right (And.right (And.right (And.right (And.right (by assumption))))))))) | exact And.right (by assumption) | exact And.right (And.right (by assumption)) | exact And.right (And.right (And.right (by assumption))) | exact And.right (And.right (And.right (And.right (by assumption)))) | exact And.right (And.right (And.right (And.right (And.right (by assumption))))) | exact And.right (And.right (And.right (And.right (And.right (And.right (by assumption)))))) | exact And.right (And.right (And.right (And.right (And.right (And.right (And.right (by assumption))))))) | exact And.right (And.right (And.right (And.right (And.right (And.right (And.right (And.right (by assumption)))))))))))

end
section
local macro_rules | `(tactic| walk_at "MY st") => `(tactic| walk_at "MY st0")
section
variable {M : Model} {A : Around} {R : GenEnd} {Y : Protocol} {n : Nat} {s₀ : Shared} {c : Code} {fs : List Frame} {s : Shared} {env : Env}
  {K : Flow → Sem Fin} {H : Value → Sem Fin} {gd : Bool → Bool} {lv : List Value → List Value}
theorem seg_If {test : Expr} {body orelse : List Stmt} {pos : Pos}
    (h : wpAny M (A.over c fs) (isTrue test env (eval test env)) (fun b s' => if b = true then Seg M A R Y n s₀ c ((execs body env).wrap K H gd lv) fs s' else Seg M A R Y n s₀ c ((execs orelse env).wrap K H gd lv) fs s')
      (fun x s' => Seg M A R Y n s₀ c (H x) fs s') s) :
    Seg M A R Y n s₀ c ((exec (.If test body orelse pos) env).wrap K H gd lv) fs s := by
  have e : exec (.If test body orelse pos) env = (standAt pos >>= fun _ => isTrue test env (eval test env) >>= fun b => if b = true then execs body env else execs orelse env) := rfl
  rw [e, Sem.bind_eq_wrap', Sem.wrap_wrap]
  refine seg_wrap (wpAny_standAt ?_)
  rw [Sem.bind_eq_wrap', Sem.wrap_wrap]
  refine seg_wrap (wpAny_mono h (fun b s' hb => ?_) fun _ _ x => x)
  cases b with
  | true => simpa using hb
  | false => simpa using hb
theorem seg_stmt {st : Stmt} {rest : List Stmt}
    (h : wpAny M (A.over c fs) (exec st env) (fun f s' => match f with | .next => Seg M A R Y n s₀ c ((execs rest env).wrap K H gd lv) fs s' | f => Seg M A R Y n s₀ c (K f) fs s') (fun x s' => Seg M A R Y n s₀ c (H x) fs s') s) :
    Seg M A R Y n s₀ c ((execs (st :: rest) env).wrap K H gd lv) fs s := by
  refine seg_execs_cons (seg_wrap (wpAny_mono h (fun f s' hf => ?_) fun _ _ x => x))
  cases f <;> exact hf
theorem seg_For {target iter : Expr} {body orelse : List Stmt} {pos : Pos}
    (h : wpAny M (A.over c fs) (eval iter env) (fun x s₁ => wpAny M (A.over c fs) (pyIter x) (fun it s₂ =>
      ∀ p, Seg M A R Y n s₀ (.forLoop target it body orelse env) (M.den (.forLoop target it body orelse env))
      (.ret (fun r => ((match r with | .ok f => (.pure f : Sem Flow) | .error e => .raise e).onRaise fun (x : Value) => do
        if (← field x 1) == Value.none then unsupported "frame.own-activation:exception-without-traceback"
        setFlight x env.frame).wrap K H gd lv) none (gd false) (lv []) c p [] :: fs) s₂) (fun x s' => Seg M A R Y n s₀ c (H x) fs s') s₁) (fun x s' => Seg M A R Y n s₀ c (H x) fs s') s)
    (hs : ∀ x, foldedSetIterable iter env x = pure x := by intro _; rfl) :
    Seg M A R Y n s₀ c ((exec (.For target iter body orelse pos) env).wrap K H gd lv) fs s := by
  have e : exec (.For target iter body orelse pos) env = (standAt pos >>= fun _ => eval iter env >>= fun v => foldedSetIterable iter env v >>= fun x => standAt iter.pos >>= fun _ => holding [x] (pyIter x) >>= fun it => runOwn (.forLoop target it body orelse env) env) := rfl
  rw [e, Sem.bind_eq_wrap', Sem.wrap_wrap]
  refine seg_wrap (wpAny_standAt ?_)
  rw [Sem.bind_eq_wrap', Sem.wrap_wrap]
  refine seg_wrap (wpAny_mono h (fun v s₁ h₁ => ?_) fun _ _ x => x)
  rw [hs v, Sem.bind_eq_wrap', Sem.wrap_wrap]
  refine seg_wrap (wpAny_pure ?_)
  rw [Sem.bind_eq_wrap', Sem.wrap_wrap]
  refine seg_wrap (wpAny_standAt ?_)
  rw [Sem.bind_eq_wrap', Sem.wrap_wrap]
  refine seg_wrap (wpAny_holding (wpAny_mono h₁ (fun it s₂ h₂ => ?_) fun _ _ x => x))
  exact seg_call h₂
end
section
variable {prog : Program} {w : World} {A : Around} {R : GenEnd} {Y : Protocol} {n : Nat} {s₀ : Shared} {fs : List Frame} {s : Shared} {env : Env}
theorem seg_forLoop {x : Str} {px : Pos} {it : Value} {body : List Stmt}
    (h : wpAny (model prog w) (A.over (.forLoop (.Name x px) it body [] env) fs) (pyNext it) (fun r s₁ => match r with
      | none => Seg (model prog w) A R Y n s₀ (.forLoop (.Name x px) it body [] env) (.pure (.again (.block [] env))) fs s₁
      | some v => wpAny (model prog w) (A.over (.forLoop (.Name x px) it body [] env) fs) (assign (.Name x px) env v) (fun _ s₂ =>
          Seg (model prog w) A R Y n s₀ (.forLoop (.Name x px) it body [] env) ((execs body env).wrap (fun f => match f with
            | .next | .cont => .pure (.again (.forLoop (.Name x px) it body [] env))
            | .brk => .pure (.done .next)
            | .ret v => .pure (.done (.ret v))) (fun e => (do noteFrame e env; theTreesLotGoes e : Sem Unit).wrap (fun _ => .raise e) .raise id id) id id) fs s₂) (fun _ _ => False) s₁) (fun _ _ => False) s) :
    Seg (model prog w) A R Y n s₀ (.forLoop (.Name x px) it body [] env) ((model prog w).den (.forLoop (.Name x px) it body [] env)) fs s := by
  show Seg _ A R Y n s₀ _ ((forTurn (.Name x px) it body [] env).onRaise (fun x => do noteFrame x env; theTreesLotGoes x)) fs s
  have e : forTurn (.Name x px) it body [] env = (standAt px >>= fun _ => (pyNext it).onRaise (fun _ => standAt { px with line := 0 }) >>= fun r => match r with
      | none => again (.block [] env)
      | some v => (assign (.Name x px) env v >>= fun _ => execs body env >>= fun f => match f with
        | .next | .cont => again (.forLoop (.Name x px) it body [] env)
        | .brk => pure (.done .next)
        | .ret v => pure (.done (.ret v)))) := by
    unfold forTurn
    rfl
  rw [Sem.onRaise_eq_wrap, e, Sem.bind_eq_wrap', Sem.wrap_wrap]
  refine seg_wrap (wpAny_standAt ?_)
  rw [Sem.bind_eq_wrap', Sem.wrap_wrap]
  refine seg_wrap (wpAny_onRaise (wpAny_mono h (fun r s₁ h₁ => ?_) fun _ _ h' => h'.elim))
  cases r with
  | none => exact h₁
  | some v =>
    dsimp only at h₁ ⊢
    rw [Sem.bind_eq_wrap', Sem.wrap_wrap]
    refine seg_wrap (wpAny_mono h₁ (fun _ s₂ h₂ => ?_) fun _ _ h' => h'.elim)
    rw [Sem.bind_eq_wrap', Sem.wrap_wrap]
    rw [Sem.wrap_congr (execs body env) _ _ (K' := fun f => match f with
            | .next | .cont => .pure (.again (.forLoop (.Name x px) it body [] env))
            | .brk => .pure (.done .next)
            | .ret v => .pure (.done (.ret v))) (H' := (fun e => (do noteFrame e env; theTreesLotGoes e : Sem Unit).wrap (fun _ => .raise e) .raise id id))
        (fun f => by cases f <;> rfl)
        (fun e => by
          show (do noteFrame e env; theTreesLotGoes e : Sem Unit).bind (fun _ => .raise e) = _
          rw [Sem.bind_eq_wrap])]
    exact h₂
end
theorem seg_ind {M : Model} {A : Around} {R : GenEnd} {Y : Protocol} {c : Code} {fs : List Frame} (Inv : Nat → Shared → Shared → Prop)
    (turn : ∀ n s₀ s, (∀ m, m < n → ∀ s₀' s', Inv m s₀' s' → Seg M A R Y m s₀' c (M.den c) fs s') → Inv n s₀ s → Seg M A R Y n s₀ c (M.den c) fs s) : ∀ n s₀ s, Inv n s₀ s → Seg M A R Y n s₀ c (M.den c) fs s := by
  intro n
  induction n using Nat.strongRecOn with
  | ind n ih => exact fun s₀ s h => turn n s₀ s (fun m hm s₀' s' h' => ih m hm s₀' s' h') h
noncomputable abbrev IsLI (o : Obj) : Prop := o.cls = .type "list_iterator" ∧ ∃ x, o.data = .fields x
/-- a step of the generator's frame at L -/
noncomputable def Step (base : Heap) (L : Addr) (s₀ s₁ : Shared) : Prop := (∃ h' tk, s₁ = { s₀ with heap := h', toks := tk }) ∧ ∀ b o, b ≠ L → (¬ IsLI o ∨ base.get? b = some o) → s₀.heap.get? b = some o → s₁.heap.get? b = some o
theorem Step.rfl' {base : Heap} {L : Addr} {s : Shared} : Step base L s s := ⟨⟨s.heap, s.toks, rfl⟩, fun _ _ _ _ e => e⟩
theorem Step.trans' {base : Heap} {L : Addr} {a b c : Shared} (x : Step base L a b) (y : Step base L b c) : Step base L a c := by
  obtain ⟨⟨h1, t1, rfl⟩, k1⟩ := x
  obtain ⟨⟨h2, t2, rfl⟩, k2⟩ := y
  exact ⟨⟨h2, t2, rfl⟩, fun p o hp hc e => k2 p o hp hc (k1 p o hp hc e)⟩
/-- everything but the frame's own names, as a ledger -/
theorem all_news {base : Heap} {L : Addr} {h : Heap} {m : Str → Option Value} (F : Fr base L h m) : ∃ W, News base L h W ∧ ∀ b o, b ≠ L → base.get? b = none → h.get? b = some o → (b, o) ∈ W := by
  refine ⟨ownOf base ((List.range h.objs.size).filter fun b => decide (b ≠ L)) h, news_ownOf (by simp), fun b o hb hn e => mem_ownOf ?_ hn e⟩
  simp only [List.mem_filter, List.mem_range, decide_eq_true_eq]
  exact ⟨Heap.lt_size e, hb⟩
theorem Step.of {base : Heap} {L : Addr} {s : Shared} {h' : Heap} {tk : Nat} {m m' : Str → Option Value} {W W' : List (Addr × Obj)} (F : Fr base L s.heap m) (hW : ∀ b o, b ≠ L → base.get? b = none → s.heap.get? b = some o → (b, o) ∈ W) (F' : Fr base L h' m') (N' : News base L h' W') (hs : ∀ p ∈ W, ¬ IsLI p.2 → p ∈ W') : Step base L s { s with heap := h', toks := tk } := by
  refine ⟨⟨h', tk, rfl⟩, fun b o hb hc e => ?_⟩
  cases hn : base.get? b with
  | some o' =>
    have := F.keep _ _ hn
    rw [e] at this
    cases this
    exact F'.keep _ _ hn
  | none => exact (N' _ (hs _ (hW b o hb hn e) (hc.resolve_right fun q => by rw [q] at hn; cases hn))).1
/-- the sizes that are told, n at most -/
noncomputable def ivs : Nat → List Int → Option Int → List Int
  | 0, _, _ => []
  | _ + 1, [], _ => []
  | n + 1, v :: r, last => if v = 127 then [] else if v = 0 then List.replicate (n + 1) (last.getD 0) else v :: ivs n r (some v)
/-- what a wake of the generator does that yields: the value, what stands, and how it goes on -/
noncomputable def GenY (base : Heap) (L : Addr) (S : List Int) : Protocol := fun k s₀ v s₁ κ =>
  ∃ (z : Int) (t : Tok) (oL : Obj) (I : Addr) (oI : Obj), v = .int z t ∧ S[8 - k]? = some z ∧ Step base L s₀ s₁ ∧ s₁.heap.get? L = some oL ∧ s₁.heap.get? I = some oI ∧ base.get? I = none ∧ L < I ∧ IsLI oI ∧
    (k ≠ 0 → ∀ s'', s''.heap.get? L = some oL → s''.heap.get? I = some oI → (∀ b o, base.get? b = some o → s''.heap.get? b = some o) → κ (.send .none) s'')
noncomputable def GenP (base : Heap) (L : Addr) (S : List Int) : Nat → Shared → Shared → Prop := fun k s₀ s₁ => S.length ≤ 9 - k ∧ Step base L s₀ s₁
noncomputable abbrev GenR (base : Heap) (L : Addr) (S : List Int) : GenEnd := fun n s₀ r s₁ => r = .ok (.ret .none) ∧ GenP base L S n s₀ s₁
/-- rows whose nought comes behind a size -/
noncomputable def RowOk : List Int → Option Int → Prop
  | [], _ => True
  | v :: r, last => v = 127 ∨ (v = 0 ∧ last.isSome = true) ∨ (v ≠ 0 ∧ v ≠ 127 ∧ RowOk r (some v))
theorem gen_goes (w : World) (A : Around) (s : Shared) (base : Heap) (L : Addr) (lr : Addr) (vr : List Value) (row : List Int) (m : Str → Option Value) (mean : ExcName → Option Value) (mg mb : Str → Option Value)
    {name qual : Str} {params : Arguments} {body : List Stmt} {scope : Scope} {dV kV doc pm cdv ct oc : Value} {an od : Option Addr} {osl : Array (Option Value)}
    (ho : (hd.heap_39 w.params).lookup 53 = some ⟨oc, od, .func (fnOf name qual params body scope dV kV doc pm an cdv ct), osl⟩)
    (F : Fr base L s.heap m) (X : (hd.heap_39 w.params).In base) (Tp : Top VW LO mean mg mb base) (hm : m (Str.ofString "grouping") = some (.ref lr)) (hl : base.IsList lr vr.toArray) (hi : IntsAre vr row) (hh : A.handled = none) (hn : row.length ≤ 100) (hok : RowOk row none) :
    Seg (model PR w) A (GenR base L (ivs 9 row none)) (GenY base L (ivs 9 row none)) 9 s (.func body (envOf qual scope L 53 cdv)) ((model PR w).den (.func body (envOf qual scope L 53 cdv))) [] s := by
  have e := Option.some.inj (ho.symm.trans (by k_is))
  injection e with e1 e2 e3 e4
  injection e3 with e3
  unfold fnOf at e3
  injection e3 with f1 f2 f3 f4 f5
  injection f4 with f4
  subst f4 f5 f2
  clear e1 e2 e4 ho f1 f3
  refine seg_func ?_
  refine seg_stmt ?_
  obtain ⟨W, N0, hW⟩ := all_news F
  have hstep : ∀ (h' : Heap) (tk : Nat) (m' : Str → Option Value) (W' : List (Addr × Obj)), Fr base L h' m' → News base L h' W' → (∀ p ∈ W, ¬ IsLI p.2 → p ∈ W') → Step base L s { s with heap := h', toks := tk } := fun _ _ _ _ F' N' h => Step.of F hW F' N' h
  walk_at "MY go"
  rename Fr base L _ _ => F1
  rename News base L _ _ => N1
  refine seg_execs_cons ?_
  refine seg_For ?_
  walk_at "MY go"
  rename Fr base L _ _ => F2
  rename News base L _ _ => N2
  have hlL : lr ≠ L := by
    obtain ⟨o, ho, _⟩ := hl
    intro e
    rw [e, Heap.get?_none_of_le F2.above] at ho
    cases ho
  refine wpAny_pyIter_list (F2.lst hl) ?_
  have F3 := F2.push { cls := .type "list_iterator", data := .fields #[.ref lr, .int 0 0] }
  have N3 := N2.grown (h' := Heap.push _ { cls := .type "list_iterator", data := .fields #[.ref lr, .int 0 0] }) fun _ _ e => Heap.get?_push_of_some _ e
  have hIL0 := F2.ns.lt
  try dsimp only
  have hIn0 := next_is_new F2
  have st0 := fun tk => hstep _ tk _ _ F3 N3 (fun p hp _ => hp)
  have hfin : ∀ (hq : Heap) (mq : Str → Option Value), Fr base L hq mq → (hq.push { cls := .type "list_iterator", data := .fields #[.ref lr, .int 0 0] }).IsListIter hq.objs.size lr 0 := fun hq mq _ => ⟨_, Heap.get?_push_size _ rfl, rfl, rfl⟩
  have hit0 := hfin _ _ F2
  clear hfin
  generalize hIe : Array.size (Heap.objs _) = I at hIL0 hIn0 hit0 ⊢
  have hILt : L < I := hIL0
  replace hIL0 : I ≠ L := Nat.ne_of_gt hILt
  intro p
  obtain ⟨S, hS⟩ : ∃ S, S = ivs 9 row none := ⟨_, rfl⟩
  rw [← hS]
  have hvl : vr.length = row.length := hi.length
  refine seg_ind (fun n s₀ s' => Step base L s₀ s' ∧ (1 ≤ n ∧ n ≤ 9) ∧ ∃ (m' : Str → Option Value) (j : Nat) (last : Option Int) (lv : Value), Fr base L s'.heap m' ∧ m' (Str.ofString "last_interval") = some lv ∧ (match last with | none => lv = .none | some z => ∃ t, lv = .int z t) ∧
    s'.heap.IsListIter I lr j ∧ j ≤ row.length ∧ ivs n (row.drop j) last = S.drop (9 - n) ∧ RowOk (row.drop j) last) ?_ 9 _ _ ?_
  · clear F2 N2 F3 N3 hIe hstep hW
    rintro n s₀ s' ih ⟨hst, ⟨hn1, hn9⟩, m', j, last, lv, F4, hla, hlv, hit, hj, hiv, hro⟩
    refine seg_forLoop ?_
    obtain ⟨oI, hoI, hcI0, hdI⟩ := id hit
    have hcI : IsLI oI := ⟨hcI0, _, hdI⟩
    by_cases hj2 : j < row.length
    · obtain ⟨_, t, hv⟩ := ints_get hi (List.getElem?_eq_getElem (by omega : j < vr.length))
      have hIL := hIL0
      have hIn := hIn0
      refine wpAny_pyNext_list_item hit (F4.lst hl) (x := .int row[j] t) (by rw [List.getElem?_toArray, List.getElem?_eq_getElem (by omega : j < vr.length), hv]) fun h1 hit1 hs1 => ?_
      have F5 : Fr base L h1 m' := F4.change hs1 hIL hIn
      have st5 : Step base L s₀ { s' with heap := h1 } := hst.trans' ⟨⟨h1, s'.toks, rfl⟩, fun b o hb hc e => hs1.extBut b o (fun q => by rw [q, hoI] at e; cases e; exact hc.elim (fun hc => hc hcI) fun hc => by rw [q, hIn0] at hc; cases hc) e⟩
      rw [List.drop_eq_getElem_cons hj2] at hiv hro
      generalize row[j] = v at hiv hro
      obtain ⟨W, N5, hW⟩ := all_news F5
      have hstep : ∀ (h' : Heap) (tk : Nat) (m' : Str → Option Value) (W' : List (Addr × Obj)), Fr base L h' m' → News base L h' W' → (∀ p ∈ W, ¬ IsLI p.2 → p ∈ W') → Step base L s₀ { s' with heap := h', toks := tk } := fun h' tk _ _ F' N' h => st5.trans' (Step.of (s := { s' with heap := h1 }) F5 hW F' N' h)
      have hIW : (I, _) ∈ W := hW I _ hIL hIn hit1.choose_spec.1
      try dsimp only
      walk_at "MY go"
      refine seg_execs_cons ?_
      refine seg_If ?_
      walk_at "MY go"
      · rename (v = 127) => hv127
        rename Fr base L _ _ => F6
        rename News base L _ _ => N6
        subst hv127
        have hSl : S.length ≤ 9 - n := by
          have h1 : ivs n (127 :: row.drop (j + 1)) last = [] := by cases n <;> simp [ivs]
          rw [h1] at hiv
          exact List.drop_eq_nil_iff.mp hiv.symm
        refine seg_stmt ?_
        walk_at "MY go"
        refine seg_leaf (.ok (.ret .none)) ?_
        refine seg_end (.ok (.ret .none)) ⟨rfl, hSl, hstep _ _ _ _ F6 N6 fun p hp _ => hp⟩
      rename (v ≠ 127) => hv127
      rename Fr base L _ _ => F6
      rename News base L _ _ => N6
      refine seg_execs_nil ?_
      refine seg_execs_cons ?_
      refine seg_If ?_
      obtain ⟨k, rfl⟩ : ∃ k, n = k + 1 := ⟨n - 1, by omega⟩
      walk_at "MY go"
      · rename (v = 0) => hv0
        rename Fr base L _ _ => F7
        rename News base L _ _ => N7
        subst hv0
        obtain ⟨z, rfl⟩ : ∃ z, last = some z := by
          rcases hro with h | h | h
          · exact absurd h hv127
          · exact Option.isSome_iff_exists.mp h.2
          · exact absurd rfl h.1
        obtain ⟨tz, rfl⟩ := hlv
        rw [ivs, if_neg hv127, if_pos rfl] at hiv
        refine seg_stmt ?_
        walk_at "MY go"
        try dsimp only
        refine seg_execs_cons ?_
        refine seg_While ?_
        intro p2
        rename Fr base L _ _ => F8
        rename News base L _ _ => N8
        have hrep : ∀ q, q ≤ 9 → 8 - k ≤ q → S[q]? = if q < 9 then some z else none := by
          intro q hq1 hq2
          have := congrArg (fun l => l[q - (8 - k)]?) hiv
          simp only [List.getElem?_replicate, List.getElem?_drop, Option.getD_some] at this
          have e1 : 9 - (k + 1) + (q - (8 - k)) = q := by omega
          rw [e1] at this
          rw [← this]
          by_cases hq : q < 9
          · rw [if_pos hq, if_pos (by omega)]
          · rw [if_neg hq, if_neg (by omega)]
        have hIo8 := (N8 _ hIW).1
        have st8 := fun tk => hstep _ tk _ _ F8 N8 (fun p hp _ => hp)
        clear ih hstep hW
        refine seg_ind (fun q sq s1 => Step base L sq s1 ∧ (1 ≤ q ∧ q ≤ k + 1) ∧ ∃ (m' : Str → Option Value) (oI : Obj), Fr base L s1.heap m' ∧ m' (Str.ofString "last_interval") = some (.int z tz) ∧ s1.heap.get? I = some oI ∧ IsLI oI) ?_ (k + 1) _ _ ⟨st8 _, ⟨by omega, by omega⟩, _, _, F8, (if_neg (by decide)).trans hla, hIo8, hit1.choose_spec.2.1, _, hit1.choose_spec.2.2⟩
        clear F8 N8 hIW st5 hs1 hIo8 st8 hla
        rintro q sq s1 ih ⟨hst, ⟨hq1, hq2⟩, m', oI, F9, hla, hoI, hcI9⟩
        obtain ⟨q, rfl⟩ : ∃ q', q = q' + 1 := ⟨q - 1, by omega⟩
        obtain ⟨W, N9, hW⟩ := all_news F9
        have hIW : (I, _) ∈ W := hW I _ hIL hIn hoI
        have hstep : ∀ (h' : Heap) (tk : Nat) (m' : Str → Option Value) (W' : List (Addr × Obj)), Fr base L h' m' → News base L h' W' → (∀ p ∈ W, ¬ IsLI p.2 → p ∈ W') → Step base L sq { s1 with heap := h', toks := tk } := fun _ _ _ _ F' N' h => hst.trans' (Step.of F9 hW F' N' h)
        refine seg_whileLoop ?_
        walk_at "MY go"
        refine seg_execs_cons ?_
        refine seg_Expr_Yield (by rfl) (by rfl) (by rfl) ?_
        walk_at "MY go"
        rename (∀ (x : Value) (s'' : Shared), _ → _) => hkap
        rename Fr base L _ _ => F8
        rename News base L _ _ => N8
        obtain ⟨oL, es, ep, hoL, hoL2, hoL3, hoL4⟩ := id F8.ns
        have hIo := (N8 _ hIW).1
        refine ⟨z, tz, oL, I, _, rfl, ?_, hstep _ _ _ _ F8 N8 (fun p hp _ => hp), hoL, hIo, hIn, hILt, hcI9, fun hk s'' e1 e2 e3 => hkap _ s'' ?_⟩
        · rw [hrep _ (by omega) (by omega), if_pos (by omega)]
        try dsimp only
        refine seg_execs_nil ?_
        try dsimp only
        refine seg_again rfl ?_
        exact ih q (by omega) s'' _ ⟨Step.rfl', ⟨by omega, by omega⟩, _, _, ⟨⟨oL, es, ep, e1, hoL2, hoL3, hoL4⟩, e3, F8.above⟩, hla, e2, hcI9⟩
      · rename (v ≠ 0) => hv0
        rename Fr base L _ _ => F7
        rename News base L _ _ => N7
        have hiv2 : v :: ivs k (row.drop (j + 1)) (some v) = S.drop (8 - k) := by
          rw [ivs, if_neg hv127, if_neg hv0] at hiv
          rw [hiv]
          congr 1
          omega
        have hro2 : RowOk (row.drop (j + 1)) (some v) := by
          rcases hro with h | h | h
          · exact absurd h hv127
          · exact absurd h.1 hv0
          · exact h.2.2
        refine seg_execs_nil ?_
        refine seg_execs_cons ?_
        refine seg_Expr_Yield (by rfl) (by rfl) (by rfl) ?_
        walk_at "MY go"
        rename (∀ (x : Value) (s'' : Shared), _ → _) => hkap
        rename Fr base L _ _ => F8
        rename News base L _ _ => N8
        obtain ⟨oL, es, ep, hoL, hoL2, hoL3, hoL4⟩ := id F8.ns
        have hIo := (N8 _ hIW).1
        refine ⟨v, t, oL, I, _, rfl, ?_, hstep _ _ _ _ F8 N8 (fun p hp _ => hp), hoL, hIo, hIn, hILt, ⟨hit1.choose_spec.2.1, _, hit1.choose_spec.2.2⟩, fun hk s'' e1 e2 e3 => hkap _ s'' ?_⟩
        · have := congrArg (fun l => l[0]?) hiv2
          simpa using this.symm
        try dsimp only
        have F9 : Fr base L s''.heap (fun y => if y = Str.ofString "interval" then some (Value.int v t) else m' y) := ⟨⟨oL, es, ep, e1, hoL2, hoL3, hoL4⟩, e3, F8.above⟩
        clear hstep hW hIW F8 N8 st5 hs1 hkap
        obtain ⟨W, N9, hW⟩ := all_news F9
        have hIW : (I, _) ∈ W := hW I _ hIL hIn e2
        have hstep : ∀ (h' : Heap) (tk : Nat) (m' : Str → Option Value) (W' : List (Addr × Obj)), Fr base L h' m' → News base L h' W' → (∀ p ∈ W, ¬ IsLI p.2 → p ∈ W') → Step base L s'' { s'' with heap := h', toks := tk } := fun _ _ _ _ F' N' h => Step.of F9 hW F' N' h
        refine seg_stmt ?_
        walk_at "MY go"
        rename Fr base L _ _ => F10
        rename News base L _ _ => N10
        try dsimp only
        refine seg_execs_nil ?_
        try dsimp only
        refine seg_again rfl ?_
        refine ih k (by omega) s'' _ ⟨hstep _ _ _ _ F10 N10 (fun p hp _ => hp), ⟨by omega, by omega⟩, _, j + 1, some v, .int v t, F10, by simp, ⟨t, rfl⟩, ⟨_, (N10 _ hIW).1, hit1.choose_spec.2.1, hit1.choose_spec.2.2⟩, hj2, ?_, hro2⟩
        have hk8 : 9 - k = 8 - k + 1 := by omega
        have := congrArg List.tail hiv2
        have e9 : S.drop (8 - k + 1) = (S.drop (8 - k)).tail := by rw [List.tail_drop]
        rw [hk8, e9, ← this, List.tail_cons]
    · refine wpAny_pyNext_list_end hh hit (F4.lst hl) (by rw [List.getElem?_toArray]; exact List.getElem?_eq_none (by omega)) fun h1 hs1 => ?_
      have st5 : Step base L s₀ { s' with heap := h1 } := hst.trans' ⟨⟨h1, s'.toks, rfl⟩, fun b o hb hc e => hs1 b o (fun q => by rw [q, hoI] at e; cases e; exact hc.elim (fun hc => hc hcI) fun hc => by rw [q, hIn0] at hc; cases hc) e⟩
      have hSl : S.length ≤ 9 - n := by
        rw [List.drop_eq_nil_of_le (by omega)] at hiv
        have h1 : ivs n [] last = [] := by cases n <;> simp [ivs]
        rw [h1] at hiv
        exact List.drop_eq_nil_iff.mp hiv.symm
      try dsimp only
      refine seg_again rfl ?_
      refine seg_leaf (.ok .next) ?_
      refine seg_end (.ok (.ret .none)) ⟨rfl, hSl, st5⟩
  · refine ⟨st0 _, ⟨by omega, by omega⟩, _, 0, none, .none, F3, by simp, rfl, hit0, by omega, by rw [hS]; rfl, hok⟩

end
section
section
variable {prog : Program} {w : World} {A : Around} {E : Value → Shared → Prop} {s : Shared}
theorem nextOf_range_item {it : Addr} {x left step : Int} {Q : Value → Shared → Prop} (hit : IsRangeIter s.heap it x left step) (hleft : 0 < left)
    (hQ : ∀ h', IsRangeIter h' it (x + step) (left - 1) step → Heap.SameBut it s.heap h' → Q (.int x s.toks) { s with heap := h', toks := s.toks + 1 }) :
    wpAny (model prog w) A (Builtin.SmallTypes.nextOf (.ref it)) Q E s := by
  have hT : s.TypeIs (.ref it) "range_iterator" := ⟨_, hit, rfl⟩
  unfold Builtin.SmallTypes.nextOf
  refine wpAny_bind (wpAny_callSpecial?_slot (name := Str.ofString "__next__") hT F.slot_range_iterator_next
    (call_meets F.slot_range_iterator_next hT F.entry_range_iterator_next (F.args_range_iterator_next_1 _) (AutoRange.range_iterator___next___range_iterator_1 it x left step (by omega)) ⟨hit, ?_⟩))
  exact wpAny_pure (hQ _ (Heap.get?_update_self _ (Heap.get?_update_self _ hit rfl) rfl) ((Heap.SameBut.update ..).trans (Heap.SameBut.update ..)))
theorem nextOf_range_end {it : Addr} {x left step : Int} {Q : Value → Shared → Prop} (hh : A.handled = none) (hit : IsRangeIter s.heap it x left step) (hleft : left ≤ 0)
    (hE : ∀ h' e, Heap.ExtBut it s.heap h' → (∃ o, h'.get? e = some o ∧ o.cls = .type "StopIteration") → E (.ref e) { s with heap := h' }) :
    wpAny (model prog w) A (Builtin.SmallTypes.nextOf (.ref it)) Q E s := by
  have hT : s.TypeIs (.ref it) "range_iterator" := ⟨_, hit, rfl⟩
  unfold Builtin.SmallTypes.nextOf
  refine wpAny_bind (wpAny_callSpecial?_slot (name := Str.ofString "__next__") hT F.slot_range_iterator_next
    (wpAny_call_entry F.slot_range_iterator_next hT F.entry_range_iterator_next ?_ (F.args_range_iterator_next_1 _)))
  show wpAny _ _ (field (.ref it) 0 >>= _) _ _ s
  refine wpAny_bind (wpAny_field hit rfl (x := rawInt x) rfl ?_)
  show wpAny _ _ (field (.ref it) 1 >>= _) _ _ s
  refine wpAny_bind (wpAny_field hit rfl (x := rawInt left) rfl ?_)
  show wpAny _ _ (field (.ref it) 2 >>= _) _ _ s
  refine wpAny_bind (wpAny_field hit rfl (x := rawInt step) rfl ?_)
  show wpAny _ _ (if left ≤ 0 then _ else _) _ _ s
  rw [if_pos hleft]
  refine wpAny_bind (wpAny_rule ?_)
  refine wpAny_bind ?_
  show wpAny _ _ (newExc (.type "StopIteration") [] >>= _) _ _ _
  refine wpAny_bind ?_
  simp only [newExc, newTuple]
  refine wpAny_bind (wpAny_newObj_type ?_ (by size_fits))
  refine wpAny_bind (m := firstArgMember _ _) (wpAny_of_eq (a := Value.none) (by first | rfl | (simp only [firstArgMember]; rfl)) ?_)
  refine wpAny_newObj_type ?_ (by size_fits)
  simp only [raiseNew]
  refine wpAny_bind (wpAny_handled ?_)
  first | rw [show A.in1.handled = none from hh] | rw [hh]
  refine wpAny_bind (wpAny_pure (wpAny_throw ?_))
  exact hE _ _ (((Heap.ExtBut.refl it s.heap).push _).push _) ⟨_, Heap.get?_push_size _ rfl, rfl⟩
theorem nextOf_gen {a : Addr} {g n : Nat} {gs : GenState} {P : Nat → Shared → Shared → Prop} {Y : Protocol} {Q : Value → Shared → Prop} (hh : A.handled = none)
    (hl : s.heap.NoLimit) (hroom : A.depth < recursionLimit)
    (hg : s.heap.IsGen a g) (hgs : s.gens[g]? = some gs)
    (hgo : gs.Goes (model prog w) A.in1 (fun n s₀ r s₁ => r = .ok (.ret .none) ∧ P n s₀ s₁) Y n (.send .none) (s.setGen g .running))
    (hY : ∀ v s₁ gs', gs'.bare = true → Y (n - 1) (s.setGen g .running) v s₁ (fun r' s'' => match n with
        | 0 => False
        | m + 1 => gs'.Goes (model prog w) A.in1 (fun n s₀ r s₁ => r = .ok (.ret .none) ∧ P n s₀ s₁) Y m r' s'') → Q v (s₁.setGen g gs'))
    (hP : ∀ s₁, P n (s.setGen g .running) s₁ → ∀ h' e, (∀ b o, s₁.heap.get? b = some o → h'.get? b = some o) → (∃ o, h'.get? e = some o ∧ o.cls = .type "StopIteration") → E (.ref e) { s₁.setGen g .finished with heap := h' }) :
    wpAny (model prog w) A (Builtin.SmallTypes.nextOf (.ref a)) Q E s := by
  unfold Builtin.SmallTypes.nextOf
  refine wpAny_bind (wpAny_callSpecial?_slot (name := Str.ofString "__next__") hg.typeIs slot_gen_next
    (wpAny_call_entry slot_gen_next hg.typeIs entry_gen_next ?_ (args_gen_next _)))
  show wpAny _ A.in1 (Builtin.Generator.genWake (.ref a) (.send .none)) _ _ s
  unfold Builtin.Generator.genWake
  refine wpAny_bind (wpAny_holding (wpAny_genNumber hg (wpAny_bind (wpAny_genState hgs ?_))))
  cases gs with
  | running => exact hgo.elim
  | finished => exact hgo.elim
  | _ =>
    refine wpAny_bind (wpAny_roomToWake hl hroom ?_)
    show wpAny _ A.in1 (.resume g (.send .none) [] _) _ _ s
    refine wpAny_resumeQ hgs hgo (fun x s₁ hx => ?_) (fun v s₁ gs' hb hv => ?_)
    · obtain ⟨rfl, hp⟩ := hx
      show wpAny _ A.in1 (newExc (.type "StopIteration") [] >>= _) _ _ _
      refine wpAny_bind ?_
      simp only [newExc, newTuple]
      refine wpAny_bind (wpAny_newObj_type ?_ (by size_fits))
      refine wpAny_bind (m := firstArgMember _ _) (wpAny_of_eq (a := Value.none) (by first | rfl | (simp only [firstArgMember]; rfl)) ?_)
      refine wpAny_newObj_type ?_ (by size_fits)
      simp only [raiseNew]
      refine wpAny_bind (wpAny_bind (wpAny_handled ?_))
      first | rw [show A.in1.handled = none from hh] | rw [hh]
      refine wpAny_throw ?_
      refine hP s₁ hp _ _ (fun b o hb => Heap.get?_push_of_some _ (Heap.get?_push_of_some _ hb)) ⟨_, Heap.get?_push_size _ rfl, rfl⟩
    · exact wpAny_pure ⟨v, rfl, wpAny_pure (hY v s₁ gs' hb hv)⟩
end
/-- where zip(range(9), the generator) stands before its turn i -/
structure ZS (w : World) (A : Around) (base : Heap) (L : Addr) (S : List Int) (g : Nat) (z TI TO ri ga : Addr) (i : Nat) (f0 : Value) (own : List (Addr × Obj)) (gs : GenState) : Prop where
  hz : (z, { cls := .type "zip", dict := none, data := .fields #[f0, .bool false, .bool false, .ref TI, .ref TO], slots := #[] }) ∈ own
  hTI : (TI, { cls := .type "tuple", data := .seq #[.ref ri, .ref ga] }) ∈ own
  hTO : ∃ a b, (TO, { cls := .type "tuple", data := .seq #[a, b] }) ∈ own
  hr : (ri, { cls := .type "range_iterator", dict := none, data := .fields #[rawInt (i : Int), rawInt (9 - (i : Int)), rawInt 1], slots := #[] }) ∈ own
  hg : ∃ o nm qn, (ga, o) ∈ own ∧ o.cls = .type "generator" ∧ o.data = .fields #[.int g 0, nm, qn] ∧ o.slots = #[]
  bare : gs.bare = true
  goes : ∃ gown : List (Addr × Obj), (∀ p ∈ gown, p ∈ own) ∧ (∀ p ∈ gown, p.1 ≠ z ∧ p.1 ≠ TO ∧ p.1 ≠ ri) ∧
    (i < 9 → ∀ s'' : Shared, (∀ p ∈ gown, s''.heap.get? p.1 = some p.2) → (∀ b o, base.get? b = some o → s''.heap.get? b = some o) → gs.Goes (model PR w) A.in1.in1 (GenR base L S) (GenY base L S) (9 - i) (.send .none) s'')
structure ZA (z TI TO ri ga L : Addr) : Prop where
  zTI : TI ≠ z
  zTO : TO ≠ z
  zri : ri ≠ z
  zga : ga ≠ z
  tTO : TI ≠ TO
  tri : TI ≠ ri
  ori : TO ≠ ri
  oga : ga ≠ TO
  rga : ga ≠ ri
  zL' : L < z
  tL' : L < TI
  oL' : L < TO
  rL' : L < ri
  gL' : L < ga
theorem ZA.zL {z TI TO ri ga L : Addr} (D : ZA z TI TO ri ga L) : z ≠ L := Nat.ne_of_gt D.zL'
theorem ZA.tL {z TI TO ri ga L : Addr} (D : ZA z TI TO ri ga L) : TI ≠ L := Nat.ne_of_gt D.tL'
theorem ZA.oL {z TI TO ri ga L : Addr} (D : ZA z TI TO ri ga L) : TO ≠ L := Nat.ne_of_gt D.oL'
theorem ZA.rL {z TI TO ri ga L : Addr} (D : ZA z TI TO ri ga L) : ri ≠ L := Nat.ne_of_gt D.rL'
theorem ZA.gL {z TI TO ri ga L : Addr} (D : ZA z TI TO ri ga L) : ga ≠ L := Nat.ne_of_gt D.gL'
/-- what a draw does to the state -/
noncomputable def ZK (base : Heap) (z TO ri L : Addr) (s s' : Shared) : Prop :=
  (∃ h' G' tk, s' = { s with heap := h', gens := G', toks := tk } ∧ (AllBare s.gens → AllBare G')) ∧
  ∀ b o, b ≠ z → b ≠ TO → b ≠ ri → b ≠ L → (¬ IsLI o ∨ base.get? b = some o) → s.heap.get? b = some o → s'.heap.get? b = some o
theorem allBare_set {G : Array GenState} {g : Nat} {x : GenState} (h : AllBare G) (hx : x.bare = true) : AllBare (G.setIfInBounds g x) := fun y hy => by
  rw [Array.mem_iff_getElem] at hy
  obtain ⟨i, hi, rfl⟩ := hy
  rw [Array.size_setIfInBounds] at hi
  rw [Array.getElem_setIfInBounds hi]
  split
  · exact hx
  · exact h _ (Array.getElem_mem _)
theorem zip_next {w : World} {A : Around} {E : Value → Shared → Prop} {s : Shared} {base : Heap} {L : Addr} {S : List Int} {g : Nat} {z TI TO ri ga : Addr} {i : Nat} {own : List (Addr × Obj)} {gs : GenState} {Q : Value → Shared → Prop}
    (hh : A.handled = none) (hl : s.heap.NoLimit) (hroom : A.depth < recursionLimit) (D : ZA z TI TO ri ga L)
    (Z : ZS w A base L S g z TI TO ri ga i .none own gs) (hown : ∀ p ∈ own, s.heap.get? p.1 = some p.2) (hb : ∀ b o, base.get? b = some o → s.heap.get? b = some o) (hbn : base.get? z = none ∧ base.get? TO = none ∧ base.get? ri = none) (hbm : base.get? TI = none ∧ base.get? ga = none ∧ base.get? L = none) (hlb : base.NoLimit)
    (hgs : s.gens[g]? = some gs) (hi : i ≤ 9)
    (hQ : ∀ s' T size t1 t2 own' gs', i < 9 → S[i]? = some size → ZK base z TO ri L s s' → s'.heap.get? T = some { cls := .type "tuple", data := .seq #[.int (i : Int) t1, .int size t2] } → s'.gens[g]? = some gs' →
      (∀ p ∈ own', s'.heap.get? p.1 = some p.2 ∧ base.get? p.1 = none ∧ L ≤ p.1) → T ≠ z → ZS w A base L S g z TI TO ri ga (i + 1) (rawInt T) own' gs' → Q (.ref T) s')
    (hE : ∀ s' e, (i = 9 ∨ S.length ≤ i) → ZK base z TO ri L s s' → (∃ o, s'.heap.get? e = some o ∧ o.cls = .type "StopIteration") → E (.ref e) s') :
    wpAny (model PR w) A.in1 (Builtin.«zip.__next__» ⟨[.ref z], []⟩) (fun fin s' => ∃ v, fin = .done (.ret v) ∧ Q v s') E s := by
  have hz : IsZip s.heap z TI TO .none := hown _ Z.hz
  have hTI : IsPair s.heap TI (.ref ri) (.ref ga) := hown _ Z.hTI
  obtain ⟨a, b, hTO0⟩ := Z.hTO
  have hTO : IsPair s.heap TO a b := hown _ hTO0
  have hri : IsRangeIter s.heap ri i (9 - (i : Int)) 1 := hown _ Z.hr
  obtain ⟨og, nm, qn, hog, hg1, hg2, hg3⟩ := Z.hg
  have hga : s.heap.get? ga = some og := hown _ hog
  show wpAny _ _ (field (.ref z) 2 >>= _) _ _ _
  refine wpAny_bind (wpAny_field hz rfl (x := .bool false) rfl ?_)
  show wpAny _ _ (field (.ref z) 3 >>= _) _ _ _
  refine wpAny_bind (wpAny_field hz rfl (x := .ref TI) rfl ?_)
  refine wpAny_bind (wpAny_seqItems hTI rfl ?_)
  show wpAny _ _ (Builtin.SmallTypes.ownedTupleIsFree (.ref z) >>= _) _ _ _
  refine wpAny_bind ?_
  unfold Builtin.SmallTypes.ownedTupleIsFree
  refine wpAny_bind (wpAny_field hz rfl (x := .none) rfl (wpAny_pure ?_))
  simp only [if_true]
  refine wpAny_bind (wpAny_rule ?_)
  refine wpAny_bind (wpAny_field hz rfl (x := .ref TO) rfl ?_)
  refine wpAny_bind (wpAny_setField_rec hz (by simp) fun h₁ hz₁ hs₁ => ?_)
  replace hz₁ : IsZip h₁ z TI TO .ellipsis := hz₁
  refine wpAny_bind ?_
  simp only [List.zipIdx_cons, List.zipIdx_nil, List.forIn_cons, List.forIn_nil]
  refine wpAny_bind (wpAny_bind (wpAny_onRaise ?_))
  show wpAny _ _ (Builtin.SmallTypes.nextOf (.ref ri) >>= _) _ _ _
  by_cases hi9 : i = 9
  · refine wpAny_bind (nextOf_range_end (A := A.in1) hh (s := { s with heap := h₁ }) ((hs₁.2 _ D.zri).trans hri) (by omega) fun h₂ e hs₂ he => ?_)
    obtain ⟨oe, hoe, hce⟩ := he
    have hz₂ : IsZip h₂ z TI TO .ellipsis := hs₂ _ _ D.zri.symm hz₁
    have hez : e ≠ z := fun x => by subst x; rw [hz₂] at hoe; cases hoe; simp at hce
    refine wpAny_setField_rec hz₂ (by simp) fun h₃ _ hs₃ => hE _ e (.inl hi9) ⟨⟨h₃, s.gens, s.toks, rfl, id⟩, fun c o c1 _ c3 _ _ x => hs₃.extBut _ _ c1 (hs₂ _ _ c3 (hs₁.extBut _ _ c1 x))⟩ ⟨oe, hs₃.extBut _ _ hez hoe, hce⟩
  have hi2 : i < 9 := by omega
  refine wpAny_bind (nextOf_range_item (A := A.in1) (s := { s with heap := h₁ }) ((hs₁.2 _ D.zri).trans hri) (by omega) fun h₂ hri₂ hs₂ => wpAny_pure ?_)
  replace hs₂ : Heap.SameBut ri h₁ h₂ := hs₂
  have hTO₂ : IsPair h₂ TO a b := (hs₂.2 _ D.ori).trans ((hs₁.2 _ D.zTO).trans hTO)
  refine wpAny_bind (wpAny_seqItems (s := { s with heap := h₂, toks := s.toks + 1 }) hTO₂ rfl ?_)
  refine wpAny_bind (wpAny_updateSeq_pair (s := { s with heap := h₂, toks := s.toks + 1 }) hTO₂ fun h₃ hTO₃ hs₃ => ?_)
  replace hTO₃ : IsPair h₃ TO (.int i s.toks) b := hTO₃
  replace hs₃ : Heap.SameBut TO h₂ h₃ := hs₃
  refine wpAny_bind (wpAny_letGo (wpAny_pure ?_))
  refine wpAny_bind (wpAny_bind (wpAny_onRaise ?_))
  show wpAny _ _ (Builtin.SmallTypes.nextOf (.ref ga) >>= _) _ _ _
  have k3 : ∀ c o, c ≠ z → c ≠ TO → c ≠ ri → s.heap.get? c = some o → h₃.get? c = some o := fun c o c1 c2 c3 x => hs₃.extBut _ _ c2 (hs₂.extBut _ _ c3 (hs₁.extBut _ _ c1 x))
  have hz₃ : IsZip h₃ z TI TO .ellipsis := hs₃.extBut _ _ D.zTO.symm (hs₂.extBut _ _ D.zri.symm hz₁)
  have hri₃ : IsRangeIter h₃ ri (i + 1) (9 - (i : Int) - 1) 1 := hs₃.extBut _ _ D.ori.symm hri₂
  have hTI₃ : IsPair h₃ TI (.ref ri) (.ref ga) := k3 _ _ D.zTI D.tTO D.tri hTI
  have hga₃ : h₃.get? ga = some og := k3 _ _ D.zga D.oga D.rga hga
  have hb₃ : ∀ c o, base.get? c = some o → h₃.get? c = some o := fun c o x => k3 c o (fun q => by rw [q, hbn.1] at x; cases x) (fun q => by rw [q, hbn.2.1] at x; cases x) (fun q => by rw [q, hbn.2.2] at x; cases x) (hb c o x)
  obtain ⟨gown, hgo1, hgo2, hgo3⟩ := Z.goes
  refine wpAny_bind (nextOf_gen (A := A.in1) (s := { s with heap := h₃, toks := s.toks + 1 }) (n := 9 - i) (Y := GenY base L S) (P := GenP base L S) hh ?_ hroom ⟨og, nm, qn, hga₃, hg1, hg2, hg3⟩ hgs ?_ ?_ ?_)
  · exact hlb.keeps hb₃
  · exact hgo3 hi2 _ (fun p hp => k3 _ _ (hgo2 p hp).1 (hgo2 p hp).2.1 (hgo2 p hp).2.2 (hown _ (hgo1 p hp))) hb₃
  · obtain ⟨k, hk⟩ : ∃ k, 9 - i = k + 1 := ⟨8 - i, by omega⟩
    rw [hk]
    rintro v s₁ gs' hbare ⟨size, t2, oL, I, oI, rfl, hS, ⟨⟨h₄, tk₄, rfl⟩, hst⟩, hoL, hoI, hIb, hIL, hIc, hgo⟩
    replace hoL : h₄.get? L = some oL := hoL
    replace hoI : h₄.get? I = some oI := hoI
    replace hst : ∀ c o, c ≠ L → (¬ IsLI o ∨ base.get? c = some o) → h₃.get? c = some o → h₄.get? c = some o := hst
    have hS' : S[i]? = some size := by
      rw [← hS]
      congr 1
      omega
    have hz₄ : IsZip h₄ z TI TO .ellipsis := hst _ _ D.zL (.inl (by simp)) hz₃
    have hTO₄ : IsPair h₄ TO (.int i s.toks) b := hst _ _ D.oL (.inl (by simp)) hTO₃
    have hTI₄ : IsPair h₄ TI (.ref ri) (.ref ga) := hst _ _ D.tL (.inl (by simp)) hTI₃
    have hri₄ : IsRangeIter h₄ ri (i + 1) (9 - (i : Int) - 1) 1 := hst _ _ D.rL (.inl (by simp)) hri₃
    have hga₄ : h₄.get? ga = some og := hst _ _ D.gL (.inl fun q => absurd q.1 (by rw [hg1]; simp)) hga₃
    have hIz : I ≠ z := fun q => by rw [q, hz₄] at hoI; cases hoI; exact absurd hIc.1 (by simp)
    have hITO : I ≠ TO := fun q => by rw [q, hTO₄] at hoI; cases hoI; exact absurd hIc.1 (by simp)
    have hIri : I ≠ ri := fun q => by rw [q, hri₄] at hoI; cases hoI; exact absurd hIc.1 (by simp)
    have hIga : I ≠ ga := fun q => by rw [q, hga₄] at hoI; cases hoI; exact absurd hIc.1 (by rw [hg1]; simp)
    refine wpAny_pure ?_
    refine wpAny_bind (wpAny_seqItems (s := { s with heap := h₄, toks := tk₄, gens := _ }) hTO₄ rfl ?_)
    refine wpAny_bind (wpAny_updateSeq_pair (s := { s with heap := h₄, toks := tk₄, gens := _ }) hTO₄ fun h₅ hTO₅ hs₅ => ?_)
    replace hTO₅ : IsPair h₅ TO (.int i s.toks) (.int size t2) := hTO₅
    replace hs₅ : Heap.SameBut TO h₄ h₅ := hs₅
    refine wpAny_bind (wpAny_letGo (wpAny_pure (wpAny_pure ?_)))
    refine wpAny_bind (wpAny_seqItems (s := { s with heap := h₅, toks := tk₄, gens := _ }) hTO₅ rfl ?_)
    refine wpAny_bind (wpAny_newTuple ?_)
    have hz₅ : IsZip h₅ z TI TO .ellipsis := hs₅.extBut _ _ D.zTO.symm hz₄
    show wpAny _ _ (Builtin.SmallTypes.ownedTupleHandOut (.ref z) (.ref h₅.objs.size) >>= _) _ _ _
    refine wpAny_bind ?_
    unfold Builtin.SmallTypes.ownedTupleHandOut
    have hz₆ : IsZip (h₅.push { cls := .type "tuple", data := .seq #[.int i s.toks, .int size t2] }) z TI TO .ellipsis := Heap.get?_push_of_some _ hz₅
    refine wpAny_bind (wpAny_setField_rec hz₆ (by simp) fun h₇ hz₇ hs₇ => ?_)
    replace hz₇ : IsZip h₇ z TI TO (rawInt h₅.objs.size) := hz₇
    refine wpAny_setField_rec hz₇ (by simp) fun h₈ hz₈ hs₈ => ?_
    replace hz₈ : IsZip h₈ z TI TO (rawInt h₅.objs.size) := hz₈
    have hTz : h₅.objs.size ≠ z := Nat.ne_of_gt (Heap.lt_size hz₅)
    have up : ∀ c o, c ≠ z → h₅.get? c = some o → h₈.get? c = some o := fun c o c1 e => hs₈.extBut _ _ c1 (hs₇.extBut _ _ c1 (Heap.get?_push_of_some _ e))
    have hT₈ : h₈.get? h₅.objs.size = some { cls := .type "tuple", data := .seq #[.int (i : Int) s.toks, .int size t2] } := hs₈.extBut _ _ hTz (hs₇.extBut _ _ hTz (Heap.get?_push_size _ rfl))
    have k8 : ∀ c o, c ≠ z → c ≠ TO → h₄.get? c = some o → h₈.get? c = some o := fun c o c1 c2 e => up _ _ c1 (hs₅.extBut _ _ c2 e)
    have hglt : g < s.gens.size := by
      rcases Nat.lt_or_ge g s.gens.size with h | h
      · exact h
      · rw [Array.getElem?_eq_none h] at hgs
        cases hgs
    refine wpAny_pure ⟨_, rfl, ?_⟩
    refine hQ _ _ size s.toks t2 [(z, { cls := .type "zip", dict := none, data := .fields #[rawInt h₅.objs.size, .bool false, .bool false, .ref TI, .ref TO], slots := #[] }), (TI, { cls := .type "tuple", data := .seq #[.ref ri, .ref ga] }), (TO, { cls := .type "tuple", data := .seq #[.int (i : Int) s.toks, .int size t2] }),
        (ri, { cls := .type "range_iterator", dict := none, data := .fields #[rawInt ((i + 1 : Nat) : Int), rawInt (9 - ((i + 1 : Nat) : Int)), rawInt 1], slots := #[] }), (ga, og), (L, oL), (I, oI)] gs' hi2 hS' ⟨⟨h₈, _, tk₄, rfl, fun hB => allBare_set (allBare_set hB rfl) hbare⟩, fun c o c1 c2 c3 c4 c5 e => k8 c o c1 c2 (hst c o c4 c5 (k3 c o c1 c2 c3 e))⟩ hT₈ ?_ ?_ hTz
      ⟨List.mem_cons_self, List.mem_cons_of_mem _ List.mem_cons_self, ⟨_, _, List.mem_cons_of_mem _ (List.mem_cons_of_mem _ List.mem_cons_self)⟩, List.mem_cons_of_mem _ (List.mem_cons_of_mem _ (List.mem_cons_of_mem _ List.mem_cons_self)), ⟨og, nm, qn, by simp, hg1, hg2, hg3⟩, hbare,
        [(L, oL), (I, oI)], by simp, by simp [D.zL.symm, D.oL.symm, D.rL.symm, hIz, hITO, hIri], fun h9 s'' hs'' hb'' => ?_⟩
    · show (Array.setIfInBounds (Array.setIfInBounds s.gens g _) g gs')[g]? = some gs'
      rw [Array.getElem?_setIfInBounds_self_of_lt (by rw [Array.size_setIfInBounds]; exact hglt)]
    · have e1 : ((i + 1 : Nat) : Int) = (i : Int) + 1 := by push_cast; rfl
      have e2 : 9 - ((i : Int) + 1) = 9 - (i : Int) - 1 := by omega
      rw [e1, e2] 
      intro p hp
      simp only [List.mem_cons, List.not_mem_nil, or_false] at hp
      rcases hp with rfl | rfl | rfl | rfl | rfl | rfl | rfl
      · exact ⟨hz₈, hbn.1, Nat.le_of_lt D.zL'⟩
      · exact ⟨k8 _ _ D.zTI D.tTO hTI₄, hbm.1, Nat.le_of_lt D.tL'⟩
      · exact ⟨up _ _ D.zTO hTO₅, hbn.2.1, Nat.le_of_lt D.oL'⟩
      · exact ⟨k8 _ _ D.zri D.ori.symm hri₄, hbn.2.2, Nat.le_of_lt D.rL'⟩
      · exact ⟨k8 _ _ D.zga D.oga hga₄, hbm.2.1, Nat.le_of_lt D.gL'⟩
      · exact ⟨k8 _ _ D.zL.symm D.oL.symm hoL, hbm.2.2, Nat.le_refl _⟩
      · exact ⟨k8 _ _ hIz hITO hoI, hIb, Nat.le_of_lt hIL⟩
    · have := hgo (by omega) s'' (hs'' (L, oL) (by simp)) (hs'' (I, oI) (by simp)) hb''
      have e9 : 9 - (i + 1) = k := by omega
      rw [e9]
      exact this
  · rintro s₁ ⟨hS, ⟨⟨h₄, tk₄, rfl⟩, hst⟩⟩ h₅ e hk₅ ⟨oe, hoe, hce⟩
    replace hst : ∀ c o, c ≠ L → (¬ IsLI o ∨ base.get? c = some o) → h₃.get? c = some o → h₄.get? c = some o := hst
    replace hk₅ : ∀ c o, h₄.get? c = some o → h₅.get? c = some o := hk₅
    have hz₅ : IsZip h₅ z TI TO .ellipsis := hk₅ _ _ (hst _ _ D.zL (.inl (by simp)) hz₃)
    have hez : e ≠ z := fun x => by subst x; rw [hz₅] at hoe; cases hoe; simp at hce
    refine wpAny_setField_rec hz₅ (by simp) fun h₆ _ hs₆ => ?_
    exact hE _ e (.inr (by omega)) ⟨⟨h₆, _, tk₄, rfl, fun hB => allBare_set (allBare_set hB rfl) rfl⟩, fun c o c1 c2 c3 c4 c5 x => hs₆.extBut _ _ c1 (hk₅ _ _ (hst c o c4 c5 (k3 c o c1 c2 c3 x)))⟩ ⟨oe, hs₆.extBut _ _ hez hoe, hce⟩
theorem pyNext_zip {w : World} {A : Around} {E : Value → Shared → Prop} {s : Shared} {base : Heap} {L : Addr} {S : List Int} {g : Nat} {z TI TO ri ga : Addr} {i : Nat} {own : List (Addr × Obj)} {gs : GenState} {Q : Option Value → Shared → Prop}
    (hh : A.handled = none) (hl : s.heap.NoLimit) (hroom : A.depth < recursionLimit) (D : ZA z TI TO ri ga L)
    (Z : ZS w A base L S g z TI TO ri ga i .none own gs) (hown : ∀ p ∈ own, s.heap.get? p.1 = some p.2) (hb : ∀ b o, base.get? b = some o → s.heap.get? b = some o) (hbn : base.get? z = none ∧ base.get? TO = none ∧ base.get? ri = none) (hbm : base.get? TI = none ∧ base.get? ga = none ∧ base.get? L = none) (hlb : base.NoLimit)
    (hgs : s.gens[g]? = some gs) (hi : i ≤ 9)
    (hQ : ∀ s' T size t1 t2 own' gs', i < 9 → S[i]? = some size → ZK base z TO ri L s s' → s'.heap.get? T = some { cls := .type "tuple", data := .seq #[.int (i : Int) t1, .int size t2] } → s'.gens[g]? = some gs' →
      (∀ p ∈ own', s'.heap.get? p.1 = some p.2 ∧ base.get? p.1 = none ∧ L ≤ p.1) → T ≠ z → ZS w A base L S g z TI TO ri ga (i + 1) (rawInt T) own' gs' → Q (some (.ref T)) s')
    (hE : ∀ s', (i = 9 ∨ S.length ≤ i) → ZK base z TO ri L s s' → Q none s') :
    wpAny (model PR w) A (pyNext (.ref z)) Q E s := by
  have hT : s.TypeIs (.ref z) "zip" := ⟨_, hown _ Z.hz, rfl⟩
  unfold pyNext
  refine wpAny_bind (wpAny_attempt (wpAny_callSpecial?_slot (name := Str.ofString "__next__") hT F.slot_zip_next
    (wpAny_call_entry F.slot_zip_next hT F.entry_zip_next (zip_next hh hl hroom D Z hown hb hbn hbm hlb hgs hi (fun s' T size t1 t2 own' gs' c1 c2 c3 c4 c5 c6 c7 c8 => wpAny_pure (hQ s' T size t1 t2 own' gs' c1 c2 c3 c4 c5 c6 c7 c8)) fun s' e c1 c2 he => ?_) (F.args_zip_next_1 _))))
  obtain ⟨o, ho, hc⟩ := he
  refine wpAny_bind (wpAny_isInstance (T := "StopIteration") (b := true) ⟨o, ho, hc⟩ isSubtype_stop ?_)
  exact wpAny_pure (hE _ c1 c2)
/-- the pair has been read: it is free again -/
theorem zip_go {w : World} {A : Around} {E : Value → Shared → Prop} {s : Shared} {base : Heap} {L : Addr} {S : List Int} {g : Nat} {z TI TO ri ga T : Addr} {i : Nat} {own : List (Addr × Obj)} {gs : GenState} {elts : List Expr} {x1} {pos : Pos} {Q : Unit → Shared → Prop}
    (D : ZA z TI TO ri ga L) (Z : ZS w A base L S g z TI TO ri ga i (rawInt T) own gs) (hown : ∀ p ∈ own, s.heap.get? p.1 = some p.2 ∧ base.get? p.1 = none ∧ L ≤ p.1)
    (hQ : ∀ h' own', ZS w A base L S g z TI TO ri ga i .none own' gs → (∀ p ∈ own', h'.get? p.1 = some p.2 ∧ base.get? p.1 = none ∧ L ≤ p.1) → Heap.SameBut z s.heap h' → Q () { s with heap := h' }) :
    wpAny (model PR w) A (letOwnedTupleGo (.Tuple elts x1 pos) (.ref z) (.ref T)) Q E s := by
  have hz : IsZip s.heap z TI TO (rawInt T) := (hown _ Z.hz).1
  refine wpAny_letOwnedTupleGo_zip hz fun h' hz' hs' => ?_
  refine hQ h' ((z, { cls := .type "zip", dict := none, data := .fields #[.none, .bool false, .bool false, .ref TI, .ref TO], slots := #[] }) :: own.filter fun p => decide (p.1 ≠ z)) ?_ ?_ hs'
  · have sub : ∀ p ∈ own, p.1 ≠ z → p ∈ ((z, ({ cls := .type "zip", dict := none, data := .fields #[.none, .bool false, .bool false, .ref TI, .ref TO], slots := #[] } : Obj)) :: own.filter fun p => decide (p.1 ≠ z)) := fun p hp hn => List.mem_cons_of_mem _ (List.mem_filter.mpr ⟨hp, by simpa using hn⟩)
    obtain ⟨a, b, hTO⟩ := Z.hTO
    obtain ⟨o, nm, qn, hog, r⟩ := Z.hg
    obtain ⟨gown, g1, g2, g3⟩ := Z.goes
    exact ⟨List.mem_cons_self, sub _ Z.hTI D.zTI, ⟨a, b, sub _ hTO D.zTO⟩, sub _ Z.hr D.zri, ⟨o, nm, qn, sub _ hog D.zga, r⟩, Z.bare, gown, fun p hp => sub _ (g1 p hp) (g2 p hp).1, g2, g3⟩
  · intro p hp
    rcases List.mem_cons.mp hp with rfl | hp
    · exact ⟨hz', (hown _ Z.hz).2⟩
    · obtain ⟨hp1, hp2⟩ := List.mem_filter.mp hp
      have hp2 : p.1 ≠ z := by simpa using hp2
      exact ⟨(hs'.2 _ hp2).trans (hown _ hp1).1, (hown _ hp1).2⟩

end
section
noncomputable abbrev zgH1 (h : Heap) : Heap := h.push { cls := .type "range_iterator", data := .fields #[rawInt 0, rawInt 9, rawInt 1] }
noncomputable abbrev zgH3 (h : Heap) (ga : Addr) : Heap := (zgH1 h).push { cls := .type "tuple", data := .seq #[.ref h.objs.size, .ref ga] }
noncomputable abbrev zgH4 (h : Heap) (ga : Addr) : Heap := (zgH3 h ga).push { cls := .type "tuple", data := .seq #[.none, .none] }
noncomputable abbrev zgH5 (h : Heap) (ga : Addr) : Heap := (zgH4 h ga).push { cls := .type "zip", data := .fields #[.none, .bool false, .bool false, .ref (zgH1 h).objs.size, .ref (zgH3 h ga).objs.size] }
theorem meets_zip_rg (r ga : Addr) (t u v : Tok) (g : Nat) :
    Meets (Builtin.«zip.__new__» ⟨[.type "zip", .ref r, .ref ga], []⟩) (fun _ R s => IsRange s.heap r 0 9 1 t u v ∧ s.heap.IsGen ga g ∧
      R (.ok (.ret (.ref (zgH4 s.heap ga).objs.size))) { s with heap := zgH5 s.heap ga }) :=
  .of_wp fun prog w A R s h => by
    obtain ⟨hp, gg, d, tk, os⟩ := s; obtain ⟨hr, hg, h⟩ := h
    have hsub := sub_zip
    have hsm : Builtin.Range.small 0 9 1 = true := by decide +kernel
    have hL2 : Heap.IsGen (Shared.heap ⟨hp.push { cls := .type "range_iterator", data := .fields #[rawInt 0, rawInt (Builtin.Range.rangeSize 0 9 1), rawInt 1] }, gg, d, tk, os⟩) ga g := Heap.IsGen.push hg _
    have hr' : IsRange (Shared.heap ⟨hp, gg, d, tk, os⟩) r 0 9 1 t u v := hr
    wp_walk using wpAny_pyIter_range hr' hsm, wpAny_pyIter_gen hL2
    exact ⟨_, rfl, h⟩
theorem call_zip_rg {prog : Program} {w : World} {A : Around} {E : Value → Shared → Prop} {s : Shared} {r ga : Addr} {t u v : Tok} {g : Nat} {Q : Value → Shared → Prop} (hr : IsRange s.heap r 0 9 1 t u v) (hg : s.heap.IsGen ga g)
    (h : ∀ h', IsZip h' (s.heap.objs.size + 3) (s.heap.objs.size + 1) (s.heap.objs.size + 2) .none → IsPair h' (s.heap.objs.size + 1) (.ref s.heap.objs.size) (.ref ga) →
      IsPair h' (s.heap.objs.size + 2) .none .none → IsRangeIter h' s.heap.objs.size 0 9 1 → h'.objs.size = s.heap.objs.size + 4 →
      (∀ c o, s.heap.get? c = some o → h'.get? c = some o) → Q (.ref (s.heap.objs.size + 3)) { s with heap := h' }) :
    wpAny (model prog w) A (call (.type "zip") [.ref r, .ref ga]) Q E s := by
  refine callType_new F.called_zip (by decide) (F.typeCall_zip_2 _ _) (F.newCall_zip_2 _ _) (fun obj => F.args_object_init_3 obj _ _) F.entry_zip_new
    (meets_zip_rg r ga t u v g) ⟨hr, hg, ?_⟩
  have z1 : (zgH1 s.heap).objs.size = s.heap.objs.size + 1 := Heap.size_push ..
  have z3 : (zgH3 s.heap ga).objs.size = s.heap.objs.size + 2 := by rw [Heap.size_push, z1]
  have z4 : (zgH4 s.heap ga).objs.size = s.heap.objs.size + 3 := by rw [Heap.size_push, z3]
  have z5 : (zgH5 s.heap ga).objs.size = s.heap.objs.size + 4 := by rw [Heap.size_push, z4]
  have g5 : (zgH5 s.heap ga).get? (zgH4 s.heap ga).objs.size = some _ := Heap.get?_push_size _ rfl
  have g4 : (zgH5 s.heap ga).get? (zgH3 s.heap ga).objs.size = some _ := Heap.get?_push_of_some _ (Heap.get?_push_size _ rfl)
  have g3 : (zgH5 s.heap ga).get? (zgH1 s.heap).objs.size = some _ := Heap.get?_push_of_some _ (Heap.get?_push_of_some _ (Heap.get?_push_size _ rfl))
  have g1 : (zgH5 s.heap ga).get? s.heap.objs.size = some _ := Heap.get?_push_of_some _ (Heap.get?_push_of_some _ (Heap.get?_push_of_some _ (Heap.get?_push_size _ rfl)))
  show _ ∧ _
  rw [z1, z3, z4] at g5
  rw [z1] at g3
  rw [z3] at g4
  rw [z4]
  exact ⟨⟨_, g5, rfl⟩, h _ g5 g3 g4 g1 z5 fun c o x =>
    Heap.get?_push_of_some _ (Heap.get?_push_of_some _ (Heap.get?_push_of_some _ (Heap.get?_push_of_some _ x)))⟩
/-- the call of the generator's function -/
theorem genCallG (w : World) {A : Around} {E : Value → Shared → Prop} {s : Shared} {base : Heap} {lr : Addr} {vr : List Value} {row : List Int} {mean : ExcName → Option Value} {mg mb : Str → Option Value} {Q : Value → Shared → Prop}
    {name qual : Str} {params : Arguments} {body : List Stmt} {scope : Scope} {dV kV doc pm cdv ct oc : Value} {an od : Option Addr} {osl : Array (Option Value)}
    (ho : (hd.heap_39 w.params).lookup 53 = some ⟨oc, od, .func (fnOf name qual params body scope dV kV doc pm an cdv ct), osl⟩) (hcd : codeIn (hd.heap_39 w.params) cdv qual = true) (hroom : A.depth < recursionLimit)
    (hbind : ∀ s, BindsTo s (fnOf name qual params body scope dV kV doc pm an cdv ct) ⟨[.ref lr], []⟩ [(Str.ofString "grouping", .ref lr)])
    (hcell : ∀ x ∈ scope.names, x.2 ≠ .cell) (hloc : ∀ y ∈ [(Str.ofString "grouping", Value.ref lr)], scope.names.lookup y.1 = some .local) (hco : scope.isCoroutine = false) (hgen : scope.isGenerator = true) (hk : scope.kind = .function)
    (X : (hd.heap_39 w.params).In base) (Tp : Top VW LO mean mg mb base) (hsb : ∀ b o, base.get? b = some o → s.heap.get? b = some o) (hbs : base.objs.size ≤ s.heap.objs.size)
    (hl : base.IsList lr vr.toArray) (hi : IntsAre vr row) (hn : row.length ≤ 100) (hok : RowOk row none)
    (hQ : ∀ h' tk gs oL og nm qn, h'.get? s.heap.objs.size = some oL → h'.get? (s.heap.objs.size + 1) = some og → og.cls = .type "generator" → og.data = .fields #[.int s.gens.size 0, nm, qn] → og.slots = #[] →
      (∀ b o, s.heap.get? b = some o → h'.get? b = some o) → h'.objs.size = s.heap.objs.size + 2 → gs.bare = true →
      (∀ (A' : Around) (s'' : Shared), A'.handled = none → s''.heap.get? s.heap.objs.size = some oL → (∀ b o, base.get? b = some o → s''.heap.get? b = some o) →
        gs.Goes (model PR w) A' (GenR base s.heap.objs.size (ivs 9 row none)) (GenY base s.heap.objs.size (ivs 9 row none)) 9 (.send .none) s'') →
      Q (.ref (s.heap.objs.size + 1)) { s with heap := h', gens := s.gens.push gs, toks := tk }) :
    wpAny (model PR w) A (call (.ref 53) [.ref lr]) Q E s := by
  refine wpAny_call ?_
  refine codeAny_call_generator hroom (hsb _ _ ((X.keeps Keep.rfl') _ _ ho)) rfl hco hgen rfl ((codeRec_of X hcd).keeps hsb) (hbind _ _ _ _ _ ?_)
  refine wpAny_newFunctionEnv hcell hloc (fun h₀ hns₀ hsb₀ => ⟨(Tp.nolimit.keeps hsb).fresh _ hsb₀, ?_⟩) hk
  have k1 : ∀ b o, s.heap.get? b = some o → h₀.get? b = some o := fun b o e => hsb₀.extBut b o (Nat.ne_of_lt (Heap.lt_size e)) (Heap.get?_push_of_some _ e)
  have hsz : h₀.objs.size = s.heap.objs.size + 1 := by rw [hsb₀.1, Heap.size_push]
  obtain ⟨oL, es, ep, hoL, hoL2, hoL3, hoL4⟩ := id hns₀
  show Q (.ref h₀.objs.size) _
  rw [hsz]
  have hp : ∀ o : Obj, o.isFreed = false → (h₀.push o).get? (s.heap.objs.size + 1) = some o := fun o ho => hsz ▸ Heap.get?_push_size _ ho
  refine hQ _ _ _ oL _ _ _ (Heap.get?_push_of_some _ hoL) (hp _ rfl) rfl rfl rfl (fun b o e => Heap.get?_push_of_some _ (k1 b o e)) (by rw [Heap.size_push, hsz]) rfl fun A' s'' hA' e1 e2 => ⟨rfl, ?_⟩
  exact gen_goes w A' s'' base s.heap.objs.size lr vr row (fun y => [(Str.ofString "grouping", Value.ref lr)].reverse.lookup y) mean mg mb ho ⟨⟨oL, es, ep, e1, hoL2, hoL3, hoL4⟩, e2, hbs⟩ X Tp rfl hl hi hA' hn hok

end
section
local macro_rules | `(tactic| walk_at "MY inst") => `(tactic| (apply_assumption; exact Fr.keep (by assumption)))
local macro_rules | `(tactic| walk_at "MY noname") => `(tactic| (apply_assumption; decide))
local macro_rules | `(tactic| walk_at "getMethod ref") => `(tactic| (refine method_inst (by k_asm) (by k_asm) (by walk_at "MY inst") (by k_is) (by k_is) (by k_is) (by walk_at "MY noname") ?_; k_whole))
local macro_rules | `(tactic| walk_at "getAttr ref") => `(tactic| (
  (with_reducible show wpAny _ _ (getAttr (Value.ref _) (PySem.Str.ofString "_headers") _) _ _ _);
  refine get_own (by k_asm) (by k_asm) (by walk_at "MY inst") (by k_is) (by k_is) (by k_is) (by k_is) (by assumption) (by k_handed) ?_; k_whole))
local macro_rules | `(tactic| walk_at "call builtin:str.lower") => `(tactic| ((with_reducible show wpAny _ _ (call (Value.builtin "str.lower") [Value.str (Mine.T _) _]) _ _ _); refine low_T (by assumption) (by first | assumption | omega) ?_))
local macro_rules | `(tactic| walk_at "compareOp NotEq ref ref") => `(tactic| refine ne_nil (News.isList (by assumption) (by kcf_m)) (News.isList (by assumption) (by kcf_m)) (by walk_at "MY rm") ?_)
local macro_rules | `(tactic| walk_at "MY st1") => `(tactic| (fail_if_success (with_reducible first | refine gApp ?_ | refine gPop ?_ | refine gTup ?_ | refine gGet ?_ | refine gIdx ?_ | refine gSplit ?_ | refine gAdd ?_)))
local macro_rules | `(tactic| walk_at "MY st") => `(tactic| ((walk_at "MY st1"); (walk_at "MY st0")))
theorem add_listsC {prog : Program} {w : World} {A : Around} {E : Value → Shared → Prop} {s : Shared} {h₀ : Heap} {L : Addr} {m : Str → Option Value} {news : List (Addr × Obj)} {l b : Addr} {vs ws : List Value} {Q : Value → Shared → Prop} (F : Fr h₀ L s.heap m) (N : News h₀ L s.heap news) (hl : s.heap.IsList l vs.toArray) (hb : s.heap.IsList b ws.toArray)
    (hz : vs.length + ws.length < 1000000) (h : ∀ c h', Fr h₀ L h' m → News h₀ L h' ((c, listOf (vs ++ ws).toArray 0) :: news) → Q (.ref c) { s with heap := h' }) : wpAny (model prog w) A (binaryOp .Add (.ref l) (.ref b)) Q E s :=
  add_lists (hsz := by rw [PySem.sizeLine_eq]; omega) F N hl hb fun h' F' N' => h _ h' F' N'
noncomputable abbrev SpecG (w : World) (f : Addr) (vs : List Value) (dd uu : Nat) (s : Shared) (Post : Value → Heap → Prop) : Prop :=
  ∀ (mean : ExcName → Option Value) (mg mb : Str → Option Value) (C : Clr) (A₀ : Around) (base h₀ : Heap) (m : Str → Option Value) (Q E : Value → Shared → Prop),
    Below A₀ base C.outer h₀ → Fr h₀ C.L s.heap m → (hd.heap_39 w.params).In h₀ → Top VW LO mean mg mb h₀ →
    C.dp + dd < recursionLimit → C.un + uu < cLine →
    (∀ v h' tk' G', Keep s.heap h' → (AllBare s.gens → AllBare G') → Post v h' → Q v { s with heap := h', gens := G', toks := tk' }) →
    wpAny (model PR w) C.top (call (.ref f) vs) Q E s
/-- what has been cut off, and what is left, after so many turns -/
noncomputable def cutN (S : List Int) (line : List Nat) : Nat → List (List Nat) × List Nat
  | 0 => ([], line)
  | i + 1 => match S[i]? with
    | some z => ((cutN S line i).1 ++ [(cutN S line i).2.drop ((cutN S line i).2.length - z.toNat)], (cutN S line i).2.take ((cutN S line i).2.length - z.toNat))
    | none => cutN S line i
theorem cutN_len (S : List Int) (line : List Nat) : ∀ i, (cutN S line i).2.length ≤ line.length ∧ (cutN S line i).1.length ≤ i
  | 0 => ⟨Nat.le_refl _, Nat.le_refl _⟩
  | i + 1 => by
    have := cutN_len S line i
    unfold cutN
    split
    · simp only [List.length_append, List.length_cons, List.length_nil, List.length_take]
      omega
    · omega
theorem cutN_stop (S : List Int) (line : List Nat) (i : Nat) (h : S.length ≤ i) : ∀ j, i ≤ j → cutN S line j = cutN S line i
  | 0, hj => by
    have : i = 0 := by omega
    subst this; rfl
  | j + 1, hj => by
    by_cases e : i = j + 1
    · rw [e]
    · rw [cutN, List.getElem?_eq_none (by omega)]
      exact cutN_stop S line i h j (by omega)
/-- where the loop of the cut stands before its turn 10 - k -/
noncomputable def CutInv (w : World) (A : Around) (s : Shared) (S : List Int) (x : List Nat) (L' Lg : Addr) (k : Nat) (s' : Shared) : Prop :=
  ∃ h' G' tk m' cl vs n own gs i, s' = ⟨h', G', s.drawn, tk, s.os⟩ ∧ k = 10 - i ∧ i ≤ 9 ∧ (AllBare s.gens → AllBare G') ∧ @LT.lt Nat _ cl Lg ∧ Fr s.heap L' h' m' ∧
    News s.heap L' h' [(cl, listOf (List.toArray vs) n)] ∧ m' (Str.ofString "cut") = some (.ref cl) ∧ (∃ t, m' (Str.ofString "line") = some (.str (T (cutN S x i).2) t)) ∧ TxtsAre vs (cutN S x i).1 ∧
    ZS w A s.heap Lg S s.gens.size (Lg + 2 + 3) (Lg + 2 + 1) (Lg + 2 + 2) (Lg + 2) (Lg + 1) i .none own gs ∧ (∀ p ∈ own, h'.get? p.1 = some p.2 ∧ s.heap.get? p.1 = none ∧ @LE.le Nat _ Lg p.1) ∧ G'[s.gens.size]? = some gs
noncomputable def CutNext (w : World) (A : Around) (s : Shared) (S : List Int) (x : List Nat) (L' Lg : Addr) (n : Nat) (s₃ : Shared) : Prop := ∃ m, m < n ∧ CutInv w A s S x L' Lg m s₃
theorem cut_loop {w : World} {A : Around} {R : Result → Shared → Prop} {target it body orelse env} (s : Shared) (S : List Int) (x : List Nat) (L' Lg : Addr) {s₀ : Shared}
    (turn : ∀ n s', CutInv w A s S x L' Lg n s' → wpAny (model PR w) A (pyNext it) (fun r s₁ => match r with
      | none => wpAny (model PR w) A (execs orelse env) (fun f s₃ => R (.ok f) s₃) (notedBy (model PR w) A env fun e s' => R (.error e) s') s₁
      | some v => wpAny (model PR w) A (letOwnedTupleGo target it v) (fun _ s₁' =>
          wpAny (model PR w) A (assign target env v) (fun _ s₂ => wpAny (model PR w) A (execs body env) (fun f s₃ => match f with
            | .next | .cont => CutNext w A s S x L' Lg n s₃
            | .brk => R (.ok .next) s₃
            | .ret v => R (.ok (.ret v)) s₃) (notedBy (model PR w) A env fun e s' => R (.error e) s') s₂) (notedBy (model PR w) A env fun e s' => R (.error e) s') s₁') (notedBy (model PR w) A env fun e s' => R (.error e) s') s₁) (notedBy (model PR w) A env fun e s' => R (.error e) s') s')
    (h : CutInv w A s S x L' Lg 10 s₀) : codeAny (model PR w) A (.forLoop target it body orelse env) R s₀ := codeAny_forLoop_any _ turn 10 h
theorem cut_spec (w : World) (s : Shared) (a2 : Addr) (x : List Nat) (t : Tok) (vr : List Value) (row : List Int) (hx : x.length ≤ 1000) (hr : s.heap.IsList a2 vr.toArray) (hi : IntsAre vr row) (hn : row.length ≤ 100) (hok : RowOk row none) (hS : ∀ z ∈ ivs 9 row none, 1 ≤ z ∧ z ≤ 1000) :
    SpecG w 257 [.str (T x) t, .ref a2] 8 160 s (fun v h' => ∃ c vs n, v = .ref c ∧ s.heap.get? c = none ∧ h'.get? c = some (PySem.W.listOf (List.toArray vs) n) ∧ TxtsAre vs ((cutN (ivs 9 row none) x 9).1 ++ [(cutN (ivs 9 row none) x 9).2])) := by
  have hS9 := hS
  clear hS
  intro mean mg mb C A₀ base h₀ m Q E B F X Tp hd hu hret
  ((refine wpAny_call (enterP (by k_asm) (by k_asm) (by k_asm) (by k_asm) rfl rfl rfl (by k_is) (by k_is) (by k_room) (by walk_at "MY bind") (locs rfl) ?_ rfl rfl rfl (by decide)); k_whole))
  intro L' h' F0 B1 X1 T1
  try dsimp only
  have N0 : News s.heap L' h' [] := fun _ hp => nomatch hp
  (repeat' (first | (( (with_reducible show wpAny _ _ (call (Value.ref 119) _ _) _ _ _); refine' SpecK.use (conv_spec _ _ _ _ _ _ ?spx ?spl) ?spA ?spB ?spF ?spN ?spX ?spT ?spD ?spU ?_; walk_at "MY use"; (case spx => first | assumption | (rw [List.length_map]; omega) | omega); (case spl => assumption); intro v_c h_c tk_c hk_c F_c N_c e_c; subst e_c; (try dsimp only))) | (walk_at "MY one")))
  refine wpAny_execs_cons ?_
  refine wpAny_For ?_ (by intro _; rfl)
  (repeat' (first | (( (with_reducible show wpAny _ _ (call (Value.ref 119) _ _) _ _ _); refine' SpecK.use (conv_spec _ _ _ _ _ _ ?spx ?spl) ?spA ?spB ?spF ?spN ?spX ?spT ?spD ?spU ?_; walk_at "MY use"; (case spx => first | assumption | (rw [List.length_map]; omega) | omega); (case spl => assumption); intro v_c h_c tk_c hk_c F_c N_c e_c; subst e_c; (try dsimp only))) | (walk_at "MY one")))
  rename IsRange _ _ 0 9 1 _ _ _ => hR
  rename Fr s.heap L' _ _ => F1
  rename News s.heap L' _ _ => N1
  have hlt1 := F1.ns.lt
  refine' genCallG (base := s.heap) (row := row) (vr := vr) w ?gho ?gcd ?groom ?gbind ?gcell ?gloc ?gco ?ggen ?gk X1 T1 F1.keep (Nat.le_of_lt (Nat.lt_of_le_of_lt F1.above hlt1)) hr hi hn hok ?_
  case gho => k_is
  case gcd => k_is
  case groom => k_room
  case gbind => exact fun s => BindsTo.of_eq rfl
  case gcell => decide
  case gloc => exact locs rfl
  case gco => exact rfl
  case ggen => exact rfl
  case gk => exact rfl
  intro h2 tk2 gs oL og nm2 qn hoL hog hg1 hg2 hg3 hk2 hsz2 hbare hgo
  dsimp only at hoL hog hk2 hsz2 hgo ⊢
  have F2 := F1.keeps hk2
  have N2 := N1.grown hk2
  (repeat' (first | (( (with_reducible show wpAny _ _ (call (Value.ref 119) _ _) _ _ _); refine' SpecK.use (conv_spec _ _ _ _ _ _ ?spx ?spl) ?spA ?spB ?spF ?spN ?spX ?spT ?spD ?spU ?_; walk_at "MY use"; (case spx => first | assumption | (rw [List.length_map]; omega) | omega); (case spl => assumption); intro v_c h_c tk_c hk_c F_c N_c e_c; subst e_c; (try dsimp only))) | (walk_at "MY one")))
  refine call_zip_rg (hk2 _ _ hR) ⟨og, nm2, qn, hog, hg1, hg2, hg3⟩ fun h3 hz hTI hTO hri hsz3 hk3 => ?_
  have F3 := F2.keeps hk3
  have N3 := N2.grown hk3
  refine wpAny_pyIter_zip hz ?_
  have hgn := T1.nolimit
  have hclt := Heap.lt_size (N1 _ (.head _)).1
  dsimp only at hz hTI hTO hri hsz3 hk3 hclt ⊢
  have hoL3 := hk3 _ _ hoL
  have hog3 := hk3 _ _ hog
  rw [hsz2] at hz hTI hTO hri hsz3 ⊢
  generalize hLg : Array.size (Heap.objs _) = Lg at hoL3 hog3 hgo hlt1 hclt hz hTI hTO hri ⊢
  have habove := F1.above
  clear hR F1 N1 F2 N2 hoL hog hk2 hk3 hsz2 hsz3
  have hnone : ∀ b : Addr, @LE.le Nat _ Lg b → s.heap.get? b = none := fun b hb => Heap.get?_none_of_le (Nat.le_trans (Nat.le_trans habove (Nat.le_of_lt hlt1)) hb)
  have D : ZA (Lg + 2 + 3) (Lg + 2 + 1) (Lg + 2 + 2) (Lg + 2) (Lg + 1) Lg := by
    constructor <;> first | (show @LT.lt Nat _ _ _; omega) | (show @Ne Nat _ _; omega)
  refine cut_loop s (ivs 9 row none) x L' Lg ?turn
    ⟨_, _, _, _, _, [], 0, [(Lg + 2 + 3, { cls := .type "zip", dict := none, data := .fields #[.none, .bool false, .bool false, .ref (Lg + 2 + 1), .ref (Lg + 2 + 2)], slots := #[] }), (Lg + 2 + 1, { cls := .type "tuple", data := .seq #[.ref (Lg + 2), .ref (Lg + 1)] }), (Lg + 2 + 2, { cls := .type "tuple", data := .seq #[.none, .none] }),
      (Lg + 2, { cls := .type "range_iterator", dict := none, data := .fields #[rawInt ((0 : Nat) : Int), rawInt (9 - ((0 : Nat) : Int)), rawInt 1], slots := #[] }), (Lg + 1, og), (Lg, oL)], gs, 0, rfl, rfl, Nat.zero_le _, ?b1, hclt, F3, N3, rfl, ⟨_, rfl⟩, .nil, ?b2, ?b3, ?b4⟩
  case b1 =>
    intro hB y hy
    rcases Array.mem_push.mp hy with hy | rfl
    · exact hB _ hy
    · exact hbare
  case b2 =>
    exact ⟨.head _, .tail _ (.head _), ⟨_, _, .tail _ (.tail _ (.head _))⟩, .tail _ (.tail _ (.tail _ (.head _))), ⟨og, nm2, qn, .tail _ (.tail _ (.tail _ (.tail _ (.head _)))), hg1, hg2, hg3⟩, hbare,
      [(Lg, oL)], by simp, by simp [D.zL.symm, D.oL.symm, D.rL.symm], fun _ s'' e1 e2 => hgo _ s'' rfl (e1 (Lg, oL) (.head _)) e2⟩
  case b3 =>
    have st : ∀ (a : Addr) (o : Obj), h3.get? a = some o → @LE.le Nat _ Lg a → h3.get? a = some o ∧ s.heap.get? a = none ∧ @LE.le Nat _ Lg a := fun a o e ha => ⟨e, hnone a ha, ha⟩
    intro p hp
    simp only [List.mem_cons, List.not_mem_nil, or_false] at hp
    rcases hp with rfl | rfl | rfl | rfl | rfl | rfl
    · exact st _ _ hz (Nat.le_of_lt D.zL')
    · exact st _ _ hTI (Nat.le_of_lt D.tL')
    · exact st _ _ hTO (Nat.le_of_lt D.oL')
    · exact st _ _ hri (Nat.le_of_lt D.rL')
    · exact st _ _ hog3 (Nat.le_of_lt D.gL')
    · exact st _ _ hoL3 (Nat.le_refl _)
  case b4 =>
    simp
  clear hoL3 hog3 hgo hz hTI hTO hri hclt F3 N3 hLg hbare hg1 hg2 hg3
  rintro k s' ⟨h', G', tk, m', cl, vs, n, own, gs, i, rfl, rfl, hi9, hB, hcl, F, N, hmc, ⟨tl, hml⟩, hvs, Z, hown, hgs⟩
  have zk : ∀ {h'' : Heap} {G'' : Array GenState} {tk'' : Nat}, ZK s.heap (Lg + 2 + 3) (Lg + 2 + 2) (Lg + 2) Lg ⟨h', G', s.drawn, tk, s.os⟩ ⟨h'', G'', s.drawn, tk'', s.os⟩ → Fr s.heap L' h'' m' ∧ News s.heap L' h'' [(cl, listOf (List.toArray vs) n)] := by
    intro h'' G'' tk'' ⟨_, hk⟩
    replace hk : ∀ b o, b ≠ Lg + 2 + 3 → b ≠ Lg + 2 + 2 → b ≠ Lg + 2 → b ≠ Lg → (¬ IsLI o ∨ s.heap.get? b = some o) → h'.get? b = some o → h''.get? b = some o := hk
    have far : ∀ (b : Addr) (o : Obj), @LT.lt Nat _ b Lg → ¬ IsLI o → h'.get? b = some o → h''.get? b = some o := fun b o hb hc e => hk b o (by show @Ne Nat _ _; omega) (by show @Ne Nat _ _; omega) (by show @Ne Nat _ _; omega) (by show @Ne Nat _ _; omega) (.inl hc) e
    refine ⟨⟨?_, fun b o e => ?_, F.above⟩, fun p hp => ?_⟩
    · obtain ⟨o, es, ep, ho, hd, r⟩ := F.ns
      exact ⟨o, es, ep, far _ _ hlt1 (fun q => by obtain ⟨y, hy⟩ := q.2; rw [hd] at hy; cases hy) ho, hd, r⟩
    · have hb : @LT.lt Nat _ b Lg := Nat.lt_of_not_le fun hb => by rw [hnone b hb] at e; cases e
      exact hk b o (by show @Ne Nat _ _; omega) (by show @Ne Nat _ _; omega) (by show @Ne Nat _ _; omega) (by show @Ne Nat _ _; omega) (.inr e) (F.keep _ _ e)
    · obtain rfl := List.mem_singleton.mp hp
      exact ⟨far _ _ hcl (fun q => absurd q.1 (by simp [PySem.W.listOf])) (N _ (.head _)).1, (N _ (.head _)).2⟩
  refine pyNext_zip rfl (hgn.keeps F.keep) (by k_room) D Z (fun p hp => (hown p hp).1) F.keep ⟨hnone _ (Nat.le_of_lt D.zL'), hnone _ (Nat.le_of_lt D.oL'), hnone _ (Nat.le_of_lt D.rL')⟩ ⟨hnone _ (Nat.le_of_lt D.tL'), hnone _ (Nat.le_of_lt D.gL'), hnone _ (Nat.le_refl _)⟩ hgn hgs hi9 ?item ?stop
  case item =>
    rintro s' Tt size t1 t2 own' gs' hi hS hzk hT hgs' hown' hTz Z'
    obtain ⟨⟨h2, G2, tk2, rfl, hB2⟩, hk⟩ := id hzk
    obtain ⟨F2, N2⟩ := zk hzk
    clear hk hzk zk
    refine zip_go D Z' hown' fun h3 own3 Z3 hown3 hsb => ?_
    replace hsb : Heap.SameBut _ h2 h3 := hsb
    have F3 : Fr s.heap L' h3 m' := F2.change hsb (Nat.ne_of_gt (Nat.lt_trans hlt1 D.zL')) (hnone _ (Nat.le_of_lt D.zL'))
    have N3 : News s.heap L' h3 ((cl, PySem.W.listOf (List.toArray vs) n) :: own3) := by
      intro p hp
      rcases List.mem_cons.mp hp with rfl | hp
      · exact ⟨hsb.extBut _ _ (Nat.ne_of_lt (Nat.lt_trans hcl D.zL')) (N2 _ (.head _)).1, (N2 _ (.head _)).2⟩
      · have := hown3 p hp
        exact ⟨this.1, Nat.ne_of_gt (Nat.lt_of_lt_of_le hlt1 this.2.2), this.2.1⟩
    have hTup : h3.IsTuple Tt #[.int (i : Int) t1, .int size t2] := ⟨_, hsb.extBut _ _ hTz hT, rfl, _, rfl⟩
    try dsimp only
    refine assign2 rfl hTup F3 N3 rfl rfl rfl fun h4 tk4 F4 N4 => ?_
    refine wpAny_mono (?_ : wpAny _ _ _ _ (fun _ _ => False) _) (fun _ _ x => x) (fun _ _ x => x.elim)
    obtain ⟨m4, hm4⟩ : ∃ m4, m4 = fun y => if y = Str.ofString "size" then some (Value.int size t2) else if y = Str.ofString "_" then some (Value.int (i : Int) t1) else m' y := ⟨_, rfl⟩
    replace F4 : Fr s.heap L' h4 m4 := hm4 ▸ F4
    replace N4 : News s.heap L' h4 ((cl, PySem.W.listOf (List.toArray vs) n) :: own3) := N4
    have h4c : m4 (Str.ofString "cut") = some (.ref cl) := by rw [hm4]; exact (if_neg (by decide)).trans ((if_neg (by decide)).trans hmc)
    have h4l : m4 (Str.ofString "line") = some (.str (T (cutN (ivs 9 row none) x i).2) tl) := by rw [hm4]; exact (if_neg (by decide)).trans ((if_neg (by decide)).trans hml)
    have h4s : m4 (Str.ofString "size") = some (.int size t2) := by rw [hm4]; exact if_pos rfl
    obtain ⟨hz1, hz2⟩ := hS9 size (List.mem_of_getElem? hS)
    obtain ⟨hln, hln2⟩ := cutN_len (ivs 9 row none) x i
    obtain ⟨k, rfl⟩ : ∃ k : Nat, size = (k : Int) := ⟨size.toNat, by omega⟩
    have hnext : cutN (ivs 9 row none) x (i + 1) = ((cutN (ivs 9 row none) x i).1 ++ [(cutN (ivs 9 row none) x i).2.drop ((cutN (ivs 9 row none) x i).2.length - k)], (cutN (ivs 9 row none) x i).2.take ((cutN (ivs 9 row none) x i).2.length - k)) := by
      rw [cutN, hS]
      rfl
    generalize cutN (ivs 9 row none) x i = cn at h4l hvs hln hln2 hnext
    obtain ⟨pcs, ln⟩ := cn
    dsimp only at h4l hvs hln hln2 hnext
    clear hm4 F3 N3 hTup hsb F2 N2 hT hown Z Z' hown' F N hmc hml
    try dsimp only
    (repeat' (first | (( (with_reducible show wpAny _ _ (call (Value.ref 119) _ _) _ _ _); refine' SpecK.use (conv_spec _ _ _ _ _ _ ?spx ?spl) ?spA ?spB ?spF ?spN ?spX ?spT ?spD ?spU ?_; walk_at "MY use"; (case spx => first | assumption | (rw [List.length_map]; omega) | omega); (case spl => assumption); intro v_c h_c tk_c hk_c F_c N_c e_c; subst e_c; (try dsimp only))) | (walk_at "MY one")))
    rename Fr s.heap L' _ m4 => F5
    rename News s.heap L' _ _ => N5
    refine' append_K ?F N5 (.head fun p hp => Nat.ne_of_gt (Nat.lt_of_lt_of_le hcl (hown3 p hp).2.2)) ?_ ?zz
    case F => exact F5
    case zz => (rw [PySem.sizeLine_eq, List.size_toArray, hvs.length]; omega)
    intro h6 F6 N6
    rw [List.push_toArray, T_last ln k (by omega)] at N6
    (repeat' (first | (( (with_reducible show wpAny _ _ (call (Value.ref 119) _ _) _ _ _); refine' SpecK.use (conv_spec _ _ _ _ _ _ ?spx ?spl) ?spA ?spB ?spF ?spN ?spX ?spT ?spD ?spU ?_; walk_at "MY use"; (case spx => first | assumption | (rw [List.length_map]; omega) | omega); (case spl => assumption); intro v_c h_c tk_c hk_c F_c N_c e_c; subst e_c; (try dsimp only))) | (walk_at "MY one")))
    rename Fr s.heap L' _ _ => F7
    rename News s.heap L' _ _ => N7
    rw [T_to_neg ln k (by omega)] at F7
    refine ⟨10 - (i + 1), by omega, _, _, _, _, cl, _, _, own3, gs', i + 1, rfl, rfl, by omega, fun hBB => hB2 (hB hBB), hcl, F7, fun p hp => N7 p (by obtain rfl := List.mem_singleton.mp hp; exact .head _), (if_neg (by decide)).trans h4c, ?_, ?_, Z3, fun p hp => ⟨(N7 p (.tail _ hp)).1, (hown3 p hp).2⟩, hgs'⟩
    · rw [hnext]
      exact ⟨_, if_pos rfl⟩
    · rw [hnext]
      exact hvs.snoc _ _
  case stop =>
    rintro s' hend hzk
    obtain ⟨⟨h2, G2, tk2, rfl, hB2⟩, hk⟩ := id hzk
    obtain ⟨F2, N2⟩ := zk hzk
    try dsimp only
    refine wpAny_execs_nil ?_
    try dsimp only
    have hst : cutN (ivs 9 row none) x 9 = cutN (ivs 9 row none) x i := by
      rcases hend with rfl | hend
      · rfl
      · exact cutN_stop _ _ _ hend 9 hi9
    have hln := (cutN_len (ivs 9 row none) x i)
    rw [hst] at hret
    generalize cutN (ivs 9 row none) x i = cn at hml hvs hln hst hret
    obtain ⟨pcs, ln⟩ := cn
    dsimp only at hml hvs hln hst hret
    clear hk hzk zk Z hown F N
    (repeat' (first | (( (with_reducible show wpAny _ _ (call (Value.ref 119) _ _) _ _ _); refine' SpecK.use (conv_spec _ _ _ _ _ _ ?spx ?spl) ?spA ?spB ?spF ?spN ?spX ?spT ?spD ?spU ?_; walk_at "MY use"; (case spx => first | assumption | (rw [List.length_map]; omega) | omega); (case spl => assumption); intro v_c h_c tk_c hk_c F_c N_c e_c; subst e_c; (try dsimp only))) | (walk_at "MY one")))
    rename Fr s.heap L' _ _ => F7
    rename News s.heap L' _ _ => N7
    refine add_listsC (vs := vs) (ws := [_]) F7 N7 (News.isList N7 (.tail _ (.head _))) (News.isList N7 (.head _)) (by rw [hvs.length, List.length_singleton]; omega) fun c h8 F8 N8 => ?_
    (repeat' (first | (( (with_reducible show wpAny _ _ (call (Value.ref 119) _ _) _ _ _); refine' SpecK.use (conv_spec _ _ _ _ _ _ ?spx ?spl) ?spA ?spB ?spF ?spN ?spX ?spT ?spD ?spU ?_; walk_at "MY use"; (case spx => first | assumption | (rw [List.length_map]; omega) | omega); (case spl => assumption); intro v_c h_c tk_c hk_c F_c N_c e_c; subst e_c; (try dsimp only))) | (walk_at "MY one")))
    exact hret _ _ _ _ F8.keep (fun hBB => hB2 (hB hBB)) ⟨c, _, _, rfl, (N8 _ (.head _)).2.2, (N8 _ (.head _)).1, hvs.snoc _ _⟩

end
section
theorem T_ok (l : List Nat) (h : ∀ c ∈ l, c < 128) : PyData.strOk (T l) = true := by
  unfold PyData.strOk
  rw [Array.all_eq_true_iff_forall_mem]
  intro c hc
  have := h c (by simpa [T] using hc)
  simp only [decide_eq_true_eq]
  omega
noncomputable abbrev Asc (l : List Nat) : Prop := ∀ c ∈ l, c < 128
theorem tx_canLay : ∀ ls : List (List Nat), (∀ l ∈ ls, Asc l) → PyData.canLayAll0 (ls.map fun l => PyData.str (T l)) = true
  | [], _ => rfl
  | l :: r, h => by simp [PyData.canLayAll0, PyData.canLay0, tx_canLay r fun l hl => h l (.tail _ hl), T_ok l (h l (.head _))]
theorem tx_depth : ∀ ls : List (List Nat), PyData.depthAll (ls.map fun l => PyData.str (T l)) = 0
  | [] => rfl
  | _ :: r => by simp [PyData.depthAll, PyData.depth, tx_depth r]
theorem tx_shaped (ls : List (List Nat)) (h : ∀ l ∈ ls, Asc l) : SeqAt.shaped (.list (ls.map fun l => PyData.str (T l))) = true := by
  simp [SeqAt.shaped, PyData.canLay0, PyData.depth, tx_canLay ls h, tx_depth]
theorem tx_carried : ∀ {vs : List Value} {ls : List (List Nat)}, TxtsAre vs ls → CarriedAll vs (ls.map fun l => PyData.str (T l))
  | _, _, .nil => .nil
  | _, _, .cons _ t r => .cons (.str _ t) (tx_carried r)
theorem ne_txts {prog : Program} {w : World} {A : Around} {E : Value → Shared → Prop} {s : Shared} {a b : Addr} {xs ys : List Value} {ls : List (List Nat)} {Q : Value → Shared → Prop} (ha : s.heap.IsList a xs.toArray) (hb : s.heap.IsList b ys.toArray) (hi : TxtsAre xs ls) (hj : TxtsAre ys ls) (hp : ∀ l ∈ ls, Asc l) (hu : A.units + 64 < cLine) (h : Q (.bool false) s) :
    wpAny (model prog w) A (compareOp .NotEq (.ref a) (.ref b)) Q E s :=
  ne_dataH_same (reads_newData ha (tx_carried hi)) (reads_newData hb (tx_carried hj)) (tx_shaped _ hp) (tx_shaped _ hp) hu (SeqAt.noMix_of_shape (.list .str) rfl _ _ (list_map_has fun _ => rfl) (list_map_has fun _ => rfl)) (by rw [PySem.Spec.same_self]; exact h)
theorem no_canLay : ∀ n : Nat, PyData.canLayAll0 ((List.range n).map fun _ => PyData.none) = true := fun n => by
  induction (List.range n) with
  | nil => rfl
  | cons a r ih => simp [PyData.canLayAll0, PyData.canLay0, ih]
theorem no_depth : ∀ n : Nat, PyData.depthAll ((List.range n).map fun _ => PyData.none) = 0 := fun n => by
  induction (List.range n) with
  | nil => rfl
  | cons a r ih => simp [PyData.depthAll, PyData.depth, ih]
theorem no_shaped (n : Nat) : SeqAt.shaped (.list ((List.range n).map fun _ => PyData.none)) = true := by
  simp [SeqAt.shaped, PyData.canLay0, PyData.depth, no_canLay, no_depth]
theorem no_carried : ∀ n : Nat, CarriedAll (List.replicate n Value.none) ((List.range n).map fun _ => PyData.none)
  | 0 => .nil
  | n + 1 => by
    have : ((List.range (n + 1)).map fun _ => PyData.none) = PyData.none :: ((List.range n).map fun _ => PyData.none) := by
      rw [List.map_const', List.map_const', List.length_range, List.length_range]; rfl
    rw [this]
    exact .cons .none (no_carried n)
theorem ne_nones {prog : Program} {w : World} {A : Around} {E : Value → Shared → Prop} {s : Shared} {a b : Addr} {n : Nat} {Q : Value → Shared → Prop} (ha : s.heap.IsList a (List.replicate n Value.none).toArray) (hb : s.heap.IsList b (List.replicate n Value.none).toArray) (hu : A.units + 64 < cLine) (h : Q (.bool false) s) :
    wpAny (model prog w) A (compareOp .NotEq (.ref a) (.ref b)) Q E s :=
  ne_dataH_same (reads_newData ha (no_carried n)) (reads_newData hb (no_carried n)) (no_shaped _) (no_shaped _) hu (SeqAt.noMix_of_shape (.list .none) rfl _ _ (list_map_has fun _ => rfl) (list_map_has fun _ => rfl)) (by rw [PySem.Spec.same_self]; exact h)
noncomputable abbrev prDat (kv : List Nat × List Nat) : PyData := .tuple [.str (T kv.1), .str (T kv.2)]
theorem pr_canLay : ∀ ls : List (List Nat × List Nat), (∀ l ∈ ls, Asc l.1 ∧ Asc l.2) → PyData.canLayAll0 (ls.map prDat) = true
  | [], _ => rfl
  | l :: r, h => by simp [PyData.canLayAll0, PyData.canLay0, pr_canLay r fun l hl => h l (.tail _ hl), T_ok _ (h l (.head _)).1, T_ok _ (h l (.head _)).2]
theorem pr_depth : ∀ ls : List (List Nat × List Nat), PyData.depthAll (ls.map prDat) ≤ 1
  | [] => by simp [PyData.depthAll]
  | _ :: r => by
    have := pr_depth r
    simp [PyData.depthAll, PyData.depth]
    omega
theorem pr_shaped (ls : List (List Nat × List Nat)) (h : ∀ l ∈ ls, Asc l.1 ∧ Asc l.2) : SeqAt.shaped (.list (ls.map prDat)) = true := by
  have := pr_depth ls
  simp [SeqAt.shaped, PyData.canLay0, PyData.depth, pr_canLay ls h]
  omega
theorem pr_reads {h : Heap} {vs : List Value} {kvs : List (List Nat × List Nat)} (x : PairsIn h vs kvs) : ReadsAll h vs (kvs.map prDat) [] := by
  induction x with
  | nil => exact .nil
  | cons p t1 t2 k v hp _ ih => exact .cons (reads_tuple_at hp rfl rfl (.cons (.str _ _) (.cons (.str _ _) .nil))) ih
theorem eq_prs {prog : Program} {w : World} {A : Around} {E : Value → Shared → Prop} {s : Shared} {a b : Addr} {xs ys : List Value} {kvs : List (List Nat × List Nat)} {Q : Value → Shared → Prop} {n m : Nat} (ha : s.heap.get? a = some (listOf xs.toArray n)) (hb : s.heap.get? b = some (listOf ys.toArray m)) (hi : PairsIn s.heap xs kvs) (hj : PairsIn s.heap ys kvs) (hp : ∀ l ∈ kvs, Asc l.1 ∧ Asc l.2) (hu : A.units + 64 < cLine) (h : Q (.bool true) s) :
    wpAny (model prog w) A (compareOp .Eq (.ref a) (.ref b)) Q E s :=
  eq_dataH_same (reads_list_at ha rfl rfl (by simpa using pr_reads hi)) (reads_list_at hb rfl rfl (by simpa using pr_reads hj)) (pr_shaped _ hp) (pr_shaped _ hp) hu (SeqAt.noMix_of_shape (.list (.tuple [.str, .str])) rfl _ _ (list_map_has fun _ => rfl) (list_map_has fun _ => rfl)) (by rw [PySem.Spec.same_self]; exact h)

end
section
theorem word_al (z : Int) : ∀ c ∈ wordOf z, c = 97 ∨ c = 65 ∨ c = 98 := by
  intro c hc
  unfold wordOf at hc
  obtain ⟨p, -, rfl⟩ := List.mem_map.mp hc
  have h1 := fmod_lo (((z.fdiv 4).fdiv (3 ^ p))) (n := 3) (by decide)
  have h2 := fmod_hi (((z.fdiv 4).fdiv (3 ^ p))) (n := 3) (by decide)
  generalize ((z.fdiv 4).fdiv (3 ^ p)).fmod 3 = i at h1 h2
  have : i = 0 ∨ i = 1 ∨ i = 2 := by omega
  rcases this with rfl | rfl | rfl
  · exact .inl rfl
  · exact .inr (.inl rfl)
  · exact .inr (.inr rfl)
theorem word_asc (z : Int) : ∀ c ∈ wordOf z, c < 128 := fun c hc => by
  have := word_al z c hc
  omega
theorem word_nb (z : Int) : ∀ c ∈ wordOf z, c ≠ 32 := fun c hc => by
  have := word_al z c hc
  omega
noncomputable def sumOf (sh : Nat) (l : List Int) : Nat := (l.map fun p => 2 ^ (p.toNat + sh)).sum
theorem sumOf_le (sh : Nat) (hs : sh < 27) : ∀ l : List Int, (∀ z ∈ l, 0 ≤ z ∧ z < ((6 : Nat) : Int)) → sumOf sh l ≤ l.length * 2 ^ 31
  | [], _ => by simp [sumOf]
  | z :: l, h => by
    have ih := sumOf_le sh hs l fun q hq => h q (.tail _ hq)
    have hz := h z (.head _)
    have hp : 2 ^ (z.toNat + sh) ≤ 2 ^ 31 := Nat.pow_le_pow_right (by decide) (by omega)
    unfold sumOf at ih ⊢
    rw [List.map_cons, List.sum_cons, List.length_cons]
    omega
theorem sumOf_lt (sh : Int) (l : List Int) (n : Nat) (hl : l.length ≤ 6) (hb : ∀ z ∈ l, 0 ≤ z ∧ z < ((6 : Nat) : Int)) (hs : 0 ≤ sh ∧ sh < 27) : sumOf sh.toNat l < 10 * 2 ^ 32 := by
  have := sumOf_le sh.toNat (by omega) l hb
  omega
theorem above_len (wds : List (List Nat)) (k : Nat) : (aboveOf wds k).length ≤ wds.length := by
  show (aboveTo wds k wds.length).length ≤ _
  unfold aboveTo
  rw [List.length_map]
  have := List.length_filter_le (fun p => isAb wds k p) (List.range wds.length)
  rwa [List.length_range] at this
theorem above_lt (wds : List (List Nat)) (k : Nat) : ∀ z ∈ aboveOf wds k, 0 ≤ z ∧ z < (wds.length : Int) := by
  intro z hz
  have hz : z ∈ aboveTo wds k wds.length := hz
  unfold aboveTo at hz
  obtain ⟨p, hp, rfl⟩ := List.mem_map.mp hz
  have := List.mem_range.mp (List.mem_filter.mp hp).1
  exact ⟨Int.natCast_nonneg p, by show (p : Int) < _; omega⟩
theorem nm_fin : ∀ p : Fin 32, (nmOf p.val).length ≤ 20 ∧ ∀ c ∈ nmOf p.val, 48 ≤ c ∧ c ≤ 126 := by decide +kernel
theorem nm_len (p : Nat) (h : p < 32) : (nmOf p).length ≤ 1000 := Nat.le_trans (nm_fin ⟨p, h⟩).1 (by decide)
theorem jn_length (sep : List Nat) (K : Nat) : ∀ ls : List (List Nat), (∀ l ∈ ls, l.length ≤ K) → (jn sep ls).length ≤ ls.length * (K + sep.length)
  | [], _ => by simp [jn]
  | [x], h => by
    have := h x (.head _)
    simp only [jn, List.length_cons, List.length_nil]
    omega
  | x :: y :: r, h => by
    have ih := jn_length sep K (y :: r) fun l hl => h l (.tail _ hl)
    have := h x (.head _)
    simp only [jn, List.length_append, List.length_cons] at ih ⊢
    rw [Nat.succ_mul]
    omega
theorem jn_mem (sep : List Nat) {c : Nat} : ∀ ls : List (List Nat), c ∈ jn sep ls → c ∈ sep ∨ ∃ l ∈ ls, c ∈ l
  | [], h => nomatch h
  | [x], h => .inr ⟨x, .head _, h⟩
  | x :: y :: r, h => by
    simp only [jn, List.mem_append] at h
    rcases h with (h | h) | h
    · exact .inr ⟨x, .head _, h⟩
    · exact .inl h
    · rcases jn_mem sep (y :: r) h with h | ⟨l, hl, hc⟩
      · exact .inl h
      · exact .inr ⟨l, .tail _ hl, hc⟩
theorem told_len (sh : Nat) (row : List Int) (hs : sh < 27) (hl : row.length ≤ 6) (hb : ∀ z ∈ row, 0 ≤ z ∧ z < ((6 : Nat) : Int)) : (jn [44, 32] (row.map fun p => nmOf (sh + p.toNat))).length ≤ 1000 := by
  have := jn_length [44, 32] 20 (row.map fun p => nmOf (sh + p.toNat)) fun l hl' => by
    obtain ⟨z, hz, rfl⟩ := List.mem_map.mp hl'
    have := hb z hz
    exact (nm_fin ⟨sh + z.toNat, by omega⟩).1
  rw [List.length_map] at this
  simp only [List.length_cons, List.length_nil] at this
  omega

end
section
noncomputable def sumB (l : List Nat) : Nat := (l.map fun p => 2 ^ p).sum
theorem sumB_dvd (i : Nat) : ∀ l : List Nat, (∀ p ∈ l, i ≤ p) → 2 ^ i ∣ sumB l
  | [], _ => Nat.dvd_zero _
  | p :: l, h => by
    unfold sumB
    rw [List.map_cons, List.sum_cons]
    exact Nat.dvd_add (Nat.pow_dvd_pow 2 (h p (.head _))) (sumB_dvd i l fun q hq => h q (.tail _ hq))
theorem sumB_pos : ∀ l : List Nat, l ≠ [] → 0 < sumB l
  | [], h => absurd rfl h
  | p :: l, _ => by
    unfold sumB
    rw [List.map_cons, List.sum_cons]
    have := Nat.two_pow_pos p
    omega
theorem pfR_sum : ∀ (f i : Nat) (l : List Nat), l.Pairwise (· < ·) → (∀ p ∈ l, i ≤ p ∧ p < i + f) → l ≠ [] → pfR f i (sumB l) = l.map nmOf
  | 0, i, [], _, _, hn => absurd rfl hn
  | 0, i, p :: l, _, h, _ => by have := h p (.head _); omega
  | f + 1, i, [], _, _, hn => absurd rfl hn
  | f + 1, i, p :: l, hs, h, hn => by
    have hp := h p (.head _)
    have hs' := List.pairwise_cons.mp hs
    by_cases hpi : p = i
    · subst hpi
      have hd : 2 ^ (p + 1) ∣ sumB l := sumB_dvd _ l fun q hq => hs'.1 q hq
      obtain ⟨k, hk⟩ := hd
      have e : sumB (p :: l) = 2 ^ p + sumB l := by
        unfold sumB
        rw [List.map_cons, List.sum_cons]
      have hpos := Nat.two_pow_pos p
      have e2 : (2 ^ p + sumB l) / 2 ^ p % 2 = 1 := by
        rw [hk, Nat.pow_succ, Nat.mul_assoc, Nat.add_comm, Nat.mul_add_div hpos, Nat.div_self hpos]
        omega
      rw [e, pfR, if_pos e2, Nat.add_sub_cancel_left, List.map_cons]
      congr 1
      cases l with
      | nil => rfl
      | cons q r =>
        rw [if_neg (Nat.ne_of_gt (sumB_pos _ (by simp)))]
        exact pfR_sum f (p + 1) (q :: r) hs'.2 (fun z hz => ⟨hs'.1 z hz, by have := h z (.tail _ hz); omega⟩) (by simp)
    · have hall : ∀ z ∈ p :: l, i + 1 ≤ z ∧ z < i + 1 + f := fun z hz => by
        have h1 := h z hz
        rcases List.mem_cons.mp hz with rfl | hz'
        · omega
        · have := hs'.1 z hz'
          omega
      obtain ⟨k, hk⟩ := sumB_dvd (i + 1) (p :: l) fun z hz => (hall z hz).1
      have hpos := Nat.two_pow_pos i
      have e2 : sumB (p :: l) / 2 ^ i % 2 = 0 := by
        rw [hk, Nat.pow_succ, Nat.mul_assoc, Nat.mul_div_cancel_left _ hpos]
        omega
      rw [pfR, if_neg (by omega)]
      exact pfR_sum f (i + 1) (p :: l) hs hall (by simp)
noncomputable def heldOf (wds : List (List Nat)) (sh k : Nat) : List Nat := pfOf (sumOf sh (aboveOf wds k))
noncomputable def toldOf (wds : List (List Nat)) (sh k : Nat) : List Nat := if jn [44, 32] ((aboveOf wds k).map fun p => nmOf (sh + p.toNat)) = [] then [48, 120, 48] else jn [44, 32] ((aboveOf wds k).map fun p => nmOf (sh + p.toNat))
theorem nm_ne : ∀ p : Fin 32, nmOf p.val ≠ [] := by decide +kernel
theorem jn_ne (sep x : List Nat) (r : List (List Nat)) (h : x ≠ []) : jn sep (x :: r) ≠ [] := by
  cases r with
  | nil => exact h
  | cons y r => simp [jn, h]
theorem pf_zero : pfOf 0 = [48, 120, 48] := by decide +kernel
theorem held_told (wds : List (List Nat)) (sh k : Nat) (hw : wds.length = 6) (hs : sh < 27) (hk : k < 6) : heldOf wds sh k = toldOf wds sh k := by
  have e : aboveOf wds k = ((List.range 6).filter fun p => isAb wds k p).map Int.ofNat := by
    show aboveTo wds k wds.length = _
    rw [hw]
    rfl
  obtain ⟨l, hl⟩ : ∃ l, l = ((List.range 6).filter fun p => isAb wds k p) := ⟨_, rfl⟩
  have hl6 : ∀ p ∈ l, p < 6 := fun p hp => by
    rw [hl] at hp
    exact List.mem_range.mp (List.mem_filter.mp hp).1
  have hps : l.Pairwise (· < ·) := by
    rw [hl]
    exact List.Pairwise.filter _ List.pairwise_lt_range
  rw [← hl] at e
  have e1 : sumOf sh (aboveOf wds k) = sumB (l.map fun p => p + sh) := by
    rw [e, sumOf, sumB, List.map_map, List.map_map]
    rfl
  have e2 : (aboveOf wds k).map (fun p => nmOf (sh + p.toNat)) = (l.map fun p => p + sh).map nmOf := by
    rw [e, List.map_map, List.map_map]
    exact List.map_congr_left fun p _ => by show nmOf (sh + p) = nmOf (p + sh); rw [Nat.add_comm]
  rw [heldOf, toldOf, e1, e2]
  cases l with
  | nil => exact pf_zero
  | cons p r =>
    have hne : jn [44, 32] (((p :: r).map fun p => p + sh).map nmOf) ≠ [] := jn_ne _ _ _ (nm_ne ⟨p + sh, by have := hl6 p (.head _); omega⟩)
    rw [if_neg hne]
    unfold pfOf
    rw [pfR_sum 32 0 ((p :: r).map fun p => p + sh) ?_ ?_ (by simp)]
    · exact hps.map _ fun a b h => by show a + sh < b + sh; omega
    · intro q hq
      obtain ⟨z, hz, rfl⟩ := List.mem_map.mp hq
      have := hl6 z hz
      omega
theorem told_ch (wds : List (List Nat)) (sh k : Nat) (hw : wds.length = 6) (hs : sh < 27) : (toldOf wds sh k).length ≤ 1000 ∧ ∀ c ∈ toldOf wds sh k, 32 ≤ c ∧ c ≤ 126 := by
  have hb := above_lt wds k
  have hl := above_len wds k
  rw [hw] at hb hl
  have hlen := told_len sh (aboveOf wds k) hs hl hb
  unfold toldOf
  split
  · exact ⟨by decide, by decide⟩
  · refine ⟨hlen, fun c hc => ?_⟩
    rcases jn_mem _ _ hc with h | ⟨l, hl, h⟩
    · simp at h
      omega
    · obtain ⟨z, hz, rfl⟩ := List.mem_map.mp hl
      have := hb z hz
      have := (nm_fin ⟨sh + z.toNat, by omega⟩).2 c h
      omega
theorem held_ok (wds : List (List Nat)) (sh i : Nat) (hw : wds.length = 6) (hs : sh < 27) (h6 : i < 6) : (heldOf wds sh i).length ≤ 1000 ∧ ∀ c ∈ heldOf wds sh i, 32 ≤ c ∧ c ≤ 126 := by
  rw [held_told wds sh i hw hs h6]
  exact told_ch wds sh i hw hs

end
section
noncomputable def blanksOf (c : Int) : Nat := [4, 0, 4].getD ((c.fdiv 9).fmod 3).toNat 0
noncomputable def fieldsOf (wds : List (List Nat)) (c marks : Int) : List (List Nat) := (List.range 6).map (fieldOf wds (widOf c) marks)
noncomputable def lineOf (wds : List (List Nat)) (c marks : Int) : List Nat := jn [] (fieldsOf wds c marks).reverse
theorem kinds (c : Int) : ∃ f g : Int, 3 ≤ f ∧ f ≤ 5 ∧ 3 ≤ g ∧ g ≤ 5 ∧ ((rowOf c = [f, g, 0, 1] ∧ widOf c = [f, g, g, g, g, g] ∧ blanksOf c = 4) ∨ (rowOf c = [f, g, g, g, g, 127, 2] ∧ widOf c = [f, g, g, g, g, g + 2] ∧ blanksOf c = 0) ∨ (rowOf c = [f, 0, g] ∧ widOf c = [f, f, f, f, f, f] ∧ blanksOf c = 4)) := by
  have h1 := fmod_lo c (n := 3) (by decide)
  have h2 := fmod_hi c (n := 3) (by decide)
  have h3 := fmod_lo (c.fdiv 3) (n := 3) (by decide)
  have h4 := fmod_hi (c.fdiv 3) (n := 3) (by decide)
  have h5 := fmod_lo (c.fdiv 9) (n := 3) (by decide)
  have h6 := fmod_hi (c.fdiv 9) (n := 3) (by decide)
  refine ⟨c.fmod 3 + 3, (c.fdiv 3).fmod 3 + 3, by omega, by omega, by omega, by omega, ?_⟩
  unfold rowOf widOf blanksOf
  generalize (c.fdiv 9).fmod 3 = q at h5 h6
  have : q = 0 ∨ q = 1 ∨ q = 2 := by omega
  rcases this with rfl | rfl | rfl
  · exact .inl ⟨rfl, rfl, rfl⟩
  · exact .inr (.inl ⟨rfl, rfl, rfl⟩)
  · exact .inr (.inr ⟨rfl, rfl, rfl⟩)
theorem widOf_ok (cell : Int) : (widOf cell).length = 6 ∧ ∀ x ∈ widOf cell, 3 ≤ x ∧ x ≤ 7 := by
  obtain ⟨f, g, f1, f2, g1, g2, h | h | h⟩ := kinds cell
  all_goals (
    rw [h.2.1]
    refine ⟨rfl, fun x hx => ?_⟩
    simp only [List.mem_cons, List.not_mem_nil, or_false] at hx
    omega)
theorem row_ok (c : Int) : RowOk (rowOf c) none := by
  obtain ⟨f, g, f1, f2, g1, g2, h | h | h⟩ := kinds c
  · rw [h.1]
    exact .inr (.inr ⟨by omega, by omega, .inr (.inr ⟨by omega, by omega, .inr (.inl ⟨rfl, rfl⟩)⟩)⟩)
  · rw [h.1]
    exact .inr (.inr ⟨by omega, by omega, .inr (.inr ⟨by omega, by omega, .inr (.inr ⟨by omega, by omega, .inr (.inr ⟨by omega, by omega, .inr (.inr ⟨by omega, by omega, .inl rfl⟩)⟩)⟩)⟩)⟩)
  · rw [h.1]
    exact .inr (.inr ⟨by omega, by omega, .inr (.inl ⟨rfl, rfl⟩)⟩)
theorem row_len (c : Int) : (rowOf c).length ≤ 100 := by
  obtain ⟨f, g, f1, f2, g1, g2, h | h | h⟩ := kinds c <;> (rw [h.1]; simp)
theorem ivs_eq (c f g : Int) (f1 : 3 ≤ f) (f2 : f ≤ 5) (g1 : 3 ≤ g) (g2 : g ≤ 5) : ivs 9 [f, g, 0, 1] none = [f, g, g, g, g, g, g, g, g] ∧ ivs 9 [f, g, g, g, g, 127, 2] none = [f, g, g, g, g] ∧ ivs 9 [f, 0, g] none = [f, f, f, f, f, f, f, f, f] := by
  have a1 : f ≠ 127 := by omega
  have a2 : f ≠ 0 := by omega
  have a3 : g ≠ 127 := by omega
  have a4 : g ≠ 0 := by omega
  have a5 : (0 : Int) ≠ 127 := by decide
  refine ⟨?_, ?_, ?_⟩ <;> simp [ivs, a1, a2, a3, a4, List.replicate]
theorem ivs_ok (c : Int) : ∀ z ∈ ivs 9 (rowOf c) none, 1 ≤ z ∧ z ≤ 1000 := by
  obtain ⟨f, g, f1, f2, g1, g2, h | h | h⟩ := kinds c
  all_goals (
    obtain ⟨i1, i2, i3⟩ := ivs_eq c f g f1 f2 g1 g2
    rw [h.1]
    first | rw [i1] | rw [i2] | rw [i3]
    intro z hz
    simp only [List.mem_cons, List.not_mem_nil, or_false] at hz
    omega)
theorem bl_len (n : Int) : (bl n).length = n.toNat := by simp [bl]
theorem room_lead (wds : List (List Nat)) (c marks : Int) (h3 : ∀ x ∈ wds, x.length ≤ 3) (k : Nat) (hk : k < 6) : 0 ≤ roomOf wds (widOf c) k ∧ 0 ≤ leadOf marks k (roomOf wds (widOf c) k) ∧ leadOf marks k (roomOf wds (widOf c) k) ≤ roomOf wds (widOf c) k ∧ roomOf wds (widOf c) k + (wds.getD k []).length = (widOf c).getD k 0 ∧ 3 ≤ (widOf c).getD k 0 ∧ (widOf c).getD k 0 ≤ 7 := by
  obtain ⟨hw6, hwb⟩ := widOf_ok c
  have hx : 3 ≤ (widOf c).getD k 0 ∧ (widOf c).getD k 0 ≤ 7 := hwb _ (by rw [List.getD_eq_getElem?_getD, List.getElem?_eq_getElem (by omega)]; exact List.getElem_mem _)
  have hl : (wds.getD k []).length ≤ 3 := by
    by_cases h : k < wds.length
    · rw [List.getD_eq_getElem?_getD, List.getElem?_eq_getElem h]
      exact h3 _ (List.getElem_mem h)
    · rw [List.getD_eq_getElem?_getD, List.getElem?_eq_none (by omega)]
      exact Nat.zero_le _
  have hr : 0 ≤ roomOf wds (widOf c) k := by unfold roomOf; omega
  have h1 := fmod_lo (marks.fdiv (3 ^ k)) (n := roomOf wds (widOf c) k + 1) (by omega)
  have h2 := fmod_hi (marks.fdiv (3 ^ k)) (n := roomOf wds (widOf c) k + 1) (by omega)
  refine ⟨hr, h1, ?_, ?_, hx.1, hx.2⟩
  · show (marks.fdiv (3 ^ k)).fmod (roomOf wds (widOf c) k + 1) ≤ _
    omega
  · unfold roomOf
    omega
theorem field_len (wds : List (List Nat)) (c marks : Int) (h3 : ∀ x ∈ wds, x.length ≤ 3) (k : Nat) (hk : k < 6) : ((fieldOf wds (widOf c) marks k).length : Int) = (widOf c).getD k 0 := by
  obtain ⟨h1, h2, h4, h5, -⟩ := room_lead wds c marks h3 k hk
  unfold fieldOf
  simp only [List.length_append, bl_len]
  omega
theorem fields_len (wds : List (List Nat)) (c marks : Int) (h3 : ∀ x ∈ wds, x.length ≤ 3) : ∀ x ∈ fieldsOf wds c marks, x.length ≤ 7 := by
  intro x hx
  obtain ⟨k, hk, rfl⟩ := List.mem_map.mp hx
  have hk := List.mem_range.mp hk
  have := field_len wds c marks h3 k hk
  have := (room_lead wds c marks h3 k hk).2.2.2.2
  omega
theorem fields_room (wds : List (List Nat)) (c marks : Int) (h6 : wds.length = 6) (h3 : ∀ x ∈ wds, x.length ≤ 3) : ∀ x ∈ fieldsOf wds c marks, 3 ≤ x.length := by
  intro x hx
  obtain ⟨k, hk, rfl⟩ := List.mem_map.mp hx
  have hk := List.mem_range.mp hk
  have := field_len wds c marks h3 k hk
  have := (room_lead wds c marks h3 k hk).2.2.2.2
  omega
theorem bl_mem {n : Int} {c : Nat} (h : c ∈ bl n) : c = 32 := List.eq_of_mem_replicate h
theorem getD_asc (wds : List (List Nat)) (ha : ∀ x ∈ wds, ∀ c ∈ x, c < 128) (k : Nat) : ∀ c ∈ wds.getD k [], c < 128 := by
  by_cases h : k < wds.length
  · rw [List.getD_eq_getElem?_getD, List.getElem?_eq_getElem h]
    exact ha _ (List.getElem_mem h)
  · rw [List.getD_eq_getElem?_getD, List.getElem?_eq_none (by omega)]
    exact fun c hc => nomatch hc
theorem fields_asc (wds : List (List Nat)) (c marks : Int) (ha : ∀ x ∈ wds, ∀ c ∈ x, c < 128) : ∀ x ∈ fieldsOf wds c marks, ∀ c ∈ x, c < 128 := by
  intro x hx z hz
  obtain ⟨k, hk, rfl⟩ := List.mem_map.mp hx
  unfold fieldOf at hz
  simp only [List.mem_append] at hz
  rcases hz with (hz | hz) | hz
  · have := bl_mem hz; omega
  · exact getD_asc wds ha k z hz
  · have := bl_mem hz; omega
theorem few_asc (wds : List (List Nat)) (c marks few : Int) (ha : ∀ x ∈ wds, ∀ c ∈ x, c < 128) : ∀ x ∈ (List.range 6).map (fewOf wds (widOf c) marks few), ∀ c ∈ x, c < 128 := by
  intro x hx z hz
  obtain ⟨k, hk, rfl⟩ := List.mem_map.mp hx
  unfold fewOf at hz
  simp only [List.mem_append] at hz
  rcases hz with (hz | hz) | hz
  · have := bl_mem hz; omega
  · exact getD_asc wds ha k z hz
  · have := bl_mem hz; omega
theorem line_len (wds : List (List Nat)) (c marks : Int) (h3 : ∀ x ∈ wds, x.length ≤ 3) : (lineOf wds c marks).length ≤ 1000 := by
  have := jn_length [] 7 (fieldsOf wds c marks).reverse fun l hl => fields_len wds c marks h3 l (List.mem_reverse.mp hl)
  have e : (fieldsOf wds c marks).reverse.length = 6 := by rw [List.length_reverse, fieldsOf, List.length_map, List.length_range]
  rw [e] at this
  unfold lineOf
  simp only [List.length_nil] at this
  omega
theorem cutN_S (S : List Int) (line : List Nat) (i : Nat) (z : Int) (P : List (List Nat)) (A B : List Nat) (h : S[i]? = some z) (hl : cutN S line i = (P, A ++ B)) (hb : B.length = z.toNat) : cutN S line (i + 1) = (P ++ [B], A) := by
  rw [cutN, h]
  try dsimp only
  rw [hl]
  try dsimp only
  rw [List.length_append, hb, Nat.add_sub_cancel, List.drop_left, List.take_left]
theorem cutN_E (S : List Int) (line : List Nat) (i : Nat) (z : Int) (P : List (List Nat)) (h : S[i]? = some z) (hl : cutN S line i = (P, [])) : cutN S line (i + 1) = (P ++ [[]], []) := by
  rw [cutN, h]
  try dsimp only
  rw [hl]
  simp
theorem line_eq (wds : List (List Nat)) (c marks : Int) : lineOf wds c marks = ((((([] ++ fieldOf wds (widOf c) marks 5) ++ fieldOf wds (widOf c) marks 4) ++ fieldOf wds (widOf c) marks 3) ++ fieldOf wds (widOf c) marks 2) ++ fieldOf wds (widOf c) marks 1) ++ fieldOf wds (widOf c) marks 0 := by
  show jn [] [fieldOf wds (widOf c) marks 5, fieldOf wds (widOf c) marks 4, fieldOf wds (widOf c) marks 3, fieldOf wds (widOf c) marks 2, fieldOf wds (widOf c) marks 1, fieldOf wds (widOf c) marks 0] = _
  simp only [jn, List.append_nil, List.nil_append, List.append_assoc]
theorem pieces_ok (wds : List (List Nat)) (c marks : Int) (h6 : wds.length = 6) (h3 : ∀ x ∈ wds, x.length ≤ 3) :
    (cutN (ivs 9 (rowOf c) none) (lineOf wds c marks) 9).1 ++ [(cutN (ivs 9 (rowOf c) none) (lineOf wds c marks) 9).2] = fieldsOf wds c marks ++ List.replicate (blanksOf c) [] := by
  have hfl := field_len wds c marks h3
  have hfs : fieldsOf wds c marks = [fieldOf wds (widOf c) marks 0, fieldOf wds (widOf c) marks 1, fieldOf wds (widOf c) marks 2, fieldOf wds (widOf c) marks 3, fieldOf wds (widOf c) marks 4, fieldOf wds (widOf c) marks 5] := rfl
  have l0 := hfl 0 (by decide)
  have l1 := hfl 1 (by decide)
  have l2 := hfl 2 (by decide)
  have l3 := hfl 3 (by decide)
  have l4 := hfl 4 (by decide)
  have l5 := hfl 5 (by decide)
  obtain ⟨f, g, f1, f2, g1, g2, h⟩ := kinds c
  obtain ⟨i1, i2, i3⟩ := ivs_eq c f g f1 f2 g1 g2
  have c0 : cutN (ivs 9 (rowOf c) none) (lineOf wds c marks) 0 = ([], ((((([] ++ fieldOf wds (widOf c) marks 5) ++ fieldOf wds (widOf c) marks 4) ++ fieldOf wds (widOf c) marks 3) ++ fieldOf wds (widOf c) marks 2) ++ fieldOf wds (widOf c) marks 1) ++ fieldOf wds (widOf c) marks 0) := by
    rw [cutN, line_eq]
  rw [hfs]
  generalize fieldOf wds (widOf c) marks 0 = F0 at *
  generalize fieldOf wds (widOf c) marks 1 = F1 at *
  generalize fieldOf wds (widOf c) marks 2 = F2 at *
  generalize fieldOf wds (widOf c) marks 3 = F3 at *
  generalize fieldOf wds (widOf c) marks 4 = F4 at *
  generalize fieldOf wds (widOf c) marks 5 = F5 at *
  generalize lineOf wds c marks = line at *
  rcases h with ⟨hr, hw, hb⟩ | ⟨hr, hw, hb⟩ | ⟨hr, hw, hb⟩
  · rw [hw] at l0 l1 l2 l3 l4 l5
    rw [hr, i1] at c0 ⊢
    rw [hb]
    simp only [List.getD_cons_zero, List.getD_cons_succ] at l0 l1 l2 l3 l4 l5
    have c1 := cutN_S _ _ 0 f _ _ _ rfl c0 (by omega)
    have c2 := cutN_S _ _ 1 g _ _ _ rfl c1 (by omega)
    have c3 := cutN_S _ _ 2 g _ _ _ rfl c2 (by omega)
    have c4 := cutN_S _ _ 3 g _ _ _ rfl c3 (by omega)
    have c5 := cutN_S _ _ 4 g _ _ _ rfl c4 (by omega)
    have c6 := cutN_S _ _ 5 g _ _ _ rfl c5 (by omega)
    have c7 := cutN_E _ _ 6 g _ rfl c6
    have c8 := cutN_E _ _ 7 g _ rfl c7
    have c9 := cutN_E _ _ 8 g _ rfl c8
    rw [c9]
    rfl
  · rw [hw] at l0 l1 l2 l3 l4 l5
    rw [hr, i2] at c0 ⊢
    rw [hb]
    simp only [List.getD_cons_zero, List.getD_cons_succ] at l0 l1 l2 l3 l4 l5
    have c1 := cutN_S _ _ 0 f _ _ _ rfl c0 (by omega)
    have c2 := cutN_S _ _ 1 g _ _ _ rfl c1 (by omega)
    have c3 := cutN_S _ _ 2 g _ _ _ rfl c2 (by omega)
    have c4 := cutN_S _ _ 3 g _ _ _ rfl c3 (by omega)
    have c5 := cutN_S _ _ 4 g _ _ _ rfl c4 (by omega)
    rw [cutN_stop _ _ 5 (Nat.le_refl _) 9 (by decide), c5]
    rfl
  · rw [hw] at l0 l1 l2 l3 l4 l5
    rw [hr, i3] at c0 ⊢
    rw [hb]
    simp only [List.getD_cons_zero, List.getD_cons_succ] at l0 l1 l2 l3 l4 l5
    have c1 := cutN_S _ _ 0 f _ _ _ rfl c0 (by omega)
    have c2 := cutN_S _ _ 1 f _ _ _ rfl c1 (by omega)
    have c3 := cutN_S _ _ 2 f _ _ _ rfl c2 (by omega)
    have c4 := cutN_S _ _ 3 f _ _ _ rfl c3 (by omega)
    have c5 := cutN_S _ _ 4 f _ _ _ rfl c4 (by omega)
    have c6 := cutN_S _ _ 5 f _ _ _ rfl c5 (by omega)
    have c7 := cutN_E _ _ 6 f _ rfl c6
    have c8 := cutN_E _ _ 7 f _ rfl c7
    have c9 := cutN_E _ _ 8 f _ rfl c8
    rw [c9]
    rfl

end
section
theorem lsp_rep : ∀ (a : Nat) (y : List Nat) (n : Nat), lsp (List.replicate a 32 ++ y) n = if n ≤ a then n else a + lsp y (n - a)
  | 0, y, 0 => by simp [lsp_zero]
  | 0, y, n + 1 => by simp
  | a + 1, y, 0 => by rw [lsp_zero, if_pos (Nat.zero_le _)]
  | a + 1, y, n + 1 => by
    rw [List.replicate_succ, List.cons_append, lsp, if_pos rfl, lsp_rep a y n]
    by_cases h : n ≤ a
    · rw [if_pos h, if_pos (Nat.succ_le_succ h)]
    · rw [if_neg h, if_neg (fun q => h (Nat.le_of_succ_le_succ q)), Nat.add_sub_add_right, Nat.add_right_comm]
theorem lsp_non (c : Nat) (y : List Nat) (n : Nat) (h : c ≠ 32) : lsp (c :: y) n = 0 := by
  cases n with
  | zero => exact lsp_zero _
  | succ n => rw [lsp, if_neg h]
theorem smin (x y : Nat) : x - min y x = x - y := by
  rcases Nat.le_total y x with h | h
  · rw [Nat.min_eq_left h]
  · rw [Nat.min_eq_right h, Nat.sub_self, Nat.sub_eq_zero_of_le h]
theorem sub3 (a b n : Nat) (h : n ≤ a + b) : a + b - n = a - n + (b - (n - a)) := by
  rcases Nat.le_total n a with q | q
  · rw [Nat.sub_eq_zero_of_le q, Nat.sub_zero, Nat.sub_add_comm q]
  · rw [Nat.sub_eq_zero_of_le q, Nat.zero_add, Nat.sub_sub_right b q, Nat.add_comm]
theorem strip_form (a b n : Nat) (w : List Nat) (hw : ∀ c ∈ w, c ≠ 32) (hn : w = [] → n ≤ a + b) :
    stripOf (List.replicate a 32 ++ w ++ List.replicate b 32) n = List.replicate (a - n) 32 ++ w ++ List.replicate (b - (n - a)) 32 := by
  cases w with
  | nil =>
    have hn := hn rfl
    rw [List.append_nil, List.append_nil, List.replicate_append_replicate, List.replicate_append_replicate]
    have e1 : lsp (List.replicate (a + b) 32) n = n := by
      have := lsp_rep (a + b) [] n
      rw [List.append_nil, if_pos hn] at this
      exact this
    unfold stripOf
    rw [e1, Nat.sub_self, lsp_zero, Nat.sub_zero, List.take_length, List.drop_replicate, sub3 a b n hn]
  | cons c w =>
    have e1 : lsp (List.replicate a 32 ++ (c :: w) ++ List.replicate b 32) n = min n a := by
      rw [List.append_assoc, lsp_rep, List.cons_append]
      split
      · rename_i h; exact (Nat.min_eq_left h).symm
      · rename_i h
        rw [lsp_non c _ _ (hw c (.head _))]
        exact (Nat.min_eq_right (Nat.le_of_not_le h)).symm
    have e2 : ∀ q, lsp (List.replicate a 32 ++ (c :: w) ++ List.replicate b 32).reverse q = min q b := by
      intro q
      rw [List.reverse_append, List.reverse_append, List.reverse_replicate, List.reverse_replicate, lsp_rep]
      split
      · rename_i h; exact (Nat.min_eq_left h).symm
      · rename_i h
        obtain ⟨d, v, hd⟩ : ∃ d v, (c :: w).reverse = d :: v := by
          cases h : (c :: w).reverse with
          | nil => simp at h
          | cons d v => exact ⟨d, v, rfl⟩
        have hdm : d ∈ c :: w := List.mem_reverse.mp (by rw [hd]; exact .head _)
        rw [hd, List.cons_append, lsp_non d _ _ (hw d hdm)]
        exact (Nat.min_eq_right (Nat.le_of_not_le h)).symm
    unfold stripOf
    rw [e1, e2, Nat.min_comm n a, smin n a, Nat.min_comm a n, List.length_append (bs := List.replicate b 32), List.length_replicate, Nat.add_sub_assoc (Nat.min_le_right _ _), smin b (n - a),
      List.take_length_add_append, List.take_replicate, List.append_assoc, List.drop_append_of_le_length (by rw [List.length_replicate]; exact Nat.min_le_right _ _), List.drop_replicate, ← List.append_assoc, smin a n, Nat.min_eq_left (Nat.sub_le _ _)]
theorem few_le {room : Int} {j n : Nat} (r3 : (j : Int) ≤ room) (r5 : 3 ≤ room + (([] : List Nat).length : Int)) (hf : (n : Int) ≤ 3) : (n : Int).toNat ≤ (j : Int).toNat + (room - j).toNat := by
  rw [List.length_nil, Int.natCast_zero, Int.add_zero] at r5
  rw [Int.toNat_natCast, Int.toNat_natCast, Int.toNat_sub']
  exact Nat.sub_le_iff_le_add'.mp (Nat.sub_le_sub_right ((Int.le_toNat (Int.le_trans (by decide) r5)).mpr (Int.le_trans hf r5)) j)
theorem strip_few (wds : List (List Nat)) (c marks few : Int) (h6 : wds.length = 6) (h3 : ∀ x ∈ wds, x.length ≤ 3) (hb : ∀ x ∈ wds, ∀ c ∈ x, c ≠ 32) (h0 : 0 ≤ few) (hf : few ≤ 3) :
    (fieldsOf wds c marks).map (fun x => stripOf x few.toNat) = (List.range 6).map (fewOf wds (widOf c) marks few) := by
  rw [fieldsOf, List.map_map]
  refine List.map_congr_left fun k hk => ?_
  have hk := List.mem_range.mp hk
  obtain ⟨r1, r2, r3, r4, r5, r6⟩ := room_lead wds c marks h3 k hk
  have hwm : wds.getD k [] ∈ wds := by
    rw [List.getD_eq_getElem?_getD, List.getElem?_eq_getElem (by omega)]
    exact List.getElem_mem _
  show stripOf (fieldOf wds (widOf c) marks k) few.toNat = fewOf wds (widOf c) marks few k
  unfold fieldOf fewOf bl
  try dsimp only
  generalize roomOf wds (widOf c) k = room at *
  generalize leadOf marks k room = lead at *
  obtain ⟨n, rfl⟩ := Int.eq_ofNat_of_zero_le h0
  obtain ⟨j, rfl⟩ := Int.eq_ofNat_of_zero_le r2
  rw [strip_form _ _ _ _ (hb _ hwm) (fun e => by rw [e] at r4; exact few_le r3 (by rw [← r4] at r5; exact r5) hf), ← Int.toNat_eq_max]
  simp only [Int.toNat_sub', Int.toNat_natCast]
theorem strip_all (wds : List (List Nat)) (c marks : Int) (h6 : wds.length = 6) (h3 : ∀ x ∈ wds, x.length ≤ 3) (hb : ∀ x ∈ wds, ∀ c ∈ x, c ≠ 32) :
    (fieldsOf wds c marks).map (fun x => stripOf x x.length) = wds := by
  have e : (fieldsOf wds c marks).map (fun x => stripOf x x.length) = (List.range 6).map fun k => wds.getD k [] := by
    rw [fieldsOf, List.map_map]
    refine List.map_congr_left fun k hk => ?_
    have hk := List.mem_range.mp hk
    have hwm : wds.getD k [] ∈ wds := by
      rw [List.getD_eq_getElem?_getD, List.getElem?_eq_getElem (by omega)]
      exact List.getElem_mem _
    show stripOf (fieldOf wds (widOf c) marks k) (fieldOf wds (widOf c) marks k).length = wds.getD k []
    unfold fieldOf bl
    try dsimp only
    generalize leadOf marks k (roomOf wds (widOf c) k) = lead
    generalize roomOf wds (widOf c) k = room
    rw [strip_form _ _ _ _ (hb _ hwm) (fun e => by rw [e]; simp)]
    simp only [List.length_append, List.length_replicate]
    rw [Nat.add_assoc lead.toNat, Nat.sub_eq_zero_of_le (Nat.le_add_right lead.toNat _), Nat.add_sub_cancel_left, Nat.sub_eq_zero_of_le (Nat.le_add_left _ _)]
    simp
  rw [e]
  refine List.ext_getElem (by rw [List.length_map, List.length_range, h6]) fun i h1 h2 => ?_
  rw [List.getElem_map, List.getElem_range, List.getD_eq_getElem?_getD, List.getElem?_eq_getElem h2]
  rfl

end
section
noncomputable def POk (l : List (Nat × Nat)) : Prop := ∀ s ∈ l, s.1 < 6 ∧ s.2 < 6
noncomputable def QOk (M : Nat) (q : List (Nat × List (Nat × Nat))) : Prop := ∀ e ∈ q, e.1 < 6 ∧ e.2.length ≤ M ∧ POk e.2
theorem POk.snoc {l : List (Nat × Nat)} (h : POk l) {a b : Nat} (ha : a < 6) (hb : b < 6) : POk (l ++ [(a, b)]) := fun s hs => by
  rcases List.mem_append.mp hs with hs | hs
  · exact h s hs
  · obtain rfl := List.mem_singleton.mp hs
    exact ⟨ha, hb⟩
theorem mate_lt {kv : List (List Nat × List Nat)} (hk : MatesOk kv) {h : Nat} {m : List Nat} (e : getOf [117 + h] kv = some m) : m.headD 0 - 112 < 6 := by
  obtain ⟨k, hm, -⟩ := getOf_some e
  obtain ⟨a, b, ha, hb, e⟩ := hk _ hm
  have : m = [112 + b] := (Prod.mk.inj e).2
  rw [this]
  show 112 + b - 112 < 6
  omega
theorem highs_ok {kv : List (List Nat × List Nat)} (hk : MatesOk kv) {low M : Nat} {path : List (Nat × Nat)} (hl : low < 6) (hp : POk path) (hM : path.length ≤ M) : ∀ (hs seen : List Nat) (q : List (Nat × List (Nat × Nat))), (∀ h ∈ hs, h < 6) → QOk (M + 1) q →
    (∀ st, highs kv low path hs seen q = .inl st → POk st ∧ st.length ≤ M + 1) ∧ (∀ s' q', highs kv low path hs seen q = .inr (s', q') → QOk (M + 1) q')
  | [], seen, q, _, hq => ⟨fun st e => by simp [highs] at e, fun s' q' e => by
      simp only [highs, Sum.inr.injEq, Prod.mk.injEq] at e
      exact e.2 ▸ hq⟩
  | h :: r, seen, q, hh, hq => by
    have hr := fun z hz => hh z (List.mem_cons_of_mem _ hz)
    have h6 := hh h (.head _)
    unfold highs
    split
    · exact highs_ok hk hl hp hM r seen q hr hq
    · split
      · refine ⟨fun st e => ?_, fun s' q' e => by cases e⟩
        cases e
        exact ⟨hp.snoc h6 hl, by rw [List.length_append, List.length_singleton]; omega⟩
      · rename_i m hm
        refine highs_ok hk hl hp hM r _ _ hr fun e he => ?_
        rcases List.mem_append.mp he with he | he
        · exact hq e he
        · obtain rfl := List.mem_singleton.mp he
          exact ⟨mate_lt hk hm, by show (path ++ [(h, low)]).length ≤ _; rw [List.length_append, List.length_singleton]; omega, hp.snoc h6 hl⟩
theorem bfs_ok (ab : Nat → Nat → Bool) {kv : List (List Nat × List Nat)} (hk : MatesOk kv) : ∀ (n M : Nat) (q : List (Nat × List (Nat × Nat))) (seen : List Nat), QOk M q → POk (bfs ab kv n q seen) ∧ (bfs ab kv n q seen).length ≤ M + n
  | 0, M, q, seen, _ => ⟨fun s hs => by simp [bfs] at hs, by simp [bfs]⟩
  | n + 1, M, [], seen, _ => ⟨fun s hs => by simp [bfs] at hs, by simp [bfs]⟩
  | n + 1, M, (low, path) :: q, seen, hq => by
    obtain ⟨h1, h2, h3⟩ := hq _ (.head _)
    have hq' : QOk (M + 1) q := fun e he => by
      obtain ⟨a, b, c⟩ := hq e (.tail _ he)
      exact ⟨a, by omega, c⟩
    obtain ⟨k1, k2⟩ := highs_ok hk h1 h3 h2 ((List.range 6).filter (ab low)) seen q (fun h hh => List.mem_range.mp (List.mem_filter.mp hh).1) hq'
    unfold bfs
    split
    · rename_i st e
      obtain ⟨a, b⟩ := k1 st e
      exact ⟨a, by omega⟩
    · rename_i s' q' e
      obtain ⟨a, b⟩ := bfs_ok ab hk n (M + 1) q' s' (k2 s' q' e)
      exact ⟨a, by omega⟩
noncomputable def stepOf (ab : Nat → Nat → Bool) (kv : List (List Nat × List Nat)) (marks : Int) (k : Nat) : List (Nat × Nat) := bfs ab kv 7 [((((k : Int) + marks).fmod 6).toNat, [])] []
noncomputable def runK (ab : Nat → Nat → Bool) (marks : Int) : Nat → List (List Nat × List Nat) × Nat
  | 0 => ([], 0)
  | k + 1 => (setAll (runK ab marks k).1 (stepOf ab (runK ab marks k).1 marks k), (runK ab marks k).2 + if stepOf ab (runK ab marks k).1 marks k = [] then 0 else 1)
theorem start_ok (marks : Int) (k : Nat) : QOk 0 [((((k : Int) + marks).fmod 6).toNat, [])] := fun e he => by
  obtain rfl := List.mem_singleton.mp he
  have h1 := fmod_lo ((k : Int) + marks) (n := 6) (by decide)
  have h2 := fmod_hi ((k : Int) + marks) (n := 6) (by decide)
  exact ⟨by show (((k : Int) + marks).fmod 6).toNat < 6; omega, Nat.le_refl _, fun s hs => nomatch hs⟩
theorem run_mates (ab : Nat → Nat → Bool) (marks : Int) : ∀ k, MatesOk (runK ab marks k).1
  | 0 => fun e he => nomatch he
  | k + 1 => (run_mates ab marks k).setAll (bfs_ok ab (run_mates ab marks k) 7 0 _ [] (start_ok marks k)).1
theorem step_ok (ab : Nat → Nat → Bool) (marks : Int) (k : Nat) (hk : k < 6) : ∀ s ∈ stepOf ab (runK ab marks k).1 marks k, s.1 < 6 ∧ s.2 < 6 := (bfs_ok ab (run_mates ab marks k) 7 0 _ [] (start_ok marks k)).1
theorem step_len7 (ab : Nat → Nat → Bool) (marks : Int) (k : Nat) : (stepOf ab (runK ab marks k).1 marks k).length ≤ 7 := by
  have := (bfs_ok ab (run_mates ab marks k) 7 0 _ [] (start_ok marks k)).2
  exact Nat.le_trans this (by decide)
theorem run_len (ab : Nat → Nat → Bool) (marks : Int) : ∀ k, (runK ab marks k).1.length ≤ 7 * k
  | 0 => Nat.zero_le _
  | k + 1 => by
    have h1 := run_len ab marks k
    have h2 := step_len7 ab marks k
    have h3 := setAll_length (stepOf ab (runK ab marks k).1 marks k) (runK ab marks k).1
    show (setAll _ _).length ≤ _
    omega

end
section
noncomputable abbrev kl (e : List Nat × List Nat) : List Nat := e.1.map lo1
theorem filt_len (x : List Nat) : ∀ kv : List (List Nat × List Nat), (kv.map kl).Nodup → (kv.filter fun e => !decide (e.1.map lo1 = x)).length + (if x ∈ kv.map kl then 1 else 0) = kv.length
  | [], _ => by simp
  | e :: r, h => by
    have hn := List.nodup_cons.mp (show (kl e :: r.map kl).Nodup from h)
    have ih := filt_len x r hn.2
    by_cases hx : e.1.map lo1 = x
    · have hxr : x ∉ r.map kl := hx ▸ hn.1
      rw [if_neg hxr] at ih
      rw [List.filter_cons_of_neg (by simp [hx]), if_pos (by rw [List.map_cons, ← hx]; exact List.mem_cons_self), List.length_cons]
      omega
    · have e1 : (x ∈ (e :: r).map kl) ↔ x ∈ r.map kl := by
        rw [List.map_cons, List.mem_cons]
        exact ⟨fun h => h.resolve_left fun q => hx q.symm, .inr⟩
      rw [List.filter_cons_of_pos (by simp [hx]), List.length_cons, List.length_cons]
      simp only [e1]
      omega
theorem setOne_nodup {kv : List (List Nat × List Nat)} (h : (kv.map kl).Nodup) (s : Nat × Nat) : ((setOne kv s).map kl).Nodup := by
  unfold setOne
  rw [List.map_append, List.nodup_append]
  refine ⟨?_, by simp, ?_⟩
  · exact h.sublist (List.filter_sublist.map kl)
  · intro a ha b hb
    obtain ⟨e, he, rfl⟩ := List.mem_map.mp ha
    have hb : b = (keyOf s.1 s.2).map lo1 := by simpa using hb
    have := (List.mem_filter.mp he).2
    rw [hb]
    simpa using this
theorem setOne_len {kv : List (List Nat × List Nat)} (h : (kv.map kl).Nodup) {s : Nat × Nat} (h1 : s.1 < 6) (h2 : s.2 < 6) : (setOne kv s).length = kv.length + if [117 + s.1] ∈ kv.map kl then 0 else 1 := by
  have := filt_len [117 + s.1] kv h
  unfold setOne
  have e9 := keyOf_low ⟨s.1, h1⟩ ⟨s.2, h2⟩
  dsimp only at e9
  rw [List.length_append, List.length_singleton, e9]
  by_cases hx : [117 + s.1] ∈ kv.map kl
  · rw [if_pos hx] at this ⊢
    omega
  · rw [if_neg hx] at this ⊢
    omega
theorem low_up : ∀ h : Fin 6, [117 + h.val].map lo1 = [117 + h.val] := by decide +kernel
theorem getOf_none {x : List Nat} : ∀ {kv : List (List Nat × List Nat)}, getOf x kv = none ↔ x.map lo1 ∉ kv.map kl
  | [] => by simp [getOf]
  | e :: r => by
    obtain ⟨k, v⟩ := e
    unfold getOf
    split
    · rename_i h
      simp [kl, h]
    · rename_i h
      rw [getOf_none (kv := r), List.map_cons, List.mem_cons]
      exact ⟨fun q p => p.elim (fun e => h e.symm) q, fun q p => q (.inr p)⟩
/-- a path of a search: its heads are apart, seen, and all in the table -/
noncomputable def Path (kv : List (List Nat × List Nat)) (seen : List Nat) (l : List (Nat × Nat)) : Prop := (l.map (·.1)).Nodup ∧ ∀ s ∈ l, s.1 ∈ seen ∧ getOf [117 + s.1] kv ≠ none
noncomputable def QPath (kv : List (List Nat × List Nat)) (seen : List Nat) (q : List (Nat × List (Nat × Nat))) : Prop := ∀ e ∈ q, Path kv seen e.2
/-- a search that ended well -/
noncomputable def Ends (kv : List (List Nat × List Nat)) (st : List (Nat × Nat)) : Prop := ∃ path h low, st = path ++ [(h, low)] ∧ (st.map (·.1)).Nodup ∧ (∀ s ∈ path, getOf [117 + s.1] kv ≠ none) ∧ getOf [117 + h] kv = none
theorem Path.mono {kv : List (List Nat × List Nat)} {seen seen' : List Nat} {l : List (Nat × Nat)} (x : Path kv seen l) (h : ∀ z ∈ seen, z ∈ seen') : Path kv seen' l := ⟨x.1, fun s hs => ⟨h _ (x.2 s hs).1, (x.2 s hs).2⟩⟩
theorem path_new {kv : List (List Nat × List Nat)} {seen : List Nat} {l : List (Nat × Nat)} (x : Path kv seen l) {h low : Nat} (hn : h ∉ seen) : ((l ++ [(h, low)]).map (·.1)).Nodup := by
  rw [List.map_append, List.nodup_append]
  refine ⟨x.1, by simp, fun a ha b hb => ?_⟩
  obtain ⟨s, hs, rfl⟩ := List.mem_map.mp ha
  have hb : b = h := by simpa using hb
  rw [hb]
  exact fun e => hn (e ▸ (x.2 s hs).1)
theorem highs_path {kv : List (List Nat × List Nat)} {low : Nat} {path : List (Nat × Nat)} : ∀ (hs seen : List Nat) (q : List (Nat × List (Nat × Nat))), Path kv seen path → QPath kv seen q →
    (∀ st, highs kv low path hs seen q = .inl st → Ends kv st) ∧ (∀ s' q', highs kv low path hs seen q = .inr (s', q') → QPath kv s' q' ∧ ∀ z ∈ seen, z ∈ s')
  | [], seen, q, _, hq => ⟨fun st e => by simp [highs] at e, fun s' q' e => by
      simp only [highs, Sum.inr.injEq, Prod.mk.injEq] at e
      exact ⟨e.1 ▸ e.2 ▸ hq, fun z hz => e.1 ▸ hz⟩⟩
  | h :: r, seen, q, hp, hq => by
    unfold highs
    split
    · exact highs_path r seen q hp hq
    · rename_i hn
      split
      · rename_i hg
        refine ⟨fun st e => ?_, fun s' q' e => by cases e⟩
        cases e
        exact ⟨path, h, low, rfl, path_new hp hn, fun s hs => (hp.2 s hs).2, hg⟩
      · rename_i m hm
        have hsub : ∀ z ∈ seen, z ∈ seen ++ [h] := fun z hz => List.mem_append_left _ hz
        obtain ⟨a, b⟩ := highs_path (low := low) r (seen ++ [h]) (q ++ [(m.headD 0 - 112, path ++ [(h, low)])]) (hp.mono hsub) fun e he => by
          rcases List.mem_append.mp he with he | he
          · exact (hq e he).mono hsub
          · obtain rfl := List.mem_singleton.mp he
            refine ⟨path_new hp hn, fun s hs => ?_⟩
            rcases List.mem_append.mp hs with hs | hs
            · exact ⟨hsub _ (hp.2 s hs).1, (hp.2 s hs).2⟩
            · obtain rfl := List.mem_singleton.mp hs
              exact ⟨List.mem_append_right _ (.head _), by rw [hm]; simp⟩
        exact ⟨a, fun s' q' e => ⟨(b s' q' e).1, fun z hz => (b s' q' e).2 z (hsub z hz)⟩⟩
theorem bfs_ends (ab : Nat → Nat → Bool) {kv : List (List Nat × List Nat)} : ∀ (n : Nat) (q : List (Nat × List (Nat × Nat))) (seen : List Nat), QPath kv seen q → bfs ab kv n q seen = [] ∨ Ends kv (bfs ab kv n q seen)
  | 0, q, seen, _ => .inl rfl
  | n + 1, [], seen, _ => .inl rfl
  | n + 1, (low, path) :: q, seen, hq => by
    obtain ⟨k1, k2⟩ := highs_path (low := low) ((List.range 6).filter (ab low)) seen q (hq _ (.head _)) fun e he => hq e (.tail _ he)
    unfold bfs
    split
    · rename_i st e
      exact .inr (k1 st e)
    · rename_i s' q' e
      exact bfs_ends ab n q' s' (k2 s' q' e).1
theorem setAll_nodup : ∀ (st : List (Nat × Nat)) {kv : List (List Nat × List Nat)}, (kv.map kl).Nodup → ((setAll kv st).map kl).Nodup
  | [], _, h => h
  | s :: r, _, h => setAll_nodup r (setOne_nodup h s)
theorem setOne_keys {kv : List (List Nat × List Nat)} {s : Nat × Nat} (h1 : s.1 < 6) (h2 : s.2 < 6) (x : List Nat) : x ∈ (setOne kv s).map kl ↔ x = [117 + s.1] ∨ x ∈ kv.map kl := by
  have e9 := keyOf_low ⟨s.1, h1⟩ ⟨s.2, h2⟩
  dsimp only at e9
  unfold setOne
  rw [e9]
  simp only [List.map_append, List.mem_append, List.map_cons, List.map_nil, List.mem_singleton, List.mem_map, List.mem_filter]
  constructor
  · rintro (⟨e, ⟨he, -⟩, rfl⟩ | h)
    · exact .inr ⟨e, he, rfl⟩
    · exact .inl (h.trans e9)
  · rintro (h | ⟨e, he, rfl⟩)
    · exact .inr (h.trans e9.symm)
    · by_cases hx : kl e = [117 + s.1]
      · exact .inr (hx.trans e9.symm)
      · exact .inl ⟨e, ⟨he, by simpa using hx⟩, rfl⟩
theorem setAll_len : ∀ (st : List (Nat × Nat)) {kv : List (List Nat × List Nat)}, (kv.map kl).Nodup → (∀ s ∈ st, s.1 < 6 ∧ s.2 < 6) → (∀ s ∈ st, [117 + s.1] ∈ kv.map kl) → (setAll kv st).length = kv.length
  | [], _, _, _, _ => rfl
  | s :: r, kv, h, h6, hm => by
    have hs := h6 s (.head _)
    have e : setAll kv (s :: r) = setAll (setOne kv s) r := rfl
    rw [e, setAll_len r (setOne_nodup h s) (fun z hz => h6 z (.tail _ hz)) fun z hz => (setOne_keys hs.1 hs.2 _).mpr (.inr (hm z (.tail _ hz))), setOne_len h hs.1 hs.2, if_pos (hm s (.head _))]
    rfl
theorem setAll_keys : ∀ (st : List (Nat × Nat)) {kv : List (List Nat × List Nat)}, (∀ s ∈ st, s.1 < 6 ∧ s.2 < 6) → ∀ x, x ∈ (setAll kv st).map kl ↔ (∃ s ∈ st, x = [117 + s.1]) ∨ x ∈ kv.map kl
  | [], _, _, x => by simp [setAll]
  | s :: r, kv, h6, x => by
    have hs := h6 s (.head _)
    have e : setAll kv (s :: r) = setAll (setOne kv s) r := rfl
    rw [e, setAll_keys r (fun z hz => h6 z (.tail _ hz)), setOne_keys hs.1 hs.2]
    simp only [List.mem_cons, exists_eq_or_imp]
    constructor
    · rintro (h | h | h)
      · exact .inl (.inr h)
      · exact .inl (.inl h)
      · exact .inr h
    · rintro ((h | h) | h)
      · exact .inr (.inl h)
      · exact .inl h
      · exact .inr (.inr h)
theorem in_keys {kv : List (List Nat × List Nat)} {h : Nat} (h6 : h < 6) : getOf [117 + h] kv ≠ none ↔ [117 + h] ∈ kv.map kl := by
  have e := low_up ⟨h, h6⟩
  dsimp only at e
  rw [ne_eq, getOf_none, e, Classical.not_not]
theorem ends_len {kv : List (List Nat × List Nat)} {st : List (Nat × Nat)} (hn : (kv.map kl).Nodup) (h6 : ∀ s ∈ st, s.1 < 6 ∧ s.2 < 6) (he : Ends kv st) : (setAll kv st).length = kv.length + 1 := by
  obtain ⟨path, h, low, rfl, hnd, hp, hg⟩ := he
  have hp6 : ∀ s ∈ path, s.1 < 6 ∧ s.2 < 6 := fun s hs => h6 s (List.mem_append_left _ hs)
  have hh := h6 (h, low) (List.mem_append_right _ (.head _))
  have e : setAll kv (path ++ [(h, low)]) = setOne (setAll kv path) (h, low) := by
    unfold setAll
    rw [List.foldl_append]
    rfl
  rw [e, setOne_len (setAll_nodup path hn) hh.1 hh.2, setAll_len path hn hp6 fun s hs => (in_keys (hp6 s hs).1).mp (hp s hs)]
  have hno : [117 + h] ∉ (setAll kv path).map kl := by
    rw [setAll_keys path hp6]
    rintro (⟨s, hs, q⟩ | q)
    · have q' : h = s.1 := by
        have := (List.cons.inj q).1
        omega
      rw [List.map_append, List.nodup_append] at hnd
      exact hnd.2.2 s.1 (List.mem_map_of_mem hs) h (by simp) q'.symm
    · exact (in_keys hh.1).mpr q hg
  rw [if_neg hno]
theorem run_inv (ab : Nat → Nat → Bool) (marks : Int) : ∀ k, ((runK ab marks k).1.map kl).Nodup ∧ (runK ab marks k).1.length = (runK ab marks k).2
  | 0 => ⟨by simp [runK], rfl⟩
  | k + 1 => by
    obtain ⟨h1, h2⟩ := run_inv ab marks k
    have h6 := (bfs_ok ab (run_mates ab marks k) 7 0 _ [] (start_ok marks k)).1
    refine ⟨setAll_nodup _ h1, ?_⟩
    show (setAll (runK ab marks k).1 (stepOf ab (runK ab marks k).1 marks k)).length = (runK ab marks k).2 + if stepOf ab (runK ab marks k).1 marks k = [] then 0 else 1
    have hq : QPath (runK ab marks k).1 [] [((((k : Int) + marks).fmod 6).toNat, [])] := fun e he => by
      obtain rfl := List.mem_singleton.mp he
      exact ⟨List.nodup_nil, fun s hs => nomatch hs⟩
    rcases bfs_ends ab 7 _ [] hq with e | e
    · have e : stepOf ab (runK ab marks k).1 marks k = [] := e
      rw [e, if_pos rfl]
      exact h2
    · have hne : stepOf ab (runK ab marks k).1 marks k ≠ [] := fun q => by
        have e' : Ends (runK ab marks k).1 (stepOf ab (runK ab marks k).1 marks k) := e
        rw [q] at e'
        obtain ⟨p, h, l, q, -⟩ := e'
        simp at q
      rw [if_neg hne, ← h2]
      exact ends_len h1 h6 e
theorem run_le (ab : Nat → Nat → Bool) (marks : Int) (k : Nat) : (runK ab marks k).1.length ≤ 6 := by
  have h1 := (run_inv ab marks k).1
  have h2 : ∀ x ∈ (runK ab marks k).1.map kl, x ∈ (List.range 6).map fun h => [117 + h] := by
    intro x hx
    obtain ⟨e, he, rfl⟩ := List.mem_map.mp hx
    obtain ⟨a, b, ha, hb, rfl⟩ := run_mates ab marks k e he
    have e9 := keyOf_low ⟨a, ha⟩ ⟨b, hb⟩
    exact List.mem_map.mpr ⟨a, List.mem_range.mpr ha, e9.symm⟩
  have := h1.length_le_of_subset h2
  simpa using this

end
section
/-- a way through the table: from a low over heads to a free one -/
inductive Chn (ab : Nat → Nat → Bool) (μ : Nat → Option Nat) : Nat → List (Nat × Nat) → Prop
  | last (s h : Nat) : h < 6 → ab s h = true → μ h = none → Chn ab μ s [(h, s)]
  | step (s h l : Nat) (r : List (Nat × Nat)) : h < 6 → ab s h = true → μ h = some l → Chn ab μ l r → Chn ab μ s ((h, s) :: r)
noncomputable def upd (μ : Nat → Option Nat) (h l : Nat) : Nat → Option Nat := fun z => if z = h then some l else μ z
theorem upd_same (μ : Nat → Option Nat) (h l : Nat) : upd μ h l h = some l := by unfold upd; rw [if_pos rfl]
theorem upd_ne (μ : Nat → Option Nat) {h z : Nat} (l : Nat) (e : z ≠ h) : upd μ h l z = μ z := by unfold upd; rw [if_neg e]
noncomputable def Apart (μ : Nat → Option Nat) : Prop := ∀ h h' l, h < 6 → h' < 6 → μ h = some l → μ h' = some l → h = h'
noncomputable def Edges (ab : Nat → Nat → Bool) (μ : Nat → Option Nat) : Prop := ∀ h l, h < 6 → μ h = some l → ab l h = true
noncomputable def Clo (ab : Nat → Nat → Bool) (μ : Nat → Option Nat) (Z : Nat → Prop) : Prop := ∀ l, Z l → ∀ h, h < 6 → ab l h = true → ∃ l', μ h = some l' ∧ Z l'
noncomputable def Img (μ : Nat → Option Nat) (l : Nat) : Prop := ∃ h, h < 6 ∧ μ h = some l
section
variable {ab : Nat → Nat → Bool} {μ : Nat → Option Nat}
theorem Clo.no_chain {Z : Nat → Prop} (x : Clo ab μ Z) {l : Nat} {p : List (Nat × Nat)} (c : Chn ab μ l p) : ¬ Z l := by
  induction c with
  | last s h h6 ha hm =>
    intro hz
    obtain ⟨l', e, -⟩ := x s hz h h6 ha
    rw [hm] at e
    cases e
  | step s h l r h6 ha hm _ ih =>
    intro hz
    obtain ⟨l', e, hz'⟩ := x s hz h h6 ha
    rw [hm] at e
    cases e
    exact ih hz'
theorem Chn.upd {l : Nat} {p : List (Nat × Nat)} (c : Chn ab μ l p) {h s : Nat} (hn : h ∉ p.map (·.1)) : Chn ab (upd μ h s) l p := by
  induction c with
  | last s' h' h6 ha hm =>
    have hne : h' ≠ h := fun e => hn (by simp [e])
    exact .last s' h' h6 ha ((upd_ne μ s hne).trans hm)
  | step s' h' l r h6 ha hm _ ih =>
    have hne : h' ≠ h := fun e => hn (by simp [e])
    exact .step s' h' l r h6 ha ((upd_ne μ s hne).trans hm) (ih fun e => hn (by rw [List.map_cons]; exact List.mem_cons_of_mem _ e))
theorem Apart.upd (x : Apart μ) {h s : Nat} (hs : ¬ Img μ s) : Apart (upd μ h s) := by
  intro a b l ha hb ea eb
  by_cases h1 : a = h
  · by_cases h2 : b = h
    · rw [h1, h2]
    · rw [h1, upd_same] at ea
      rw [upd_ne _ _ h2] at eb
      cases ea
      exact absurd ⟨b, hb, eb⟩ hs
  · by_cases h2 : b = h
    · rw [h2, upd_same] at eb
      rw [upd_ne _ _ h1] at ea
      cases eb
      exact absurd ⟨a, ha, ea⟩ hs
    · rw [upd_ne _ _ h1] at ea
      rw [upd_ne _ _ h2] at eb
      exact x a b l ha hb ea eb
theorem Edges.upd (x : Edges ab μ) {h s : Nat} (hs : ab s h = true) : Edges ab (upd μ h s) := by
  intro a l ha e
  by_cases h1 : a = h
  · rw [h1, upd_same] at e
    cases e
    rw [h1]
    exact hs
  · rw [upd_ne _ _ h1] at e
    exact x a l ha e
theorem Clo.upd {Z : Nat → Prop} (x : Clo ab μ Z) {h s : Nat} (hn : ∀ l, μ h = some l → ¬ Z l) (h6 : h < 6) : Clo ab (upd μ h s) Z := by
  intro l hl a ha e
  obtain ⟨l', e', hz⟩ := x l hl a ha e
  by_cases h1 : a = h
  · rw [h1] at e'
    exact absurd hz (hn _ e')
  · exact ⟨l', (upd_ne _ _ h1).trans e', hz⟩
end
noncomputable def updAll (μ : Nat → Option Nat) (p : List (Nat × Nat)) : Nat → Option Nat := p.foldl (fun μ e => upd μ e.1 e.2) μ
theorem aug {ab : Nat → Nat → Bool} : ∀ (p : List (Nat × Nat)) {μ : Nat → Option Nat} {s : Nat}, Chn ab μ s p → (p.map (·.1)).Nodup → Apart μ → Edges ab μ → ¬ Img μ s →
    Apart (updAll μ p) ∧ Edges ab (updAll μ p) ∧ (∀ l, Img (updAll μ p) l ↔ l = s ∨ Img μ l) ∧ ∀ Z, Clo ab μ Z → Clo ab (updAll μ p) Z
  | [], _, _, c, _, _, _, _ => nomatch c
  | e :: r, μ, s, c, hd, hi, he, hs => by
    cases c with
    | last _ h h6 ha hm =>
      show Apart (upd _ _ _) ∧ Edges ab (upd _ _ _) ∧ (∀ l, Img (upd _ _ _) l ↔ _) ∧ ∀ Z, _ → Clo ab (upd _ _ _) Z
      refine ⟨hi.upd hs, he.upd ha, fun l => ⟨?_, ?_⟩, fun Z hZ => hZ.upd (fun l e => by dsimp only at e; rw [hm] at e; cases e) h6⟩
      · rintro ⟨a, a6, ea⟩
        dsimp only at ea
        by_cases h1 : a = h
        · rw [h1, upd_same] at ea
          cases ea
          exact .inl rfl
        · rw [upd_ne _ _ h1] at ea
          exact .inr ⟨a, a6, ea⟩
      · rintro (rfl | ⟨a, a6, ea⟩)
        · exact ⟨h, h6, upd_same _ _ _⟩
        · have h1 : a ≠ h := fun e => by rw [e, hm] at ea; cases ea
          exact ⟨a, a6, (upd_ne _ _ h1).trans ea⟩
    | step _ h l _ h6 ha hm c' =>
      have hd' := List.nodup_cons.mp (show (h :: r.map (·.1)).Nodup from hd)
      have hsl : s ≠ l := fun e => hs ⟨h, h6, e ▸ hm⟩
      have hl : ¬ Img (upd μ h s) l := by
        rintro ⟨a, a6, ea⟩
        by_cases h1 : a = h
        · rw [h1, upd_same] at ea
          cases ea
          exact hsl rfl
        · rw [upd_ne _ _ h1] at ea
          exact h1 (hi a h l a6 h6 ea hm)
      obtain ⟨k1, k2, k3, k4⟩ := aug r (c'.upd (s := s) hd'.1) hd'.2 (hi.upd (h := h) hs) (he.upd ha) hl
      refine ⟨k1, k2, fun z => (k3 z).trans ⟨?_, ?_⟩, fun Z hZ => k4 Z (hZ.upd (fun l' e => ?_) h6)⟩
      · rintro (rfl | ⟨a, a6, ea⟩)
        · exact .inr ⟨h, h6, hm⟩
        · by_cases h1 : a = h
          · rw [h1, upd_same] at ea
            cases ea
            exact .inl rfl
          · rw [upd_ne _ _ h1] at ea
            exact .inr ⟨a, a6, ea⟩
      · rintro (rfl | ⟨a, a6, ea⟩)
        · exact .inr ⟨h, h6, upd_same _ _ _⟩
        · by_cases h1 : a = h
          · rw [h1, hm] at ea
            cases ea
            exact .inl rfl
          · exact .inr ⟨a, a6, (upd_ne _ _ h1).trans ea⟩
      · rw [hm] at e
        cases e
        exact hZ.no_chain c'

end
section
theorem sub_here (X : List Nat) (i : Nat) : Builtin.Str.subAt (Mine.T X) (Mine.T [44, 32]) i = true ↔ X[i]? = some 44 ∧ X[i + 1]? = some 32 := by
  rw [PySem.StrLaws.subAt_eq, T_list, T_list, T_len, beq_iff_eq]
  show (X.drop i).take 2 = _ ↔ _
  have e0 : X[i]? = (X.drop i)[0]? := by rw [List.getElem?_drop]; rfl
  have e1 : X[i + 1]? = (X.drop i)[1]? := by rw [List.getElem?_drop]
  rw [e0, e1]
  match X.drop i with
  | [] => simp
  | [a] => simp
  | a :: b :: r => simp
noncomputable def cutsAt : Nat → List Nat → List Nat
  | _, [] => []
  | i, c :: r => if c = 44 ∧ r.head? = some 32 then i :: cutsAt (i + 1) r else cutsAt (i + 1) r
theorem occ_run (X : List Nat) (lim : Nat) (hl : X.length < lim) : ∀ (n i : Nat) (found : Array Nat) (free : Nat), i + n = X.length + 1 → found.size ≤ i → (free ≤ i ∨ (free = i + 1 ∧ X[i]? = some 32)) →
    (forIn (List.range' i n) (found, free) (PySem.StrLaws.occBody (Mine.T X) (Mine.T [44, 32]) X.length lim)).run.fst.toList = found.toList ++ cutsAt i (X.drop i)
  | 0, i, found, free, hi, hs, hf => by
    rw [List.drop_of_length_le (by omega)]
    simp [cutsAt]
  | n + 1, i, found, free, hi, hs, hf => by
    rw [List.range'_succ, List.forIn_cons]
    unfold PySem.StrLaws.occBody
    have h2 : (Mine.T [44, 32]).length = 2 := T_len _
    split
    · rename_i hc
      obtain ⟨⟨⟨c1, c2⟩, c3⟩, c4⟩ := hc
      obtain ⟨d0, d1⟩ := (sub_here X i).mp c4
      refine (occ_run X lim hl n (i + 1) (found.push i) (i + (Mine.T [44, 32]).length) (by omega) (by rw [Array.size_push]; omega) (.inr ⟨by rw [h2], d1⟩)).trans ?_
      obtain ⟨hx, hxe⟩ := List.getElem?_eq_some_iff.mp d0
      have hh : (X.drop (i + 1)).head? = some 32 := by rw [List.head?_drop]; exact d1
      rw [List.drop_eq_getElem_cons hx, cutsAt, if_pos ⟨hxe, hh⟩, Array.toList_push, List.append_assoc]
      rfl
    · rename_i hc
      refine (occ_run X lim hl n (i + 1) found free (by omega) (by omega) (.inl (by omega))).trans ?_
      congr 1
      by_cases hx : i < X.length
      · rw [List.drop_eq_getElem_cons hx, cutsAt, if_neg]
        rintro ⟨q1, q2⟩
        rw [List.head?_drop] at q2
        have d0 : X[i]? = some 44 := by rw [List.getElem?_eq_getElem hx, q1]
        obtain ⟨hx1, -⟩ := List.getElem?_eq_some_iff.mp q2
        refine hc ⟨⟨⟨?_, ?_⟩, ?_⟩, (sub_here X i).mpr ⟨d0, q2⟩⟩
        · show found.size < lim
          omega
        · show free ≤ i
          rcases hf with hf | ⟨-, hf⟩
          · exact hf
          · rw [hf] at d0
            cases d0
        · rw [h2]
          omega
      · rw [List.drop_of_length_le (by omega), List.drop_of_length_le (by omega), cutsAt, cutsAt]
theorem occ_cuts (X : List Nat) : Builtin.Str.occurrences (Mine.T X) (Mine.T [44, 32]) 0 (Mine.T X).length ((Mine.T X).length + 1) = cutsAt 0 X := by
  rw [PySem.StrLaws.occ_eq, T_len]
  have := occ_run X (X.length + 1) (by omega) (X.length + 1) 0 #[] 0 (by omega) (Nat.le_refl _) (.inl (Nat.le_refl _))
  simpa using this
theorem cuts_skip : ∀ (l : List Nat) (i : Nat) (r : List Nat), 44 ∉ l → cutsAt i (l ++ r) = cutsAt (i + l.length) r
  | [], i, r, _ => rfl
  | c :: l, i, r, h => by
    have hc : c ≠ 44 := fun e => h (by simp [e])
    rw [List.cons_append, cutsAt, if_neg (fun q => hc q.1), cuts_skip l (i + 1) r (fun q => h (List.mem_cons_of_mem _ q)), List.length_cons]
    congr 1
    omega
theorem cuts_one (l : List Nat) (i : Nat) (h : 44 ∉ l) : cutsAt i l = [] := by
  have := cuts_skip l i [] h
  rw [List.append_nil] at this
  rw [this]
  rfl
theorem cuts_two (l : List Nat) (i : Nat) (r : List Nat) (h : 44 ∉ l) : cutsAt i (l ++ [44, 32] ++ r) = (i + l.length) :: cutsAt (i + l.length + 2) r := by
  rw [List.append_assoc, cuts_skip l i _ h]
  show cutsAt _ (44 :: 32 :: r) = _
  rw [cutsAt, if_pos ⟨rfl, rfl⟩, cutsAt, if_neg (by simp)]
theorem sub_T (X : List Nat) (i j : Nat) : Builtin.Str.strSub (Mine.T X) i j = Mine.T ((X.take j).drop i) := by
  rw [T_of (Builtin.Str.strSub (Mine.T X) i j)]
  congr 1
  show (X.toArray.extract i j).toList = _
  simp [List.drop_take]
theorem parts_jn : ∀ (ls : List (List Nat)) (A : List Nat), ls ≠ [] → (∀ l ∈ ls, 44 ∉ l) → PySem.StrLaws.partsFrom (Mine.T (A ++ jn [44, 32] ls)) 2 A.length (cutsAt A.length (jn [44, 32] ls)) = ls.map Mine.T
  | [], _, h, _ => absurd rfl h
  | [l], A, _, h => by
    show PySem.StrLaws.partsFrom (Mine.T (A ++ l)) 2 A.length (cutsAt A.length l) = [Mine.T l]
    rw [cuts_one l _ (h l (.head _))]
    show [_] = _
    rw [sub_T, T_len, List.take_length, List.drop_left]
  | l :: m :: r, A, _, h => by
    have ih := parts_jn (m :: r) (A ++ l ++ [44, 32]) (by simp) fun z hz => h z (.tail _ hz)
    show PySem.StrLaws.partsFrom (Mine.T (A ++ (l ++ [44, 32] ++ jn [44, 32] (m :: r)))) 2 A.length (cutsAt A.length (l ++ [44, 32] ++ jn [44, 32] (m :: r))) = _
    rw [cuts_two l _ _ (h l (.head _))]
    show Builtin.Str.strSub _ _ _ :: _ = Mine.T l :: (m :: r).map Mine.T
    have e : A ++ (l ++ [44, 32] ++ jn [44, 32] (m :: r)) = A ++ l ++ [44, 32] ++ jn [44, 32] (m :: r) := by simp only [List.append_assoc]
    have el : (A ++ l ++ [44, 32]).length = A.length + l.length + 2 := by simp only [List.length_append, List.length_cons, List.length_nil]
    rw [el] at ih
    rw [e, ih]
    congr 1
    rw [sub_T]
    congr 1
    rw [List.append_assoc (A ++ l), show A.length + l.length = (A ++ l).length by rw [List.length_append], List.take_left, List.drop_left]
theorem kind1 (l : List Nat) (h : ∀ c ∈ l, c < 256) : Builtin.Str.strKind (Mine.T l) = 1 := by
  unfold Builtin.Str.strKind
  rw [if_pos]
  rw [Array.all_eq_true']
  intro c hc
  have : c ∈ l := by simpa [Mine.T] using hc
  simpa using h c this
theorem split_jn (ls : List (List Nat)) (h0 : ls ≠ []) (h1 : ∀ l ∈ ls, 44 ∉ l) (h2 : ∀ l ∈ ls, ∀ c ∈ l, c < 256) : Txt.split (Mine.T (jn [44, 32] ls)) (Mine.T [44, 32]) = ls.map Mine.T := by
  have hk : Builtin.Str.strKind (Mine.T (jn [44, 32] ls)) = 1 := kind1 _ fun c hc => by
    rcases jn_mem _ _ hc with h | ⟨l, hl, h⟩
    · simp at h
      omega
    · exact h2 l hl c h
  have hk2 : Builtin.Str.strKind (Mine.T [44, 32]) = 1 := kind1 _ (by decide)
  have hp := parts_jn ls [] h0 h1
  unfold Txt.split
  rw [occ_cuts, hk, hk2, T_len, T_len, PySem.StrLaws.partsBetween_eq]
  match ls, h0, h1, hp with
  | [l], _, h1, hp =>
    show (if _ then [Mine.T l] else if (cutsAt 0 l).isEmpty = true then [Mine.T l] else _) = [Mine.T l]
    rw [cuts_one l _ (h1 l (.head _))]
    split <;> rfl
  | l :: m :: r, _, h1, hp =>
    have e : jn [44, 32] (l :: m :: r) = l ++ [44, 32] ++ jn [44, 32] (m :: r) := rfl
    rw [if_neg, if_neg]
    · exact hp
    · rw [e, cuts_two l _ _ (h1 l (.head _))]
      simp
    · rw [e]
      simp
      omega
theorem nm_apart : ∀ p q : Fin 32, nmOf p.val = nmOf q.val → p = q := by decide +kernel
theorem nm_zero : ∀ p : Fin 32, nmOf p.val ≠ [48, 120, 48] := by decide +kernel
theorem nm_44 (p : Nat) (h : p < 32) : 44 ∉ nmOf p := fun hc => by
  have := (nm_fin ⟨p, h⟩).2 44 hc
  omega
theorem any_map_T (ls : List (List Nat)) (x : List Nat) : (ls.map Mine.T).any (· == Mine.T x) = decide (x ∈ ls) := by
  rw [any_T, List.contains_eq_mem]
theorem split_ab (wds : List (List Nat)) (sh : Nat) (hw : wds.length = 6) (hs : sh < 27) : ∀ low, low < 6 → ∀ p, p < 6 → (Txt.split (Mine.T (heldOf wds sh low)) (Mine.T [44, 32])).any (· == Mine.T (((List.range 6).map fun i => nmOf (sh + i)).getD p [])) = isAb wds low p := by
  intro low hl p hp
  have en : ((List.range 6).map fun i => nmOf (sh + i)).getD p [] = nmOf (sh + p) := by
    rw [List.getD_eq_getElem?_getD, List.getElem?_map, List.getElem?_range hp]
    rfl
  have ea : aboveOf wds low = ((List.range 6).filter fun p => isAb wds low p).map Int.ofNat := by
    show aboveTo wds low wds.length = _
    rw [hw]
    rfl
  obtain ⟨l, hle⟩ : ∃ l, l = ((List.range 6).filter fun p => isAb wds low p) := ⟨_, rfl⟩
  have hm : ∀ q, q ∈ l ↔ q < 6 ∧ isAb wds low q = true := fun q => by rw [hle, List.mem_filter, List.mem_range]
  have eb : (aboveOf wds low).map (fun p => nmOf (sh + p.toNat)) = l.map fun q => nmOf (sh + q) := by
    rw [ea, ← hle, List.map_map]
    rfl
  rw [en, held_told wds sh low hw hs hl, toldOf, eb]
  by_cases h0 : l = []
  · have e1 : (jn [44, 32] (l.map fun q => nmOf (sh + q))) = [] := by rw [h0]; rfl
    rw [if_pos e1]
    have e2 := split_jn [[48, 120, 48]] (by simp) (by decide) (by decide)
    have e3 : jn [44, 32] [[48, 120, 48]] = [48, 120, 48] := rfl
    rw [e3] at e2
    rw [e2, any_map_T]
    have hn : isAb wds low p = false := by
      cases hb : isAb wds low p
      · rfl
      · have := (hm p).mpr ⟨hp, hb⟩
        rw [h0] at this
        cases this
    rw [hn, decide_eq_false_iff_not, List.mem_singleton]
    exact nm_zero ⟨sh + p, by omega⟩
  · have hne : jn [44, 32] (l.map fun q => nmOf (sh + q)) ≠ [] := by
      obtain ⟨q, r, rfl⟩ := List.exists_cons_of_ne_nil h0
      exact jn_ne _ _ _ (nm_ne ⟨sh + q, by have := (hm q).mp (.head _); omega⟩)
    rw [if_neg hne, split_jn _ (by simpa using h0), any_map_T]
    · rw [Bool.eq_iff_iff, decide_eq_true_iff, List.mem_map]
      constructor
      · rintro ⟨q, hq, e⟩
        have hq' := (hm q).mp hq
        have := nm_apart ⟨sh + q, by omega⟩ ⟨sh + p, by omega⟩ e
        have := congrArg Fin.val this
        dsimp only at this
        rw [show p = q by omega]
        exact hq'.2
      · intro hb
        exact ⟨p, (hm p).mpr ⟨hp, hb⟩, rfl⟩
    · intro z hz
      obtain ⟨q, hq, rfl⟩ := List.mem_map.mp hz
      have := (hm q).mp hq
      exact nm_44 _ (by omega)
    · intro z hz c hc
      obtain ⟨q, hq, rfl⟩ := List.mem_map.mp hz
      have := (hm q).mp hq
      have := (nm_fin ⟨sh + q, by omega⟩).2 c hc
      omega

end
section
theorem scat_le : ∀ (y x : List Nat) (p : Nat), p ≤ x.length → (scat x y p = x.length ↔ (x.drop p).Sublist y)
  | [], x, p, h => by
    show p = x.length ↔ _
    rw [List.sublist_nil, List.drop_eq_nil_iff]
    omega
  | c :: y, x, p, h => by
    rw [scat]
    by_cases hp : x[p]? = some c
    · obtain ⟨hx, he⟩ := List.getElem?_eq_some_iff.mp hp
      rw [if_pos hp, scat_le y x (p + 1) hx, List.drop_eq_getElem_cons hx, he, List.cons_sublist_cons]
    · rw [if_neg hp, scat_le y x p h, List.sublist_cons_iff]
      constructor
      · exact .inl
      · rintro (q | ⟨r, e, q⟩)
        · exact q
        · exfalso
          apply hp
          rw [show x[p]? = (x.drop p)[0]? by rw [List.getElem?_drop]; rfl, e]
          rfl
theorem scat_sub (x y : List Nat) : scat x y 0 = x.length ↔ x.Sublist y := scat_le y x 0 (Nat.zero_le _)
noncomputable def W40 : List (List Nat) := [[]] ++ [[97], [65], [98]] ++ ([97, 65, 98].flatMap fun a => [97, 65, 98].map fun b => [a, b]) ++ ([97, 65, 98].flatMap fun a => [97, 65, 98].flatMap fun b => [97, 65, 98].map fun c => [a, b, c])
theorem lev_40 : ∀ x ∈ W40, ∀ y ∈ W40, x.length ≤ y.length → (decide (lev x y (2 * ((y.length : Int) - x.length)) = 2 * ((y.length : Int) - x.length)) = decide (scat x y 0 = x.length)) := by
  decide +kernel
noncomputable def wordsS (S : List Nat) : Nat → List (List Nat)
  | 0 => [[]]
  | n + 1 => S.flatMap fun c => (wordsS S n).map (c :: ·)
theorem wordsS_mem (S : List Nat) (x : List Nat) (h : ∀ c ∈ x, c ∈ S) : x ∈ wordsS S x.length := by
  induction x with
  | nil => exact .head _
  | cons c r ih => exact List.mem_flatMap.mpr ⟨c, h c (.head _), List.mem_map.mpr ⟨r, ih fun d hd => h d (.tail _ hd), rfl⟩⟩
theorem mem_W40 (x : List Nat) (hl : x.length ≤ 3) (h : ∀ c ∈ x, c = 97 ∨ c = 65 ∨ c = 98) : x ∈ W40 := by
  have k : ∀ n : Fin 4, ∀ y ∈ wordsS [97, 65, 98] n.val, y ∈ W40 := by decide +kernel
  exact k ⟨x.length, Nat.lt_succ_of_le hl⟩ x (wordsS_mem _ x fun c hc => by rcases h c hc with rfl | rfl | rfl <;> decide)
/-- words of the law -/
noncomputable def WdsOk (wds : List (List Nat)) : Prop := wds.length = 6 ∧ (∀ x ∈ wds, x.length ≤ 3) ∧ ∀ x ∈ wds, ∀ c ∈ x, c = 97 ∨ c = 65 ∨ c = 98
theorem getD_mem {wds : List (List Nat)} {i : Nat} (h : i < wds.length) : wds.getD i [] ∈ wds := by
  rw [List.getD_eq_getElem?_getD, List.getElem?_eq_getElem h]
  exact List.getElem_mem h
theorem WdsOk.mem {wds : List (List Nat)} (x : WdsOk wds) {i : Nat} (h : i < 6) : wds.getD i [] ∈ W40 := by
  have hm : wds.getD i [] ∈ wds := getD_mem (by rw [x.1]; exact h)
  exact mem_W40 _ (x.2.1 _ hm) (x.2.2 _ hm)
theorem ab_iff {wds : List (List Nat)} (x : WdsOk wds) {i j : Nat} (hi : i < 6) (hj : j < 6) : isAb wds i j = true ↔ (wds.getD i []).Sublist (wds.getD j []) ∧ ((wds.getD i []).length < (wds.getD j []).length ∨ ((wds.getD i []).length = (wds.getD j []).length ∧ i < j)) := by
  have ha := x.mem hi
  have hb := x.mem hj
  unfold isAb
  generalize wds.getD i [] = u at ha ⊢
  generalize wds.getD j [] = v at hb ⊢
  have k := lev_40 u ha v hb
  try dsimp only
  rw [Bool.and_eq_true, Bool.or_eq_true, Bool.and_eq_true, decide_eq_true_iff, decide_eq_true_iff, decide_eq_true_iff]
  by_cases hl : u.length ≤ v.length
  · rw [k hl, decide_eq_true_iff, scat_sub]
    constructor
    · rintro ⟨h1, h2⟩
      exact ⟨h2, by omega⟩
    · rintro ⟨h1, h2⟩
      exact ⟨by omega, h1⟩
  · constructor
    · rintro ⟨h1, h2⟩
      omega
    · rintro ⟨h1, h2⟩
      omega
theorem ab_irr {wds : List (List Nat)} (x : WdsOk wds) {i : Nat} (hi : i < 6) : ¬ isAb wds i i = true := by
  rw [ab_iff x hi hi]
  rintro ⟨-, h⟩
  omega
theorem ab_trans {wds : List (List Nat)} (x : WdsOk wds) {i j k : Nat} (hi : i < 6) (hj : j < 6) (hk : k < 6) (h1 : isAb wds i j = true) (h2 : isAb wds j k = true) : isAb wds i k = true := by
  rw [ab_iff x hi hj] at h1
  rw [ab_iff x hj hk] at h2
  rw [ab_iff x hi hk]
  exact ⟨h1.1.trans h2.1, by omega⟩
theorem bars_iff {wds : List (List Nat)} (x : WdsOk wds) {i j : Nat} (hi : i < 6) (hj : j < 6) (hn : i ≠ j) : wds.getD i [] ∈ bars wds (wds.getD j []) ↔ isAb wds i j = true ∨ isAb wds j i = true := by
  have hm : wds.getD i [] ∈ wds := getD_mem (by rw [x.1]; exact hi)
  unfold bars
  rw [List.mem_filter, Bool.or_eq_true, decide_eq_true_iff, decide_eq_true_iff, scat_sub, scat_sub, ab_iff x hi hj, ab_iff x hj hi]
  constructor
  · rintro ⟨-, h | h⟩
    · have := h.length_le
      by_cases e : (wds.getD i []).length = (wds.getD j []).length
      · have e' := h.eq_of_length e
        by_cases q : i < j
        · exact .inl ⟨h, .inr ⟨e, q⟩⟩
        · exact .inr ⟨e' ▸ List.Sublist.refl _, .inr ⟨e.symm, by omega⟩⟩
      · exact .inl ⟨h, .inl (by omega)⟩
    · have := h.length_le
      by_cases e : (wds.getD j []).length = (wds.getD i []).length
      · have e' := h.eq_of_length e
        by_cases q : j < i
        · exact .inr ⟨h, .inr ⟨e, q⟩⟩
        · exact .inl ⟨e' ▸ List.Sublist.refl _, .inr ⟨e.symm, by omega⟩⟩
      · exact .inr ⟨h, .inl (by omega)⟩
  · rintro (⟨h, -⟩ | ⟨h, -⟩)
    · exact ⟨hm, .inl h⟩
    · exact ⟨hm, .inr h⟩
/-- the rows are the places that do not meet -/
noncomputable def Anti (ab : Nat → Nat → Bool) (I : List Nat) : Prop := ∀ a ∈ I, ∀ b ∈ I, ¬ ab a b = true
theorem rows_iff {wds : List (List Nat)} (x : WdsOk wds) : ∀ k, k ≤ 6 → ∀ row, row ∈ (wds.take k).foldl (rowStep wds) [[]] ↔ ∃ I : List Nat, I.Sublist (List.range k) ∧ Anti (isAb wds) I ∧ row = I.map fun i => wds.getD i []
  | 0, _, row => by
    show row ∈ [[]] ↔ _
    rw [List.mem_singleton]
    constructor
    · rintro rfl
      exact ⟨[], List.Sublist.refl _, (fun a ha => nomatch ha), rfl⟩
    · rintro ⟨I, h, -, rfl⟩
      rw [List.range_zero, List.sublist_nil] at h
      rw [h]
      rfl
  | k + 1, hk, row => by
    have ih := rows_iff x k (by omega)
    have hkl : k < wds.length := by rw [x.1]; omega
    have eg : wds[k] = wds.getD k [] := by rw [List.getD_eq_getElem?_getD, List.getElem?_eq_getElem hkl]; rfl
    rw [List.take_succ_eq_append_getElem hkl, List.foldl_append]
    show row ∈ rowStep wds _ wds[k] ↔ _
    generalize (wds.take k).foldl (rowStep wds) [[]] = R at ih ⊢
    unfold rowStep
    rw [eg, List.mem_append, ih, List.range_succ]
    constructor
    · rintro (⟨I, h1, h2, rfl⟩ | h)
      · exact ⟨I, h1.trans (List.sublist_append_left _ _), h2, rfl⟩
      · obtain ⟨row', hr, rfl⟩ := List.mem_map.mp h
        obtain ⟨hr1, hr2⟩ := List.mem_filter.mp hr
        obtain ⟨I, h1, h2, rfl⟩ := (ih row').mp hr1
        have hlt : ∀ a ∈ I, a < k := fun a ha => List.mem_range.mp (h1.subset ha)
        have hno : ∀ a ∈ I, ¬ (isAb wds a k = true ∨ isAb wds k a = true) := by
          intro a ha hc
          have hb := (bars_iff x (by have := hlt a ha; omega) (by omega) (by have := hlt a ha; omega)).mpr hc
          rw [List.isEmpty_iff, List.filter_eq_nil_iff] at hr2
          exact hr2 _ (List.mem_map_of_mem ha) (by rw [List.contains_eq_mem, decide_eq_true_iff]; exact hb)
        refine ⟨I ++ [k], h1.append (List.Sublist.refl _), ?_, by rw [List.map_append]; rfl⟩
        intro a ha b hb
        rcases List.mem_append.mp ha with ha | ha <;> rcases List.mem_append.mp hb with hb | hb
        · exact h2 a ha b hb
        · rw [List.mem_singleton.mp hb]
          exact fun e => hno a ha (.inl e)
        · rw [List.mem_singleton.mp ha]
          exact fun e => hno b hb (.inr e)
        · rw [List.mem_singleton.mp ha, List.mem_singleton.mp hb]
          exact ab_irr x (by omega)
    · rintro ⟨I, h1, h2, rfl⟩
      obtain ⟨I1, I2, rfl, h3, h4⟩ := List.sublist_append_iff.mp h1
      have hlt : ∀ a ∈ I1, a < k := fun a ha => List.mem_range.mp (h3.subset ha)
      have h21 : Anti (isAb wds) I1 := fun a ha b hb => h2 a (List.mem_append_left _ ha) b (List.mem_append_left _ hb)
      have h5 : I2 = [] ∨ I2 = [k] := by
        rcases List.sublist_cons_iff.mp h4 with h | ⟨r, rfl, h⟩
        · exact .inl (List.sublist_nil.mp h)
        · exact .inr (by rw [List.sublist_nil.mp h])
      rcases h5 with rfl | rfl
      · exact .inl ⟨I1, h3, h21, by rw [List.append_nil]⟩
      · refine .inr (List.mem_map.mpr ⟨I1.map fun i => wds.getD i [], List.mem_filter.mpr ⟨(ih _).mpr ⟨I1, h3, h21, rfl⟩, ?_⟩, by rw [List.map_append]; rfl⟩)
        rw [List.isEmpty_iff, List.filter_eq_nil_iff]
        intro z hz
        obtain ⟨a, ha, rfl⟩ := List.mem_map.mp hz
        rw [List.contains_eq_mem, decide_eq_true_iff, bars_iff x (by have := hlt a ha; omega) (by omega) (by have := hlt a ha; omega)]
        rintro (h | h)
        · exact h2 a (List.mem_append_left _ ha) k (List.mem_append_right _ (.head _)) h
        · exact h2 k (List.mem_append_right _ (.head _)) a (List.mem_append_left _ ha) h
theorem widest_iff {wds : List (List Nat)} (x : WdsOk wds) {M : Nat} (h : IsWidest wds M) : (∃ I : List Nat, I.Sublist (List.range 6) ∧ Anti (isAb wds) I ∧ I.length = M) ∧ ∀ I : List Nat, I.Sublist (List.range 6) → Anti (isAb wds) I → I.length ≤ M := by
  have k := rows_iff x 6 (Nat.le_refl _)
  have e : wds.take 6 = wds := List.take_of_length_le (by rw [x.1]; exact Nat.le_refl _)
  rw [e] at k
  obtain ⟨⟨row, hr, hl⟩, h2⟩ := h
  refine ⟨?_, fun I h1 h3 => ?_⟩
  · obtain ⟨I, h1, h3, rfl⟩ := (k row).mp hr
    exact ⟨I, h1, h3, by rw [List.length_map] at hl; exact hl⟩
  · have := h2 _ ((k _).mpr ⟨I, h1, h3, rfl⟩)
    rwa [List.length_map] at this

end
section
theorem getOf_append (x : List Nat) : ∀ (a b : List (List Nat × List Nat)), getOf x (a ++ b) = match getOf x a with | some v => some v | none => getOf x b
  | [], b => rfl
  | (k, v) :: r, b => by
    rw [List.cons_append, getOf, getOf]
    split
    · rfl
    · exact getOf_append x r b
theorem getOf_keep (x y : List Nat) (h : x.map lo1 ≠ y) : ∀ kv : List (List Nat × List Nat), getOf x (kv.filter fun e => !decide (e.1.map lo1 = y)) = getOf x kv
  | [] => rfl
  | (k, v) :: r => by
    by_cases hk : k.map lo1 = y
    · rw [List.filter_cons_of_neg (by simp [hk]), getOf_keep x y h r, getOf, if_neg (by rw [hk]; exact fun e => h e.symm)]
    · rw [List.filter_cons_of_pos (by simp [hk]), getOf, getOf, getOf_keep x y h r]
theorem getOf_gone (x y : List Nat) (h : x.map lo1 = y) : ∀ kv : List (List Nat × List Nat), getOf x (kv.filter fun e => !decide (e.1.map lo1 = y)) = none
  | [] => rfl
  | (k, v) :: r => by
    by_cases hk : k.map lo1 = y
    · rw [List.filter_cons_of_neg (by simp [hk]), getOf_gone x y h r]
    · rw [List.filter_cons_of_pos (by simp [hk]), getOf, if_neg (by rw [h]; exact hk), getOf_gone x y h r]
/-- the table as a function -/
noncomputable def mu (kv : List (List Nat × List Nat)) (h : Nat) : Option Nat := if h < 6 then (getOf [117 + h] kv).map fun m => m.headD 0 - 112 else none
theorem mu_eq {kv : List (List Nat × List Nat)} {h : Nat} (h6 : h < 6) : mu kv h = (getOf [117 + h] kv).map fun m => m.headD 0 - 112 := if_pos h6
theorem mu_one {kv : List (List Nat × List Nat)} {s : Nat × Nat} (h1 : s.1 < 6) (h2 : s.2 < 6) : mu (setOne kv s) = upd (mu kv) s.1 s.2 := by
  funext h
  have e9 := keyOf_low ⟨s.1, h1⟩ ⟨s.2, h2⟩
  dsimp only at e9
  by_cases h6 : h < 6
  · have e8 := low_up ⟨h, h6⟩
    dsimp only at e8
    rw [mu_eq h6]
    unfold setOne
    rw [e9, getOf_append]
    by_cases he : h = s.1
    · subst he
      rw [upd_same, getOf_gone _ _ e8, getOf, if_pos (e9.trans e8.symm)]
      show some (112 + s.2 - 112) = _
      congr 1
      omega
    · have hne : [117 + h].map lo1 ≠ [117 + s.1] := by
        rw [e8]
        intro q
        have := (List.cons.inj q).1
        omega
      rw [upd_ne _ _ he, mu_eq h6, getOf_keep _ _ hne, getOf, if_neg (by rw [e9]; exact fun q => hne q.symm)]
      cases getOf [117 + h] kv <;> rfl
  · rw [mu, if_neg h6, upd_ne _ _ (by omega), mu, if_neg h6]
theorem mu_all : ∀ (st : List (Nat × Nat)) {kv : List (List Nat × List Nat)}, (∀ s ∈ st, s.1 < 6 ∧ s.2 < 6) → mu (setAll kv st) = updAll (mu kv) st
  | [], _, _ => rfl
  | s :: r, kv, h => by
    have hs := h s (.head _)
    show mu (setAll (setOne kv s) r) = updAll (upd (mu kv) s.1 s.2) r
    rw [mu_all r fun z hz => h z (.tail _ hz), mu_one hs.1 hs.2]
/-- a path that leads from s to l -/
inductive Way (ab : Nat → Nat → Bool) (μ : Nat → Option Nat) (s : Nat) : Nat → List (Nat × Nat) → Prop
  | nil : Way ab μ s s []
  | snoc (l h l' : Nat) (p : List (Nat × Nat)) : Way ab μ s l p → h < 6 → ab l h = true → μ h = some l' → Way ab μ s l' (p ++ [(h, l)])
theorem Way.chn {ab : Nat → Nat → Bool} {μ : Nat → Option Nat} {s l : Nat} {p : List (Nat × Nat)} (x : Way ab μ s l p) : ∀ r, Chn ab μ l r → Chn ab μ s (p ++ r) := by
  induction x with
  | nil => exact fun r c => c
  | snoc l h l' p _ h6 ha hm ih =>
    intro r c
    rw [List.append_assoc]
    exact ih _ (.step l h l' r h6 ha hm c)
noncomputable def QWay (ab : Nat → Nat → Bool) (μ : Nat → Option Nat) (s : Nat) (q : List (Nat × List (Nat × Nat))) : Prop := ∀ e ∈ q, Way ab μ s e.1 e.2
theorem highs_way {ab : Nat → Nat → Bool} {kv : List (List Nat × List Nat)} {s low : Nat} {path : List (Nat × Nat)} (hw : Way ab (mu kv) s low path) : ∀ (hs seen : List Nat) (q : List (Nat × List (Nat × Nat))), (∀ h ∈ hs, h < 6 ∧ ab low h = true) → QWay ab (mu kv) s q →
    (∀ st, highs kv low path hs seen q = .inl st → Chn ab (mu kv) s st) ∧ (∀ s' q', highs kv low path hs seen q = .inr (s', q') → QWay ab (mu kv) s q')
  | [], seen, q, _, hq => ⟨fun st e => by simp [highs] at e, fun s' q' e => by
      simp only [highs, Sum.inr.injEq, Prod.mk.injEq] at e
      exact e.2 ▸ hq⟩
  | h :: r, seen, q, hh, hq => by
    have hr := fun z hz => hh z (List.mem_cons_of_mem _ hz)
    obtain ⟨h6, ha⟩ := hh h (.head _)
    unfold highs
    split
    · exact highs_way hw r seen q hr hq
    · split
      · rename_i hg
        refine ⟨fun st e => ?_, fun s' q' e => by cases e⟩
        cases e
        exact hw.chn _ (.last low h h6 ha (by rw [mu_eq h6, hg]; rfl))
      · rename_i m hm
        refine highs_way hw r _ _ hr fun e he => ?_
        rcases List.mem_append.mp he with he | he
        · exact hq e he
        · obtain rfl := List.mem_singleton.mp he
          exact .snoc low h _ path hw h6 ha (by rw [mu_eq h6, hm]; rfl)
theorem bfs_way {ab : Nat → Nat → Bool} {kv : List (List Nat × List Nat)} {s : Nat} : ∀ (n : Nat) (q : List (Nat × List (Nat × Nat))) (seen : List Nat), QWay ab (mu kv) s q → bfs ab kv n q seen = [] ∨ Chn ab (mu kv) s (bfs ab kv n q seen)
  | 0, q, seen, _ => .inl rfl
  | n + 1, [], seen, _ => .inl rfl
  | n + 1, (low, path) :: q, seen, hq => by
    obtain ⟨k1, k2⟩ := highs_way (hq _ (.head _)) ((List.range 6).filter (ab low)) seen q (fun h hh => ⟨List.mem_range.mp (List.mem_filter.mp hh).1, (List.mem_filter.mp hh).2⟩) fun e he => hq e (.tail _ he)
    unfold bfs
    split
    · rename_i st e
      exact .inr (k1 st e)
    · rename_i s' q' e
      exact bfs_way n q' s' (k2 s' q' e)
/-- what a turn over the heads leaves when it finds none -/
theorem highs_fail {kv : List (List Nat × List Nat)} {low : Nat} {path : List (Nat × Nat)} : ∀ (hs seen : List Nat) (q : List (Nat × List (Nat × Nat))), (∀ h ∈ hs, h < 6) →
    (∀ st, highs kv low path hs seen q = .inl st → st ≠ []) ∧ ∀ s' q', highs kv low path hs seen q = .inr (s', q') →
      (∀ h ∈ seen, h ∈ s') ∧ (∀ h ∈ hs, h ∈ s') ∧ (∀ h ∈ s', h ∈ seen ∨ h < 6 ∧ ∃ l, mu kv h = some l ∧ l ∈ q'.map (·.1)) ∧ (∀ l ∈ q.map (·.1), l ∈ q'.map (·.1)) ∧
      (∀ l ∈ q'.map (·.1), l ∈ q.map (·.1) ∨ Img (mu kv) l) ∧ (seen.Nodup → s'.Nodup) ∧ q'.length + seen.length = q.length + s'.length
  | [], seen, q, _ => ⟨fun st e => by simp [highs] at e, fun s' q' e => by
      simp only [highs, Sum.inr.injEq, Prod.mk.injEq] at e
      obtain ⟨rfl, rfl⟩ := e
      exact ⟨fun _ h => h, (fun _ h => nomatch h), fun _ h => .inl h, fun _ h => h, fun _ h => .inl h, id, rfl⟩⟩
  | h :: r, seen, q, hh => by
    have hr := fun z hz => hh z (List.mem_cons_of_mem _ hz)
    have h6 := hh h (.head _)
    unfold highs
    split
    · rename_i hin
      obtain ⟨k1, k2⟩ := highs_fail (kv := kv) (low := low) (path := path) r seen q hr
      refine ⟨k1, fun s' q' e => ?_⟩
      obtain ⟨a1, a2, a3⟩ := k2 s' q' e
      refine ⟨a1, fun z hz => ?_, a3⟩
      rcases List.mem_cons.mp hz with rfl | hz
      · exact a1 _ hin
      · exact a2 z hz
    · rename_i hin
      split
      · refine ⟨fun st e => ?_, fun s' q' e => by cases e⟩
        cases e
        simp
      · rename_i m hm
        obtain ⟨k1, k2⟩ := highs_fail (kv := kv) (low := low) (path := path) r (seen ++ [h]) (q ++ [(m.headD 0 - 112, path ++ [(h, low)])]) hr
        have hmu : mu kv h = some (m.headD 0 - 112) := by rw [mu_eq h6, hm]; rfl
        refine ⟨k1, fun s' q' e => ?_⟩
        obtain ⟨a1, a2, a3, a4, a5, a6, a7⟩ := k2 s' q' e
        have hs' : h ∈ s' := a1 h (List.mem_append_right _ (.head _))
        refine ⟨fun z hz => a1 z (List.mem_append_left _ hz), fun z hz => ?_, fun z hz => ?_, fun l hl => a4 l ?_, fun l hl => ?_, fun hn => a6 ?_, ?_⟩
        · rcases List.mem_cons.mp hz with rfl | hz
          · exact hs'
          · exact a2 z hz
        · rcases a3 z hz with hz | hz
          · rcases List.mem_append.mp hz with hz | hz
            · exact .inl hz
            · obtain rfl := List.mem_singleton.mp hz
              exact .inr ⟨h6, _, hmu, a4 _ (by simp)⟩
          · exact .inr hz
        · rw [List.map_append]
          exact List.mem_append_left _ hl
        · rcases a5 l hl with hl | hl
          · rw [List.map_append] at hl
            rcases List.mem_append.mp hl with hl | hl
            · exact .inl hl
            · obtain rfl := List.mem_singleton.mp hl
              exact .inr ⟨h, h6, hmu⟩
          · exact .inr hl
        · rw [List.nodup_append]
          refine ⟨hn, by simp, fun a ha b hb => ?_⟩
          obtain rfl := List.mem_singleton.mp hb
          exact fun e => hin (e ▸ ha)
        · rw [List.length_append, List.length_append, List.length_singleton, List.length_singleton] at a7
          omega
/-- what a failed search holds -/
structure Fails (ab : Nat → Nat → Bool) (kv : List (List Nat × List Nat)) (s : Nat) (done : List Nat) (q : List (Nat × List (Nat × Nat))) (seen : List Nat) : Prop where
  start : s ∈ done ∨ s ∈ q.map (·.1)
  closed : ∀ l ∈ done, ∀ h, h < 6 → ab l h = true → h ∈ seen
  mates : ∀ h ∈ seen, h < 6 ∧ ∃ l, mu kv h = some l ∧ (l ∈ done ∨ l ∈ q.map (·.1))
  imgs : ∀ l, (l ∈ done ∨ l ∈ q.map (·.1)) → l = s ∨ Img (mu kv) l
  nodup : seen.Nodup
  count : done.length + q.length = 1 + seen.length
theorem Fails.end {ab : Nat → Nat → Bool} {kv : List (List Nat × List Nat)} {s : Nat} {done seen : List Nat} (x : Fails ab kv s done [] seen) : ∃ Z : Nat → Prop, Clo ab (mu kv) Z ∧ Z s ∧ ∀ l, Z l → l = s ∨ Img (mu kv) l := by
  refine ⟨(· ∈ done), fun l hl h h6 ha => ?_, ?_, fun l hl => x.imgs l (.inl hl)⟩
  · obtain ⟨-, l', e, hl'⟩ := x.mates h (x.closed l hl h h6 ha)
    exact ⟨l', e, hl'.resolve_right (by simp)⟩
  · exact x.start.resolve_right (by simp)
theorem Fails.seen6 {ab : Nat → Nat → Bool} {kv : List (List Nat × List Nat)} {s : Nat} {done seen : List Nat} {q : List (Nat × List (Nat × Nat))} (x : Fails ab kv s done q seen) : seen.length ≤ 6 := by
  have := x.nodup.length_le_of_subset (l₂ := List.range 6) fun h hh => List.mem_range.mpr (x.mates h hh).1
  rwa [List.length_range] at this
theorem bfs_fail {ab : Nat → Nat → Bool} {kv : List (List Nat × List Nat)} {s : Nat} : ∀ (n : Nat) (q : List (Nat × List (Nat × Nat))) (seen done : List Nat), Fails ab kv s done q seen → done.length + n = 7 → bfs ab kv n q seen = [] →
    ∃ Z : Nat → Prop, Clo ab (mu kv) Z ∧ Z s ∧ ∀ l, Z l → l = s ∨ Img (mu kv) l
  | 0, q, seen, done, x, hn, _ => by
    have h1 := x.seen6
    have h2 := x.count
    have : q = [] := List.eq_nil_of_length_eq_zero (by omega)
    subst this
    exact x.end
  | n + 1, [], seen, done, x, hn, _ => x.end
  | n + 1, (low, path) :: q, seen, done, x, hn, hb => by
    obtain ⟨k1, k2⟩ := highs_fail (kv := kv) (low := low) (path := path) ((List.range 6).filter (ab low)) seen q fun h hh => List.mem_range.mp (List.mem_filter.mp hh).1
    unfold bfs at hb
    split at hb
    · rename_i st e
      exact absurd hb (k1 st e)
    · rename_i s' q' e
      obtain ⟨a1, a2, a3, a4, a5, a6, a7⟩ := k2 s' q' e
      have hmv : ∀ l, (l ∈ done ∨ l ∈ ((low, path) :: q).map (·.1)) → l ∈ low :: done ∨ l ∈ q'.map (·.1) := by
        rintro l (h | h)
        · exact .inl (List.mem_cons_of_mem _ h)
        · rcases List.mem_cons.mp h with h | h
          · exact .inl (by rw [h]; exact List.mem_cons_self)
          · exact .inr (a4 l h)
      refine bfs_fail n q' s' (low :: done) ⟨hmv _ x.start, fun l hl h h6 ha => ?_, fun h hh => ?_, fun l hl => ?_, a6 x.nodup, ?_⟩ (by rw [List.length_cons]; omega) hb
      · rcases List.mem_cons.mp hl with rfl | hl
        · exact a2 h (List.mem_filter.mpr ⟨List.mem_range.mpr h6, ha⟩)
        · exact a1 h (x.closed l hl h h6 ha)
      · rcases a3 h hh with h1 | ⟨h6, l, e1, e2⟩
        · obtain ⟨h6, l, e1, e2⟩ := x.mates h h1
          exact ⟨h6, l, e1, hmv l e2⟩
        · exact ⟨h6, l, e1, .inr e2⟩
      · rcases hl with hl | hl
        · rcases List.mem_cons.mp hl with rfl | hl
          · exact x.imgs _ (.inr (by simp))
          · exact x.imgs l (.inl hl)
        · rcases a5 l hl with h | h
          · exact x.imgs l (.inr (by rw [List.map_cons]; exact List.mem_cons_of_mem _ h))
          · exact .inr h
      · have := x.count
        rw [List.length_cons] at this ⊢
        omega

end
section
noncomputable def startOf (marks : Int) (k : Nat) : Nat := (((k : Int) + marks).fmod 6).toNat
noncomputable def Tried (marks : Int) (k l : Nat) : Prop := ∃ j, j < k ∧ l = startOf marks j
theorem start_val (marks : Int) (k : Nat) : ((startOf marks k : Nat) : Int) = ((k : Int) + marks) % 6 := by
  unfold startOf
  rw [Int.fmod_eq_emod_of_nonneg _ (by decide)]
  omega
theorem start_lt (marks : Int) (k : Nat) : startOf marks k < 6 := by
  have := start_val marks k
  omega
theorem start_new (marks : Int) (k : Nat) (hk : k < 6) : ¬ Tried marks k (startOf marks k) := by
  rintro ⟨j, hj, e⟩
  have h1 := start_val marks k
  have h2 := start_val marks j
  omega
theorem tried_all (marks : Int) (l : Nat) (hl : l < 6) : Tried marks 6 l := by
  refine ⟨(((l : Int) - marks) % 6).toNat, by omega, ?_⟩
  have h := start_val marks (((l : Int) - marks) % 6).toNat
  omega
structure RunOk (ab : Nat → Nat → Bool) (marks : Int) (k : Nat) (μ : Nat → Option Nat) (found : Nat) : Prop where
  apart : Apart μ
  edges : Edges ab μ
  ml : ∃ Ml : List Nat, Ml.Nodup ∧ Ml.length = found ∧ ∀ l, l ∈ Ml ↔ Img μ l
  imgs : ∀ l, Img μ l → Tried marks k l
  shut : ∃ Z : Nat → Prop, Clo ab μ Z ∧ (∀ l, Z l → Tried marks k l) ∧ ∀ l, Tried marks k l → Z l ∨ Img μ l
theorem Tried.succ {marks : Int} {k l : Nat} (h : Tried marks k l) : Tried marks (k + 1) l := by
  obtain ⟨j, hj, e⟩ := h
  exact ⟨j, by omega, e⟩
theorem tried_succ {marks : Int} {k l : Nat} (h : Tried marks (k + 1) l) : l = startOf marks k ∨ Tried marks k l := by
  obtain ⟨j, hj, e⟩ := h
  by_cases q : j = k
  · exact .inl (q ▸ e)
  · exact .inr ⟨j, by omega, e⟩
theorem run_ok6 (ab : Nat → Nat → Bool) (marks : Int) : ∀ k, k ≤ 6 → RunOk ab marks k (mu (runK ab marks k).1) (runK ab marks k).2
  | 0, _ => by
    have hm : ∀ h, mu (runK ab marks 0).1 h = none := fun h => by
      unfold mu
      split <;> rfl
    have hi : ∀ l, ¬ Img (mu (runK ab marks 0).1) l := by
      rintro l ⟨h, -, e⟩
      rw [hm] at e
      cases e
    refine ⟨fun h h' l _ _ e => ?_, fun h l _ e => ?_, ⟨[], List.nodup_nil, rfl, fun l => ⟨(fun h => nomatch h), fun h => absurd h (hi l)⟩⟩, fun l h => absurd h (hi l), ⟨fun _ => False, fun _ h => h.elim, fun _ h => h.elim, ?_⟩⟩
    · rw [hm] at e
      cases e
    · rw [hm] at e
      cases e
    · rintro l ⟨j, hj, -⟩
      omega
  | k + 1, hk => by
    have x := run_ok6 ab marks k (by omega)
    have hnew := start_new marks k (by omega)
    have hni : ¬ Img (mu (runK ab marks k).1) (startOf marks k) := fun h => hnew (x.imgs _ h)
    have h6 := step_ok ab marks k (by omega)
    have e1 : mu (runK ab marks (k + 1)).1 = updAll (mu (runK ab marks k).1) (stepOf ab (runK ab marks k).1 marks k) := mu_all _ h6
    have e2 : (runK ab marks (k + 1)).2 = (runK ab marks k).2 + if stepOf ab (runK ab marks k).1 marks k = [] then 0 else 1 := rfl
    rw [e1, e2]
    have hqw : QWay ab (mu (runK ab marks k).1) (startOf marks k) [(startOf marks k, [])] := fun e he => by
      obtain rfl := List.mem_singleton.mp he
      exact .nil
    have hqp : QPath (runK ab marks k).1 [] [(startOf marks k, [])] := fun e he => by
      obtain rfl := List.mem_singleton.mp he
      exact ⟨List.nodup_nil, (fun s hs => nomatch hs)⟩
    have hst : stepOf ab (runK ab marks k).1 marks k = bfs ab (runK ab marks k).1 7 [(startOf marks k, [])] [] := rfl
    rcases bfs_way 7 _ [] hqw with hb | hb
    · rw [hst, hb, if_pos rfl]
      have hf : Fails ab (runK ab marks k).1 (startOf marks k) [] [(startOf marks k, [])] [] :=
        ⟨.inr (by simp), (fun _ h => nomatch h), (fun _ h => nomatch h), fun l hl => .inl (by simpa using hl), List.nodup_nil, rfl⟩
      obtain ⟨Z', z1, z2, z3⟩ := bfs_fail 7 _ [] [] hf rfl hb
      obtain ⟨Z, y1, y2, y3⟩ := x.shut
      refine ⟨x.apart, x.edges, x.ml, fun l h => (x.imgs l h).succ, ⟨fun l => Z l ∨ Z' l, ?_, ?_, ?_⟩⟩
      · rintro l (hl | hl) h hh ha
        · obtain ⟨l', a, b⟩ := y1 l hl h hh ha
          exact ⟨l', a, .inl b⟩
        · obtain ⟨l', a, b⟩ := z1 l hl h hh ha
          exact ⟨l', a, .inr b⟩
      · rintro l (hl | hl)
        · exact (y2 l hl).succ
        · rcases z3 l hl with rfl | hl
          · exact ⟨k, by omega, rfl⟩
          · exact (x.imgs l hl).succ
      · intro l hl
        rcases tried_succ hl with rfl | hl
        · exact .inl (.inr z2)
        · exact (y3 l hl).imp .inl id
    · rw [← hst] at hb
      have hne : stepOf ab (runK ab marks k).1 marks k ≠ [] := fun e => by rw [e] at hb; nomatch hb
      have hnd : ((stepOf ab (runK ab marks k).1 marks k).map (·.1)).Nodup := by
        rcases bfs_ends ab 7 _ [] hqp with e | ⟨p, h, l, -, e, -⟩
        · exact absurd e hne
        · exact e
      obtain ⟨k1, k2, k3, k4⟩ := aug _ hb hnd x.apart x.edges hni
      rw [if_neg hne]
      obtain ⟨Ml, m1, m2, m3⟩ := x.ml
      obtain ⟨Z, y1, y2, y3⟩ := x.shut
      refine ⟨k1, k2, ⟨startOf marks k :: Ml, List.nodup_cons.mpr ⟨fun h => hni ((m3 _).mp h), m1⟩, by rw [List.length_cons, m2], fun l => ?_⟩, fun l h => ?_, ⟨Z, k4 Z y1, fun l h => (y2 l h).succ, fun l h => ?_⟩⟩
      · rw [List.mem_cons, k3, m3]
      · rcases (k3 l).mp h with rfl | h
        · exact ⟨k, by omega, rfl⟩
        · exact (x.imgs l h).succ
      · rcases tried_succ h with rfl | h
        · exact .inr ((k3 _).mpr (.inl rfl))
        · exact (y3 l h).imp id fun q => (k3 l).mpr (.inr q)
theorem tried_lt {marks : Int} {k l : Nat} (h : Tried marks k l) : l < 6 := by
  obtain ⟨j, -, rfl⟩ := h
  exact start_lt marks j
theorem nodup_map_on {α β : Type} (f : α → β) : ∀ (l : List α), l.Nodup → (∀ a ∈ l, ∀ b ∈ l, f a = f b → a = b) → (l.map f).Nodup
  | [], _, _ => List.nodup_nil
  | a :: r, h, hf => by
    have h' := List.nodup_cons.mp h
    rw [List.map_cons, List.nodup_cons]
    refine ⟨fun hm => ?_, nodup_map_on f r h'.2 fun x hx y hy => hf x (.tail _ hx) y (.tail _ hy)⟩
    obtain ⟨b, hb, e⟩ := List.mem_map.mp hm
    exact h'.1 (hf b (.tail _ hb) a (.head _) e ▸ hb)
/-- no row of places that do not meet is longer than 6 - found -/
theorem weak {ab : Nat → Nat → Bool} {marks : Int} {μ : Nat → Option Nat} {found : Nat} (ht : ∀ i j k, i < 6 → j < 6 → k < 6 → ab i j = true → ab j k = true → ab i k = true) (x : RunOk ab marks 6 μ found)
    {I : List Nat} (hn : I.Nodup) (h6 : ∀ a ∈ I, a < 6) (ha : ∀ a ∈ I, ∀ b ∈ I, ¬ ab a b = true) : I.length + found ≤ 6 := by
  classical
  obtain ⟨Ml, m1, m2, m3⟩ := x.ml
  have hex : ∀ l, ∃ h, l ∈ Ml → h < 6 ∧ μ h = some l := fun l => by
    by_cases hl : l ∈ Ml
    · obtain ⟨h, a, b⟩ := (m3 l).mp hl
      exact ⟨h, fun _ => ⟨a, b⟩⟩
    · exact ⟨0, fun q => absurd q hl⟩
  let mt : Nat → Nat := fun l => Classical.choose (hex l)
  have hmt : ∀ l ∈ Ml, mt l < 6 ∧ μ (mt l) = some l := fun l hl => Classical.choose_spec (hex l) hl
  have hl6 : ∀ l ∈ Ml, l < 6 := fun l hl => tried_lt (x.imgs l ((m3 l).mp hl))
  let Up : Nat → Prop := fun z => ∃ a ∈ I, ab a z = true
  let f : Nat → Nat := fun l => if l ∈ I ∨ Up l then mt l else l
  have hup : ∀ l ∈ Ml, (l ∈ I ∨ Up l) → Up (mt l) := by
    intro l hl hc
    have he := x.edges _ _ (hmt l hl).1 (hmt l hl).2
    rcases hc with hc | ⟨a, hA, hb⟩
    · exact ⟨l, hc, he⟩
    · exact ⟨a, hA, ht a l (mt l) (h6 a hA) (hl6 l hl) (hmt l hl).1 hb he⟩
  have hUI : ∀ z, Up z → z ∉ I := by
    rintro z ⟨a, hA, hb⟩ hz
    exact ha a hA z hz hb
  have hfI : ∀ l ∈ Ml, f l ∉ I := by
    intro l hl
    by_cases hc : l ∈ I ∨ Up l
    · rw [show f l = mt l from if_pos hc]
      exact hUI _ (hup l hl hc)
    · rw [show f l = l from if_neg hc]
      exact fun q => hc (.inl q)
  have hf6 : ∀ l ∈ Ml, f l < 6 := by
    intro l hl
    by_cases hc : l ∈ I ∨ Up l
    · rw [show f l = mt l from if_pos hc]
      exact (hmt l hl).1
    · rw [show f l = l from if_neg hc]
      exact hl6 l hl
  have hinj : ∀ a ∈ Ml, ∀ b ∈ Ml, f a = f b → a = b := by
    intro a hA b hB e
    by_cases h1 : a ∈ I ∨ Up a <;> by_cases h2 : b ∈ I ∨ Up b
    · rw [show f a = mt a from if_pos h1, show f b = mt b from if_pos h2] at e
      have q1 := (hmt a hA).2
      have q2 := (hmt b hB).2
      rw [e, q2] at q1
      exact (Option.some.inj q1).symm
    · rw [show f a = mt a from if_pos h1, show f b = b from if_neg h2] at e
      exact absurd (.inr (e ▸ hup a hA h1)) h2
    · rw [show f a = a from if_neg h1, show f b = mt b from if_pos h2] at e
      exact absurd (.inr (e ▸ hup b hB h2)) h1
    · rwa [show f a = a from if_neg h1, show f b = b from if_neg h2] at e
  have hnd : (I ++ Ml.map f).Nodup := by
    rw [List.nodup_append]
    refine ⟨hn, nodup_map_on f Ml m1 hinj, fun a hA b hb e => ?_⟩
    obtain ⟨l, hl, rfl⟩ := List.mem_map.mp hb
    exact hfI l hl (e ▸ hA)
  have := hnd.length_le_of_subset (l₂ := List.range 6) fun z hz => by
    rw [List.mem_range]
    rcases List.mem_append.mp hz with hz | hz
    · exact h6 z hz
    · obtain ⟨l, hl, rfl⟩ := List.mem_map.mp hz
      exact hf6 l hl
  rw [List.length_append, List.length_map, List.length_range, m2] at this
  exact this
/-- and one is as long -/
theorem strong {ab : Nat → Nat → Bool} {marks : Int} {μ : Nat → Option Nat} {found : Nat} (x : RunOk ab marks 6 μ found) : ∃ I : List Nat, I.Sublist (List.range 6) ∧ (∀ a ∈ I, ∀ b ∈ I, ¬ ab a b = true) ∧ 6 ≤ I.length + found := by
  classical
  obtain ⟨Ml, m1, m2, m3⟩ := x.ml
  obtain ⟨Z, z1, z2, z3⟩ := x.shut
  let Nb : Nat → Prop := fun h => ∃ l, Z l ∧ ab l h = true
  let I := (List.range 6).filter fun z => decide (Z z ∧ ¬ Nb z)
  let N := (List.range 6).filter fun z => decide (Nb z)
  let ZL := (List.range 6).filter fun z => decide (Z z)
  let U := (List.range 6).filter fun z => decide (z ∉ Ml)
  have hI : ∀ z, z ∈ I ↔ z < 6 ∧ Z z ∧ ¬ Nb z := fun z => by simp [I]
  have hN : ∀ z, z ∈ N ↔ z < 6 ∧ Nb z := fun z => by simp [N]
  have hZL : ∀ z, z ∈ ZL ↔ z < 6 ∧ Z z := fun z => by simp [ZL]
  have hU : ∀ z, z ∈ U ↔ z < 6 ∧ z ∉ Ml := fun z => by simp [U]
  have nd6 : (List.range 6).Nodup := List.nodup_range
  have hUn : U.Nodup := nd6.sublist List.filter_sublist
  have hNn : N.Nodup := nd6.sublist List.filter_sublist
  have hZn : ZL.Nodup := nd6.sublist List.filter_sublist
  have hex : ∀ h, ∃ l, h ∈ N → μ h = some l ∧ Z l := fun h => by
    by_cases hh : h ∈ N
    · obtain ⟨h6, l, hl, ha⟩ := (hN h).mp hh
      obtain ⟨l', a, b⟩ := z1 l hl h h6 ha
      exact ⟨l', fun _ => ⟨a, b⟩⟩
    · exact ⟨0, fun q => absurd q hh⟩
  let mt : Nat → Nat := fun h => Classical.choose (hex h)
  have hmt : ∀ h ∈ N, μ h = some (mt h) ∧ Z (mt h) := fun h hh => Classical.choose_spec (hex h) hh
  refine ⟨I, List.filter_sublist, fun a ha b hb e => ((hI b).mp hb).2.2 ⟨a, ((hI a).mp ha).2.1, e⟩, ?_⟩
  have c1 : 6 ≤ U.length + Ml.length := by
    have := nd6.length_le_of_subset (l₂ := U ++ Ml) fun z hz => by
      by_cases hm : z ∈ Ml
      · exact List.mem_append_right _ hm
      · exact List.mem_append_left _ ((hU z).mpr ⟨List.mem_range.mp hz, hm⟩)
    rwa [List.length_append, List.length_range] at this
  have c2 : ZL.length ≤ I.length + N.length := by
    have := hZn.length_le_of_subset (l₂ := I ++ N) fun z hz => by
      obtain ⟨h6, hZ⟩ := (hZL z).mp hz
      by_cases hm : Nb z
      · exact List.mem_append_right _ ((hN z).mpr ⟨h6, hm⟩)
      · exact List.mem_append_left _ ((hI z).mpr ⟨h6, hZ, hm⟩)
    rwa [List.length_append] at this
  have c3 : U.length + N.length ≤ ZL.length := by
    have hinj : ∀ a ∈ N, ∀ b ∈ N, mt a = mt b → a = b := fun a ha b hb e => x.apart a b (mt a) ((hN a).mp ha).1 ((hN b).mp hb).1 (hmt a ha).1 (e ▸ (hmt b hb).1)
    have hnd : (U ++ N.map mt).Nodup := by
      rw [List.nodup_append]
      refine ⟨hUn, nodup_map_on mt N hNn hinj, fun a ha b hb e => ?_⟩
      obtain ⟨h, hh, rfl⟩ := List.mem_map.mp hb
      exact ((hU a).mp ha).2 (e ▸ (m3 _).mpr ⟨h, ((hN h).mp hh).1, (hmt h hh).1⟩)
    have := hnd.length_le_of_subset (l₂ := ZL) fun z hz => by
      rcases List.mem_append.mp hz with hz | hz
      · obtain ⟨h6, hm⟩ := (hU z).mp hz
        exact (hZL z).mpr ⟨h6, (z3 z (tried_all marks z h6)).resolve_right fun q => hm ((m3 z).mpr q)⟩
      · obtain ⟨h, hh, rfl⟩ := List.mem_map.mp hz
        exact (hZL _).mpr ⟨tried_lt (z2 _ (hmt h hh).2), (hmt h hh).2⟩
    rwa [List.length_append, List.length_map] at this
  omega

end
section
theorem final_wid (wds : List (List Nat)) (marks : Int) (h6 : wds.length = 6) (h3 : ∀ x ∈ wds, x.length ≤ 3) (hal : ∀ x ∈ wds, ∀ c ∈ x, c = 97 ∨ c = 65 ∨ c = 98) (M : Nat) (h : IsWidest wds M) : (6 : Int) - ((runK (isAb wds) marks 6).2 : Nat) = (M : Int) := by
  have x : WdsOk wds := ⟨h6, h3, hal⟩
  obtain ⟨found, hf⟩ : ∃ n, n = (runK (isAb wds) marks 6).2 := ⟨_, rfl⟩
  obtain ⟨μ, hm⟩ : ∃ μ, μ = mu (runK (isAb wds) marks 6).1 := ⟨_, rfl⟩
  have r : RunOk (isAb wds) marks 6 μ found := by
    rw [hf, hm]
    exact run_ok6 (isAb wds) marks 6 (Nat.le_refl _)
  rw [← hf]
  clear hf hm
  obtain ⟨⟨I, i1, i2, i3⟩, hmax⟩ := widest_iff x h
  have ht : ∀ i j k, i < 6 → j < 6 → k < 6 → isAb wds i j = true → isAb wds j k = true → isAb wds i k = true := fun i j k a b c => ab_trans x a b c
  have hw := weak ht r (i1.nodup List.nodup_range) (fun a ha => List.mem_range.mp (i1.subset ha)) i2
  obtain ⟨J, j1, j2, j3⟩ := strong r
  have := hmax J j1 j2
  omega

end
section
theorem sumOf_int (sh : Nat) (l : List Int) : (List.map (fun p : Int => ((2 ^ (p.toNat + sh) : Nat) : Int)) l).sum = ((sumOf sh l : Nat) : Int) := by
  unfold sumOf
  induction l with
  | nil => rfl
  | cons a r ih => rw [List.map_cons, List.sum_cons, ih, List.map_cons, List.sum_cons]; push_cast; rfl
theorem pow_sh (z sh : Int) (hz : 0 ≤ z) (hs : 0 ≤ sh) : (2 : Int) ^ (z + sh).toNat = ((2 ^ (z.toNat + sh.toNat) : Nat) : Int) := by
  rw [show (z + sh).toNat = z.toNat + sh.toNat by omega]
  norm_cast
theorem names_at (sh z : Int) (h0 : 0 ≤ z) (h6 : z < ((6 : Nat) : Int)) : ((List.range 6).map fun i => nmOf (sh.toNat + i)).getD z.toNat [] = nmOf (sh.toNat + z.toNat) := by
  have : z.toNat < 6 := by omega
  rw [List.getD_eq_getElem?_getD, List.getElem?_map, List.getElem?_range this]
  rfl
theorem held_at (wds : List (List Nat)) (sh i : Nat) (h6 : i < 6) : ((List.range 6).map fun i => heldOf wds sh i).getD i [] = heldOf wds sh i := by
  rw [List.getD_eq_getElem?_getD, List.getElem?_map, List.getElem?_range h6]
  rfl
theorem told_asc (wds : List (List Nat)) (sh : Nat) (hw : wds.length = 6) (hs : sh < 27) : ∀ x ∈ (List.range 6).map (fun i => toldOf wds sh i), ∀ c ∈ x, c < 128 := by
  intro x hx c hc
  obtain ⟨k, hk, rfl⟩ := List.mem_map.mp hx
  have := (told_ch wds sh k hw hs).2 c hc
  omega
theorem rest_int (q : Nat) : (2 : Int) ^ Int.toNat 31 + 2 ^ Int.toNat 32 * (q : Int) = ((2147483648 + 4294967296 * q : Nat) : Int) := by
  rw [show (2 : Int) ^ Int.toNat 31 = 2147483648 from by decide +kernel, show (2 : Int) ^ Int.toNat 32 = 4294967296 from by decide +kernel]
  omega
theorem pf_rest_fin : ∀ q : Fin 10, 1 ≤ q.val → Mine.T (pfOf (2147483648 + 4294967296 * q.val)) = Str.ofString "0x80000000, 0x" ++ Str.ofString (toString ((q.val : Nat) : Int)) ++ Txt.mul (Str.ofString "0") 8 := by
  decide +kernel
theorem pf_rest (q : Nat) (h1 : 1 ≤ q) (h9 : q ≤ 9) : Mine.T (pfOf (2147483648 + 4294967296 * q)) = Str.ofString "0x80000000, 0x" ++ Str.ofString (toString (q : Int)) ++ Txt.mul (Str.ofString "0") 8 :=
  pf_rest_fin ⟨q, by omega⟩ h1
theorem blanks_int (c : Int) : ([4, 0, 4] : List Int).getD ((c.fdiv 9).fmod 3).toNat 0 = ((blanksOf c : Nat) : Int) ∧ blanksOf c ≤ 4 := by
  unfold blanksOf
  match ((c.fdiv 9).fmod 3).toNat with
  | 0 => exact ⟨rfl, by decide⟩
  | 1 => exact ⟨rfl, by decide⟩
  | 2 => exact ⟨rfl, by decide⟩
  | n + 3 => exact ⟨rfl, Nat.zero_le _⟩
theorem run_ok (ab : Nat → Nat → Bool) (marks : Int) (k : Nat) (hk : k ≤ 5) : MatesOk (runK ab marks k).1 ∧ (runK ab marks k).1.length ≤ 40 := by
  have := run_len ab marks k
  exact ⟨run_mates ab marks k, by omega⟩
theorem get_ways (f : Nat → List Nat) : ∀ low, low < 6 → getOf [80 + low] ((List.range 6).map fun k => ([112 + k], f k)) = some (f low) := by
  intro low hl
  have : low = 0 ∨ low = 1 ∨ low = 2 ∨ low = 3 ∨ low = 4 ∨ low = 5 := by omega
  rcases this with rfl | rfl | rfl | rfl | rfl | rfl <;> rfl
theorem mates_asc (kv : List (List Nat × List Nat)) (h : MatesOk kv) : ∀ l ∈ kv, (∀ c ∈ l.1, c < 128) ∧ ∀ c ∈ l.2, c < 128 := by
  intro l hl
  obtain ⟨a, b, ha, hb, rfl⟩ := h l hl
  refine ⟨fun c hc => ?_, fun c hc => ?_⟩
  · obtain rfl := List.mem_singleton.mp hc
    split <;> omega
  · obtain rfl := List.mem_singleton.mp hc
    omega
theorem final_len (wds : List (List Nat)) (marks : Int) (h6 : wds.length = 6) : (runK (isAb wds) marks 6).1.length = (runK (isAb wds) marks 6).2 ∧ (runK (isAb wds) marks 6).2 ≤ 6 := by
  have h1 := (run_inv (isAb wds) marks 6).2
  have h2 := run_le (isAb wds) marks 6
  exact ⟨h1, h1 ▸ h2⟩

end
section
local macro_rules | `(tactic| walk_at "MY inst") => `(tactic| (apply_assumption; exact Fr.keep (by assumption)))
local macro_rules | `(tactic| walk_at "MY noname") => `(tactic| (apply_assumption; decide))
local macro_rules | `(tactic| walk_at "getMethod ref") => `(tactic| (refine method_inst (by k_asm) (by k_asm) (by walk_at "MY inst") (by k_is) (by k_is) (by k_is) (by walk_at "MY noname") ?_; k_whole))
local macro_rules | `(tactic| walk_at "getAttr ref") => `(tactic| (
  (with_reducible show wpAny _ _ (getAttr (Value.ref _) (PySem.Str.ofString "_headers") _) _ _ _);
  refine get_own (by k_asm) (by k_asm) (by walk_at "MY inst") (by k_is) (by k_is) (by k_is) (by k_is) (by assumption) (by k_handed) ?_; k_whole))
local macro_rules | `(tactic| walk_at "call builtin:str.lower") => `(tactic| ((with_reducible show wpAny _ _ (call (Value.builtin "str.lower") [Value.str (Mine.T _) _]) _ _ _); refine low_T (by assumption) (by first | assumption | omega) ?_))
local macro_rules | `(tactic| walk_at "compareOp NotEq ref ref") => `(tactic| refine ne_nil (News.isList (by assumption) (by kcf_m)) (News.isList (by assumption) (by kcf_m)) (by walk_at "MY rm") ?_)
local macro_rules | `(tactic| walk_at "MY st1") => `(tactic| (fail_if_success (with_reducible first | refine gApp ?_ | refine gPop ?_ | refine gTup ?_ | refine gGet ?_ | refine gIdx ?_ | refine gSplit ?_ | refine gAdd ?_)))
theorem off1_of {D : Addr} {l : List (Addr × Obj)} (h : ∀ p ∈ l, p.1 ≠ D) : LCg.Off1 D l := by
  induction l with
  | nil => exact trivial
  | cons q r ih => exact ⟨h q (.head _), ih fun p hp => h p (.tail _ hp)⟩
theorem Spec.useN {w : World} {f : Addr} {vs : List Value} {dd uu : Nat} {s : Shared} {Post : Value → Heap → Prop} (h : Spec w f vs dd uu s Post)
    {A : Around} {mean : ExcName → Option Value} {mg mb : Str → Option Value} {dp un : Nat} {gd : Option (List Code)} {cn : Str} {nm : List (Str × NameKind)} {ig ic : Bool} {mo : List (Str × Const)} {a : Addr} {ccd : Value} {cl : List (Str × Addr)} {outer : List Env} {A₀ : Around} {base h₀ : Heap} {L : Addr} {m : Str → Option Value} {news : List (Addr × Obj)} {Q E : Value → Shared → Prop}
    (hA : A = ktrTop dp un gd cn ⟨.function, nm, ig, ic, mo⟩ L a ccd cl outer)
    (B : Below A₀ base outer h₀) (F : Fr h₀ L s.heap m) (N : News h₀ L s.heap news) (X : (hd.heap_39 w.params).In h₀) (Tp : Top VW LO mean mg mb h₀)
    (hd : dp + dd < recursionLimit) (hu : un + uu < cLine)
    (k : ∀ v h' tk', Keep s.heap h' → Fr h₀ L h' m → News h₀ L h' news → (∀ c o l, s.heap.get? c = none → h'.get? c = some o → News h₀ L h' l → News h₀ L h' ((c, o) :: l)) → (∀ c, s.heap.get? c = none → LCg.Off1 c news) → Post v h' → Q v { s with heap := h', toks := tk' }) :
    wpAny (model PR w) A (call (.ref f) vs) Q E s := by
  refine Spec.use h hA B F N X Tp hd hu fun v h' tk' hk F' N' hp => k v h' tk' hk F' N' (fun c o l e1 e2 Nl p hp => ?_) (fun c e1 => off1_of fun p hp e => ?_) hp
  · rcases List.mem_cons.mp hp with rfl | hp
    · refine ⟨e2, fun q => ?_, Option.eq_none_iff_forall_ne_some.mpr fun x e => ?_⟩
      · obtain ⟨oL, _, _, hoL, _⟩ := F.ns
        rw [show c = L from q, hoL] at e1
        cases e1
      · rw [F.keep _ _ e] at e1
        cases e1
    · exact Nl p hp
  · rw [← e, (N p hp).1] at e1
    cases e1
theorem SpecG.useN {w : World} {f : Addr} {vs : List Value} {dd uu : Nat} {s : Shared} {Post : Value → Heap → Prop} (h : SpecG w f vs dd uu s Post)
    {A : Around} {mean : ExcName → Option Value} {mg mb : Str → Option Value} {dp un : Nat} {gd : Option (List Code)} {cn : Str} {nm : List (Str × NameKind)} {ig ic : Bool} {mo : List (Str × Const)} {a : Addr} {ccd : Value} {cl : List (Str × Addr)} {outer : List Env} {A₀ : Around} {base h₀ : Heap} {L : Addr} {m : Str → Option Value} {news : List (Addr × Obj)} {Q E : Value → Shared → Prop}
    (hA : A = ktrTop dp un gd cn ⟨.function, nm, ig, ic, mo⟩ L a ccd cl outer)
    (B : Below A₀ base outer h₀) (F : Fr h₀ L s.heap m) (N : News h₀ L s.heap news) (X : (hd.heap_39 w.params).In h₀) (Tp : Top VW LO mean mg mb h₀)
    (hd : dp + dd < recursionLimit) (hu : un + uu < cLine)
    (k : ∀ v h' tk' G', (AllBare s.gens → AllBare G') → Fr h₀ L h' m → News h₀ L h' news → (∀ c o l, s.heap.get? c = none → h'.get? c = some o → News h₀ L h' l → News h₀ L h' ((c, o) :: l)) → (∀ c, s.heap.get? c = none → LCg.Off1 c news) → Post v h' → Q v { s with heap := h', gens := G', toks := tk' }) :
    wpAny (model PR w) A (call (.ref f) vs) Q E s := by
  subst hA
  refine h mean mg mb ⟨dp, un, gd, cn, nm, ig, ic, mo, L, a, ccd, cl, outer⟩ A₀ base h₀ m Q E B F X Tp hd hu fun v h' tk' G' hk hB hp => k v h' tk' G' hB (F.keeps hk) (N.grown hk) (fun c o l e1 e2 Nl p hp => ?_) (fun c e1 => off1_of fun p hp e => ?_) hp
  · rcases List.mem_cons.mp hp with rfl | hp
    · refine ⟨e2, fun q => ?_, Option.eq_none_iff_forall_ne_some.mpr fun x e => ?_⟩
      · obtain ⟨oL, _, _, hoL, _⟩ := F.ns
        rw [show c = L from q, hoL] at e1
        cases e1
      · rw [F.keep _ _ e] at e1
        cases e1
    · exact Nl p hp
  · rw [← e, (N p hp).1] at e1
    cases e1
theorem TxtsAre.rev {vs : List Value} {ls : List (List Nat)} (h : TxtsAre vs ls) : TxtsAre vs.reverse ls.reverse := by
  induction h with
  | nil => exact .nil
  | cons l t _ ih => rw [List.reverse_cons, List.reverse_cons]; exact ih.snoc l t
theorem pick_take6 (vs : List Value) (h : 6 ≤ vs.length) : slicePick vs.toArray none (some 6) none = (vs.take 6).toArray := by
  unfold slicePick
  have e1 : (sliceBounds none (some 6) none vs.toArray.size).1 = ((0 : Nat) : Int) := rfl
  have e2 : (sliceBounds none (some 6) none vs.toArray.size).2.1 = ((6 : Nat) : Int) := by
    show max (0 : Int) (min 6 (vs.toArray.size : Int)) = _
    rw [List.size_toArray]
    omega
  have e3 : (sliceBounds none (some 6) none vs.toArray.size).2.2 = 1 := rfl
  rw [e1, e2, e3, sliceRange_one]
  congr 1
  rw [Nat.sub_zero, show (fun x => (0 : Nat) + x) = id from funext fun x => by simp, List.map_id]
  simpa using filterMap_get_take vs 6
theorem slice_take6 {prog : Program} {w : World} {A : Around} {E : Value → Shared → Prop} {h₀ : Heap} {L : Addr} {m : Str → Option Value} {news : List (Addr × Obj)} {value slice : Expr} {l : Addr} {vs : List Value} {t : Tok} {hp : Heap} {G : Array GenState} {d : Drawn} {tk : Nat} {os : OsState} {Q : Value → Shared → Prop}
    (F : Fr h₀ L hp m) (N : News h₀ L hp news) (hl : hp.IsList l vs.toArray) (h6 : 6 ≤ vs.length) (h9 : vs.length ≤ 1000)
    (h : ∀ h' c, Fr h₀ L h' m → News h₀ L h' ((c, listOf (vs.take 6).toArray 0) :: news) → Q (.ref c) ⟨h', G, d, tk, os⟩)
    (hs : subscripted slice false (.ref l) (.ref hp.objs.size) = operate [.ref hp.objs.size, .ref l] (getItem (.ref l) (.ref hp.objs.size)) := by with_unfolding_all rfl)
    (ht : ∀ r, letTemporaryGo value (.ref l) r = pure () := by intro _; with_unfolding_all rfl) :
    wpAny (model prog w) A (subscriptTail value slice (.ref l) (.ref hp.objs.size)) Q E ⟨hp.push { cls := .type "slice", data := .fields #[.none, .int 6 t, .none] }, G, d, tk, os⟩ :=
  slice_list (s := ⟨hp, G, d, tk, os⟩) (hsz := by rw [List.size_toArray, sizeLine_eq]; omega) F N hl .none (.int _ _) (fun h' F' N' => h h' _ F' (by rw [pick_take6 vs h6] at N'; exact N')) hs ht
theorem TxtsAre.take {vs : List Value} {ls : List (List Nat)} (h : TxtsAre vs ls) : ∀ n, TxtsAre (vs.take n) (ls.take n) := by
  induction h with
  | nil => intro n; simp; exact .nil
  | cons l t _ ih =>
    intro n
    cases n with
    | zero => exact .nil
    | succ n => exact .cons l t (ih n)
theorem item_tri {prog : Program} {w : World} {A : Around} {E : Value → Shared → Prop} {s : Shared} {value slice : Expr} {t : Addr} {a b c : Int} {ta tb tc : Tok} {k : Int} {u : Tok} {Q : Value → Shared → Prop} (ht : IsTup s.heap t #[.int a ta, .int b tb, .int c tc])
    (h0 : 0 ≤ k) (h1 : k < 3) (h : ∀ t', Q (.int ([a, b, c].getD k.toNat 0) t') s)
    (hs : subscripted slice false (.ref t) (.int k u) = operate [.ref t, .int k u] (getItem (.ref t) (.int k u)) := by with_unfolding_all rfl) :
    wpAny (model prog w) A (subscriptTail value slice (.ref t) (.int k u)) Q E s := by
  have h3 : k = 0 ∨ k = 1 ∨ k = 2 := by omega
  rcases h3 with rfl | rfl | rfl
  · exact item_tupleT (l := [.int a ta, .int b tb, .int c tc]) ht (by omega) (by omega) (j := 0) rfl rfl (h _) hs
  · exact item_tupleT (l := [.int a ta, .int b tb, .int c tc]) ht (by omega) (by omega) (j := 1) rfl rfl (h _) hs
  · exact item_tupleT (l := [.int a ta, .int b tb, .int c tc]) ht (by omega) (by omega) (j := 2) rfl rfl (h _) hs
theorem fold_rep (v : Value) : ∀ (n : Nat) (a : Array Value), List.foldl (fun x1 x2 => x1 ++ x2) a (List.replicate n #[v]) = a ++ (List.replicate n v).toArray
  | 0, a => by simp
  | n + 1, a => by
    rw [List.replicate_succ, List.foldl_cons, fold_rep v n, List.replicate_succ]
    apply Array.ext'
    simp
theorem mul_one {prog : Program} {w : World} {A : Around} {E : Value → Shared → Prop} {s : Shared} {h₀ : Heap} {L : Addr} {m : Str → Option Value} {news : List (Addr × Obj)} {l : Addr} {v : Value} {k : Nat} {x : Int} {u : Tok} {Q : Value → Shared → Prop}
    (Fm : Fr h₀ L s.heap m) (N : News h₀ L s.heap news) (hl : s.heap.get? l = some (listOf #[v] k)) (h0 : 0 ≤ x) (h1 : x < 1000)
    (h : ∀ h' c, Fr h₀ L h' m → News h₀ L h' ((c, listOf (List.replicate x.toNat v).toArray 0) :: news) → Q (.ref c) { s with heap := h' }) :
    wpAny (model prog w) A (binaryOp .Mult (.ref l) (.int x u)) Q E s :=
  mul_list Fm N hl (by omega) (by omega) (by simp; omega) fun h' F' N' => h h' _ F' (by rw [if_neg (by simp), fold_rep] at N'; simpa using N')
theorem txts_rep (t : Tok) : ∀ n : Nat, TxtsAre (List.replicate n (.str (Str.ofString "") t)) (List.replicate n [])
  | 0 => .nil
  | n + 1 => .cons [] t (txts_rep t n)
theorem map_take_succ {α β : Type} (f : α → β) (l : List α) (i : Nat) (h : i < l.length) : (l.take (i + 1)).map f = (l.take i).map f ++ [f l[i]] := by
  rw [List.take_add_one, List.getElem?_eq_getElem h, List.map_append]
  rfl
theorem decide_rev (a b c d e f : Value) : slicePick [a, b, c, d, e, f].toArray none none (some (-1)) = [a, b, c, d, e, f].reverse.toArray := by
  unfold slicePick
  have e1 : sliceBounds none none (some (-1)) [a, b, c, d, e, f].toArray.size = (5, -1, -1) := by
    show sliceBounds none none (some (-1)) 6 = _
    decide +kernel
  rw [e1]
  have e2 : sliceRange 5 (-1) (-1) = [5, 4, 3, 2, 1, 0] := by decide +kernel
  simp only [e2]
  rfl
theorem pick_rev6 (vs : List Value) (h : vs.length = 6) : slicePick vs.toArray none none (some (-1)) = vs.reverse.toArray := by
  obtain ⟨a, r, rfl⟩ := List.exists_cons_of_length_eq_add_one h
  obtain ⟨b, r, rfl⟩ := List.exists_cons_of_length_eq_add_one (Nat.succ.inj h)
  obtain ⟨c, r, rfl⟩ := List.exists_cons_of_length_eq_add_one (Nat.succ.inj (Nat.succ.inj h))
  obtain ⟨d, r, rfl⟩ := List.exists_cons_of_length_eq_add_one (Nat.succ.inj (Nat.succ.inj (Nat.succ.inj h)))
  obtain ⟨e, r, rfl⟩ := List.exists_cons_of_length_eq_add_one (Nat.succ.inj (Nat.succ.inj (Nat.succ.inj (Nat.succ.inj h))))
  obtain ⟨f, r, rfl⟩ := List.exists_cons_of_length_eq_add_one (Nat.succ.inj (Nat.succ.inj (Nat.succ.inj (Nat.succ.inj (Nat.succ.inj h)))))
  obtain rfl := List.eq_nil_of_length_eq_zero (Nat.succ.inj (Nat.succ.inj (Nat.succ.inj (Nat.succ.inj (Nat.succ.inj (Nat.succ.inj h))))))
  exact decide_rev a b c d e f
theorem slice_rev6 {prog : Program} {w : World} {A : Around} {E : Value → Shared → Prop} {h₀ : Heap} {L : Addr} {m : Str → Option Value} {news : List (Addr × Obj)} {value slice : Expr} {l : Addr} {vs : List Value} {t : Tok} {ops : List Value} {hp : Heap} {G : Array GenState} {d : Drawn} {tk : Nat} {os : OsState} {Q : Value → Shared → Prop}
    (F : Fr h₀ L hp m) (N : News h₀ L hp news) (hl : hp.IsList l vs.toArray) (h6 : vs.length = 6)
    (h : ∀ h' c, Fr h₀ L h' m → News h₀ L h' ((c, listOf vs.reverse.toArray 0) :: news) → Q (.ref c) ⟨h', G, d, tk, os⟩)
    (hs : subscripted slice false (.ref l) (.ref hp.objs.size) = operate ops (getItem (.ref l) (.ref hp.objs.size)) := by with_unfolding_all rfl)
    (ht : ∀ r, letTemporaryGo value (.ref l) r = pure () := by intro _; with_unfolding_all rfl) :
    wpAny (model prog w) A (subscriptTail value slice (.ref l) (.ref hp.objs.size)) Q E ⟨hp.push { cls := .type "slice", data := .fields #[.none, .none, .int (-1) t] }, G, d, tk, os⟩ :=
  slice_list3 (s := ⟨hp, G, d, tk, os⟩) (hsz := by rw [List.size_toArray, h6, sizeLine_eq]; omega) F N hl .none .none (.int _ _) (by decide) (fun h' F' N' => h h' _ F' (by rw [pick_rev6 vs h6] at N'; exact N')) hs ht
theorem off3_of {I C D : Addr} : ∀ {l : List (Addr × Obj)}, (∀ p ∈ l, p.1 ≠ I ∧ p.1 ≠ C ∧ p.1 ≠ D) → LCg.Off3 I C D l := by
  intro l
  induction l with
  | nil => exact fun _ => trivial
  | cons q r ih => exact fun h => ⟨h q (.head _), ih fun p hp => h p (.tail _ hp)⟩
theorem off3_ins {I C D c9 : Addr} {oI oC oD o9 : Obj} {pre post rest : List (Addr × Obj)} (h : LCg.Off3 I C D (pre ++ post)) (h9 : LCg.Off1 c9 ((I, oI) :: (C, oC) :: (D, oD) :: rest)) : LCg.Off3 I C D (pre ++ (c9, o9) :: post) := by
  refine off3_of fun p hp => ?_
  have m := off1_mem h9
  rcases List.mem_append.mp hp with hp | hp
  · exact LCg.Off3.mem h p (List.mem_append_left _ hp)
  rcases List.mem_cons.mp hp with rfl | hp
  · exact ⟨Ne.symm (m (I, oI) (.head _)), Ne.symm (m (C, oC) (.tail _ (.head _))), Ne.symm (m (D, oD) (.tail _ (.tail _ (.head _))))⟩
  · exact LCg.Off3.mem h p (List.mem_append_right _ hp)
/-- rows of numbers -/
inductive RowsI (P : Addr → Obj → Prop) : List Value → List (List Int) → Prop
  | nil : RowsI P [] []
  | cons (c : Addr) (us : List Value) (n : Nat) (row : List Int) {vs : List Value} {rows : List (List Int)} : P c (listOf us.toArray n) → IntsAre us row → RowsI P vs rows → RowsI P (.ref c :: vs) (row :: rows)
theorem RowsI.mono {P P' : Addr → Obj → Prop} {vs : List Value} {rows : List (List Int)} (x : RowsI P vs rows) (k : ∀ b o, P b o → P' b o) : RowsI P' vs rows := by
  induction x with
  | nil => exact .nil
  | cons c us n row h1 h2 _ ih => exact .cons c us n row (k _ _ h1) h2 ih
theorem RowsI.snoc {P : Addr → Obj → Prop} {vs : List Value} {rows : List (List Int)} (x : RowsI P vs rows) {c : Addr} {us : List Value} {n : Nat} {row : List Int} (h1 : P c (listOf us.toArray n)) (h2 : IntsAre us row) : RowsI P (vs ++ [.ref c]) (rows ++ [row]) := by
  induction x with
  | nil => exact .cons c us n row h1 h2 .nil
  | cons c' us' n' row' h1' h2' _ ih => exact .cons c' us' n' row' h1' h2' ih
theorem RowsI.length {P : Addr → Obj → Prop} {vs : List Value} {rows : List (List Int)} (x : RowsI P vs rows) : vs.length = rows.length := by
  induction x with
  | nil => rfl
  | cons _ _ _ _ _ _ _ ih => simp [ih]
theorem RowsI.at {P : Addr → Obj → Prop} {vs : List Value} {rows : List (List Int)} (x : RowsI P vs rows) : ∀ {i : Nat} {v : Value}, vs[i]? = some v → ∃ (_ : i < rows.length) (c : Addr) (us : List Value) (n : Nat), v = .ref c ∧ P c (listOf us.toArray n) ∧ IntsAre us rows[i] := by
  induction x with
  | nil => intro i v e; simp at e
  | cons c us n row h1 h2 _ ih =>
    intro i v e
    cases i with
    | zero => exact ⟨by simp, c, us, n, by simpa using e.symm, h1, h2⟩
    | succ i =>
      obtain ⟨hi, c', us', n', e1, e2, e3⟩ := ih (by simpa using e)
      exact ⟨by simpa using hi, c', us', n', e1, e2, by simpa using e3⟩
theorem SpecC.use {w : World} {f : Addr} {vs : List Value} {kw : List (Str × Value)} {dd uu : Nat} {s : Shared} {wr : List Addr} {Post : Value → Heap → Prop} (h : SpecC w f vs kw dd uu s wr Post)
    {A : Around} {mean : ExcName → Option Value} {mg mb : Str → Option Value} {dp un : Nat} {gd : Option (List Code)} {cn : Str} {nm : List (Str × NameKind)} {ig ic : Bool} {mo : List (Str × Const)} {a : Addr} {ccd : Value} {cl : List (Str × Addr)} {outer : List Env} {A₀ : Around} {base h₀ : Heap} {L : Addr} {m : Str → Option Value} {news own rest : List (Addr × Obj)} {R : Result → Shared → Prop}
    (hA : A = ktrTop dp un gd cn ⟨.function, nm, ig, ic, mo⟩ L a ccd cl outer)
    (B : Below A₀ base outer h₀) (F : Fr h₀ L s.heap m) (N : News h₀ L s.heap news) (X : (hd.heap_39 w.params).In h₀) (Tp : Top VW LO mean mg mb h₀)
    (hd : dp + dd < recursionLimit) (hu : un + uu < cLine)
    (ho : wr = own.map (·.1)) (ho' : ∀ p ∈ own, p ∈ news) (hr : ∀ p ∈ rest, p ∈ news) (hx : ∀ p ∈ rest, p.1 ∉ wr)
    (k : ∀ v h' tk', (∀ b o, b ∉ wr → s.heap.get? b = some o → h'.get? b = some o) → Fr h₀ L h' m → News h₀ L h' rest → (∀ b ∈ wr, b ≠ L ∧ h₀.get? b = none) → Post v h' → R (.ok (.ret v)) { s with heap := h', toks := tk' }) :
    codeAny (model PR w) A (.call (.ref f) ⟨vs, kw⟩) R s := by
  subst hA
  have hw : ∀ b ∈ wr, b ≠ L ∧ h₀.get? b = none := fun b hb => by
    rw [ho] at hb
    obtain ⟨p, hp, rfl⟩ := List.mem_map.mp hb
    exact (N p (ho' p hp)).2
  refine h mean mg mb ⟨dp, un, gd, cn, nm, ig, ic, mo, L, a, ccd, cl, outer⟩ A₀ base h₀ m R B F hw X Tp hd hu fun v h' tk' hk hp => k v h' tk' hk ?_ ?_ hw hp
  · exact ⟨F.ns.at' fun o e => hk _ _ (fun q => (hw _ q).1 rfl) e, fun b o e => hk b o (fun q => by rw [(hw _ q).2] at e; cases e) (F.keep b o e), F.above⟩
  · exact fun p hp => ⟨hk _ _ (hx p hp) (N p (hr p hp)).1, (N p (hr p hp)).2⟩
theorem make_weight : Code.weight (.builtin "type.__call__" ⟨[.ref 220], []⟩) ≤ 3 := by decide +kernel
theorem make_units : Code.cUnits (.builtin "type.__call__" ⟨[.ref 220], []⟩) ≤ 3 := by decide +kernel
/-- a new Headers -/
theorem headers_new {w : World} {s : Shared} {A : Around} {mean : ExcName → Option Value} {mg mb : Str → Option Value} {dp un : Nat} {gd : Option (List Code)} {cn : Str} {nm : List (Str × NameKind)} {ig ic : Bool} {mo : List (Str × Const)} {a : Addr} {ccd : Value} {cl : List (Str × Addr)} {outer : List Env} {A₀ : Around} {base h₀ : Heap} {L : Addr} {m : Str → Option Value} {news : List (Addr × Obj)} {Q E : Value → Shared → Prop}
    (hA : A = ktrTop dp un gd cn ⟨.function, nm, ig, ic, mo⟩ L a ccd cl outer)
    (B : Below A₀ base outer h₀) (F : Fr h₀ L s.heap m) (N : News h₀ L s.heap news) (X : (hd.heap_39 w.params).In h₀) (Tp : Top VW LO mean mg mb h₀)
    (hdp : dp + 20 < recursionLimit) (hu : un + 200 < cLine)
    (k : ∀ x dx l es n h' tk, Fr h₀ L h' m → News h₀ L h' ((x, instObj 220 dx) :: (dx, dictOf es n) :: (l, listOf #[] 0) :: news) → getL (Str.ofString "_headers") es = some (some (Value.ref l)) → (∀ nm : Str, nm ≠ Str.ofString "_headers" → getL nm es = some none) →
      LCg.Off1 x news → LCg.Off1 dx news → x ≠ dx → LCg.Off1 l ((x, instObj 220 dx) :: (dx, dictOf es n) :: news) → Q (.ref x) { s with heap := h', toks := tk }) :
    wpAny (model PR w) A (call (.ref 220) [] []) Q E s := by
  subst hA
  refine' call_cls (K := hd.heap_39 w.params) (C := 220) (fI := 112) F X N ?k4 ?k5 ?k6 ?_
  case k4 => k_is
  case k5 => k_is
  case k6 => k_is
  intro x dx h3 F3 N3 l1 l2
  have hsub : ∀ p ∈ news, p ∈ (x, instObj 220 dx) :: (dx, dictOf [] 0) :: news := fun p hp => .tail _ (.tail _ hp)
  have hdx : ∀ p ∈ news, p.1 ≠ dx := fun p hp => Nat.ne_of_lt (l1 p hp)
  have hxx : ∀ p ∈ news, p.1 ≠ x := fun p hp => Nat.ne_of_lt (Nat.lt_trans (l1 p hp) l2)
  refine' SpecC.use (init_code w _ x dx (N3 _ (.head _)).1 (N3 _ (.tail _ (.head _))).1) (own := [(x, instObj 220 dx), (dx, dictOf [] 0)]) (rest := news) rfl B F3 N3 X Tp ?spD ?spU rfl ?ow hsub ?xx ?_
  case spD => (have := make_weight; show dp + Code.weight (.builtin "type.__call__" ⟨[.ref 220], []⟩) + 6 < _; omega)
  case spU => (have := make_units; show un + Code.cUnits (.builtin "type.__call__" ⟨[.ref 220], []⟩) + 100 < _; omega)
  case ow => (intro p hp; simp only [List.mem_cons, List.not_mem_nil, or_false] at hp ⊢; rcases hp with rfl | rfl <;> simp)
  case xx => (intro p hp; simp only [List.mem_cons, List.not_mem_nil, or_false, not_or]; exact ⟨hxx p hp, hdx p hp⟩)
  rintro v h4 tk4 hk4 F4 N4 hw4 ⟨e0, l, es, n, e1, e2, e3, e4, e5, e6⟩
  subst e0
  replace e5 : h3.get? l = none := e5
  refine ⟨rfl, ?_⟩
  have hl : ∀ p : Addr × Obj, h3.get? p.1 = some p.2 → p.1 ≠ l := fun p hp q => by rw [q, e5] at hp; cases hp
  refine k x dx l es n h4 tk4 F4 (fun p hp => ?_) e3 e4 (off1_of hxx) (off1_of hdx) (Nat.ne_of_gt l2) (off1_of fun p hp => ?_)
  · simp only [List.mem_cons] at hp
    rcases hp with rfl | rfl | rfl | hp
    · exact ⟨e1, (hw4 x (by simp)).1, (hw4 x (by simp)).2⟩
    · exact ⟨e2, (hw4 dx (by simp)).1, (hw4 dx (by simp)).2⟩
    · refine ⟨e6, fun q => ?_, Option.eq_none_iff_forall_ne_some.mpr fun o e => ?_⟩
      · obtain ⟨oL, _, _, hoL, _⟩ := F3.ns
        rw [show l = L from q, hoL] at e5
        cases e5
      · rw [F3.keep _ _ e] at e5
        cases e5
    · exact N4 p hp
  · simp only [List.mem_cons] at hp
    rcases hp with rfl | rfl | hp
    · exact hl (x, instObj 220 dx) (N3 _ (.head _)).1
    · exact hl (dx, dictOf [] 0) (N3 _ (.tail _ (.head _))).1
    · exact hl p (N3 _ (.tail _ (.tail _ hp))).1
/-- a Headers' own dict -/
noncomputable def HDict (es : List DictEntry) (l : Addr) : Prop := getL (Str.ofString "_headers") es = some (some (Value.ref l)) ∧ ∀ nm : Str, nm ≠ Str.ofString "_headers" → getL nm es = some none
theorem HDict.inst {es : List DictEntry} {l : Addr} (x : HDict es l) {h : Heap} {a dx : Addr} {n : Nat} (h1 : h.get? a = some (instObj 220 dx)) (h2 : h.get? dx = some (dictOf es n)) : HInst h a l := ⟨dx, es, n, h1, h2, x.1, x.2⟩
theorem new_of {h₀ h : Heap} {L : Addr} {m : Str → Option Value} {news : List (Addr × Obj)} {c : Addr} (F : Fr h₀ L h m) (N : News h₀ L h news) (e1 : h.get? c = none) : (c ≠ L ∧ h₀.get? c = none) ∧ LCg.Off1 c news := by
  refine ⟨⟨fun q => ?_, Option.eq_none_iff_forall_ne_some.mpr fun x e => ?_⟩, off1_of fun p hp e => ?_⟩
  · obtain ⟨oL, _, _, hoL, _⟩ := F.ns
    rw [show c = L from q, hoL] at e1
    cases e1
  · rw [F.keep _ _ e] at e1
    cases e1
  · rw [← e, (N p hp).1] at e1
    cases e1
theorem not_three {I C D c : Addr} {oI oC oD o : Obj} {l r : List (Addr × Obj)} (h : LCg.Off3 I C D l) (hm : (c, o) ∈ l) (k : ∀ p ∈ r, p.1 ∉ [c]) : ∀ p ∈ (I, oI) :: (C, oC) :: (D, oD) :: r, p.1 ∉ [c] := by
  obtain ⟨a, b, d⟩ := LCg.Off3.mem h _ hm
  intro p hp
  rw [List.mem_singleton]
  rcases List.mem_cons.mp hp with rfl | hp
  · exact Ne.symm a
  rcases List.mem_cons.mp hp with rfl | hp
  · exact Ne.symm b
  rcases List.mem_cons.mp hp with rfl | hp
  · exact Ne.symm d
  · simpa using k p hp
theorem ncL {a : Array Value} {k : Nat} : ∀ z, (listOf a k).data ≠ .cell z := fun _ h => nomatch h
theorem ncI {a c : Addr} : ∀ z, (instObj c a).data ≠ .cell z := fun _ h => nomatch h
theorem ncD {a : List DictEntry} {k : Nat} : ∀ z, (dictOf a k).data ≠ .cell z := fun _ h => nomatch h
theorem ncT {a b : List Nat} {u v : Tok} : ∀ z, (tup2 a b u v).data ≠ .cell z := fun _ h => nomatch h
/-- what a store into a cell keeps of the ledger -/
abbrev KeepC (nw nw' : List (Addr × Obj)) : Prop := ∀ b ob, (b, ob) ∈ nw → (∀ z, ob.data ≠ .cell z) → (b, ob) ∈ nw'
/-- a store into a cell, the ledger opaque -/
theorem storeO {prog : Program} {w : World} {A : Around} {E : Value → Shared → Prop} {s : Shared} {h₀ : Heap} {L a c : Addr} {m : Str → Option Value} {cn : Str} {cs : Scope} {ccd : Value} {cl : List (Str × Addr)} {x : Str} {v : Value} {v₀ : Option Value} {nw tail : List (Addr × Obj)} {o : Obj} {Q : Unit → Shared → Prop}
    (F : Fr h₀ L s.heap m) (N : News h₀ L s.heap (nw ++ tail)) (hc : cl.lookup x = some c) (hm : (c, o) ∈ nw) (hd : o.data = .cell v₀) (ht : ∀ p ∈ tail, p.1 ≠ c)
    (h : ∀ h' o' nw', Fr h₀ L h' m → News h₀ L h' (nw' ++ tail) → (∀ b ob, (b, ob) ∈ nw → b ≠ c → (b, ob) ∈ nw') → (∀ p ∈ nw', ∃ ob, (p.1, ob) ∈ nw) → (c, o') ∈ nw' → o'.data = .cell (some v) → Q () { s with heap := h' })
    (hk : cs.kind = .function) (hx : (envX cn cs L a ccd cl).kindOf x = some .cell) : wpAny (model prog w) A (storeName (envX cn cs L a ccd cl) x v) Q E s := by
  have hmem := N (c, o) (List.mem_append_left _ hm)
  refine wpAny_storeName_cell hk hx hc ⟨o, hmem.1, hd⟩ fun h' hv hs => ?_
  obtain ⟨o', ho', hd'⟩ := hv
  refine h h' o' ((c, o') :: nw.filter fun p => decide (p.1 ≠ c)) ⟨F.ns.sameBut hs (Ne.symm hmem.2.1), fun b ob e => (hs.2 b (fun q => ?_)).trans (F.keep b ob e), F.above⟩ ?_ ?_ ?_ (.head _) hd'
  · rw [q, hmem.2.2] at e; cases e
  · intro p hp
    rcases List.mem_append.mp hp with hp | hp
    · rcases List.mem_cons.mp hp with rfl | hp
      · exact ⟨ho', hmem.2⟩
      · have k := List.mem_filter.mp hp
        exact ⟨(hs.2 _ (of_decide_eq_true k.2)).trans (N p (List.mem_append_left _ k.1)).1, (N p (List.mem_append_left _ k.1)).2⟩
    · exact ⟨(hs.2 _ (ht p hp)).trans (N p (List.mem_append_right _ hp)).1, (N p (List.mem_append_right _ hp)).2⟩
  · exact fun b ob hb hne => .tail _ (List.mem_filter.mpr ⟨hb, decide_eq_true hne⟩)
  · intro p hp
    rcases List.mem_cons.mp hp with rfl | hp
    · exact ⟨o, hm⟩
    · exact ⟨p.2, (List.mem_filter.mp hp).1⟩
/-- the law's seven cells, members of its ledger (words, few, shift, names, high, held, ways) -/
inductive Cels (L' : Nat) (nw : List (Addr × Obj)) (x1 x2 x3 x4 x5 x6 x7 : Option Value) : Prop
  | mk (o1 o2 o3 o4 o5 o6 o7 : Obj) (m1 : (L' + 1, o1) ∈ nw) (m2 : (L' + 1 + 1, o2) ∈ nw) (m3 : (L' + 1 + 1 + 1, o3) ∈ nw) (m4 : (L' + 1 + 1 + 1 + 1, o4) ∈ nw) (m5 : (L' + 1 + 1 + 1 + 1 + 1, o5) ∈ nw) (m6 : (L' + 1 + 1 + 1 + 1 + 1 + 1, o6) ∈ nw) (m7 : (L' + 1 + 1 + 1 + 1 + 1 + 1 + 1, o7) ∈ nw)
      (h1 : o1.data = .cell x1) (h2 : o2.data = .cell x2) (h3 : o3.data = .cell x3) (h4 : o4.data = .cell x4) (h5 : o5.data = .cell x5) (h6 : o6.data = .cell x6) (h7 : o7.data = .cell x7) : Cels L' nw x1 x2 x3 x4 x5 x6 x7
section
variable {L' : Nat} {nw nw' : List (Addr × Obj)} {x1 x2 x3 x4 x5 x6 x7 v : Option Value} {o' : Obj} {X : Prop}
theorem Cels.mono (C : Cels L' nw x1 x2 x3 x4 x5 x6 x7) (h : ∀ p ∈ nw, p ∈ nw') : Cels L' nw' x1 x2 x3 x4 x5 x6 x7 := by
  obtain ⟨o1, o2, o3, o4, o5, o6, o7, m1, m2, m3, m4, m5, m6, m7, h1, h2, h3, h4, h5, h6, h7⟩ := C
  exact ⟨o1, o2, o3, o4, o5, o6, o7, h _ m1, h _ m2, h _ m3, h _ m4, h _ m5, h _ m6, h _ m7, h1, h2, h3, h4, h5, h6, h7⟩
/-- the same where something that is no cell went -/
theorem Cels.keep (C : Cels L' nw x1 x2 x3 x4 x5 x6 x7) (h : ∀ b ob z, (b, ob) ∈ nw → ob.data = .cell z → (b, ob) ∈ nw') : Cels L' nw' x1 x2 x3 x4 x5 x6 x7 := by
  obtain ⟨o1, o2, o3, o4, o5, o6, o7, m1, m2, m3, m4, m5, m6, m7, h1, h2, h3, h4, h5, h6, h7⟩ := C
  exact ⟨o1, o2, o3, o4, o5, o6, o7, h _ _ _ m1 h1, h _ _ _ m2 h2, h _ _ _ m3 h3, h _ _ _ m4 h4, h _ _ _ m5 h5, h _ _ _ m6 h6, h _ _ _ m7 h7, h1, h2, h3, h4, h5, h6, h7⟩
theorem Cels.g1 (C : Cels L' nw x1 x2 x3 x4 x5 x6 x7) (k : ∀ o, (L' + 1, o) ∈ nw → o.data = .cell x1 → X) : X := by cases C; exact k _ ‹_› ‹_›
theorem Cels.g2 (C : Cels L' nw x1 x2 x3 x4 x5 x6 x7) (k : ∀ o, (L' + 1 + 1, o) ∈ nw → o.data = .cell x2 → X) : X := by cases C; exact k _ ‹_› ‹_›
theorem Cels.g3 (C : Cels L' nw x1 x2 x3 x4 x5 x6 x7) (k : ∀ o, (L' + 1 + 1 + 1, o) ∈ nw → o.data = .cell x3 → X) : X := by cases C; exact k _ ‹_› ‹_›
theorem Cels.g4 (C : Cels L' nw x1 x2 x3 x4 x5 x6 x7) (k : ∀ o, (L' + 1 + 1 + 1 + 1, o) ∈ nw → o.data = .cell x4 → X) : X := by cases C; exact k _ ‹_› ‹_›
theorem Cels.g5 (C : Cels L' nw x1 x2 x3 x4 x5 x6 x7) (k : ∀ o, (L' + 1 + 1 + 1 + 1 + 1, o) ∈ nw → o.data = .cell x5 → X) : X := by cases C; exact k _ ‹_› ‹_›
theorem Cels.g6 (C : Cels L' nw x1 x2 x3 x4 x5 x6 x7) (k : ∀ o, (L' + 1 + 1 + 1 + 1 + 1 + 1, o) ∈ nw → o.data = .cell x6 → X) : X := by cases C; exact k _ ‹_› ‹_›
theorem Cels.g7 (C : Cels L' nw x1 x2 x3 x4 x5 x6 x7) (k : ∀ o, (L' + 1 + 1 + 1 + 1 + 1 + 1 + 1, o) ∈ nw → o.data = .cell x7 → X) : X := by cases C; exact k _ ‹_› ‹_›
end
theorem Cels.s1 {L' : Nat} {nw nw' : List (Addr × Obj)} {x1 x2 x3 x4 x5 x6 x7 v : Option Value} {o' : Obj} (C : Cels L' nw x1 x2 x3 x4 x5 x6 x7) (k : ∀ b ob, (b, ob) ∈ nw → b ≠ L' + 1 → (b, ob) ∈ nw') (m : (L' + 1, o') ∈ nw') (d : o'.data = .cell v) : Cels L' nw' v x2 x3 x4 x5 x6 x7 := by
  obtain ⟨o1, o2, o3, o4, o5, o6, o7, m1, m2, m3, m4, m5, m6, m7, h1, h2, h3, h4, h5, h6, h7⟩ := C
  exact ⟨o', o2, o3, o4, o5, o6, o7, m, k _ _ m2 (by show @Ne Nat _ _; omega), k _ _ m3 (by show @Ne Nat _ _; omega), k _ _ m4 (by show @Ne Nat _ _; omega), k _ _ m5 (by show @Ne Nat _ _; omega), k _ _ m6 (by show @Ne Nat _ _; omega), k _ _ m7 (by show @Ne Nat _ _; omega), d, h2, h3, h4, h5, h6, h7⟩
theorem Cels.s2 {L' : Nat} {nw nw' : List (Addr × Obj)} {x1 x2 x3 x4 x5 x6 x7 v : Option Value} {o' : Obj} (C : Cels L' nw x1 x2 x3 x4 x5 x6 x7) (k : ∀ b ob, (b, ob) ∈ nw → b ≠ L' + 1 + 1 → (b, ob) ∈ nw') (m : (L' + 1 + 1, o') ∈ nw') (d : o'.data = .cell v) : Cels L' nw' x1 v x3 x4 x5 x6 x7 := by
  obtain ⟨o1, o2, o3, o4, o5, o6, o7, m1, m2, m3, m4, m5, m6, m7, h1, h2, h3, h4, h5, h6, h7⟩ := C
  exact ⟨o1, o', o3, o4, o5, o6, o7, k _ _ m1 (by show @Ne Nat _ _; omega), m, k _ _ m3 (by show @Ne Nat _ _; omega), k _ _ m4 (by show @Ne Nat _ _; omega), k _ _ m5 (by show @Ne Nat _ _; omega), k _ _ m6 (by show @Ne Nat _ _; omega), k _ _ m7 (by show @Ne Nat _ _; omega), h1, d, h3, h4, h5, h6, h7⟩
theorem Cels.s3 {L' : Nat} {nw nw' : List (Addr × Obj)} {x1 x2 x3 x4 x5 x6 x7 v : Option Value} {o' : Obj} (C : Cels L' nw x1 x2 x3 x4 x5 x6 x7) (k : ∀ b ob, (b, ob) ∈ nw → b ≠ L' + 1 + 1 + 1 → (b, ob) ∈ nw') (m : (L' + 1 + 1 + 1, o') ∈ nw') (d : o'.data = .cell v) : Cels L' nw' x1 x2 v x4 x5 x6 x7 := by
  obtain ⟨o1, o2, o3, o4, o5, o6, o7, m1, m2, m3, m4, m5, m6, m7, h1, h2, h3, h4, h5, h6, h7⟩ := C
  exact ⟨o1, o2, o', o4, o5, o6, o7, k _ _ m1 (by show @Ne Nat _ _; omega), k _ _ m2 (by show @Ne Nat _ _; omega), m, k _ _ m4 (by show @Ne Nat _ _; omega), k _ _ m5 (by show @Ne Nat _ _; omega), k _ _ m6 (by show @Ne Nat _ _; omega), k _ _ m7 (by show @Ne Nat _ _; omega), h1, h2, d, h4, h5, h6, h7⟩
theorem Cels.s4 {L' : Nat} {nw nw' : List (Addr × Obj)} {x1 x2 x3 x4 x5 x6 x7 v : Option Value} {o' : Obj} (C : Cels L' nw x1 x2 x3 x4 x5 x6 x7) (k : ∀ b ob, (b, ob) ∈ nw → b ≠ L' + 1 + 1 + 1 + 1 → (b, ob) ∈ nw') (m : (L' + 1 + 1 + 1 + 1, o') ∈ nw') (d : o'.data = .cell v) : Cels L' nw' x1 x2 x3 v x5 x6 x7 := by
  obtain ⟨o1, o2, o3, o4, o5, o6, o7, m1, m2, m3, m4, m5, m6, m7, h1, h2, h3, h4, h5, h6, h7⟩ := C
  exact ⟨o1, o2, o3, o', o5, o6, o7, k _ _ m1 (by show @Ne Nat _ _; omega), k _ _ m2 (by show @Ne Nat _ _; omega), k _ _ m3 (by show @Ne Nat _ _; omega), m, k _ _ m5 (by show @Ne Nat _ _; omega), k _ _ m6 (by show @Ne Nat _ _; omega), k _ _ m7 (by show @Ne Nat _ _; omega), h1, h2, h3, d, h5, h6, h7⟩
theorem Cels.s5 {L' : Nat} {nw nw' : List (Addr × Obj)} {x1 x2 x3 x4 x5 x6 x7 v : Option Value} {o' : Obj} (C : Cels L' nw x1 x2 x3 x4 x5 x6 x7) (k : ∀ b ob, (b, ob) ∈ nw → b ≠ L' + 1 + 1 + 1 + 1 + 1 → (b, ob) ∈ nw') (m : (L' + 1 + 1 + 1 + 1 + 1, o') ∈ nw') (d : o'.data = .cell v) : Cels L' nw' x1 x2 x3 x4 v x6 x7 := by
  obtain ⟨o1, o2, o3, o4, o5, o6, o7, m1, m2, m3, m4, m5, m6, m7, h1, h2, h3, h4, h5, h6, h7⟩ := C
  exact ⟨o1, o2, o3, o4, o', o6, o7, k _ _ m1 (by show @Ne Nat _ _; omega), k _ _ m2 (by show @Ne Nat _ _; omega), k _ _ m3 (by show @Ne Nat _ _; omega), k _ _ m4 (by show @Ne Nat _ _; omega), m, k _ _ m6 (by show @Ne Nat _ _; omega), k _ _ m7 (by show @Ne Nat _ _; omega), h1, h2, h3, h4, d, h6, h7⟩
theorem Cels.s6 {L' : Nat} {nw nw' : List (Addr × Obj)} {x1 x2 x3 x4 x5 x6 x7 v : Option Value} {o' : Obj} (C : Cels L' nw x1 x2 x3 x4 x5 x6 x7) (k : ∀ b ob, (b, ob) ∈ nw → b ≠ L' + 1 + 1 + 1 + 1 + 1 + 1 → (b, ob) ∈ nw') (m : (L' + 1 + 1 + 1 + 1 + 1 + 1, o') ∈ nw') (d : o'.data = .cell v) : Cels L' nw' x1 x2 x3 x4 x5 v x7 := by
  obtain ⟨o1, o2, o3, o4, o5, o6, o7, m1, m2, m3, m4, m5, m6, m7, h1, h2, h3, h4, h5, h6, h7⟩ := C
  exact ⟨o1, o2, o3, o4, o5, o', o7, k _ _ m1 (by show @Ne Nat _ _; omega), k _ _ m2 (by show @Ne Nat _ _; omega), k _ _ m3 (by show @Ne Nat _ _; omega), k _ _ m4 (by show @Ne Nat _ _; omega), k _ _ m5 (by show @Ne Nat _ _; omega), m, k _ _ m7 (by show @Ne Nat _ _; omega), h1, h2, h3, h4, h5, d, h7⟩
theorem Cels.s7 {L' : Nat} {nw nw' : List (Addr × Obj)} {x1 x2 x3 x4 x5 x6 x7 v : Option Value} {o' : Obj} (C : Cels L' nw x1 x2 x3 x4 x5 x6 x7) (k : ∀ b ob, (b, ob) ∈ nw → b ≠ L' + 1 + 1 + 1 + 1 + 1 + 1 + 1 → (b, ob) ∈ nw') (m : (L' + 1 + 1 + 1 + 1 + 1 + 1 + 1, o') ∈ nw') (d : o'.data = .cell v) : Cels L' nw' x1 x2 x3 x4 x5 x6 v := by
  obtain ⟨o1, o2, o3, o4, o5, o6, o7, m1, m2, m3, m4, m5, m6, m7, h1, h2, h3, h4, h5, h6, h7⟩ := C
  exact ⟨o1, o2, o3, o4, o5, o6, o', k _ _ m1 (by show @Ne Nat _ _; omega), k _ _ m2 (by show @Ne Nat _ _; omega), k _ _ m3 (by show @Ne Nat _ _; omega), k _ _ m4 (by show @Ne Nat _ _; omega), k _ _ m5 (by show @Ne Nat _ _; omega), k _ _ m6 (by show @Ne Nat _ _; omega), m, h1, h2, h3, h4, h5, h6, d⟩
theorem storeC1 {prog : Program} {w : World} {A : Around} {E : Value → Shared → Prop} {s : Shared} {h₀ : Heap} {L a : Addr} {L' : Nat} {m : Str → Option Value} {cn : Str} {cs : Scope} {ccd : Value} {cl : List (Str × Addr)} {x : Str} {v : Value} {nw0 nw : List (Addr × Obj)} {x1 x2 x3 x4 x5 x6 x7 : Option Value} {Q : Unit → Shared → Prop}
    (F : Fr h₀ L s.heap m) (N : News h₀ L s.heap nw) (C : Cels L' nw0 x1 x2 x3 x4 x5 x6 x7) (hs : ∀ p ∈ nw0, p ∈ nw) (hc : cl.lookup x = some (L' + 1))
    (h : ∀ h' nw', Fr h₀ L h' m → News h₀ L h' nw' → Cels L' nw' (some v) x2 x3 x4 x5 x6 x7 → KeepC nw nw' → Q () { s with heap := h' })
    (hk : cs.kind = .function) (hx : (envX cn cs L a ccd cl).kindOf x = some .cell) : wpAny (model prog w) A (storeName (envX cn cs L a ccd cl) x v) Q E s := by
  have C' := C.mono hs
  refine C'.g1 fun o hm hd => ?_
  rw [← List.append_nil nw] at N
  refine storeO F N hc hm hd (fun _ hp => nomatch hp) (fun h' o' nw' F' N' k _ m' d' => ?_) hk hx
  rw [List.append_nil] at N'
  refine h h' nw' F' N' (C'.s1 k m' d') fun b ob hb hn => k b ob hb fun q => ?_
  subst q
  have e := (N _ (List.mem_append_left [] hb)).1
  rw [(N _ (List.mem_append_left [] hm)).1] at e
  cases e
  exact hn _ hd
theorem storeC2 {prog : Program} {w : World} {A : Around} {E : Value → Shared → Prop} {s : Shared} {h₀ : Heap} {L a : Addr} {L' : Nat} {m : Str → Option Value} {cn : Str} {cs : Scope} {ccd : Value} {cl : List (Str × Addr)} {x : Str} {v : Value} {nw0 nw : List (Addr × Obj)} {x1 x2 x3 x4 x5 x6 x7 : Option Value} {Q : Unit → Shared → Prop}
    (F : Fr h₀ L s.heap m) (N : News h₀ L s.heap nw) (C : Cels L' nw0 x1 x2 x3 x4 x5 x6 x7) (hs : ∀ p ∈ nw0, p ∈ nw) (hc : cl.lookup x = some (L' + 1 + 1))
    (h : ∀ h' nw', Fr h₀ L h' m → News h₀ L h' nw' → Cels L' nw' x1 (some v) x3 x4 x5 x6 x7 → KeepC nw nw' → Q () { s with heap := h' })
    (hk : cs.kind = .function) (hx : (envX cn cs L a ccd cl).kindOf x = some .cell) : wpAny (model prog w) A (storeName (envX cn cs L a ccd cl) x v) Q E s := by
  have C' := C.mono hs
  refine C'.g2 fun o hm hd => ?_
  rw [← List.append_nil nw] at N
  refine storeO F N hc hm hd (fun _ hp => nomatch hp) (fun h' o' nw' F' N' k _ m' d' => ?_) hk hx
  rw [List.append_nil] at N'
  refine h h' nw' F' N' (C'.s2 k m' d') fun b ob hb hn => k b ob hb fun q => ?_
  subst q
  have e := (N _ (List.mem_append_left [] hb)).1
  rw [(N _ (List.mem_append_left [] hm)).1] at e
  cases e
  exact hn _ hd
theorem storeC3 {prog : Program} {w : World} {A : Around} {E : Value → Shared → Prop} {s : Shared} {h₀ : Heap} {L a : Addr} {L' : Nat} {m : Str → Option Value} {cn : Str} {cs : Scope} {ccd : Value} {cl : List (Str × Addr)} {x : Str} {v : Value} {nw0 nw : List (Addr × Obj)} {x1 x2 x3 x4 x5 x6 x7 : Option Value} {Q : Unit → Shared → Prop}
    (F : Fr h₀ L s.heap m) (N : News h₀ L s.heap nw) (C : Cels L' nw0 x1 x2 x3 x4 x5 x6 x7) (hs : ∀ p ∈ nw0, p ∈ nw) (hc : cl.lookup x = some (L' + 1 + 1 + 1))
    (h : ∀ h' nw', Fr h₀ L h' m → News h₀ L h' nw' → Cels L' nw' x1 x2 (some v) x4 x5 x6 x7 → KeepC nw nw' → Q () { s with heap := h' })
    (hk : cs.kind = .function) (hx : (envX cn cs L a ccd cl).kindOf x = some .cell) : wpAny (model prog w) A (storeName (envX cn cs L a ccd cl) x v) Q E s := by
  have C' := C.mono hs
  refine C'.g3 fun o hm hd => ?_
  rw [← List.append_nil nw] at N
  refine storeO F N hc hm hd (fun _ hp => nomatch hp) (fun h' o' nw' F' N' k _ m' d' => ?_) hk hx
  rw [List.append_nil] at N'
  refine h h' nw' F' N' (C'.s3 k m' d') fun b ob hb hn => k b ob hb fun q => ?_
  subst q
  have e := (N _ (List.mem_append_left [] hb)).1
  rw [(N _ (List.mem_append_left [] hm)).1] at e
  cases e
  exact hn _ hd
theorem storeC4 {prog : Program} {w : World} {A : Around} {E : Value → Shared → Prop} {s : Shared} {h₀ : Heap} {L a : Addr} {L' : Nat} {m : Str → Option Value} {cn : Str} {cs : Scope} {ccd : Value} {cl : List (Str × Addr)} {x : Str} {v : Value} {nw0 nw : List (Addr × Obj)} {x1 x2 x3 x4 x5 x6 x7 : Option Value} {Q : Unit → Shared → Prop}
    (F : Fr h₀ L s.heap m) (N : News h₀ L s.heap nw) (C : Cels L' nw0 x1 x2 x3 x4 x5 x6 x7) (hs : ∀ p ∈ nw0, p ∈ nw) (hc : cl.lookup x = some (L' + 1 + 1 + 1 + 1))
    (h : ∀ h' nw', Fr h₀ L h' m → News h₀ L h' nw' → Cels L' nw' x1 x2 x3 (some v) x5 x6 x7 → KeepC nw nw' → Q () { s with heap := h' })
    (hk : cs.kind = .function) (hx : (envX cn cs L a ccd cl).kindOf x = some .cell) : wpAny (model prog w) A (storeName (envX cn cs L a ccd cl) x v) Q E s := by
  have C' := C.mono hs
  refine C'.g4 fun o hm hd => ?_
  rw [← List.append_nil nw] at N
  refine storeO F N hc hm hd (fun _ hp => nomatch hp) (fun h' o' nw' F' N' k _ m' d' => ?_) hk hx
  rw [List.append_nil] at N'
  refine h h' nw' F' N' (C'.s4 k m' d') fun b ob hb hn => k b ob hb fun q => ?_
  subst q
  have e := (N _ (List.mem_append_left [] hb)).1
  rw [(N _ (List.mem_append_left [] hm)).1] at e
  cases e
  exact hn _ hd
theorem storeC6 {prog : Program} {w : World} {A : Around} {E : Value → Shared → Prop} {s : Shared} {h₀ : Heap} {L a : Addr} {L' : Nat} {m : Str → Option Value} {cn : Str} {cs : Scope} {ccd : Value} {cl : List (Str × Addr)} {x : Str} {v : Value} {nw0 nw : List (Addr × Obj)} {x1 x2 x3 x4 x5 x6 x7 : Option Value} {Q : Unit → Shared → Prop}
    (F : Fr h₀ L s.heap m) (N : News h₀ L s.heap nw) (C : Cels L' nw0 x1 x2 x3 x4 x5 x6 x7) (hs : ∀ p ∈ nw0, p ∈ nw) (hc : cl.lookup x = some (L' + 1 + 1 + 1 + 1 + 1 + 1))
    (h : ∀ h' nw', Fr h₀ L h' m → News h₀ L h' nw' → Cels L' nw' x1 x2 x3 x4 x5 (some v) x7 → KeepC nw nw' → Q () { s with heap := h' })
    (hk : cs.kind = .function) (hx : (envX cn cs L a ccd cl).kindOf x = some .cell) : wpAny (model prog w) A (storeName (envX cn cs L a ccd cl) x v) Q E s := by
  have C' := C.mono hs
  refine C'.g6 fun o hm hd => ?_
  rw [← List.append_nil nw] at N
  refine storeO F N hc hm hd (fun _ hp => nomatch hp) (fun h' o' nw' F' N' k _ m' d' => ?_) hk hx
  rw [List.append_nil] at N'
  refine h h' nw' F' N' (C'.s6 k m' d') fun b ob hb hn => k b ob hb fun q => ?_
  subst q
  have e := (N _ (List.mem_append_left [] hb)).1
  rw [(N _ (List.mem_append_left [] hm)).1] at e
  cases e
  exact hn _ hd
theorem storeC7 {prog : Program} {w : World} {A : Around} {E : Value → Shared → Prop} {s : Shared} {h₀ : Heap} {L a : Addr} {L' : Nat} {m : Str → Option Value} {cn : Str} {cs : Scope} {ccd : Value} {cl : List (Str × Addr)} {x : Str} {v : Value} {nw0 nw : List (Addr × Obj)} {x1 x2 x3 x4 x5 x6 x7 : Option Value} {Q : Unit → Shared → Prop}
    (F : Fr h₀ L s.heap m) (N : News h₀ L s.heap nw) (C : Cels L' nw0 x1 x2 x3 x4 x5 x6 x7) (hs : ∀ p ∈ nw0, p ∈ nw) (hc : cl.lookup x = some (L' + 1 + 1 + 1 + 1 + 1 + 1 + 1))
    (h : ∀ h' nw', Fr h₀ L h' m → News h₀ L h' nw' → Cels L' nw' x1 x2 x3 x4 x5 x6 (some v) → KeepC nw nw' → Q () { s with heap := h' })
    (hk : cs.kind = .function) (hx : (envX cn cs L a ccd cl).kindOf x = some .cell) : wpAny (model prog w) A (storeName (envX cn cs L a ccd cl) x v) Q E s := by
  have C' := C.mono hs
  refine C'.g7 fun o hm hd => ?_
  rw [← List.append_nil nw] at N
  refine storeO F N hc hm hd (fun _ hp => nomatch hp) (fun h' o' nw' F' N' k _ m' d' => ?_) hk hx
  rw [List.append_nil] at N'
  refine h h' nw' F' N' (C'.s7 k m' d') fun b ob hb hn => k b ob hb fun q => ?_
  subst q
  have e := (N _ (List.mem_append_left [] hb)).1
  rw [(N _ (List.mem_append_left [] hm)).1] at e
  cases e
  exact hn _ hd
theorem off3_cons {I C D c9 : Addr} {oI oC oD o9 : Obj} {l rest : List (Addr × Obj)} (h : LCg.Off3 I C D l) (h9 : LCg.Off1 c9 ((I, oI) :: (C, oC) :: (D, oD) :: rest)) : LCg.Off3 I C D ((c9, o9) :: l) := off3_ins (pre := []) h h9
theorem hideCl {g h : Heap} {L' : Nat} {o1 o2 o3 o4 o5 o6 o7 : Obj} {X : Prop} (N : News g L' h [(L' + 1 + 1 + 1 + 1 + 1 + 1 + 1, o7), (L' + 1 + 1 + 1 + 1 + 1 + 1, o6), (L' + 1 + 1 + 1 + 1 + 1, o5), (L' + 1 + 1 + 1 + 1, o4), (L' + 1 + 1 + 1, o3), (L' + 1 + 1, o2), (L' + 1, o1)]) (c1 : o1.data = .cell none) (c2 : o2.data = .cell none) (c3 : o3.data = .cell none) (c4 : o4.data = .cell none) (c5 : o5.data = .cell none) (c6 : o6.data = .cell none) (c7 : o7.data = .cell none)
    (k : ∀ nw, News g L' h nw → Cels L' nw none none none none none none none → X) : X :=
  k _ N ⟨o1, o2, o3, o4, o5, o6, o7, by kcf_m, by kcf_m, by kcf_m, by kcf_m, by kcf_m, by kcf_m, by kcf_m, c1, c2, c3, c4, c5, c6, c7⟩
theorem item_IL {prog : Program} {w : World} {A : Around} {E : Value → Shared → Prop} {s : Shared} {value slice : Expr} {l : Addr} {vs : List Value} {ws : List Int} {i : Int} {u : Tok} {Q : Value → Shared → Prop} (hl : s.heap.IsList l vs.toArray) (hi : IntsAre vs ws)
    (h0 : 0 ≤ i) (h1 : i < ws.length) (hn : ws.length ≤ 1000000) (h : ∀ t', Q (.int (ws.getD i.toNat 0) t') s)
    (hs : subscripted slice false (.ref l) (.int i u) = operate [.ref l, .int i u] (getItem (.ref l) (.int i u)) := by with_unfolding_all rfl) (hg : ∀ r, letTemporaryGo value (.ref l) r = pure () := by intro _; with_unfolding_all rfl) :
    wpAny (model prog w) A (subscriptTail value slice (.ref l) (.int i u)) Q E s := by
  have hlt : i.toNat < ws.length := by omega
  have hlv : i.toNat < vs.length := by rw [hi.length]; exact hlt
  obtain ⟨_, t, e⟩ := ints_get hi (List.getElem?_eq_getElem hlv)
  refine item_listL hl h0 (by omega) ((List.getElem?_eq_getElem hlv).trans (congrArg some e)) ?_ hs hg
  have := h t
  rw [List.getD_eq_getElem?_getD, List.getElem?_eq_getElem hlt] at this
  exact this
theorem ne_ob {g h : Heap} {L a b : Addr} {oa ob : Obj} {nw : List (Addr × Obj)} (N : News g L h nw) (ma : (a, oa) ∈ nw) (mb : (b, ob) ∈ nw) (n : oa ≠ ob) : a ≠ b := fun e => by
  subst e
  have e := (N _ ma).1
  rw [(N _ mb).1] at e
  exact n (Option.some.inj e).symm
theorem tup_ne {o : Obj} {a : Array Value} {k : Nat} (h : o.cls = .type "tuple") : o ≠ listOf a k := fun e => by
  subst e
  exact absurd (show Value.type "list" = .type "tuple" from h) (by simp)
theorem cell_ne {o ob : Obj} {z : Option Value} (h : o.data = .cell z) (n : ∀ z, ob.data ≠ .cell z) : o ≠ ob := fun e => n z (e ▸ h)
theorem inst_ne {c d : Addr} {a : Array Value} {k : Nat} : instObj c d ≠ listOf a k := fun e => nomatch congrArg Obj.data e
theorem dict_ne {es : List DictEntry} {n : Nat} {a : Array Value} {k : Nat} : dictOf es n ≠ listOf a k := fun e => nomatch congrArg Obj.data e
theorem RowsI.keep {P P' : Addr → Obj → Prop} {vs : List Value} {rows : List (List Int)} (x : RowsI P vs rows) (k : ∀ b o, P b o → (∀ z, o.data ≠ .cell z) → P' b o) : RowsI P' vs rows := by
  induction x with
  | nil => exact .nil
  | cons c us n row h1 h2 _ ih => exact .cons c us n row (k _ _ h1 ncL) h2 ih
theorem Pairs.keep {P P' : Addr → Obj → Prop} {vs : List Value} {kvs : List (List Nat × List Nat)} (x : Pairs P vs kvs) (k : ∀ b o, P b o → (∀ z, o.data ≠ .cell z) → o.cls = .type "tuple" → P' b o) : Pairs P' vs kvs := by
  induction x with
  | nil => exact .nil
  | cons p a b u v ht _ ih => exact .cons p a b u v (k _ _ ht ncT rfl) ih
theorem IPairs.keep {P P' : Addr → Obj → Prop} {vs : List Value} {ps : List (Nat × Nat)} (x : IPairs P vs ps) (k : ∀ b o, P b o → (∀ z, o.data ≠ .cell z) → o.cls = .type "tuple" → P' b o) : IPairs P' vs ps := by
  induction x with
  | nil => exact .nil
  | cons p a b u v ht _ ih => exact .cons p a b u v (k _ _ ht (fun _ h => nomatch h) rfl) ih
theorem News.put {g h : Heap} {L : Addr} {x : Addr × Obj} {l : List (Addr × Obj)} (hx : h.get? x.1 = some x.2 ∧ x.1 ≠ L ∧ g.get? x.1 = none) (N : News g L h l) : News g L h (x :: l) := fun p hp => by
  rcases List.mem_cons.mp hp with rfl | hp
  · exact hx
  · exact N p hp
/-- the ledger without what lies at a -/
noncomputable abbrev wo (a : Addr) (l : List (Addr × Obj)) : List (Addr × Obj) := l.filter fun p => decide (p.1 ≠ a)
theorem wo_in {a : Addr} {l : List (Addr × Obj)} {p : Addr × Obj} (h : p ∈ l) (n : p.1 ≠ a) : p ∈ wo a l := List.mem_filter.mpr ⟨h, decide_eq_true n⟩
theorem wo_of {a : Addr} {l : List (Addr × Obj)} {p : Addr × Obj} (h : p ∈ wo a l) : p ∈ l ∧ p.1 ≠ a := ⟨(List.mem_filter.mp h).1, of_decide_eq_true (List.mem_filter.mp h).2⟩
theorem wo_not {a : Addr} {l : List (Addr × Obj)} : ∀ p ∈ wo a l, p.1 ∉ [a] := fun _ hp h => (wo_of hp).2 (List.mem_singleton.mp h)
theorem wo3 {a : Addr} {x y z : Addr × Obj} {l : List (Addr × Obj)} : ∀ p ∈ x :: y :: z :: wo a l, p ∈ x :: y :: z :: l := fun p hp => by
  rcases List.mem_cons.mp hp with h | hp
  · exact h ▸ .head _
  rcases List.mem_cons.mp hp with h | hp
  · exact h ▸ .tail _ (.head _)
  rcases List.mem_cons.mp hp with h | hp
  · exact h ▸ .tail _ (.tail _ (.head _))
  · exact .tail _ (.tail _ (.tail _ (wo_of hp).1))
theorem off3_put {I C D D9 a : Addr} {oI oC oD o9 o o' : Obj} {l r : List (Addr × Obj)} (h : LCg.Off3 I C D l) (m : (a, o) ∈ l) (h9 : LCg.Off1 D9 ((I, oI) :: (C, oC) :: (D, oD) :: r)) : LCg.Off3 I C D ((D9, o9) :: (a, o') :: wo a l) := by
  refine off3_of fun p hp => ?_
  have k := off1_mem h9
  rcases List.mem_cons.mp hp with rfl | hp
  · exact ⟨Ne.symm (k (I, oI) (.head _)), Ne.symm (k (C, oC) (.tail _ (.head _))), Ne.symm (k (D, oD) (.tail _ (.tail _ (.head _))))⟩
  rcases List.mem_cons.mp hp with rfl | hp
  · exact LCg.Off3.mem h (a, o) m
  · exact LCg.Off3.mem h _ (wo_of hp).1
theorem news_ask2 {h₀ h : Heap} {L a : Addr} {x : Obj} {nw own ts : List (Addr × Obj)} (N : News h₀ L h (wo a (nw ++ own))) (hx : h.get? a = some x ∧ a ≠ L ∧ h₀.get? a = none)
    (ht : ∀ p ∈ ts, h.get? p.1 = some p.2 ∧ p.1 ≠ L ∧ h₀.get? p.1 = none) (ho : ∀ p ∈ own, p.1 ≠ a) : News h₀ L h (((a, x) :: (ts ++ wo a nw)) ++ own) := by
  intro p hp
  rcases List.mem_append.mp hp with hp | hp
  · rcases List.mem_cons.mp hp with rfl | hp
    · exact hx
    rcases List.mem_append.mp hp with hp | hp
    · exact ht p hp
    · exact N p (wo_in (List.mem_append_left _ (wo_of hp).1) (wo_of hp).2)
  · exact N p (wo_in (List.mem_append_right _ hp) (ho p hp))
theorem assignO2 {prog : Program} {w : World} {A : Around} {E : Value → Shared → Prop} {s : Shared} {h₀ : Heap} {L a c : Addr} {m : Str → Option Value} {cn : Str} {cs : Scope} {ccd : Value} {cl : List (Str × Addr)} {xa xb : Str} {pa pb pt : Pos} {k1 : Nat} {T : Addr} {v0 v1 : Value} {v₀ : Option Value} {nw tail : List (Addr × Obj)} {o : Obj} {Q : Unit → Shared → Prop}
    (hh : A.handled = none) (ht : s.heap.IsTuple T #[v0, v1]) (F : Fr h₀ L s.heap m) (N : News h₀ L s.heap (nw ++ tail)) (hc : cl.lookup xa = some c) (hm : (c, o) ∈ nw) (hd : o.data = .cell v₀) (htl : ∀ p ∈ tail, p.1 ≠ c)
    (hk : cs.kind = .function) (hxa : (envX cn cs L a ccd cl).kindOf xa = some .cell) (hxb : (envX cn cs L a ccd cl).kindOf xb = some .local)
    (k : ∀ h' o' nw' tk, Fr h₀ L h' (fun y => if y = xb then some v1 else m y) → News h₀ L h' (nw' ++ tail) → (∀ b ob, (b, ob) ∈ nw → b ≠ c → (b, ob) ∈ nw') → (∀ p ∈ nw', ∃ ob, (p.1, ob) ∈ nw) → (c, o') ∈ nw' → o'.data = .cell (some v0) → Q () { s with heap := h', toks := tk }) :
    wpAny (model prog w) A (assign (.Tuple [.Name xa pa, .Name xb pb] k1 pt) (envX cn cs L a ccd cl) (.ref T)) Q E s := by
  refine wpAny_assign_Tuple hh ht rfl rfl fun h₃ hx₃ => ?_
  replace hx₃ : Heap.ExtBut s.heap.objs.size s.heap h₃ := hx₃
  have up₃ : ∀ b o, s.heap.get? b = some o → h₃.get? b = some o := fun b o x => hx₃ b o (Nat.ne_of_lt (Heap.lt_size x)) x
  have F₃ := F.keeps up₃
  have N₃ := N.grown up₃
  show wpAny _ A (do holding [v1] (assign (.Name xa pa) (envX cn cs L a ccd cl) v0); do holding [] (assign (.Name xb pb) (envX cn cs L a ccd cl) v1); pure ()) _ _ _
  refine wpAny_bind (wpAny_holding (wpAny_assign_Name (storeO (s := { s with heap := h₃ }) F₃ N₃ hc hm hd htl (fun h₄ o' nw' F₄ N₄ k1 k2 m' hd' => ?_) hk hxa)))
  refine wpAny_bind (wpAny_holding (wpAny_assign_Name (storeX_L (s := { s with heap := h₄ }) F₄ N₄ (fun h₅ F₅ N₅ => wpAny_pure ?_) hk hxb)))
  exact k h₅ o' nw' _ F₅ N₅ k1 k2 m' hd'
theorem gl0 {M : Model} {A : Around} {E} {s : Shared} {a b p c d Q} (h : wpAny M A (subscriptTail a (Expr.Slice none none (some b) p) (Value.ref c) (Value.ref d)) Q E s) : wpAny M A (subscriptTail a (Expr.Slice none none (some b) p) (Value.ref c) (Value.ref d)) Q E s := h
theorem gl1 {M : Model} {A : Around} {E} {s : Shared} {a b c Q} (h : wpAny M A (call (Value.builtin "str.join") [Value.str a b, Value.ref c]) Q E s) : wpAny M A (call (Value.builtin "str.join") [Value.str a b, Value.ref c]) Q E s := h
theorem gl2 {M : Model} {A : Around} {E} {s : Shared} {a b Q} (h : wpAny M A (compareOp CmpOp.NotEq (Value.ref a) (Value.ref b)) Q E s) : wpAny M A (compareOp CmpOp.NotEq (Value.ref a) (Value.ref b)) Q E s := h
theorem gl3 {M : Model} {A : Around} {E} {s : Shared} {a b c d e Q} (h : wpAny M A (subscriptTail (Expr.Name (Str.ofString "cut") a) (Expr.Slice none (some b) none c) (Value.ref d) (Value.ref e)) Q E s) : wpAny M A (subscriptTail (Expr.Name (Str.ofString "cut") a) (Expr.Slice none (some b) none c) (Value.ref d) (Value.ref e)) Q E s := h
theorem gl4 {M : Model} {A : Around} {E} {s : Shared} {a b c d Q} (h : wpAny M A (compareOp CmpOp.NotEq (Value.str (Mine.T a) b) (Value.str c d)) Q E s) : wpAny M A (compareOp CmpOp.NotEq (Value.str (Mine.T a) b) (Value.str c d)) Q E s := h
theorem gl5 {M : Model} {A : Around} {E} {s : Shared} {a b Q} (h : wpAny M A (call (Value.ref 220) a b) Q E s) : wpAny M A (call (Value.ref 220) a b) Q E s := h
theorem gl6 {M : Model} {A : Around} {E} {s : Shared} {a b Q} (h : wpAny M A (storeName a (Str.ofString "few") b) Q E s) : wpAny M A (storeName a (Str.ofString "few") b) Q E s := h
theorem gl7 {M : Model} {A : Around} {E} {s : Shared} {a b Q} (h : wpAny M A (storeName a (Str.ofString "shift") b) Q E s) : wpAny M A (storeName a (Str.ofString "shift") b) Q E s := h
theorem gl8 {M : Model} {A : Around} {E} {s : Shared} {a b Q} (h : wpAny M A (storeName a (Str.ofString "names") b) Q E s) : wpAny M A (storeName a (Str.ofString "names") b) Q E s := h
theorem gl9 {M : Model} {A : Around} {E} {s : Shared} {a b c d e f g Q} (h : wpAny M A (subscriptTail (Expr.Tuple a b c) d (Value.ref e) (Value.int f g)) Q E s) : wpAny M A (subscriptTail (Expr.Tuple a b c) d (Value.ref e) (Value.int f g)) Q E s := h
theorem gl10 {M : Model} {A : Around} {E} {s : Shared} {a b c Q} (h : wpAny M A (binaryOp Operator.Mult (Value.ref a) (Value.int b c)) Q E s) : wpAny M A (binaryOp Operator.Mult (Value.ref a) (Value.int b c)) Q E s := h

end
section
local macro_rules | `(tactic| walk_at "MY inst") => `(tactic| (apply_assumption; exact Fr.keep (by assumption)))
local macro_rules | `(tactic| walk_at "MY noname") => `(tactic| (apply_assumption; decide))
local macro_rules | `(tactic| walk_at "getMethod ref") => `(tactic| (refine method_inst (by k_asm) (by k_asm) (by walk_at "MY inst") (by k_is) (by k_is) (by k_is) (by walk_at "MY noname") ?_; k_whole))
local macro_rules | `(tactic| walk_at "getAttr ref") => `(tactic| (
  (with_reducible show wpAny _ _ (getAttr (Value.ref _) (PySem.Str.ofString "_headers") _) _ _ _);
  refine get_own (by k_asm) (by k_asm) (by walk_at "MY inst") (by k_is) (by k_is) (by k_is) (by k_is) (by assumption) (by k_handed) ?_; k_whole))
local macro_rules | `(tactic| walk_at "call builtin:str.lower") => `(tactic| ((with_reducible show wpAny _ _ (call (Value.builtin "str.lower") [Value.str (Mine.T _) _]) _ _ _); refine low_T (by assumption) (by first | assumption | omega) ?_))
local macro_rules | `(tactic| walk_at "compareOp NotEq ref ref") => `(tactic| refine ne_nil (News.isList (by assumption) (by kcf_m)) (News.isList (by assumption) (by kcf_m)) (by walk_at "MY rm") ?_)
local macro_rules | `(tactic| walk_at "MY st1") => `(tactic| (fail_if_success (with_reducible first | refine gApp ?_ | refine gPop ?_ | refine gTup ?_ | refine gGet ?_ | refine gIdx ?_ | refine gSplit ?_ | refine gAdd ?_)))
local macro_rules | `(tactic| walk_at "MY call") => `(tactic| (
  (with_reducible show wpAny _ _ (subscriptTail (Expr.Name (Str.ofString "cells") _) (Expr.Constant _ _ _) (Value.ref _) (Value.int _ _)) _ _ _);
  refine item_IL (News.isList (by assumption) (by walk_at "MY m")) (by assumption) (by decide) (by omega) (by omega) ?_; intro _))
local macro_rules | `(tactic| walk_at "MY m") => `(tactic| with_reducible first | assumption | exact List.mem_cons_self | (refine List.mem_cons_of_mem _ ?_; walk_at "MY m") | (refine List.mem_append_left _ ?_; walk_at "MY m") | (refine List.mem_append_right _ ?_; walk_at "MY m"))
local macro_rules | `(tactic| walk_at "MY pm") => `(tactic| walk_at "MY m")
local macro_rules | `(tactic| walk_at "MY call") => `(tactic| (
  (with_reducible show wpAny _ _ (eval (Expr.Name _ _) (compEnvC _ _ _ _)) _ _ _); name_kind "free"; k_dflt (refine kcf_cell (by k_asm) rfl (by walk_at "MY m") (by assumption) ?_); k_whole))
local macro_rules | `(tactic| walk_at "MY st") => `(tactic| ((fail_if_success (with_reducible first | refine gl0 ?_ | refine gl1 ?_ | refine gl2 ?_ | refine gl3 ?_ | refine gl4 ?_ | refine gl5 ?_ | refine gl6 ?_ | refine gl7 ?_ | refine gl8 ?_ | refine gl9 ?_ | refine gl10 ?_)); (walk_at "MY st1"); (walk_at "MY st0")))
local macro_rules | `(tactic| walk_at "exec If") => `(tactic| refine wpAny_If ?_)
local macro_rules | `(tactic| walk_at "binaryOp Pow int int") => `(tactic| ((with_reducible refine pow_int_small ?kb1 ?kb2 ?kb3 ?_); (case kb1 => omega); (case kb2 => omega); (case kb3 => decide)))
local macro_rules | `(tactic| walk_at "MY inst") => `(tactic| exact ⟨News.get (by assumption) (by walk_at "MY m"), rfl, rfl, News.get (by assumption) (by walk_at "MY m")⟩)
local macro_rules | `(tactic| walk_at "loadName") => `(tactic| (k_here; k_dflt (refine' ldn ?k1 ?k2 ?_; (case k1 => k_asm); (case k2 => first | exact rfl | assumption); k_whole)))
theorem law_holds : PySem.Challenge.rw_tc0056_01.Holds := hd (by rfl) (by rfl) (by rfl) (by
  intro w s₀ s₁ mg mb G Y fa o pm cd doc dV kV ho hd hcd hD hmg hg args vals as hpre hlay hrd hwl hlo
  have KX := kIn_of Y
  have X := (Ground.X G).1
  have V := (Ground.X G).2
  try w_nolog (first | (have GL := glob_more (Ground.glob G (by first | k_qdec | decide +kernel)) V) | (have GL := glob_more (Ground.glob G (by decide +kernel)) V))
  refine Ground.open G ?_
  intro T B D TE TW
  try (refine guard_noD D (by decide +kernel) ?_; clear D)
  obtain ⟨_, _, M⟩ := bmod_of_top T
  have TA := at_of_top T
  try (obtain ⟨_, _, he, B0⟩ := based_of_top T rfl hmg ho hd; have he' : cd = _ := he; subst he'; clear he)
  clear hmg
  wrow_args hpre hlay hrd hwl hlo
  all_goals (
    first | refine callC_kw (enter_call ?_) | refine enter_call ?_ | refine callC_kw (enter_callW ?_) | refine enter_callW ?_ | w_how
    w_top on
    have K0 := below_caller (Top.heap T)
    w_call any ho hd hcd hD T F
    clear hd TA
    k_drop
    skip)
  rename_i X0
  rename Fr _ _ _ _ => F0
  rename News _ _ _ _ => N0
  rename Below _ _ _ s₁.heap => B1
  rename Heap.IsList _ _ _ => hl
  rename IntsAre _ _ => hi
  rename LooseAre _ _ _ => V0
  clear X0 V0 M hcd hD
  have room1 : callerA.depth + 200 < recursionLimit := by decide +kernel
  have room2 : callerA.units + 2000 < cLine := by decide +kernel
  dsimp only at N0 F0 ⊢
  refine wpAny_mono (E := fun _ _ => False) ?_ (fun _ _ h => h) (fun _ _ h => h.elim)
  rename_i c7 c6 c5 c4 c3 c2 c1
  obtain ⟨L', hL'⟩ : ∃ L' : Addr, L' = s₁.heap.objs.size := ⟨_, rfl⟩
  rw [← hL'] at N0 F0 ⊢
  refine hideH ?_
  intro Qf hQf
  obtain ⟨g1, hg1⟩ : ∃ g1, g1 = s₁.gens := ⟨_, rfl⟩
  obtain ⟨dr1, hdr1⟩ : ∃ dr1, dr1 = s₁.drawn := ⟨_, rfl⟩
  obtain ⟨os1, hos1⟩ : ∃ os1, os1 = s₁.os := ⟨_, rfl⟩
  rw [← hg1, ← hdr1, ← hos1]
  refine hideCl N0 c1 c2 c3 c4 c5 c6 c7 ?_
  clear N0 c1 c2 c3 c4 c5 c6 c7
  intro nw N1 C1
  with_reducible refine cutK1 (fun X => ∀ (h : Heap) (tk : Nat) (m : Str → Option Value) (nw : List (Addr × Obj)) c ys zs k, Fr s₁.heap L' h m → News s₁.heap L' h nw → Cels L' nw none none none none none none none → (c, listOf ys.toArray k) ∈ nw → rv m "cells" c → IntsAre ys zs → zs.length = 8 → X h tk) ?_ ?_
  · intro Y1 hY1
    (repeat' (first | (( (with_reducible show wpAny _ _ (call (Value.ref 231) _ _) _ _ _); refine' Spec.useN (cells_spec _ _ _ _ _ ?spx ?spy) ?spA ?spB ?spF ?spN ?spX ?spT ?spD ?spU ?_; walk_at "MY use"; (case spx => exact Fr.lst (by assumption) (by assumption)); (case spy => assumption); intro v_c h_c tk_c hk_c F_c N_c nw_c of_c hp_c; revert v_c; refine un44 ?_; intro c_c ys_c zs_c k_c e2_c e3_c e4_c e5_c; (have N2_c := nw_c _ _ _ e2_c e3_c N_c); clear N_c nw_c of_c e2_c e3_c; (try dsimp only))) | (walk_at "MY one")))
    rename Fr s₁.heap L' _ _ => F2
    rename News s₁.heap L' _ _ => N2
    refine hY1 _ _ _ _ _ _ _ _ F2 N2 (C1.mono (by walk_at "MY sub")) (.head _) rfl (by assumption) (by assumption)
  clear N1 F0 C1 nw
  intro h1 tk1 m1 nw c ys zs k F1 N1 C1 mc hce hzs hz8
  have hy8 : ys.length = 8 := by rw [hzs.length, hz8]
  with_reducible refine cutK1 (fun X => ∀ (h : Heap) (tk : Nat) (m : Str → Option Value) (nw : List (Addr × Obj)) W vw kw, Fr s₁.heap L' h m → News s₁.heap L' h nw → Cels L' nw (some (.ref W)) none none none none none none → (W, listOf vw.toArray kw) ∈ nw → (c, listOf ys.toArray k) ∈ nw → rv m "cells" c → TxtsAre vw ((zs.take 6).map wordOf) → X h tk) ?_ ?_
  · intro Y1 hY1
    (repeat' (first | (( (with_reducible show wpAny _ _ (call (Value.ref 236) _ _) _ _ _); refine' Spec.use (word_spec _ _ _ _) ?spA ?spB ?spF ?spN ?spX ?spT ?spD ?spU ?_; walk_at "MY use"; intro v_c h_c tk_c hk_c F_c N_c hp_c; revert v_c; refine un10 ?_; intro t_c; (try dsimp only))) | (walk_at "MY one")))
    rename Fr s₁.heap L' _ _ => F2
    rename News s₁.heap L' _ _ => N2
    rename IntsAre _ (List.take 6 zs) => hI2
    obtain ⟨zs6, hzs6⟩ : ∃ zs6, zs6 = zs.take 6 := ⟨_, rfl⟩
    rw [← hzs6] at hI2
    try rw [← hzs6]
    have hl6 : zs6.length = 6 := by rw [hzs6, List.length_take, hz8]; rfl
    refine LCg.CompSrc.ledger (by rfl) F2 N2 (.head _) (by rw [List.size_toArray, hI2.length, hl6, sizeLine_eq]; omega) ?_
    intro g'
    refine compE (fun i us => TxtsAre us ((zs6.take i).map wordOf)) (.inr ⟨_, .head _, rfl, _, rfl⟩) .nil ?_ ?_
    · intro i v I oI C oC D m₂ us h tk E' hi9 hv hus hC hxx F3 N3 off ne
      obtain ⟨hj2, t2, hv2⟩ := ints_get hI2 (by simpa using hv)
      subst hv2
      have hst3 := map_take_succ wordOf zs6 i hj2
      (repeat' (first | (( (with_reducible show wpAny _ _ (call (Value.ref 236) _ _) _ _ _); refine' Spec.use (word_spec _ _ _ _) ?spA ?spB ?spF ?spN ?spX ?spT ?spD ?spU ?_; walk_at "MY use"; intro v_c h_c tk_c hk_c F_c N_c hp_c; revert v_c; refine un10 ?_; intro t_c; (try dsimp only))) | (walk_at "MY one")))
      (refine TurnC.endE (by assumption) (by assumption) (by kcf_all) (by assumption) ?_)
      exact by rw [hst3]; exact hus.snoc _ _
    intro us hus
    rw [List.size_toArray, hI2.length, List.take_length] at hus
    unfold LCg.FinE
    intro D h3 tk3 F3 N3 o1r
    refine storeC1 (x := Str.ofString "words") F3 N3 C1 (by walk_at "MY sub") rfl (fun h4 nw4 F4 N4 C4 K4 => ?_) rfl rfl
    (repeat' (first | (( (with_reducible show wpAny _ _ (call (Value.ref 236) _ _) _ _ _); refine' Spec.use (word_spec _ _ _ _) ?spA ?spB ?spF ?spN ?spX ?spT ?spD ?spU ?_; walk_at "MY use"; intro v_c h_c tk_c hk_c F_c N_c hp_c; revert v_c; refine un10 ?_; intro t_c; (try dsimp only))) | (walk_at "MY one")))
    refine hY1 _ _ _ _ D us _ F4 N4 C4 (K4 _ _ (.head _) ncL) (K4 _ _ (by walk_at "MY m") ncL) hce (by rw [← hzs6]; exact hus)
  clear N1 F1 hce hy8 C1 mc nw
  intro h1 tk1 m1 nw W vw kw F1 N1 C1 mW mc hce hvw
  try simp only [List.cons_append, List.nil_append] at N1
  obtain ⟨wds, hwds⟩ : ∃ wds, wds = (zs.take 6).map wordOf := ⟨_, rfl⟩
  rw [← hwds] at hvw
  have hw6 : wds.length = 6 := by rw [hwds, List.length_map, List.length_take, hz8]; rfl
  have hw3 : ∀ x ∈ wds, x.length ≤ 3 := fun x hx => by
    rw [hwds] at hx
    obtain ⟨z, -, rfl⟩ := List.mem_map.mp hx
    exact wordOf_len z
  have hwa : ∀ x ∈ wds, ∀ c ∈ x, c < 128 := fun x hx => by
    rw [hwds] at hx
    obtain ⟨z, -, rfl⟩ := List.mem_map.mp hx
    exact word_asc z
  have hwal : ∀ x ∈ wds, ∀ c ∈ x, c = 97 ∨ c = 65 ∨ c = 98 := fun x hx => by
    rw [hwds] at hx
    obtain ⟨z, -, rfl⟩ := List.mem_map.mp hx
    exact word_al z
  have hwn : ∀ x ∈ wds, ∀ c ∈ x, c ≠ 32 := fun x hx => by
    rw [hwds] at hx
    obtain ⟨z, -, rfl⟩ := List.mem_map.mp hx
    exact word_nb z
  with_reducible refine cutK1 (fun X => ∀ (h : Heap) (tk : Nat) (m : Str → Option Value) (nw : List (Addr × Obj)) R vr kr D vd kd, Fr s₁.heap L' h m → News s₁.heap L' h nw → Cels L' nw (some (.ref W)) none none none none none none → (R, listOf vr.toArray kr) ∈ nw → (D, listOf vd.toArray kd) ∈ nw → (W, listOf vw.toArray kw) ∈ nw → (c, listOf ys.toArray k) ∈ nw → rv m "cells" c → rv m "row" R → rv m "widths" D → IntsAre vr (rowOf (zs.getD 6 0)) → IntsAre vd (widOf (zs.getD 6 0)) → X h tk) ?_ ?_
  · intro Y1 hY1
    walk_at "MY go"
    rename Fr s₁.heap L' _ _ => F2
    rename News s₁.heap L' _ _ => N2
    refine' Spec.useN (rul_spec _ _ _ _) ?spA ?spB ?spF ?spN ?spX ?spT ?spD ?spU ?_
    walk_at "MY use"
    intro v' h' tk' hk' F3 N3 nw' of' hp'
    revert v'
    refine un78 ?_
    intro a b d us n xs n' e2 e3 e4 e5 e6 e7 e8 e9
    have N4 := nw' _ _ _ e3 e6 (nw' _ _ _ e4 e7 N3)
    clear N2 F2 nw' of' N3
    walk_at "MY go"
    rename Fr s₁.heap L' _ _ => F5
    rename News s₁.heap L' _ _ => N5
    refine assign2 rfl (show Heap.IsTuple _ _ _ from e2) F5 N5 rfl rfl rfl fun h6 tk6 F6 N6 => ?_
    have F7 : Fr s₁.heap L' h6 _ := F6
    have N7 : News s₁.heap L' h6 _ := N6
    clear F6 N6
    walk_at "MY go"
    refine hY1 _ _ _ _ b us n d xs n' F7 N7 (C1.mono (by walk_at "MY sub")) (by walk_at "MY m") (by walk_at "MY m") (by walk_at "MY m") (by walk_at "MY m") hce rfl rfl e8 e9
  clear N1 F1 hce C1 mW mc nw
  intro h1 tk1 m1 nw R vr kr D vd kd F1 N1 C1 mR mD mW mc hce hro hwi hvr hvd
  obtain ⟨row, hrow⟩ : ∃ row, row = rowOf (zs.getD 6 0) := ⟨_, rfl⟩
  obtain ⟨wid, hwid⟩ : ∃ wid, wid = widOf (zs.getD 6 0) := ⟨_, rfl⟩
  rw [← hrow] at hvr
  rw [← hwid] at hvd
  obtain ⟨hwd6, hwdb⟩ := widOf_ok (zs.getD 6 0)
  rw [← hwid] at hwd6 hwdb
  have hfewb : 0 ≤ (zs.getD (Int.toNat 7) 0).fmod 4 ∧ (zs.getD (Int.toNat 7) 0).fmod 4 ≤ 3 := by
    have h1 := fmod_lo (zs.getD (Int.toNat 7) 0) (n := 4) (by decide)
    have h2 := fmod_hi (zs.getD (Int.toNat 7) 0) (n := 4) (by decide)
    omega
  with_reducible refine cutK2 (fun X => ∀ (h : Heap) (tk : Nat) (m : Str → Option Value) (nw : List (Addr × Obj)) f vf kf g vg kg t, Fr s₁.heap L' h m → News s₁.heap L' h nw → Cels L' nw (some (.ref W)) (some (.int ((zs.getD 7 0).fmod 4) t)) none none none none none → (f, listOf vf.toArray kf) ∈ nw → (g, listOf vg.toArray kg) ∈ nw → (R, listOf vr.toArray kr) ∈ nw → (D, listOf vd.toArray kd) ∈ nw → (W, listOf vw.toArray kw) ∈ nw → (c, listOf ys.toArray k) ∈ nw → rv m "cells" c → rv m "row" R → rv m "fields" f → rv m "fewer" g → TxtsAre vf ((List.range 6).map (fieldOf wds wid (zs.getD 7 0))) → TxtsAre vg ((List.range 6).map (fewOf wds wid (zs.getD 7 0) ((zs.getD 7 0).fmod 4))) → X h tk) ?_ ?_
  · intro Y1 hY1
    walk_at "MY go"
    rename Fr s₁.heap L' _ _ => F2
    rename News s₁.heap L' _ _ => N2
    refine storeC2 (x := Str.ofString "few") F2 N2 C1 (by walk_at "MY sub") rfl (fun h4 nw4 F4 N4 C4 K4 => ?_) rfl rfl
    have qR := K4 _ _ mR ncL
    have qD := K4 _ _ mD ncL
    have qW := K4 _ _ mW ncL
    have qc := K4 _ _ mc ncL
    clear K4 F2 N2 C1 mR mD mW mc
    refine C4.g1 ?_
    intro o1 q1 c1
    refine C4.g2 ?_
    intro o2 q2 c2
    walk_at "MY go"
    rename Fr s₁.heap L' _ _ => F2
    rename News s₁.heap L' _ _ => N2
    refine' Spec.useN (fields_spec _ _ W D vw vd wds wid _ _ _ _ (News.isList N2 (by walk_at "MY m")) hvw (News.isList N2 (by walk_at "MY m")) hvd hw6 hwd6 hw3 hwdb hfewb) ?spA ?spB ?spF ?spN ?spX ?spT ?spD ?spU ?_
    walk_at "MY use"
    intro v' h' tk' hk' F3 N3 nw' of' hp'
    revert v'
    refine un78 ?_
    intro a b d us n xs n' e2 e3 e4 e5 e6 e7 e8 e9
    have N4 := nw' _ _ _ e3 e6 (nw' _ _ _ e4 e7 N3)
    clear N2 F2 nw' of' N3
    walk_at "MY go"
    rename Fr s₁.heap L' _ _ => F5
    rename News s₁.heap L' _ _ => N5
    refine assign2 rfl (show Heap.IsTuple _ _ _ from e2) F5 N5 rfl rfl rfl fun h6 tk6 F6 N6 => ?_
    have F7 : Fr s₁.heap L' h6 _ := F6
    have N7 : News s₁.heap L' h6 _ := N6
    clear F6 N6
    walk_at "MY go"
    refine hY1 _ _ _ _ b us n d xs n' _ F7 N7 (C4.mono (by walk_at "MY sub")) (by walk_at "MY m") (by walk_at "MY m") (by walk_at "MY m") (by walk_at "MY m") (by walk_at "MY m") (by walk_at "MY m") hce hro rfl rfl e8 e9
  clear N1 F1 hce hro hwi C1 mR mD mW mc nw
  intro h1 tk1 m1 nw f vf kf g vg kg tf F1 N1 C1 mf mg mR mD mW mc hce hro hfi hfe hvf hvg
  with_reducible refine cutL1 (fun s' => ∀ X : Prop, (∀ G' h tk m nw K vk kk, s' = ⟨h, G', dr1, tk, os1⟩ → (AllBare g1 → AllBare G') → Fr s₁.heap L' h m → News s₁.heap L' h nw → Cels L' nw (some (.ref W)) (some (.int ((zs.getD 7 0).fmod 4) tf)) none none none none none → (K, listOf vk.toArray kk) ∈ nw → (f, listOf vf.toArray kf) ∈ nw → (g, listOf vg.toArray kg) ∈ nw → (W, listOf vw.toArray kw) ∈ nw → (c, listOf ys.toArray k) ∈ nw → rv m "cells" c → rv m "fields" f → rv m "fewer" g → rv m "cut" K → TxtsAre vk (fieldsOf wds (zs.getD 6 0) (zs.getD 7 0) ++ List.replicate (blanksOf (zs.getD 6 0)) []) → X) → X) ?_ ?_
  · walk_at "MY go"
    rename Fr s₁.heap L' _ _ => F2
    rename News s₁.heap L' _ _ => N2
    try dsimp only
    refine slice_rev6 F2 N2 (News.isList N2 mf) (by rw [hvf.length, List.length_map, List.length_range]) fun h3 cr F3 N3 => ?_
    clear F2 N2
    walk_at "MY go"
    refine join_TL [] rfl (by decide) (News.isList N3 (.head _)) hvf.rev (by rw [List.length_reverse, List.length_map, List.length_range]; omega) (fun l hl => ?_) ?_
    · have := fields_len wds (zs.getD 6 0) (zs.getD 7 0) hw3 l (by rw [fieldsOf, ← hwid]; exact List.mem_reverse.mp hl)
      omega
    intro tj kj
    rw [hwid, show jn [] (List.map (fieldOf wds (widOf (zs.getD 6 0)) (zs.getD 7 0)) (List.range 6)).reverse = lineOf wds (zs.getD 6 0) (zs.getD 7 0) from rfl]
    walk_at "MY go"
    rename Fr s₁.heap L' _ _ => F4
    rename News s₁.heap L' _ _ => N4
    rw [hrow] at hvr
    refine' SpecG.useN (cut_spec _ _ R (lineOf wds (zs.getD 6 0) (zs.getD 7 0)) _ vr (rowOf (zs.getD 6 0)) (line_len _ _ _ hw3) (News.isList N4 (by walk_at "MY m")) hvr (row_len _) (row_ok _) (ivs_ok _)) ?spA ?spB ?spF ?spN ?spX ?spT ?spD ?spU ?_
    walk_at "MY use"
    intro v' h5 tk5 G' hG F5 N5 nw' of' hp'
    revert v'
    refine un33 ?_
    intro K vk kk e2 e3 e4
    rw [pieces_ok _ _ _ hw6 hw3] at e4
    have N6 := nw' _ _ _ e2 e3 N5
    clear N4 F4 nw' of' N5
    walk_at "MY go"
    rename Fr _ L' _ _ => F7
    rename News _ L' _ _ => N7
    exact ⟨rfl, fun X k => k G' _ _ _ _ K vk kk rfl hG F7 N7 (C1.mono (by walk_at "MY sub")) (by walk_at "MY m") (by walk_at "MY m") (by walk_at "MY m") (by walk_at "MY m") (by walk_at "MY m") hce hfi hfe rfl e4⟩
  clear N1 F1 hce hro hfi hfe C1 mf mg mR mD mW mc nw
  intro s' hAt
  refine hAt _ ?_
  clear hAt
  intro G' h1 tk1 m1 nw K vk kk es hG F1 N1 C1 mK mf mg mW mc hce hfi hfe hcu hvk
  subst es
  with_reducible refine cutK1 (fun X => ∀ (h : Heap) (tk : Nat) (m : Str → Option Value) (nw : List (Addr × Obj)), Fr s₁.heap L' h m → News s₁.heap L' h nw → Cels L' nw (some (.ref W)) (some (.int ((zs.getD 7 0).fmod 4) tf)) none none none none none → (K, listOf vk.toArray kk) ∈ nw → (g, listOf vg.toArray kg) ∈ nw → (W, listOf vw.toArray kw) ∈ nw → (c, listOf ys.toArray k) ∈ nw → rv m "cells" c → rv m "fewer" g → rv m "cut" K → X h tk) ?_ ?_
  · intro Y1 hY1
    walk_at "MY go"
    rename News _ L' _ _ => N2
    have hq0 := fmod_lo ((zs.getD (Int.toNat 6) 0).fdiv 9) (n := 3) (by decide)
    have hq1 := fmod_hi ((zs.getD (Int.toNat 6) 0).fdiv 9) (n := 3) (by decide)
    refine item_tri (News.isTup N2 (.head _)) hq0 hq1 ?_
    intro t9
    walk_at "MY go"
    try dsimp only
    rename Fr _ L' _ _ => F2
    obtain ⟨hb1, hb2⟩ := blanks_int (zs.getD (Int.toNat 6) 0)
    rw [hb1]
    refine mul_one F2 N2 (News.get N2 (.tail _ (.head _))) (by omega) (by omega) fun h3 d3 F3 N3 => ?_
    rw [Int.toNat_natCast] at N3
    clear F2 N2
    walk_at "MY go"
    try dsimp only
    have hfl : vf.length = 6 := by rw [hvf.length, List.length_map, List.length_range]
    refine add_listsC F3 N3 (News.isList N3 (.tail _ (.tail _ (.tail _ mf)))) (News.isList N3 (.head _)) (by rw [hfl, List.length_replicate]; omega) fun d4 h4 F4 N4 => ?_
    clear F3 N3
    walk_at "MY go"
    have hvf2 : TxtsAre vf (fieldsOf wds (zs.getD 6 0) (zs.getD 7 0)) := by rw [fieldsOf, ← hwid]; exact hvf
    refine ne_txts (News.isList N4 (.tail _ (.tail _ (.tail _ (.tail _ mK))))) (News.isList N4 (.head _)) hvk (hvf2.append (txts_rep _ _)) (fun l hl => ?_) (by dsimp only [Around.deeper]; omega) ?_
    · rcases List.mem_append.mp hl with hl | hl
      · exact fields_asc _ _ _ hwa l hl
      · rw [List.eq_of_mem_replicate hl]
        exact fun c hc => nomatch hc
    walk_at "MY go"
    refine hY1 _ _ _ _ F4 N4 (C1.mono (by walk_at "MY sub")) (by walk_at "MY m") (by walk_at "MY m") (by walk_at "MY m") (by walk_at "MY m") hce hfe hcu
  clear N1 F1 hce hfi hfe hcu C1 mK mf mg mW mc nw hvf
  intro h1 tk1 m1 nw F1 N1 C1 mK mg mW mc hce hfe hcu
  obtain ⟨fl, hfl⟩ : ∃ fl, fl = fieldsOf wds (zs.getD 6 0) (zs.getD 7 0) := ⟨_, rfl⟩
  rw [← hfl] at hvk
  have hfl6 : fl.length = 6 := by rw [hfl, fieldsOf, List.length_map, List.length_range]
  have hvk6 : vk.length = 6 + blanksOf (zs.getD 6 0) := by rw [hvk.length, List.length_append, hfl6, List.length_replicate]
  have hbl := (blanks_int (zs.getD 6 0)).2
  have hflr := fields_room wds (zs.getD 6 0) (zs.getD 7 0) hw6 hw3
  have hfll := fields_len wds (zs.getD 6 0) (zs.getD 7 0) hw3
  rw [← hfl] at hflr hfll
  have hvt : TxtsAre (vk.take 6) fl := by
    have := hvk.take 6
    rwa [List.take_append_of_le_length (Nat.le_of_eq hfl6.symm), List.take_of_length_le (Nat.le_of_eq hfl6)] at this
  with_reducible refine cutK1 (fun X => ∀ (h : Heap) (tk : Nat) (m : Str → Option Value) (nw : List (Addr × Obj)), Fr s₁.heap L' h m → News s₁.heap L' h nw → Cels L' nw (some (.ref W)) (some (.int ((zs.getD 7 0).fmod 4) tf)) none none none none none → (K, listOf vk.toArray kk) ∈ nw → (W, listOf vw.toArray kw) ∈ nw → (c, listOf ys.toArray k) ∈ nw → rv m "cells" c → rv m "cut" K → X h tk) ?_ ?_
  · intro Y1 hY1
    walk_at "MY go"
    try dsimp only
    rename Fr _ L' _ _ => F2
    rename News _ L' _ _ => N2
    refine C1.g1 ?_
    intro o1 q1 c1
    refine C1.g2 ?_
    intro o2 q2 c2
    refine slice_take6 F2 N2 (News.isList N2 mK) (by omega) (by omega) fun h3 d3 F3 N3 => ?_
    clear F2 N2
    have hvt6 : (vk.take 6).length = 6 := by rw [hvt.length, hfl6]
    refine LCg.CompSrc.ledger (by rfl) F3 N3 (.head _) (by rw [List.size_toArray, hvt6, sizeLine_eq]; omega) ?_
    intro g'
    refine compE (fun i us => TxtsAre us ((fl.take i).map fun x => stripOf x ((zs.getD 7 0).fmod 4).toNat)) (.inr ⟨_, .head _, rfl, _, rfl⟩) .nil ?_ ?_
    · intro i v I oI C oC D m₂ us h tk E' hi9 hv hus hC hxx F5 N5 off ne
      obtain ⟨hj2, t2, hv2⟩ := hvt.get (by simpa using hv)
      subst hv2
      have hst3 := map_take_succ (fun x => stripOf x ((zs.getD 7 0).fmod 4).toNat) fl i hj2
      walk_at "MY go"
      refine' Spec.use (strip_spec _ _ fl[i] _ _ _ ((zs.getD 7 0).fmod 4).toNat (Int.toNat_of_nonneg hfewb.1).symm ?spn ?spx) ?spA ?spB ?spF ?spN ?spX ?spT ?spD ?spU ?_
      case spn => (have := hflr fl[i] (List.getElem_mem hj2); have := hfewb.2; have e7 : (Int.toNat 7) = 7 := rfl; rw [e7] at this; omega)
      case spx => (have := hfll fl[i] (List.getElem_mem hj2); omega)
      walk_at "MY use"
      intro v' h' tk' hk' F' N' hp'
      revert v'
      refine un10 ?_
      intro t'
      walk_at "MY go"
      (refine TurnC.endE (by assumption) (by assumption) (by kcf_all) (by assumption) ?_)
      exact by rw [hst3]; exact hus.snoc _ _
    intro us hus
    rw [List.size_toArray, hvt6, List.take_of_length_le (Nat.le_of_eq hfl6), hfl, strip_few wds (zs.getD 6 0) (zs.getD 7 0) ((zs.getD 7 0).fmod 4) hw6 hw3 hwn hfewb.1 hfewb.2, ← hwid] at hus
    unfold LCg.FinE
    intro D h5 tk5 F5 N5 o1r
    clear F3 N3
    walk_at "MY go"
    try dsimp only
    refine ne_txts (News.isList N5 (.head _)) (News.isList N5 (by walk_at "MY m")) hus hvg (by rw [hwid]; exact few_asc _ _ _ _ hwa) (by dsimp only [Around.deeper]; omega) ?_
    walk_at "MY go"
    refine hY1 _ _ _ _ F5 N5 (C1.mono (by walk_at "MY sub")) (by walk_at "MY m") (by walk_at "MY m") (by walk_at "MY m") hce hcu
  clear N1 F1 hce hfe hcu C1 mK mg mW mc nw hvg
  intro h1 tk1 m1 nw F1 N1 C1 mK mW mc hce hcu
  with_reducible refine cutK1 (fun X => ∀ (h : Heap) (tk : Nat) (m : Str → Option Value) (nw : List (Addr × Obj)), Fr s₁.heap L' h m → News s₁.heap L' h nw → Cels L' nw (some (.ref W)) (some (.int ((zs.getD 7 0).fmod 4) tf)) none none none none none → (W, listOf vw.toArray kw) ∈ nw → (c, listOf ys.toArray k) ∈ nw → rv m "cells" c → X h tk) ?_ ?_
  · intro Y1 hY1
    walk_at "MY go"
    try dsimp only
    rename Fr _ L' _ _ => F2
    rename News _ L' _ _ => N2
    refine C1.g1 ?_
    intro o1 q1 c1
    refine C1.g2 ?_
    intro o2 q2 c2
    refine slice_take6 F2 N2 (News.isList N2 mK) (by omega) (by omega) fun h3 d3 F3 N3 => ?_
    clear F2 N2
    have hvt6 : (vk.take 6).length = 6 := by rw [hvt.length, hfl6]
    refine LCg.CompSrc.ledger (by rfl) F3 N3 (.head _) (by rw [List.size_toArray, hvt6, sizeLine_eq]; omega) ?_
    intro g'
    refine compE (fun i us => TxtsAre us ((fl.take i).map fun x => stripOf x x.length)) (.inr ⟨_, .head _, rfl, _, rfl⟩) .nil ?_ ?_
    · intro i v I oI C oC D m₂ us h tk E' hi9 hv hus hC hxx F5 N5 off ne
      obtain ⟨hj2, t2, hv2⟩ := hvt.get (by simpa using hv)
      subst hv2
      have hst3 := map_take_succ (fun x => stripOf x x.length) fl i hj2
      have hfli := hfll fl[i] (List.getElem_mem hj2)
      walk_at "MY go"
      rename Fr _ _ _ _ => F6
      rename News _ _ _ _ => N6
      refine' Spec.use (strip_spec _ _ fl[i] _ _ _ fl[i].length ?spq ?spn ?spx) ?spA ?spB ?spF ?spN ?spX ?spT ?spD ?spU ?_
      case spq => rfl
      case spn => exact Nat.le_refl _
      case spx => omega
      walk_at "MY use"
      intro v' h' tk' hk' F' N' hp'
      revert v'
      refine un10 ?_
      intro t'
      walk_at "MY go"
      (refine TurnC.endE (by assumption) (by assumption) (by kcf_all) (by assumption) ?_)
      exact by rw [hst3]; exact hus.snoc _ _
    intro us hus
    rw [List.size_toArray, hvt6, List.take_of_length_le (Nat.le_of_eq hfl6), hfl, strip_all wds (zs.getD 6 0) (zs.getD 7 0) hw6 hw3 hwn] at hus
    unfold LCg.FinE
    intro D h5 tk5 F5 N5 o1r
    clear F3 N3
    walk_at "MY go"
    try dsimp only
    refine ne_txts (News.isList N5 (.head _)) (News.isList N5 (by walk_at "MY m")) hus hvw hwa (by dsimp only [Around.deeper]; omega) ?_
    walk_at "MY go"
    refine hY1 _ _ _ _ F5 N5 (C1.mono (by walk_at "MY sub")) (by walk_at "MY m") (by walk_at "MY m") hce
  clear N1 F1 hce hcu C1 mK mW mc nw hvt hvk hvk6 hbl hfll hflr hfl6 hfl
  intro h1 tk1 m1 nw F1 N1 C1 mW mc hce
  obtain ⟨sh, hsh⟩ : ∃ sh, sh = (zs.getD 7 0).fmod 27 := ⟨_, rfl⟩
  have hsh0 : 0 ≤ sh ∧ sh < 27 := by
    have h1 := fmod_lo (zs.getD 7 0) (n := 27) (by decide)
    have h2 := fmod_hi (zs.getD 7 0) (n := 27) (by decide)
    omega
  with_reducible refine cutK2 (fun X => ∀ (h : Heap) (tk : Nat) (m : Str → Option Value) (nw : List (Addr × Obj)) t3 Nn nv kn, Fr s₁.heap L' h m → News s₁.heap L' h nw → Cels L' nw (some (.ref W)) (some (.int ((zs.getD 7 0).fmod 4) tf)) (some (.int sh t3)) (some (.ref Nn)) none none none → (Nn, listOf nv.toArray kn) ∈ nw → (W, listOf vw.toArray kw) ∈ nw → (c, listOf ys.toArray k) ∈ nw → rv m "cells" c → TxtsAre nv ((List.range 6).map fun i => nmOf (sh.toNat + i)) → X h tk) ?_ ?_
  · intro Y1 hY1
    walk_at "MY go"
    rename Fr _ L' _ _ => F2
    rename News _ L' _ _ => N2
    refine storeC3 (x := Str.ofString "shift") F2 N2 C1 (by walk_at "MY sub") rfl (fun h4 nw4 F4 N4 C4 K4 => ?_) rfl rfl
    have qW := K4 _ _ mW ncL
    have qc := K4 _ _ mc ncL
    clear K4 F2 N2 C1 mW mc
    refine C4.g3 ?_
    intro o3 q3 c3
    walk_at "MY go"
    rename Fr s₁.heap L' _ _ => F2
    rename News s₁.heap L' _ _ => N2
    refine' Spec.useN (names_spec _ _ _ _ ?spx ?spy) ?spA ?spB ?spF ?spN ?spX ?spT ?spD ?spU ?_
    walk_at "MY use"
    case spx => exact fmod_lo _ (by decide)
    case spy => exact fmod_hi _ (by decide)
    intro v' h' tk' hk' F3 N3 nw' of' hp'
    revert v'
    refine un33 ?_
    intro Nn nv kn e2 e3 e4
    have N4 := nw' _ _ _ e2 e3 N3
    clear N2 F2 nw' of' N3
    walk_at "MY go"
    rename Fr _ L' _ _ => F5
    rename News _ L' _ _ => N5
    refine storeC4 (x := Str.ofString "names") F5 N5 C4 (by walk_at "MY sub") rfl (fun h6 nw6 F6 N6 C6 K6 => ?_) rfl rfl
    walk_at "MY go"
    refine hY1 _ _ _ _ _ Nn nv kn F6 N6 (by rw [hsh]; exact C6) (K6 _ _ (by walk_at "MY m") ncL) (K6 _ _ (by walk_at "MY m") ncL) (K6 _ _ (by walk_at "MY m") ncL) hce (by rw [hsh]; exact e4)
  clear N1 F1 hce C1 mW mc nw
  intro h1 tk1 m1 nw t3 Nn nv kn F1 N1 C1 mNn mW mc hce hnv
  with_reducible refine cutK1 (fun X => ∀ (h : Heap) (tk : Nat) (m : Str → Option Value) (nw : List (Addr × Obj)) Ab av ka, Fr s₁.heap L' h m → News s₁.heap L' h nw → Cels L' nw (some (.ref W)) (some (.int ((zs.getD 7 0).fmod 4) tf)) (some (.int sh t3)) (some (.ref Nn)) none none none → (Ab, listOf (List.toArray av) ka) ∈ nw → (Nn, listOf nv.toArray kn) ∈ nw → (W, listOf vw.toArray kw) ∈ nw → (c, listOf ys.toArray k) ∈ nw → rv m "cells" c → rv m "above" Ab → RowsI (fun p o => (p, o) ∈ nw) av ((List.range 6).map (aboveOf wds)) → X h tk) ?_ ?_
  · intro Y1 hY1
    refine C1.g1 ?_
    intro o1 q1 c1
    walk_at "MY go"
    rename IsRange _ _ 0 6 1 _ _ _ => hR
    refine' LCg.CompSrc.range (n := 6) (by rfl) (by k_asm) (by k_asm) hR ?sm ?rn ?sz ?_
    case sm => exact small_one (by omega) (by omega) (by omega) (by omega)
    case rn => (rw [rangeSize_one]; (first | omega | (split <;> omega)))
    case sz => (rw [PySem.sizeLine_eq]; omega)
    intro g'
    refine compJ (fun i us nw' => (∀ p ∈ nw, p ∈ nw') ∧ RowsI (fun p o => (p, o) ∈ nw') us ((List.range i).map (aboveOf wds))) (fun _ _ _ _ => trivial) ⟨subS, .nil⟩ ?_ ?_
    · rintro i v I oI C oC D m₂ us nw2 h tk E' hi ⟨t2, rfl⟩ ⟨hsub, hus⟩ hC hx F2 N2 off2 ne
      rw [Int.zero_add] at hx
      have q1' := hsub _ q1
      have mW' := hsub _ mW
      dsimp only at F2 N2 ⊢
      walk_at "MY go"
      rename Fr _ _ h _ => F3
      rename News _ _ h _ => N3
      refine' Spec.useN (above_spec _ _ W vw wds i _ (News.isList N3 (by walk_at "MY m")) hvw ?spx ?spy hw3) ?spA ?spB ?spF ?spN ?spX ?spT ?spD ?spU ?_
      case spx => (rw [hw6]; exact hi)
      case spy => exact Nat.le_of_eq hw6
      walk_at "MY use"
      intro v' h' tk' hk' F4 N4 nw' of' hp'
      revert v'
      refine un33 ?_
      intro c9 ys9 n9 e2 e3 e4
      have N5 := nw' _ _ _ e2 e3 N4
      have o5r := of' _ e2
      clear nw' of' N4 N3 F3
      walk_at "MY go"
      rename Fr _ _ _ _ => F6
      rename News _ _ _ _ => N6
      refine TurnC.end ((c9, listOf ys9.toArray n9) :: nw2) F6 N6 (by walk_at "MY sub") (off3_cons off2 o5r) ⟨fun p hp => .tail _ (hsub p hp), ?_⟩
      rw [List.range_succ, List.map_append]
      exact (hus.mono fun p o hp => .tail _ hp).snoc (.head _) e4
    rintro us nw2 ⟨hsub, hus⟩
    unfold LCg.FinA
    intro D h3 tk3 F3 N3 o1r
    walk_at "MY go"
    rename Fr _ L' _ _ => F4
    rename News _ L' _ _ => N4
    refine hY1 _ _ _ _ D us us.length F4 N4 (C1.mono fun p hp => .tail _ (hsub p hp)) (.head _) (.tail _ (hsub _ mNn)) (.tail _ (hsub _ mW)) (.tail _ (hsub _ mc)) hce rfl (hus.mono fun p o hp => .tail _ hp)
  clear N1 F1 hce C1 mNn mW mc nw
  intro h1 tk1 m1 nw Ab av ka F1 N1 C1 mAb mNn mW mc hce hab hav
  with_reducible refine cutK1 (fun X => ∀ (h : Heap) (tk : Nat) (m : Str → Option Value) (nw : List (Addr × Obj)) Hd hv kh, Fr s₁.heap L' h m → News s₁.heap L' h nw → Cels L' nw (some (.ref W)) (some (.int ((zs.getD 7 0).fmod 4) tf)) (some (.int sh t3)) (some (.ref Nn)) none (some (.ref Hd)) none → (Hd, listOf (List.toArray hv) kh) ∈ nw → (Ab, listOf (List.toArray av) ka) ∈ nw → (Nn, listOf nv.toArray kn) ∈ nw → (W, listOf vw.toArray kw) ∈ nw → (c, listOf ys.toArray k) ∈ nw → rv m "cells" c → rv m "above" Ab → RowsI (fun p o => (p, o) ∈ nw) av ((List.range 6).map (aboveOf wds)) → TxtsAre hv ((List.range 6).map fun i => heldOf wds sh.toNat i) → X h tk) ?_ ?_
  · intro Y1 hY1
    walk_at "MY go"
    rename Fr _ L' _ _ => F2
    rename News _ L' _ _ => N2
    refine C1.g3 ?_
    intro o3 q3 c3
    refine LCg.CompSrc.ledger (by rfl) F2 N2 mAb (by rw [List.size_toArray, hav.length, List.length_map, List.length_range, sizeLine_eq]; omega) ?_
    intro g'
    refine compJ (fun i us nw' => (∀ p ∈ nw, p ∈ nw') ∧ TxtsAre us ((List.range i).map fun i => heldOf wds sh.toNat i)) ?_ ⟨subS, .nil⟩ ?_ ?_
    · rintro i us nw' ⟨hsub, -⟩
      exact .inr ⟨_, hsub _ mAb, rfl, _, rfl⟩
    · rintro i v I oI C oC D m₂ us nw2 h tk E' hi9 hv ⟨hsub, hus⟩ hC hxx F5 N5 off ne
      obtain ⟨hj2, ch, vh, nh, hv2, hmh, hih⟩ := hav.at (by simpa using hv)
      subst hv2
      have hmh2 := hsub _ hmh
      have q3' := hsub _ q3
      walk_at "MY go"
      rename Fr _ L' _ _ => F6
      rename News _ L' _ _ => N6
      have hi6 : i < 6 := by simpa using hj2
      simp only [List.getElem_map, List.getElem_range] at hih
      have hrl := above_len wds i
      have hrb := above_lt wds i
      generalize hrow9 : aboveOf wds i = row9 at hih hrl hrb
      rw [hw6] at hrl hrb
      refine LCg.CompSrc.ledger (ax := ch) (its := vh.toArray) (k := nh) (by rfl) F6 N6 (.tail _ (.tail _ (.tail _ hmh2))) ?_ ?_
      · (rw [PySem.sizeLine_eq, List.size_toArray, hih.length]; omega)
      intro g2
      refine compE (fun j us => IntsAre us ((row9.take j).map fun p => ((2 ^ (p.toNat + sh.toNat) : Nat) : Int))) (.inr ⟨_, .tail _ (.tail _ (.tail _ hmh2)), rfl, _, rfl⟩) .nil ?_ ?_
      · intro j4 v4 I4 oI4 C4 oC4 D4 m4 us4 h4 tk4 E4 hj4 hv4 hus4 hC4 hxx4 F4 N4 off4 ne4
        obtain ⟨hj5, t5, hv5⟩ := ints_get hih (by simpa using hv4)
        subst hv5
        have hst5 := map_take_succ (fun p : Int => ((2 ^ (p.toNat + sh.toNat) : Nat) : Int)) row9 j4 hj5
        have hzb := hrb _ (List.getElem_mem hj5)
        generalize row9[j4] = z5 at hst5 hxx4 hzb
        walk_at "MY go"
        (refine TurnC.endE (by assumption) (by assumption) (by kcf_all) (by assumption) ?_)
        rw [hst5]
        rw [← pow_sh z5 sh hzb.1 hsh0.1]
        exact hus4.append (.cons _ _ .nil)
      intro us4 hus4
      rw [List.size_toArray, hih.length, List.take_length] at hus4
      unfold LCg.FinE
      intro D5 h26 tk26 F26 N26 off5
      walk_at "MY go"
      rw [sumOf_int sh.toNat row9]
      have hslt := sumOf_lt sh row9 0 hrl hrb hsh0
      rename Fr _ L' _ _ => F27
      rename News _ L' _ _ => N27
      refine' Spec.use (pf_spec _ _ (sumOf sh.toNat row9) _ ?spx) ?spA ?spB ?spF ?spN ?spX ?spT ?spD ?spU ?_
      case spx => exact hslt
      walk_at "MY use"
      intro v' h' tk' hk' F' N' hp'
      revert v'
      refine un10 ?_
      intro t'
      refine TurnC.end _ F' N' ?sub off ⟨hsub, ?_⟩
      case sub => exact fun p hp => .tail _ hp
      have e9 : heldOf wds sh.toNat i = pfOf (sumOf sh.toNat row9) := by rw [heldOf, hrow9]
      rw [List.range_succ, List.map_append]
      show TxtsAre _ (_ ++ [heldOf wds sh.toNat i])
      rw [e9]
      exact hus.snoc _ _
    rintro us nw2 ⟨hsub, hus⟩
    rw [List.size_toArray, hav.length, List.length_map, List.length_range] at hus
    unfold LCg.FinE
    intro D h3 tk3 F3 N3 o1r
    refine storeC6 (x := Str.ofString "held") F3 N3 C1 (fun p hp => .tail _ (hsub p hp)) rfl (fun h4 nw4 F4 N4 C4 K4 => ?_) rfl rfl
    walk_at "MY go"
    refine hY1 _ _ _ _ D us us.length F4 N4 C4 (K4 _ _ (.head _) ncL) (K4 _ _ (.tail _ (hsub _ mAb)) ncL) (K4 _ _ (.tail _ (hsub _ mNn)) ncL) (K4 _ _ (.tail _ (hsub _ mW)) ncL) (K4 _ _ (.tail _ (hsub _ mc)) ncL) hce hab (hav.keep fun p o hp hn => K4 _ _ (.tail _ (hsub _ hp)) hn) hus
  clear N1 F1 hce hab hav C1 mAb mNn mW mc nw
  intro h1 tk1 m1 nw Hd hdv kh F1 N1 C1 mHd mAb mNn mW mc hce hab hav hhv
  with_reducible refine cutK1 (fun X => ∀ (h : Heap) (tk : Nat) (m : Str → Option Value) (nw : List (Addr × Obj)), Fr s₁.heap L' h m → News s₁.heap L' h nw → Cels L' nw (some (.ref W)) (some (.int ((zs.getD 7 0).fmod 4) tf)) (some (.int sh t3)) (some (.ref Nn)) none (some (.ref Hd)) none → (Hd, listOf (List.toArray hdv) kh) ∈ nw → (Nn, listOf nv.toArray kn) ∈ nw → (W, listOf vw.toArray kw) ∈ nw → (c, listOf ys.toArray k) ∈ nw → rv m "cells" c → X h tk) ?_ ?_
  · intro Y1 hY1
    refine C1.g4 ?_
    intro o4 q4 c4
    refine C1.g6 ?_
    intro o6 q6 c6
    walk_at "MY go"
    rename Fr _ L' _ _ => F2
    rename News _ L' _ _ => N2
    refine LCg.CompSrc.ledger (by rfl) F2 N2 mAb (by rw [List.size_toArray, hav.length, List.length_map, List.length_range, sizeLine_eq]; omega) ?_
    intro g'
    refine compJ (fun i us nw' => (∀ p ∈ nw, p ∈ nw') ∧ TxtsAre us ((List.range i).map fun i => toldOf wds sh.toNat i)) ?_ ⟨subS, .nil⟩ ?_ ?_
    · rintro i us nw' ⟨hsub, -⟩
      exact .inr ⟨_, hsub _ mAb, rfl, _, rfl⟩
    · rintro i v I oI C oC D m₂ us nw2 h tk E' hi9 hv ⟨hsub, hus⟩ hC hxx F5 N5 off ne
      obtain ⟨hj2, ch, vh, nh, hv2, hmh, hih⟩ := hav.at (by simpa using hv)
      subst hv2
      have hmh2 := hsub _ hmh
      have q4' := hsub _ q4
      have mN' := hsub _ mNn
      walk_at "MY go"
      rename Fr _ L' _ _ => F6
      rename News _ L' _ _ => N6
      have hi6 : i < 6 := by simpa using hj2
      simp only [List.getElem_map, List.getElem_range] at hih
      have hrl := above_len wds i
      have hrb := above_lt wds i
      generalize hrow9 : aboveOf wds i = row9 at hih hrl hrb
      rw [hw6] at hrl hrb
      refine LCg.CompSrc.ledger (ax := ch) (its := vh.toArray) (k := nh) (by rfl) F6 N6 (.tail _ (.tail _ (.tail _ hmh2))) ?_ ?_
      · (rw [PySem.sizeLine_eq, List.size_toArray, hih.length]; omega)
      intro g2
      refine compE (fun j us => TxtsAre us ((row9.take j).map fun p => nmOf (sh.toNat + p.toNat))) (.inr ⟨_, .tail _ (.tail _ (.tail _ hmh2)), rfl, _, rfl⟩) .nil ?_ ?_
      · intro j4 v4 I4 oI4 C4 oC4 D4 m4 us4 h4 tk4 E4 hj4 hv4 hus4 hC4 hxx4 F4 N4 off4 ne4
        obtain ⟨hj5, t5, hv5⟩ := ints_get hih (by simpa using hv4)
        subst hv5
        have hst5 := map_take_succ (fun p : Int => nmOf (sh.toNat + p.toNat)) row9 j4 hj5
        have hzb := hrb _ (List.getElem_mem hj5)
        generalize row9[j4] = z5 at hst5 hxx4 hzb
        iterate 3 (walk_at "MY one")
        refine' item_TL (vs := nv) (ws := (List.range 6).map fun i => nmOf (sh.toNat + i)) (News.isList N4 (.tail _ (.tail _ (.tail _ (.tail _ (.tail _ (.tail _ mN'))))))) hnv hzb.1 (by rw [List.length_map, List.length_range]; exact hzb.2) (by rw [List.length_map, List.length_range]; omega) ?_ ?its ?itg
        case its => with_unfolding_all rfl
        case itg => (intro _; with_unfolding_all rfl)
        intro t6
        rw [names_at sh z5 hzb.1 hzb.2]
        refine TurnC.endE F4 N4 (fun p hp => hp) off4 ?_
        rw [hst5]
        exact hus4.snoc _ _
      intro us4 hus4
      rw [List.size_toArray, hih.length, List.take_length] at hus4
      unfold LCg.FinE
      intro D5 h26 tk26 F26 N26 off5
      walk_at "MY go"
      refine join_TL [44, 32] rfl (by decide) (News.isList N26 (.head _)) hus4 (by rw [List.length_map]; omega) (fun l hl => ?_) ?_
      · obtain ⟨z9, hz9, rfl⟩ := List.mem_map.mp hl
        have hb9 := hrb z9 hz9
        exact nm_len _ (by omega)
      intro tj kj
      have e9 : toldOf wds sh.toNat i = if jn [44, 32] (row9.map fun p => nmOf (sh.toNat + p.toNat)) = [] then [48, 120, 48] else jn [44, 32] (row9.map fun p => nmOf (sh.toNat + p.toNat)) := by rw [toldOf, hrow9]
      have htl := told_len sh.toNat row9 (by omega) hrl hrb
      have hJ : ∀ x : List Nat, x = toldOf wds sh.toNat i → ∀ t9, TxtsAre (us ++ [.str (Mine.T x) t9]) ((List.range (i + 1)).map fun i => toldOf wds sh.toNat i) := by
        rintro x rfl t9
        rw [List.range_succ, List.map_append]
        exact hus.snoc _ _
      generalize jn [44, 32] (row9.map fun p => nmOf (sh.toNat + p.toNat)) = tx at e9 htl ⊢
      iterate 2 (walk_at "MY one")
      · rename_i hz9
        have hz8 : tx ≠ [] := fun q => hz9 (by rw [q]; rfl)
        refine TurnC.end _ F26 N26 (fun p hp => .tail _ hp) off ⟨hsub, hJ tx (by rw [e9, if_neg hz8]) _⟩
      · rename_i hz9
        have hz8 : tx = [] := by
          rw [T_len] at hz9
          exact List.eq_nil_of_length_eq_zero (by omega)
        iterate 2 (walk_at "MY one")
        refine TurnC.end _ F26 N26 (fun p hp => .tail _ hp) off ⟨hsub, hJ [48, 120, 48] (by rw [e9, if_pos hz8]) _⟩
    rintro us nw2 ⟨hsub, hus⟩
    rw [List.size_toArray, hav.length, List.length_map, List.length_range] at hus
    unfold LCg.FinE
    intro D h3 tk3 F3 N3 o1r
    walk_at "MY go"
    try dsimp only
    have e6 : (List.range 6).map (fun i => heldOf wds sh.toNat i) = (List.range 6).map fun i => toldOf wds sh.toNat i := List.map_congr_left fun i hi => held_told wds sh.toNat i hw6 (by omega) (List.mem_range.mp hi)
    refine ne_txts (News.isList N3 (.tail _ (hsub _ mHd))) (News.isList N3 (.head _)) hhv (by rw [e6]; exact hus) (by rw [e6]; exact told_asc _ _ hw6 (by omega)) (by dsimp only [Around.deeper]; omega) ?_
    walk_at "MY go"
    refine hY1 _ _ _ _ F3 N3 (C1.mono fun p hp => .tail _ (hsub p hp)) (.tail _ (hsub _ mHd)) (.tail _ (hsub _ mNn)) (.tail _ (hsub _ mW)) (.tail _ (hsub _ mc)) hce
  clear N1 F1 hce hab hav C1 mHd mAb mNn mW mc nw
  intro h1 tk1 m1 nw F1 N1 C1 mHd mNn mW mc hce
  with_reducible refine cutK2 (fun X => ∀ (h : Heap) (tk : Nat) (m : Str → Option Value) (nw : List (Addr × Obj)), Fr s₁.heap L' h m → News s₁.heap L' h nw → Cels L' nw (some (.ref W)) (some (.int ((zs.getD 7 0).fmod 4) tf)) (some (.int sh t3)) (some (.ref Nn)) none (some (.ref Hd)) none → (Hd, listOf (List.toArray hdv) kh) ∈ nw → (Nn, listOf nv.toArray kn) ∈ nw → (W, listOf vw.toArray kw) ∈ nw → (c, listOf ys.toArray k) ∈ nw → rv m "cells" c → X h tk) ?_ ?_
  · intro Y1 hY1
    walk_at "MY go"
    rename Fr _ L' _ _ => F2
    rename News _ L' _ _ => N2
    obtain ⟨q, hq, hq9⟩ : ∃ q : Nat, (((zs.getD (Int.toNat 6) 0).fdiv 27).fmod 9 + 1) = (q : Int) ∧ (1 ≤ q ∧ q ≤ 9) := by
      have h1 := fmod_lo ((zs.getD (Int.toNat 6) 0).fdiv 27) (n := 9) (by decide)
      have h2 := fmod_hi ((zs.getD (Int.toNat 6) 0).fdiv 27) (n := 9) (by decide)
      exact ⟨(((zs.getD (Int.toNat 6) 0).fdiv 27).fmod 9 + 1).toNat, by omega, by omega⟩
    rw [hq] at F2
    rw [hq, rest_int q]
    refine' Spec.use (pf_spec _ _ (2147483648 + 4294967296 * q) _ ?spx) ?spA ?spB ?spF ?spN ?spX ?spT ?spD ?spU ?_
    case spx => omega
    walk_at "MY use"
    intro v' h' tk' hk' F' N' hp'
    revert v'
    refine un10 ?_
    intro t'
    clear F2 N2
    walk_at "MY go"
    rw [pf_rest q hq9.1 hq9.2]
    generalize Str.ofString "0x80000000, 0x" ++ Str.ofString (toString (q : Int)) ++ Txt.mul (Str.ofString "0") 8 = X9
    walk_at "MY go"
    · rename ((_ != _) = true) => hx9
      simp at hx9
    · refine hY1 _ _ _ _ F' N' C1 mHd mNn mW mc ((if_neg (by decide)).trans hce)
  clear N1 F1 hce C1 mHd mNn mW mc nw
  intro h1 tk1 m1 nw F1 N1 C1 mHd mNn mW mc hce
  with_reducible refine cutK1 (fun X => ∀ (h : Heap) (tk : Nat) (m : Str → Option Value) (nw : List (Addr × Obj)) Wx dWx WL es n, Fr s₁.heap L' h m → News s₁.heap L' h nw → Cels L' nw (some (.ref W)) (some (.int ((zs.getD 7 0).fmod 4) tf)) (some (.int sh t3)) (some (.ref Nn)) none (some (.ref Hd)) (some (.ref Wx)) → (Wx, instObj 220 dWx) ∈ nw → (dWx, dictOf es n) ∈ nw → (WL, listOf #[] 0) ∈ nw → (Hd, listOf hdv.toArray kh) ∈ nw → (Nn, listOf nv.toArray kn) ∈ nw → (W, listOf vw.toArray kw) ∈ nw → (c, listOf ys.toArray k) ∈ nw → rv m "cells" c → HDict es WL → Hd ≠ WL → Nn ≠ WL → W ≠ WL → c ≠ WL → X h tk) ?_ ?_
  · intro Y1 hY1
    iterate 4 (walk_at "MY one")
    rename Fr _ L' _ _ => F2
    rename News _ L' _ _ => N2
    refine' callWith_K0 (K := hd.heap_39 w.params) (KX.keeps F2.keep) ?k2 ?_
    case k2 => k_is
    refine' headers_new ?spA ?spB F2 N2 KX ?spT ?spD ?spU ?_
    case spA => exact rfl
    case spB => assumption
    case spT => assumption
    case spD => (show callerA.depth + 1 + 20 < _; omega)
    case spU => (show callerA.units + 3 + 200 < _; omega)
    intro Wx dWx WL es n h3 tk3 F3 N3 e1 e2 e3 e4 e5 e6
    refine storeC7 (x := Str.ofString "ways") F3 N3 C1 (by walk_at "MY sub") rfl (fun h4 nw4 F4 N4 C4 K4 => ?_) rfl rfl
    walk_at "MY go"
    refine hY1 _ _ _ _ Wx dWx WL es n F4 N4 C4 (K4 _ _ (.head _) ncI) (K4 _ _ (.tail _ (.head _)) ncD) (K4 _ _ (.tail _ (.tail _ (.head _))) ncL) (K4 _ _ (.tail _ (.tail _ (.tail _ mHd))) ncL) (K4 _ _ (.tail _ (.tail _ (.tail _ mNn))) ncL) (K4 _ _ (.tail _ (.tail _ (.tail _ mW))) ncL) (K4 _ _ (.tail _ (.tail _ (.tail _ mc))) ncL) hce ⟨e1, e2⟩ (off1_mem e6 _ (.tail _ (.tail _ mHd))) (off1_mem e6 _ (.tail _ (.tail _ mNn))) (off1_mem e6 _ (.tail _ (.tail _ mW))) (off1_mem e6 _ (.tail _ (.tail _ mc)))
  clear N1 F1 hce C1 mHd mNn mW mc nw
  intro h1 tk1 m1 nw Wx dWx WL es n F1 N1 C1 mWx mdWx mWL mHd mNn mW mc hce hHD nHd nNn nW nc
  have hHD2 := hHD.2
  with_reducible refine cutK1 (fun X => ∀ (h : Heap) (tk : Nat) (m : Str → Option Value) (nw : List (Addr × Obj)) wv nl, Fr s₁.heap L' h m → News s₁.heap L' h nw → Cels L' nw (some (.ref W)) (some (.int ((zs.getD 7 0).fmod 4) tf)) (some (.int sh t3)) (some (.ref Nn)) none (some (.ref Hd)) (some (.ref Wx)) → (Wx, instObj 220 dWx) ∈ nw → (dWx, dictOf es n) ∈ nw → (WL, listOf (List.toArray wv) nl) ∈ nw → (Hd, listOf hdv.toArray kh) ∈ nw → (Nn, listOf nv.toArray kn) ∈ nw → (W, listOf vw.toArray kw) ∈ nw → (c, listOf ys.toArray k) ∈ nw → rv m "cells" c → Pairs (fun p o => (p, o) ∈ nw) wv ((List.range 6).map fun k => ([112 + k], heldOf wds sh.toNat k)) → X h tk) ?_ ?_
  · intro Y1 hY1
    refine C1.g6 ?_
    intro o6 q6 c6
    refine C1.g7 ?_
    intro o7 q7 c7
    have n6 := ne_ob N1 q6 mWL (cell_ne c6 ncL)
    have n7 := ne_ob N1 q7 mWL (cell_ne c7 ncL)
    have nWx := ne_ob N1 mWx mWL inst_ne
    have ndWx := ne_ob N1 mdWx mWL dict_ne
    have nC := fun b ob z (hb : (b, ob) ∈ nw) (hd : ob.data = .cell z) => ne_ob N1 hb mWL (cell_ne hd ncL)
    walk_at "MY go"
    rename IsRange _ _ 0 6 1 _ _ _ => hR
    refine' LCg.CompSrc.range (n := 6) (by rfl) (by k_asm) (by k_asm) hR ?sm ?rn ?sz ?_
    case sm => exact small_one (by omega) (by omega) (by omega) (by omega)
    case rn => (rw [rangeSize_one]; (first | omega | (split <;> omega)))
    case sz => (rw [PySem.sizeLine_eq]; omega)
    intro g'
    refine compJ (fun i us nw' => ∃ wv nl, us = List.replicate i .none ∧ (∀ b ob, (b, ob) ∈ nw → b ≠ WL → (b, ob) ∈ nw') ∧ (WL, listOf (List.toArray wv) nl) ∈ nw' ∧ Pairs (fun p o => (p, o) ∈ nw') wv ((List.range i).map fun k => ([112 + k], heldOf wds sh.toNat k))) (fun _ _ _ _ => trivial) ⟨[], 0, rfl, fun _ _ h _ => h, mWL, .nil⟩ ?_ ?_
    · rintro i v I oI C oC D m₂ us nw2 h tk E' hi ⟨t2, rfl⟩ ⟨wv, nl, hus, hK, mWL2, hwv⟩ hC hx F2 N2 off2 ne
      rw [Int.zero_add] at hx
      have q6' := hK _ _ q6 n6
      have q7' := hK _ _ q7 n7
      have mWx' := hK _ _ mWx nWx
      have mdWx' := hK _ _ mdWx ndWx
      have mHd' := hK _ _ mHd nHd
      dsimp only at F2 N2 ⊢
      iterate 3 (walk_at "MY one")
      rename Fr _ L' _ _ => F3
      rename News _ L' _ _ => N3
      refine' method_inst (K := hd.heap_39 w.params) (C := 220) F3 KX ⟨News.get N3 (.tail _ (.tail _ (.tail _ mWx'))), rfl, rfl, News.get N3 (.tail _ (.tail _ (.tail _ mdWx')))⟩ ?k4 ?k5 ?k6 (hHD2 _ (by decide)) ?_
      case k4 => k_is
      case k5 => k_is
      case k6 => k_is
      have hi6 : (i : Int) < 6 := by omega
      iterate 10 (walk_at "MY one")
      refine' item_TL (vs := hdv) (ws := (List.range 6).map fun i => heldOf wds sh.toNat i) (News.isList N3 (.tail _ (.tail _ (.tail _ mHd')))) hhv (by omega) (by rw [List.length_map, List.length_range]; exact hi6) (by rw [List.length_map, List.length_range]; omega) ?_ ?its ?itg
      case its => with_unfolding_all rfl
      case itg => (intro _; with_unfolding_all rfl)
      intro t6
      rw [Int.toNat_natCast, held_at wds sh.toNat i hi, pu_item ⟨i, hi⟩]
      iterate 2 (walk_at "MY one")
      have hP : PairsIn h wv ((List.range i).map fun k => ([112 + k], heldOf wds sh.toNat k)) := hwv.mono fun p o hp _ => (N3 _ (.tail _ (.tail _ (.tail _ hp)))).1
      obtain ⟨hh1, hh2⟩ := held_ok wds sh.toNat i hw6 (by omega) hi
      refine' SpecM.use (add_spec w _ Wx WL [112 + i] (heldOf wds sh.toNat i) _ _ wv nl ((List.range i).map fun k => ([112 + k], heldOf wds sh.toNat k)) (by simp) (fun c hc => by obtain rfl := List.mem_singleton.mp hc; omega) hh1 hh2
        (hHD.inst (News.get N3 (.tail _ (.tail _ (.tail _ mWx')))) (News.get N3 (.tail _ (.tail _ (.tail _ mdWx'))))) (News.get N3 (.tail _ (.tail _ (.tail _ mWL2)))) hP (by rw [List.length_map, List.length_range]; omega))
        (own := [(WL, listOf (List.toArray wv) nl)]) (rest := (I, oI) :: (C, oC) :: (D, LCg.lst us) :: wo WL nw2) ?spA ?spB F3 N3 KX ?spT ?spD ?spU rfl ?ow ?rs ?xx ?_
      case spA => exact rfl
      case spB => assumption
      case spT => assumption
      case spD => (show callerA.depth + 1 + 12 < _; omega)
      case spU => (show callerA.units + 3 + 160 < _; omega)
      case ow => (intro p hp; obtain rfl := List.mem_singleton.mp hp; exact .tail _ (.tail _ (.tail _ mWL2)))
      case rs => exact wo3
      case xx => exact not_three off2 mWL2 wo_not
      intro v9 h9 tk9 hk9 F9 N9 hw9 hp9
      revert v9
      refine unF43 ?_
      intro n9 D9 t1 t2' e1 e2 e3
      obtain ⟨⟨d1, d2⟩, d3⟩ := new_of F3 N3 e2
      have N10 := News.put (x := (D9, tup2 [112 + i] (heldOf wds sh.toNat i) t1 t2')) ⟨e3, d1, d2⟩ (News.put (x := (WL, listOf (List.toArray (wv ++ [Value.ref D9])) n9)) ⟨e1, hw9 WL (.head _)⟩ N9)
      refine TurnC.end ((D9, tup2 [112 + i] (heldOf wds sh.toNat i) t1 t2') :: (WL, listOf (List.toArray (wv ++ [Value.ref D9])) n9) :: wo WL nw2) F9 N10 (by walk_at "MY sub") (off3_put off2 mWL2 d3) ⟨_, _, ?_, fun b ob hb hn => .tail _ (.tail _ (wo_in (hK b ob hb hn) hn)), .tail _ (.head _), ?_⟩
      · rw [hus, List.replicate_succ']
      · rw [List.range_succ, List.map_append]
        exact (hwv.mono fun p o hp ht => .tail _ (.tail _ (wo_in hp (ne_ob N3 (.tail _ (.tail _ (.tail _ hp))) (.tail _ (.tail _ (.tail _ mWL2))) (tup_ne ht))))).snoc (kv := ([112 + i], heldOf wds sh.toNat i)) (.head _)
    rintro us nw2 ⟨wv, nl, hus, hK, mWL2, hwv⟩
    unfold LCg.FinE
    intro D h3 tk3 F3 N3 o1r
    walk_at "MY go"
    try dsimp only
    rename Fr _ L' _ _ => F4
    rename News _ L' _ _ => N4
    refine mul_one F4 N4 (News.get N4 (.head _)) (by decide) (by decide) fun h5 d5 F5 N5 => ?_
    walk_at "MY go"
    try dsimp only
    refine ne_nones (n := 6) (by rw [hus] at N5; exact News.isList N5 (.tail _ (.tail _ (.head _)))) (News.isList N5 (.head _)) (by dsimp only [Around.deeper]; omega) ?_
    walk_at "MY go"
    refine hY1 _ _ _ nw2 wv nl F5 (fun p hp => N5 p (.tail _ (.tail _ (.tail _ hp)))) (C1.keep fun b ob z hb hd => hK b ob hb (nC b ob z hb hd)) (hK _ _ mWx nWx) (hK _ _ mdWx ndWx) mWL2 (hK _ _ mHd nHd) (hK _ _ mNn nNn) (hK _ _ mW nW) (hK _ _ mc nc) hce hwv
  clear N1 F1 hce C1 mWx mdWx mWL mHd mNn mW mc nHd nNn nW nc nw
  intro h1 tk1 m1 nw wv nl F1 N1 C1 mWx mdWx mWL mHd mNn mW mc hce hwv
  with_reducible refine cutK3 (fun X => ∀ (h : Heap) (tk : Nat) (m : Str → Option Value) (nwB : List (Addr × Obj)) Mx dMx ML es2 n2 Kp k2, Fr s₁.heap L' h m → News s₁.heap L' h nwB → (∀ p ∈ nw, p ∈ nwB) → (Kp, listOf #[] k2) ∈ nwB → (Mx, instObj 220 dMx) ∈ nwB → (dMx, dictOf es2 n2) ∈ nwB → (ML, listOf #[] 0) ∈ nwB → rv m "cells" c → rv m "mates" Mx → rv m "kept" Kp → iv m "found" 0 → HDict es2 ML → (∀ p ∈ nw, p.1 ≠ ML) → Kp ≠ ML → X h tk) ?_ ?_
  · intro Y1 hY1
    iterate 4 (walk_at "MY one")
    rename Fr _ L' _ _ => F2
    rename News _ L' _ _ => N2
    refine' callWith_K0 (K := hd.heap_39 w.params) (KX.keeps F2.keep) ?k2 ?_
    case k2 => k_is
    refine' headers_new ?spA ?spB F2 N2 KX ?spT ?spD ?spU ?_
    case spA => exact rfl
    case spB => assumption
    case spT => assumption
    case spD => (show callerA.depth + 1 + 20 < _; omega)
    case spU => (show callerA.units + 3 + 200 < _; omega)
    intro Mx dMx ML es2 n2 h3 tk3 F3 N3 e1 e2 e3 e4 e5 e6
    clear F2 N2
    walk_at "MY go"
    rename (Mx < _ ∧ _) => lK
    rename Fr _ L' _ _ => F4
    rename News _ L' _ _ => N4
    refine hY1 _ _ _ _ Mx dMx ML es2 n2 _ 0 F4 N4 (by walk_at "MY sub") (.head _) (.tail _ (.head _)) (.tail _ (.tail _ (.head _))) (.tail _ (.tail _ (.tail _ (.head _)))) hce rfl rfl ⟨_, rfl⟩ ⟨e1, e2⟩ (fun p hp => off1_mem e6 p (.tail _ (.tail _ hp))) (Nat.ne_of_gt lK.2.2.1)
  clear N1 F1 hce
  intro h1 tk1 m1 nwB Mx dMx ML es2 n2 Kp k2 F1 N1 hB mKp mMx mdMx mML hce hma hke hfo hMD hne hKp
  have nWx : Wx ≠ ML := hne _ mWx
  have ndWx : dWx ≠ ML := hne _ mdWx
  have nWL : WL ≠ ML := hne _ mWL
  have nNn : Nn ≠ ML := hne _ mNn
  have nW : W ≠ ML := hne _ mW
  have nc : c ≠ ML := hne _ mc
  have nMx := ne_ob N1 mMx mML inst_ne
  have ndMx := ne_ob N1 mdMx mML dict_ne
  replace mWx := hB _ mWx
  replace mdWx := hB _ mdWx
  replace mWL := hB _ mWL
  replace mNn := hB _ mNn
  replace mW := hB _ mW
  replace mc := hB _ mc
  replace C1 := C1.mono hB
  replace hwv := hwv.mono fun p o hp _ => hB _ hp
  clear hB hne mHd nw
  with_reducible refine cutK1 (fun X => ∀ (h : Heap) (tk : Nat) (m : Str → Option Value) (nwC : List (Addr × Obj)), Fr s₁.heap L' h m → News s₁.heap L' h nwC → (∀ Y : Prop, (∀ x5 Kp kp nk mv n3, (∀ b ob, (b, ob) ∈ nwB → b ≠ ML → (∀ z, ob.data ≠ .cell z) → (b, ob) ∈ nwC) → Cels L' nwC (some (.ref W)) (some (.int ((zs.getD 7 0).fmod 4) tf)) (some (.int sh t3)) (some (.ref Nn)) x5 (some (.ref Hd)) (some (.ref Wx)) → (Kp, listOf (List.toArray kp) nk) ∈ nwC → (ML, listOf (List.toArray mv) n3) ∈ nwC → Kp ≠ ML → rv m "cells" c → rv m "mates" Mx → rv m "kept" Kp → iv m "found" ((runK (isAb wds) (zs.getD 7 0) 6).2 : Nat) → Pairs (fun p o => (p, o) ∈ nwC) wv ((List.range 6).map fun k => ([112 + k], heldOf wds sh.toNat k)) → Pairs (fun p o => (p, o) ∈ nwC) kp (runK (isAb wds) (zs.getD 7 0) 6).1 → Pairs (fun p o => (p, o) ∈ nwC) mv (runK (isAb wds) (zs.getD 7 0) 6).1 → Y) → Y) → X h tk) ?_ ?_
  · intro Y1 hY1
    walk_at "MY cons"
    refine forX ?_
    walk_at "MY go"
    rename IsRange _ _ 0 6 1 _ _ _ => hR
    rename Fr _ L' _ _ => F2
    rename News _ L' _ _ => N2
    refine iterRX (n := 6) (fun i m nw => ∀ Y : Prop, (∀ x5 Kp kp nk mv n3, (∀ b ob, (b, ob) ∈ nwB → b ≠ ML → (∀ z, ob.data ≠ .cell z) → (b, ob) ∈ nw) → Cels L' nw (some (.ref W)) (some (.int ((zs.getD 7 0).fmod 4) tf)) (some (.int sh t3)) (some (.ref Nn)) x5 (some (.ref Hd)) (some (.ref Wx)) → (Kp, listOf (List.toArray kp) nk) ∈ nw → (ML, listOf (List.toArray mv) n3) ∈ nw → Kp ≠ ML → rv m "cells" c → rv m "mates" Mx → rv m "kept" Kp → iv m "found" ((runK (isAb wds) (zs.getD 7 0) i).2 : Nat) → Pairs (fun p o => (p, o) ∈ nw) wv ((List.range 6).map fun k => ([112 + k], heldOf wds sh.toNat k)) → Pairs (fun p o => (p, o) ∈ nw) kp (runK (isAb wds) (zs.getD 7 0) i).1 → Pairs (fun p o => (p, o) ∈ nw) mv (runK (isAb wds) (zs.getD 7 0) i).1 → Y) → Y) rfl hR (by decide) (by decide) F2 N2 (fun Y k => k _ Kp [] k2 [] 0 (fun b ob hb _ _ => hb) C1 mKp mML hKp hce hma hke hfo hwv .nil .nil) ?_ ?_
    · clear hce hma hke hfo hKp hwv F2 N2 mKp mML
      intro I hI i v m nw2 h tk own hi hJ offI hown hoI F2 N2
      obtain ⟨hi, t9, rfl⟩ := hi
      refine hJ _ ?_
      clear hJ
      intro x5 Kp kp nk mv n3 hK C3 mKp mML hKp hce hma hke hfo hwv hkp hmv
      iterate 1 (walk_at "MY one")
      rename Fr _ _ _ _ => F3
      rename News _ _ _ _ => N3
      obtain ⟨mk, hmk⟩ : ∃ mk, mk = (runK (isAb wds) (zs.getD 7 0) i).1 := ⟨_, rfl⟩
      obtain ⟨RES, hRES⟩ : ∃ RES, RES = stepOf (isAb wds) mk (zs.getD 7 0) i := ⟨_, rfl⟩
      rw [← hmk] at hkp hmv
      have hrok := run_ok (isAb wds) (zs.getD 7 0) i (by omega)
      rw [← hmk] at hrok
      have mWx' := hK _ _ mWx nWx ncI
      have mdWx' := hK _ _ mdWx ndWx ncD
      have mWL' := hK _ _ mWL nWL ncL
      have mNn' := hK _ _ mNn nNn ncL
      have mMx' := hK _ _ mMx nMx ncI
      have mdMx' := hK _ _ mdMx ndMx ncD
      have mc' := hK _ _ mc nc ncL
      have neT := fun p o (hp : (p, o) ∈ nw2) (ht : o.cls = .type "tuple") => ne_ob N3 (List.mem_append_left _ hp) (List.mem_append_left _ mML) (tup_ne ht)
      have neC := fun p o z (hp : (p, o) ∈ nw2) (hd : o.data = .cell z) => ne_ob N3 (List.mem_append_left _ hp) (List.mem_append_left _ mML) (cell_ne hd ncL)
      with_reducible refine cutK1 (fun X => ∀ (h : Heap) (tk : Nat) (m : Str → Option Value) (nwR : List (Addr × Obj)) mv' n3' us St nS, Fr s₁.heap L' h m → News s₁.heap L' h (nwR ++ own) → (∀ b ob, (b, ob) ∈ nw2 → b ≠ ML → (b, ob) ∈ nwR) → (∀ p ∈ nwR, p.1 ≠ I) → (ML, listOf (List.toArray mv') n3') ∈ nwR → (St, listOf (List.toArray us) nS) ∈ nwR → rv m "cells" c → rv m "mates" Mx → rv m "kept" Kp → iv m "found" ((runK (isAb wds) (zs.getD 7 0) i).2 : Nat) → rv m "steps" St → IPairs (fun p o => (p, o) ∈ nwR) us RES → Pairs (fun p o => (p, o) ∈ nwR) mv' (setAll mk RES) → X h tk) ?_ ?_
      · intro Y1 hY1
        refine C3.g4 ?_
        intro o4 q4 c4
        refine C3.g7 ?_
        intro o7 q7 c7
        walk_at "MY go"
        rename Fr _ L' _ _ => F4
        rename News _ L' _ _ => N4
        obtain ⟨st, hst, hst6⟩ : ∃ st : Nat, ((i : Int) + zs.getD 7 0).fmod 6 = (st : Int) ∧ st < 6 := by
          have h1 := fmod_lo ((i : Int) + zs.getD 7 0) (n := 6) (by decide)
          have h2 := fmod_hi ((i : Int) + zs.getD 7 0) (n := 6) (by decide)
          exact ⟨(((i : Int) + zs.getD 7 0).fmod 6).toNat, by omega, by omega⟩
        have hst9 : (0 + (i : Int) + zs.getD (Int.toNat 7) 0).fmod 6 = (st : Int) := by rw [Int.zero_add]; exact hst
        rw [hst9]
        have hIML : I ≠ ML := fun e => offI _ mML e.symm
        obtain ⟨oI, hoI9⟩ := hoI
        refine' SpecM.use (asks_spec w _ Wx WL Mx ML Nn st _ wv ((List.range 6).map fun k => ([112 + k], heldOf wds sh.toNat k)) mv n3 mk nv ((List.range 6).map fun i => nmOf (sh.toNat + i)) (heldOf wds sh.toNat) (isAb wds) hst6
          (hHD.inst (News.get N4 (List.mem_append_left _ mWx')) (News.get N4 (List.mem_append_left _ mdWx'))) (News.isList N4 (List.mem_append_left _ mWL')) (hwv.mono fun p o hp _ => (N4 _ (List.mem_append_left _ hp)).1) ?hwk (get_ways (heldOf wds sh.toNat)) (fun low hl => (held_ok wds sh.toNat low hw6 (by omega) hl).1)
          (hMD.inst (News.get N4 (List.mem_append_left _ mMx')) (News.get N4 (List.mem_append_left _ mdMx'))) (News.get N4 (List.mem_append_left _ mML)) (hmv.mono fun p o hp _ => (N4 _ (List.mem_append_left _ hp)).1) hrok.1 hrok.2
          (News.isList N4 (List.mem_append_left _ mNn')) hnv (by rw [List.length_map, List.length_range]) nWL nNn (split_ab wds sh.toNat hw6 (by omega)))
          (own := [(ML, listOf (List.toArray mv) n3)]) (rest := wo ML (nw2 ++ own)) ?spA ?spB F4 N4 KX ?spT ?spD ?spU rfl ?ow ?rs ?xx ?_
        case hwk =>
          intro kv hkv
          obtain ⟨k9, hk9, rfl⟩ := List.mem_map.mp hkv
          have := List.mem_range.mp hk9
          refine ⟨by simp, fun c hc => ?_⟩
          obtain rfl := List.mem_singleton.mp hc
          omega
        case spA => exact rfl
        case spB => assumption
        case spT => assumption
        case spD => (show callerA.depth + 1 + 24 < _; omega)
        case spU => (show callerA.units + 3 + 400 < _; omega)
        case ow => (intro p hp; obtain rfl := List.mem_singleton.mp hp; exact List.mem_append_left _ mML)
        case rs => exact fun p hp => (wo_of hp).1
        case xx => exact wo_not
        intro v9 h9 tk9 hk9 F5 N5 hw9 hp9
        revert v9
        refine un65 ?_
        intro St nS us ts mv' n3' e1 e2 e3 e4 e5
        have hres : bfs (isAb wds) mk 7 [(st, [])] [] = RES := by rw [hRES, stepOf, hst, Int.toNat_natCast]
        rw [hres] at e3 e5
        have hnew : ∀ p ∈ ts, _ := fun p hp => new_of F4 N4 (e2 p hp).1
        have N6 := news_ask2 N5 ⟨e4, hw9 ML (.head _)⟩ (fun p hp => ⟨(e2 p hp).2, (hnew p hp).1⟩) fun p hp e => hIML ((List.mem_singleton.mp (hown p hp)).symm.trans e)
        clear N4 F4 N5
        walk_at "MY go"
        rename Fr _ L' _ _ => F7
        rename News _ L' _ _ => N7
        refine hY1 _ _ _ _ mv' n3' us St nS F7 N7 (fun b ob hb hn => .tail _ (List.mem_append_right _ (wo_in hb hn))) (fun p hp => ?_) (.head _) (.tail _ (List.mem_append_left _ e1)) hce hma hke hfo rfl (e3.mono fun p o hp => .tail _ (List.mem_append_left _ hp)) (e5 _ (fun p o hp => .tail _ (List.mem_append_left _ hp)) (hmv.mono fun p o hp ht => .tail _ (List.mem_append_right _ (wo_in hp (neT p o hp ht)))))
        rcases List.mem_cons.mp hp with rfl | hp
        · exact Ne.symm hIML
        rcases List.mem_append.mp hp with hp | hp
        · exact Ne.symm (off1_mem (hnew p hp).2 (I, oI) (List.mem_append_right _ hoI9))
        · exact offI p (wo_of hp).1
      intro h4 tk4 m4 nwR mv' n3' us St nS F4 N4 hKR hIR mML4 mSt hce4 hma4 hke4 hfo4 hSt4 hus hmv4
      have C4 := C3.keep fun b ob z hb hd => hKR b ob hb (neC b ob z hb hd)
      have mKp4 := hKR _ _ mKp hKp
      have hkp4 := hkp.mono fun p o hp ht => hKR p o hp (neT p o hp ht)
      have hwv4 := hwv.mono fun p o hp ht => hKR p o hp (neT p o hp ht)
      clear mWx' mdWx' mWL' mNn' mMx' mdMx' mc' C3 mKp hkp hwv hmv mML neT neC
      have hfn : ((runK (isAb wds) (zs.getD 7 0) (i + 1)).2 : Int) = ((runK (isAb wds) (zs.getD 7 0) i).2 : Int) + if RES = [] then 0 else 1 := by
        rw [runK, hRES, hmk]
        split <;> simp
      obtain ⟨fnew, hfnew⟩ : ∃ fnew : Nat, fnew = (runK (isAb wds) (zs.getD 7 0) (i + 1)).2 := ⟨_, rfl⟩
      rw [← hfnew] at hfn
      clear F3 N3 F2 N2
      with_reducible refine cutK1 (fun X => ∀ (h : Heap) (tk : Nat) (m : Str → Option Value), Fr s₁.heap L' h m → News s₁.heap L' h (nwR ++ own) → rv m "cells" c → rv m "mates" Mx → rv m "kept" Kp → iv m "found" (fnew : Nat) → rv m "steps" St → X h tk) ?_ ?_
      · intro Y1 hY1
        obtain ⟨tfo, hfo5⟩ := hfo4
        walk_at "MY go"
        rename News _ L' _ _ => N5
        refine' ne_nil (xs := us) (News.isList N5 ?na) (News.isList N5 (.head _)) ?nu ?_
        case na => exact .tail _ (List.mem_append_left _ mSt)
        case nu => (dsimp only [Around.deeper]; omega)
        walk_at "MY go"
        · rename (us.isEmpty = _) => hem
          rename Fr _ L' _ _ => F7
          rename News _ L' _ _ => N7
          have hre : RES = [] := by
            have hl9 := hus.length
            rw [List.isEmpty_iff.mp hem] at hl9
            exact List.eq_nil_of_length_eq_zero hl9.symm
          rw [if_pos hre] at hfn
          refine hY1 _ _ _ F7 (fun p hp => N7 p (.tail _ hp)) hce4 hma4 hke4 ⟨tfo, ?_⟩ hSt4
          rw [hfn, Int.add_zero]
          exact hfo5
        · exact Str.empty
        · exact 0
        · exact .none
        · rename (us.isEmpty = _) => hem
          rename Fr _ L' _ _ => F7
          rename News _ L' _ _ => N7
          have hre : RES ≠ [] := fun q => by
            have hl9 := hus.length
            rw [q] at hl9
            rw [List.eq_nil_of_length_eq_zero hl9] at hem
            simp at hem
          rw [if_neg hre] at hfn
          exact hY1 _ _ _ F7 (fun p hp => N7 p (.tail _ hp)) hce4 hma4 hke4 ⟨_, (if_pos rfl).trans (congrArg (fun z => some (Value.int z _)) hfn.symm)⟩ hSt4
      clear F4 N4 hce4 hma4 hke4 hfo4 hSt4
      intro h4 tk4 m4 F4 N4 hce4 hma4 hke4 hfo4 hSt4
      obtain ⟨Ts, u1, u2, hT⟩ := hus.at
      have hul := hus.length
      have hR6 := step_ok (isAb wds) (zs.getD 7 0) i (by omega)
      rw [← hmk, ← hRES] at hR6
      walk_at "MY cons"
      refine forP s₁.heap (fun j m nw' => ∀ Y : Prop, (∀ nwS x5' Kq kq nq, nw' = nwS ++ own → (∀ b ob, (b, ob) ∈ nwR → (∀ z, ob.data ≠ .cell z) → (b, ob) ∈ nwS) → (∀ p ∈ nwS, p.1 ≠ I) → Cels L' nwS (some (.ref W)) (some (.int ((zs.getD 7 0).fmod 4) tf)) (some (.int sh t3)) (some (.ref Nn)) x5' (some (.ref Hd)) (some (.ref Wx)) → (Kq, listOf (List.toArray kq) nq) ∈ nwS → Kq ≠ ML → rv m "cells" c → rv m "mates" Mx → rv m "kept" Kq → iv m "found" (fnew : Nat) → Pairs (fun p o => (p, o) ∈ nwS) kq (setAll mk (RES.take j)) → Y) → Y) ?_
      walk_at "MY go"
      rename Fr _ L' _ _ => F5
      rename News _ L' _ _ => N5
      refine' iterLP (vs := us) Ts (fun j => #[.int ((RES.getD j (0, 0)).1 : Nat) (u1 j), .int ((RES.getD j (0, 0)).2 : Nat) (u2 j)]) ?jh ?j1 ?j2 ?j3 ?j4 ?j5 ?j6 N5 ?j8 ?_ ?_
      case jh => exact rfl
      case j1 => exact News.isList N5 (List.mem_append_left _ mSt)
      case j2 => exact fun j hj => (hT j (by omega)).1
      case j3 => exact fun j hj => ⟨_, (N5 _ (List.mem_append_left _ (hT j (by omega)).2)).1, rfl, _, rfl⟩
      case j4 => exact (N5 _ (List.mem_append_left _ mSt)).2.1
      case j5 => exact fun j hj => (N5 _ (List.mem_append_left _ (hT j (by omega)).2)).2.1
      case j6 => exact F5
      case j8 => exact fun Y k => k nwR _ Kp kp nk rfl (fun b ob hb _ => hb) hIR C4 mKp4 hKp hce4 hma4 hke4 hfo4 hkp4
      · rintro I9 hI9 s₄ hs₄ j T9 vals9 m9 nw9 h9 tk9 own9 ⟨hj9, hv9⟩ hJ9 off9 hown9 hoI9 hTup9 F9' N9'
        obtain ⟨hh9, rfl⟩ := hs₄
        subst hv9
        refine hJ9 _ ?_
        clear hJ9
        intro nwS x5' Kq kq nq hnw9 hKS hIS C9 mKq hKqM hce9 hma9 hke9 hfo9 hkq
        subst hnw9
        have F9 : Fr s₁.heap L' _ _ := F9'
        have N9 : News s₁.heap L' _ _ := N9'
        clear F9' N9' F5 N5 hkp4 C4 mKp4 hce4 hma4 hke4 hfo4
        have hj9' : j < RES.length := by rw [← hul]; exact hj9
        have hr9 := hR6 (RES.getD j (0, 0)) (by rw [show RES.getD j (0, 0) = RES[j] by simp [List.getD, hj9']]; exact List.getElem_mem hj9')
        have htk9 : RES.take (j + 1) = RES.take j ++ [RES.getD j (0, 0)] := by rw [List.take_add_one, List.getElem?_eq_getElem hj9', show RES.getD j (0, 0) = RES[j] by simp [List.getD, hj9']]; rfl
        generalize RES.getD j (0, 0) = r9 at hTup9 hr9 htk9
        obtain ⟨up, lo2⟩ := r9
        dsimp only at hTup9 hr9
        obtain ⟨hup6, hlo6⟩ := hr9
        rw [List.append_assoc] at N9
        refine C9.g5 ?_
        intro o5 q5 d5
        have hKU0 := fun b ob (hb : (b, ob) ∈ nwS) (hn : ∀ z, ob.data ≠ .cell z) => ne_ob N9 (List.mem_append_left _ hb) (List.mem_append_left _ q5) (Ne.symm (cell_ne d5 hn))
        have offT : ∀ p ∈ own ++ own9, p.1 ≠ L' + 1 + 1 + 1 + 1 + 1 := fun p hp => by
          rcases List.mem_append.mp hp with hp | hp
          · rw [List.mem_singleton.mp (hown p hp)]
            exact Ne.symm (hIS _ q5)
          · rcases List.mem_cons.mp (hown9 p hp) with e | hp
            · rw [e]
              exact fun e => off9 _ (List.mem_append_left _ q5) (by rw [← e]; exact .head _)
            rcases List.mem_cons.mp hp with e | hp
            · rw [e]
              exact hKU0 _ _ (hKS _ _ mSt ncL) ncL
            · obtain ⟨q, hq, e⟩ := List.mem_map.mp hp
              rw [← e]
              exact hKU0 _ _ (hKS _ _ (hT q (by rw [← hul]; exact List.mem_range.mp hq)).2 (fun _ h => nomatch h)) (fun _ h => nomatch h)
        refine assignO2 rfl hTup9 F9 N9 rfl q5 d5 offT rfl rfl rfl fun h10 o5n nwU tk10 F10 N10 hKU hAU mU5 dU5 => ?_
        have hKV := fun b ob hb hn => hKU b ob hb (hKU0 b ob hb hn)
        have C10 := C9.s5 hKU mU5 dU5
        have hIU : ∀ p ∈ nwU, p.1 ≠ I := fun p hp => (hAU p hp).elim fun ob h => hIS (p.1, ob) h
        have offU : ∀ p ∈ nwU, p.1 ∉ [I9] := fun p hp => (hAU p hp).elim fun ob h => off9 (p.1, ob) (List.mem_append_left _ h)
        have mKqU := hKV _ _ mKq ncL
        have mMLU := hKV _ _ (hKS _ _ mML4 ncL) ncL
        replace hkq := hkq.keep fun p o hp hn _ => hKV p o hp hn
        clear F9 N9 hTup9 hKU hKU0 hAU C9 offT mKq hIS
        obtain ⟨m10, hm10⟩ : ∃ m10, m10 = fun y => if y = Str.ofString "low" then some (Value.int (lo2 : Nat) (u2 j)) else m9 y := ⟨_, rfl⟩
        replace F10 : Fr s₁.heap L' h10 m10 := hm10 ▸ F10
        have hce10 : rv m10 "cells" c := by rw [hm10]; exact hce9
        have hma10 : rv m10 "mates" Mx := by rw [hm10]; exact hma9
        have hke10 : rv m10 "kept" Kq := by rw [hm10]; exact hke9
        have hfo10 : iv m10 "found" (fnew : Nat) := by rw [hm10]; exact hfo9
        have hlo10 : m10 (Str.ofString "low") = some (.int (lo2 : Nat) (u2 j)) := by rw [hm10]; exact if_pos rfl
        clear hm10
        obtain ⟨kvs, hkvs⟩ : ∃ kvs, kvs = setAll mk (RES.take j) := ⟨_, rfl⟩
        rw [← hkvs] at hkq
        have hko : MatesOk kvs := by rw [hkvs]; exact hrok.1.setAll fun p hp => hR6 p (List.mem_of_mem_take hp)
        have hkl : kvs.length ≤ 1000 := by
          have h1 := setAll_length (RES.take j) mk
          have h2 := step_len7 (isAb wds) (zs.getD 7 0) i
          rw [← hmk] at h2
          have h3 : (RES.take j).length ≤ RES.length := List.length_take_le' ..
          have h4 := hrok.2
          rw [hkvs]
          rw [← hRES] at h2
          omega
        have hkql : kq.length = kvs.length := hkq.length
        with_reducible refine cutK1 (fun X => ∀ (h : Heap) (tk : Nat) (m : Str → Option Value) Kn kqn nqn, Fr s₁.heap L' h m → News s₁.heap L' h ((Kn, listOf (List.toArray kqn) nqn) :: (nwU ++ (own ++ own9))) → rv m "cells" c → rv m "mates" Mx → rv m "kept" Kn → iv m "found" (fnew : Nat) → m (Str.ofString "low") = some (.int (lo2 : Nat) (u2 j)) → Pairs (fun p o => (p, o) ∈ nwU) kqn (kvs.filter fun e => !decide (e.1.map lo1 = [117 + up])) → (∀ p ∈ nwU ++ (own ++ own9), p.1 ≠ Kn) → X h tk) ?_ ?_
        · intro Y1 hY1
          walk_at "MY one"
          refine LCt.Assign_ListComp_T (F₀ := F10) (by rfl) (by with_unfolding_all rfl) (by with_unfolding_all rfl) (by decide) (by rfl) (by decide) (by rfl) (by rfl) (by rfl) ?_
          walk_at "MY go"
          rename Fr _ L' _ _ => F11
          rename News _ L' _ _ => N11
          refine LCt.CompSrcT.ledger (by rfl) F11 N11 (List.mem_append_left _ mKqU) (by rw [List.size_toArray, hkql, sizeLine_eq]; omega) ?_
          intro g'
          refine compJT (fun t us nw => nw = _ ∧ Pairs (fun p o => (p, o) ∈ nwU) us ((kvs.take t).filter fun e => !decide (e.1.map lo1 = [117 + up]))) (fun t us nw h => h.1 ▸ .inr ⟨_, List.mem_append_left _ mKqU, rfl, _, rfl⟩) ⟨rfl, .nil⟩ ?_ ?_
          · rintro t9 v I2 oI2 C oC D m₂ us2 nw h tk E' ht hv ⟨rfl, hus2⟩ hC hx F3 N3 off ne
            obtain ⟨Kt, v1, v2, hKt⟩ := hkq.at
            have htk : t9 < kvs.length := by simpa [hkql] using ht
            obtain ⟨hvi, hti⟩ := hKt t9 htk
            have hv' : v = .ref (Kt t9) := by
              rw [List.getElem?_toArray, hvi] at hv
              exact (Option.some.inj hv).symm
            subst hv'
            have hstep := filter_take_succ (fun e : List Nat × List Nat => !decide (e.1.map lo1 = [117 + up])) kvs t9 ([], []) htk
            obtain ⟨kh9, kl9, hh6, hl6, hke9⟩ := hko (kvs.getD t9 ([], [])) (by rw [show kvs.getD t9 ([], []) = kvs[t9] by simp [List.getD, htk]]; exact List.getElem_mem htk)
            rw [hke9] at hti hstep
            dsimp only at hti
            have hk1 : (keyOf kh9 kl9).length ≤ 1000 := (by decide : (1 : Nat) ≤ 1000)
            have hk2 : ∀ c ∈ keyOf kh9 kl9, c < 128 := fun c hc => by
              obtain rfl := List.mem_singleton.mp hc
              split <;> omega
            clear hke9
            iterate 6 (walk_at "MY one")
            refine item_tupleT (News.isTup N3 (.tail _ (.tail _ (.tail _ (List.mem_append_left _ hti))))) (by decide) (by decide) (by rfl) (by rfl) ?_
            walk_at "MY go"
            have huz := uz_item ⟨up, hup6⟩
            dsimp only at huz
            rw [huz]
            walk1
            walk_at "MY go"
            · rename ((_ != _) = true) => hb
              rw [bne_iff_ne, ne_eq, T_eq] at hb
              rw [if_pos (by simpa using hb)] at hstep
              (refine TurnC.end _ (by assumption) (by assumption) (by kcf_all) (by assumption) ?_)
              exact ⟨rfl, by rw [hstep]; exact hus2.snoc (kv := (keyOf kh9 kl9, [112 + kl9])) hti⟩
            · rename ((_ != _) = false) => hb
              rw [bne_eq_false_iff_eq, T_eq] at hb
              rw [if_neg (by simpa using hb), List.append_nil] at hstep
              (refine TurnC.end _ (by assumption) (by assumption) (by kcf_all) (by assumption) ?_)
              exact ⟨rfl, by rw [hstep]; exact hus2⟩
          rintro us2 nw ⟨rfl, hus2⟩
          rw [List.size_toArray, hkql, List.take_length] at hus2
          unfold LCg.FinA
          intro Kn h12 tk12 F12 N12 o12
          walk_at "MY go"
          exact hY1 _ _ _ Kn us2 _ F12 N12 ((if_neg (by decide)).trans hce10) ((if_neg (by decide)).trans hma10) (if_pos rfl) ⟨hfo10.choose, (if_neg (by decide)).trans hfo10.choose_spec⟩ ((if_neg (by decide)).trans hlo10) hus2 (off1_mem o12)
        clear F10 N10 hce10 hma10 hke10 hfo10 hlo10 mKqU hkq
        intro h13 tk13 m13 Kn kqn nqn F13 N13 hce13 hma13 hke13 hfo13 hlo13 hkn oKn
        walk_at "MY go"
        rcases key_cases ⟨up, hup6⟩ ⟨lo2, hlo6⟩ with ⟨hf, hk⟩ | ⟨hf, hk⟩
        all_goals (
          dsimp only at hf hk
          rw [hf]
          rename News _ L' _ _ => N14
          refine item_tupleT (News.isTup N14 (.head _)) (by decide) (by decide) (by rfl) (by rfl) ?_
          walk_at "MY go"
          rename Addr => D15
          have hpu := pu_item ⟨lo2, hlo6⟩
          dsimp only at hpu
          rename Fr _ L' _ _ => F15
          rename News _ L' _ _ => N15
          rename (_ < _ ∧ _ < _ ∧ _) => lD
          rw [hk, hpu] at N15
          have N15x : ∃ u v Dd Td, News s₁.heap L' _ ((D15, tup2 (keyOf up lo2) [112 + lo2] u v) :: (Dd, Td) :: (Kn, listOf (List.toArray kqn) nqn) :: (nwU ++ (own ++ own9))) ∧ AllLt D15 ((Dd, Td) :: (Kn, listOf (List.toArray kqn) nqn) :: (nwU ++ (own ++ own9))) := ⟨_, _, _, _, N15, lD⟩
          clear N15 lD
          obtain ⟨u15, v15, Dd, Td, N15, lD⟩ := N15x
          have aL := allLt_all lD
          have aKn := aL (Kn, listOf (List.toArray kqn) nqn) (.tail _ (.head _))
          clear lD
          have N16 := news_re N15 ((Kn, listOf (List.toArray kqn) nqn) :: (D15, tup2 (keyOf up lo2) [112 + lo2] u15 v15) :: (nwU ++ (own ++ own9))) (by walk_at "MY sub")
          refine' append_K F15 N16 (.head fun p hp => ?_) ?_ ?zz
          case zz => (rw [List.size_toArray, hkn.length, sizeLine_eq]; have := List.length_filter_le (fun e : List Nat × List Nat => !decide (e.1.map lo1 = [117 + up])) kvs; omega)
          · rcases List.mem_cons.mp hp with rfl | hp
            · exact Nat.ne_of_gt aKn
            · exact oKn p hp
          clear N15
          intro h17 F17 N17
          rw [List.push_toArray] at N17
          walk_at "MY go"
          obtain ⟨oI9, hI9m⟩ := hoI9 I9 (.head _)
          obtain ⟨oIo, hIo⟩ := hoI
          have mI := List.mem_append_right nwU (List.mem_append_left own9 hIo)
          have mI9 := List.mem_append_right nwU (List.mem_append_right own hI9m)
          have hset : setAll mk (RES.take (j + 1)) = kvs.filter (fun e => !decide (e.1.map lo1 = [117 + up])) ++ [(keyOf up lo2, [112 + lo2])] := by
            rw [htk9, setAll, List.foldl_append, hkvs]
            show setOne _ _ = _
            rw [setOne, keyOf_low ⟨up, hup6⟩ ⟨lo2, hlo6⟩]
            rfl
          refine ⟨_, _, _, ((Kn, listOf (List.toArray (kqn ++ [Value.ref D15])) (nqn + 1)) :: (D15, tup2 (keyOf up lo2) [112 + lo2] u15 v15) :: nwU) ++ own, rfl, F17, news_re N17 _ (by walk_at "MY sub"), fun p hp => ?_, fun Y k => k ((Kn, listOf (List.toArray (kqn ++ [Value.ref D15])) (nqn + 1)) :: (D15, tup2 (keyOf up lo2) [112 + lo2] u15 v15) :: nwU) _ Kn (kqn ++ [Value.ref D15]) (nqn + 1) rfl (fun b ob hb hn => .tail _ (.tail _ (hKV b ob (hKS b ob hb hn) hn))) (fun p hp => ?_) (C10.mono fun p hp => .tail _ (.tail _ hp)) (.head _) (Ne.symm (oKn _ (List.mem_append_left _ mMLU))) hce13 hma13 hke13 hfo13 ?_⟩
          · rcases List.mem_append.mp hp with hp | hp
            · rcases List.mem_cons.mp hp with rfl | hp
              · exact fun q => oKn _ mI9 (List.mem_singleton.mp q).symm
              rcases List.mem_cons.mp hp with rfl | hp
              · exact fun q => Nat.ne_of_gt (aL _ (.tail _ (.tail _ mI9))) (List.mem_singleton.mp q)
              · exact offU p hp
            · exact off9 p (List.mem_append_right _ hp)
          · rcases List.mem_cons.mp hp with rfl | hp
            · exact Ne.symm (oKn _ mI)
            rcases List.mem_cons.mp hp with rfl | hp
            · exact Nat.ne_of_gt (aL _ (.tail _ (.tail _ mI)))
            · exact hIU p hp
          · rw [hset]
            exact (hkn.mono fun p o hp _ => .tail _ (.tail _ hp)).snoc (kv := (keyOf up lo2, [112 + lo2])) (.tail _ (.head _)))
      · intro m9 nw9 h9 tk9 hJ9 F9 N9
        refine hJ9 _ ?_
        clear hJ9
        intro nwS x5' Kq kq nq hnw9 hKS hIS C9 mKq hKqM hce9 hma9 hke9 hfo9 hkq
        subst hnw9
        rw [hul, List.take_length] at hkq
        walk_at "MY go"
        have hr1 : (runK (isAb wds) (zs.getD 7 0) (i + 1)).1 = setAll mk RES := by rw [runK, ← hmk, ← hRES]
        exact TurnEnd.next nwS F9 N9 hIS fun Y k => k x5' Kq kq nq mv' n3' (fun b ob hb hn hz => hKS b ob (hKR b ob (hK b ob hb hn hz) hn) hz) C9 mKq (hKS _ _ mML4 ncL) hKqM hce9 hma9 hke9 (hfnew ▸ hfo9) (hwv4.keep fun p o hp hn _ => hKS p o hp hn) (hr1 ▸ hkq) (hr1 ▸ hmv4.keep fun p o hp hn _ => hKS p o hp hn)
    · intro m nw h tk hJ F N
      walk_at "MY go"
      exact hY1 _ _ _ _ F N hJ
  clear N1 F1 hce hma hke hfo hKp hwv mKp mML
  intro h1 tk1 m1 nwC F1 N1 hJ
  refine hJ _ ?_
  clear hJ
  intro x5 Kp kp nk mv n3 hK C3 mKp mML hKp hce hma hke hfo hwv hkp hmv
  have mMx' := hK _ _ mMx nMx ncI
  have mdMx' := hK _ _ mdMx ndMx ncD
  have mW' := hK _ _ mW nW ncL
  refine C3.g1 ?_
  intro o1 q1 c1
  have hMD2 := hMD.2
  iterate 6 (walk_at "MY one")
  rename Fr _ L' _ _ => F2
  rename News _ L' _ _ => N2
  refine' method_inst (K := hd.heap_39 w.params) (C := 220) F2 KX ⟨News.get N2 mMx', rfl, rfl, News.get N2 mdMx'⟩ ?k4 ?k5 ?k6 (hMD2 _ (by decide)) ?_
  case k4 => k_is
  case k5 => k_is
  case k6 => k_is
  refine' callWith_K0 (K := hd.heap_39 w.params) (KX.keeps F2.keep) ?k2 ?_
  case k2 => k_is
  have hml : mv.length = (runK (isAb wds) (zs.getD 7 0) 6).1.length := hmv.length
  have hkl : kp.length = (runK (isAb wds) (zs.getD 7 0) 6).1.length := hkp.length
  have hrok : MatesOk (runK (isAb wds) (zs.getD 7 0) 6).1 ∧ (runK (isAb wds) (zs.getD 7 0) 6).1.length ≤ 42 := ⟨run_mates _ _ 6, run_len _ _ 6⟩
  refine' Spec.useN (items_spec w _ Mx ML mv n3 (hMD.inst (News.get N2 mMx') (News.get N2 mdMx')) (News.get N2 mML) (by have := hrok.2; omega)) ?spA ?spB F2 N2 KX ?spT ?spD ?spU ?_
  case spA => exact rfl
  case spB => assumption
  case spT => assumption
  case spD => (show callerA.depth + 1 + 6 < _; omega)
  case spU => (show callerA.units + 3 + 100 < _; omega)
  intro v' h5 tk5 hk5 F3 N3 nw' of' hp'
  revert v'
  refine un22 ?_
  intro c9 n9 e2 e3
  have N4 := nw' _ _ _ e2 e3 N3
  clear nw' of' N3 N2 F2
  walk_at "MY one"
  refine eq_prs (News.get N4 (.head _)) (News.get N4 (.tail _ mKp)) (hmv.mono fun p o hp _ => (N4 _ (.tail _ hp)).1) (hkp.mono fun p o hp _ => (N4 _ (.tail _ hp)).1) (mates_asc _ hrok.1) (by dsimp only [Around.deeper]; omega) ?_
  iterate 10 (walk_at "MY one")
  rename Fr _ L' _ _ => F5
  rename News _ L' _ _ => N5
  obtain ⟨tfo, hfo5⟩ := hfo
  have hfl := final_len wds (zs.getD 7 0) hw6
  refine len_list (items := List.toArray kp) (News.isList N5 (.tail _ mKp)) (by rw [List.size_toArray]; have := hrok.2; omega) ?_
  have hkf : ((List.toArray kp).size : Int) = ((runK (isAb wds) (zs.getD 7 0) 6).2 : Nat) := by rw [List.size_toArray, hkl, hfl.1]
  rw [hkf]
  iterate 2 (walk_at "MY one")
  rw [beq_self_eq_true]
  walk_at "MY go"
  rename Fr _ L' _ _ => F6
  rename News _ L' _ _ => N6
  refine' Spec.useN (wid_spec w _ W vw wds (News.isList N6 (.tail _ mW')) hvw hw6 hw3) ?spA ?spB F6 N6 KX ?spT ?spD ?spU ?_
  case spA => exact rfl
  case spB => assumption
  case spT => assumption
  case spD => (show callerA.depth + 1 + 8 < _; omega)
  case spU => (show callerA.units + 3 + 160 < _; omega)
  intro v' h7 tk7 hk7 F7 N7 nw' of' hp'
  revert v'
  refine un21 ?_
  intro M tM hM
  rw [final_wid wds (zs.getD 7 0) hw6 hw3 hwal M hM]
  clear nw' of' F6 N6
  walk_at "MY one"
  rw [beq_self_eq_true]
  repeat walk_at "MY sq"
  have hgens : AllBare G' := hG (by rw [hg1, hg]; exact fun y hy => nomatch hy)
  refine ⟨.inl ⟨.bool true, .bool true, [], rfl, ?g1, ?g2, ?g3, ?g4⟩, .of_keep F7.keep, hos1, hgens⟩
  case g1 => exact fun _ => rfl
  case g2 => exact .bool _
  case g4 => exact fun _ => ⟨List.nodup_nil, fun a ha => nomatch ha⟩
  case g3 => first | with_unfolding_all rfl | kernel_rfl)

end
end
end Mine
theorem PySem.Challenge.cw_tc0056_01_holds : PySem.Challenge.rw_tc0056_01.Holds := by
  exact Mine.law_holds
