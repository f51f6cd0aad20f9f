import PyProof.Rows.All
import Wide.All
import OpenK.AllK
import Wide.FinOn
import Lean
import PySem.Challenge.RW_to0047_01
set_option Elab.async false
set_option linter.all false
set_option compiler.extract_closed false
/-! Hd -/
section
open PySem PySem.W PyProof.Rows
set_option maxRecDepth 100000
set_option maxHeartbeats 0
set_option linter.all false
namespace Mine
/-- the n-th statement -/
def nth : List Stmt → Nat → Stmt
  | [], _ => .Pass ⟨0, 0, 0, 0⟩
  | s :: _, 0 => s
  | _ :: r, n + 1 => nth r n
def RW : PySem.W.OpenLaw := PySem.Challenge.rw_to0047_01
def clsBody : Stmt → List Stmt
  | .ClassDef _ _ _ b _ _ _ _ _ _ _ => b
  | _ => []
noncomputable def k2 : Params → Obj := fun P => (fun (_ : (Str.ofString "").cps.size = 0) => ({ cls := Value.none, data := Data.dict #[] } : Obj)) rfl
noncomputable def k3 : Params → Obj := fun P => (fun (_ : (Str.ofString "").cps.size = 0) => ({ cls := Value.type "dict", data := Data.dict #[{ hash := PyData.keyHash P (Str.ofString "__name__"), key := Value.str (Str.ofString "__name__") 165, val := Value.str (Str.ofString "law_to0047_01") 501 }, { hash := PyData.keyHash P (Str.ofString "__doc__"), key := Value.str (Str.ofString "__doc__") 166, val := Value.none }, { hash := PyData.keyHash P (Str.ofString "__package__"), key := Value.str (Str.ofString "__package__") 167, val := Value.none }, { hash := PyData.keyHash P (Str.ofString "__loader__"), key := Value.str (Str.ofString "__loader__") 168, val := Value.builtin "__main__.__loader__#opaque" }, { hash := PyData.keyHash P (Str.ofString "__spec__"), key := Value.str (Str.ofString "__spec__") 169, val := Value.none }, { hash := PyData.keyHash P (Str.ofString "__annotations__"), key := Value.str (Str.ofString "__annotations__") 170, val := Value.ref 6 }, { hash := PyData.keyHash P (Str.ofString "__builtins__"), key := Value.str (Str.ofString "__builtins__") 171, val := Value.ref 4 }, { hash := PyData.keyHash P (Str.ofString "__file__"), key := Value.str (Str.ofString "__file__") 173, val := Value.str (Str.ofString "/claim/cut.py") 172 }, { hash := PyData.keyHash P (Str.ofString "__cached__"), key := Value.str (Str.ofString "__cached__") 174, val := Value.none }, { hash := PyData.keyHash P (Str.ofString "_wall"), key := Value.str (Str.ofString "_wall") 193, val := Value.ref 21 }, { hash := PyData.keyHash P (Str.ofString "_strcoll"), key := Value.str (Str.ofString "_strcoll") 203, val := Value.ref 28 }, { hash := PyData.keyHash P (Str.ofString "_netrclex"), key := Value.str (Str.ofString "_netrclex") 263, val := Value.ref 66 }, { hash := PyData.keyHash P (Str.ofString "LPAR"), key := Value.str (Str.ofString "LPAR") 265, val := Value.int 7 264 }, { hash := PyData.keyHash P (Str.ofString "RPAR"), key := Value.str (Str.ofString "RPAR") 267, val := Value.int 8 266 }, { hash := PyData.keyHash P (Str.ofString "LSQB"), key := Value.str (Str.ofString "LSQB") 269, val := Value.int 9 268 }, { hash := PyData.keyHash P (Str.ofString "RSQB"), key := Value.str (Str.ofString "RSQB") 271, val := Value.int 10 270 }, { hash := PyData.keyHash P (Str.ofString "COLON"), key := Value.str (Str.ofString "COLON") 273, val := Value.int 11 272 }, { hash := PyData.keyHash P (Str.ofString "COMMA"), key := Value.str (Str.ofString "COMMA") 275, val := Value.int 12 274 }, { hash := PyData.keyHash P (Str.ofString "SEMI"), key := Value.str (Str.ofString "SEMI") 277, val := Value.int 13 276 }, { hash := PyData.keyHash P (Str.ofString "PLUS"), key := Value.str (Str.ofString "PLUS") 279, val := Value.int 14 278 }, { hash := PyData.keyHash P (Str.ofString "MINUS"), key := Value.str (Str.ofString "MINUS") 281, val := Value.int 15 280 }, { hash := PyData.keyHash P (Str.ofString "STAR"), key := Value.str (Str.ofString "STAR") 283, val := Value.int 16 282 }, { hash := PyData.keyHash P (Str.ofString "SLASH"), key := Value.str (Str.ofString "SLASH") 285, val := Value.int 17 284 }, { hash := PyData.keyHash P (Str.ofString "VBAR"), key := Value.str (Str.ofString "VBAR") 287, val := Value.int 18 286 }, { hash := PyData.keyHash P (Str.ofString "AMPER"), key := Value.str (Str.ofString "AMPER") 289, val := Value.int 19 288 }, { hash := PyData.keyHash P (Str.ofString "LESS"), key := Value.str (Str.ofString "LESS") 291, val := Value.int 20 290 }, { hash := PyData.keyHash P (Str.ofString "GREATER"), key := Value.str (Str.ofString "GREATER") 293, val := Value.int 21 292 }, { hash := PyData.keyHash P (Str.ofString "EQUAL"), key := Value.str (Str.ofString "EQUAL") 295, val := Value.int 22 294 }, { hash := PyData.keyHash P (Str.ofString "DOT"), key := Value.str (Str.ofString "DOT") 297, val := Value.int 23 296 }, { hash := PyData.keyHash P (Str.ofString "PERCENT"), key := Value.str (Str.ofString "PERCENT") 299, val := Value.int 24 298 }, { hash := PyData.keyHash P (Str.ofString "LBRACE"), key := Value.str (Str.ofString "LBRACE") 301, val := Value.int 25 300 }, { hash := PyData.keyHash P (Str.ofString "RBRACE"), key := Value.str (Str.ofString "RBRACE") 303, val := Value.int 26 302 }, { hash := PyData.keyHash P (Str.ofString "EQEQUAL"), key := Value.str (Str.ofString "EQEQUAL") 305, val := Value.int 27 304 }, { hash := PyData.keyHash P (Str.ofString "NOTEQUAL"), key := Value.str (Str.ofString "NOTEQUAL") 307, val := Value.int 28 306 }, { hash := PyData.keyHash P (Str.ofString "LESSEQUAL"), key := Value.str (Str.ofString "LESSEQUAL") 309, val := Value.int 29 308 }, { hash := PyData.keyHash P (Str.ofString "GREATEREQUAL"), key := Value.str (Str.ofString "GREATEREQUAL") 311, val := Value.int 30 310 }, { hash := PyData.keyHash P (Str.ofString "TILDE"), key := Value.str (Str.ofString "TILDE") 313, val := Value.int 31 312 }, { hash := PyData.keyHash P (Str.ofString "CIRCUMFLEX"), key := Value.str (Str.ofString "CIRCUMFLEX") 315, val := Value.int 32 314 }, { hash := PyData.keyHash P (Str.ofString "LEFTSHIFT"), key := Value.str (Str.ofString "LEFTSHIFT") 317, val := Value.int 33 316 }, { hash := PyData.keyHash P (Str.ofString "RIGHTSHIFT"), key := Value.str (Str.ofString "RIGHTSHIFT") 319, val := Value.int 34 318 }, { hash := PyData.keyHash P (Str.ofString "DOUBLESTAR"), key := Value.str (Str.ofString "DOUBLESTAR") 321, val := Value.int 35 320 }, { hash := PyData.keyHash P (Str.ofString "PLUSEQUAL"), key := Value.str (Str.ofString "PLUSEQUAL") 323, val := Value.int 36 322 }, { hash := PyData.keyHash P (Str.ofString "MINEQUAL"), key := Value.str (Str.ofString "MINEQUAL") 325, val := Value.int 37 324 }, { hash := PyData.keyHash P (Str.ofString "STAREQUAL"), key := Value.str (Str.ofString "STAREQUAL") 327, val := Value.int 38 326 }, { hash := PyData.keyHash P (Str.ofString "SLASHEQUAL"), key := Value.str (Str.ofString "SLASHEQUAL") 329, val := Value.int 39 328 }, { hash := PyData.keyHash P (Str.ofString "PERCENTEQUAL"), key := Value.str (Str.ofString "PERCENTEQUAL") 331, val := Value.int 40 330 }, { hash := PyData.keyHash P (Str.ofString "AMPEREQUAL"), key := Value.str (Str.ofString "AMPEREQUAL") 333, val := Value.int 41 332 }, { hash := PyData.keyHash P (Str.ofString "VBAREQUAL"), key := Value.str (Str.ofString "VBAREQUAL") 335, val := Value.int 42 334 }, { hash := PyData.keyHash P (Str.ofString "CIRCUMFLEXEQUAL"), key := Value.str (Str.ofString "CIRCUMFLEXEQUAL") 337, val := Value.int 43 336 }, { hash := PyData.keyHash P (Str.ofString "LEFTSHIFTEQUAL"), key := Value.str (Str.ofString "LEFTSHIFTEQUAL") 339, val := Value.int 44 338 }, { hash := PyData.keyHash P (Str.ofString "RIGHTSHIFTEQUAL"), key := Value.str (Str.ofString "RIGHTSHIFTEQUAL") 341, val := Value.int 45 340 }, { hash := PyData.keyHash P (Str.ofString "DOUBLESTAREQUAL"), key := Value.str (Str.ofString "DOUBLESTAREQUAL") 343, val := Value.int 46 342 }, { hash := PyData.keyHash P (Str.ofString "DOUBLESLASH"), key := Value.str (Str.ofString "DOUBLESLASH") 345, val := Value.int 47 344 }, { hash := PyData.keyHash P (Str.ofString "DOUBLESLASHEQUAL"), key := Value.str (Str.ofString "DOUBLESLASHEQUAL") 347, val := Value.int 48 346 }, { hash := PyData.keyHash P (Str.ofString "AT"), key := Value.str (Str.ofString "AT") 349, val := Value.int 49 348 }, { hash := PyData.keyHash P (Str.ofString "ATEQUAL"), key := Value.str (Str.ofString "ATEQUAL") 351, val := Value.int 50 350 }, { hash := PyData.keyHash P (Str.ofString "RARROW"), key := Value.str (Str.ofString "RARROW") 353, val := Value.int 51 352 }, { hash := PyData.keyHash P (Str.ofString "ELLIPSIS"), key := Value.str (Str.ofString "ELLIPSIS") 355, val := Value.int 52 354 }, { hash := PyData.keyHash P (Str.ofString "COLONEQUAL"), key := Value.str (Str.ofString "COLONEQUAL") 357, val := Value.int 53 356 }, { hash := PyData.keyHash P (Str.ofString "EXCLAMATION"), key := Value.str (Str.ofString "EXCLAMATION") 359, val := Value.int 54 358 }, { hash := PyData.keyHash P (Str.ofString "EXACT_TOKEN_TYPES"), key := Value.str (Str.ofString "EXACT_TOKEN_TYPES") 456, val := Value.ref 71 }, { hash := PyData.keyHash P (Str.ofString "_raise_serialization_error"), key := Value.str (Str.ofString "_raise_serialization_error") 465, val := Value.ref 80 }, { hash := PyData.keyHash P (Str.ofString "_escape_cdata"), key := Value.str (Str.ofString "_escape_cdata") 472, val := Value.ref 87 }, { hash := PyData.keyHash P (Str.ofString "_escape_attrib"), key := Value.str (Str.ofString "_escape_attrib") 479, val := Value.ref 94 }, { hash := PyData.keyHash P (Str.ofString "_escape_attrib_html"), key := Value.str (Str.ofString "_escape_attrib_html") 486, val := Value.ref 101 }, { hash := PyData.keyHash P (Str.ofString "_escape_cdata_c14n"), key := Value.str (Str.ofString "_escape_cdata_c14n") 493, val := Value.ref 108 }, { hash := PyData.keyHash P (Str.ofString "_escape_attrib_c14n"), key := Value.str (Str.ofString "_escape_attrib_c14n") 500, val := Value.ref 115 }, { hash := PyData.keyHash P (Str.ofString "_law_lexer"), key := Value.str (Str.ofString "_law_lexer") 512, val := Value.ref 122 }, { hash := PyData.keyHash P (Str.ofString "_law_hand"), key := Value.str (Str.ofString "_law_hand") 520, val := Value.ref 129 }, { hash := PyData.keyHash P (Str.ofString "_law_operators"), key := Value.str (Str.ofString "_law_operators") 526, val := Value.ref 134 }, { hash := PyData.keyHash P (Str.ofString "_law_sent"), key := Value.str (Str.ofString "_law_sent") 538, val := Value.ref 141 }, { hash := PyData.keyHash P (Str.ofString "_law_below"), key := Value.str (Str.ofString "_law_below") 544, val := Value.ref 146 }, { hash := PyData.keyHash P (Str.ofString "law"), key := Value.str (Str.ofString "law") 550, val := Value.ref 151 }] 73 } : Obj)) rfl
noncomputable def k27 : Params → Obj := fun P => (fun (_ : (Str.ofString "").cps.size = 0) => ({ cls := Value.type "code", data := Data.fields #[Value.str (Str.ofString "_strcoll") 196, Value.str (Str.ofString "_strcoll") 197, Value.str (Str.ofString "/claim/cut.py") 198, Value.int 5 0, Value.int 2 0, Value.int 0 0, Value.int 0 0, Value.int 3 0, Value.ref 22, Value.bool true, Value.int 181 0, Value.ref 23, Value.none, Value.ref 24, Value.ref 25, Value.ref 26, Value.int 201 0, Value.int 5 0, Value.str (Str.ofString "/claim/cut.py") 202] } : Obj)) rfl
noncomputable def k28 : Params → Obj := by
  refine (?f : ∀ a b c d e g h i j k, nth PySem.Challenge.pw_to0047_01.main.body 2 = .FunctionDef a b c d e g h i j k → Params → Obj) _ _ _ _ _ _ _ _ _ _ rfl
  exact fun a b c d e g h i j k _ _ => (fun (_ : (Str.ofString "").cps.size = 0) => ({ cls := Value.type "function", data := Data.func { name := Str.ofString "_strcoll", qualname := Str.ofString "_strcoll", params := b, body := FuncBody.stmts c, scope := h, globals := 3, closure := [], defaults := Value.none, kwdefaults := Value.none, pyModule := Value.str (Str.ofString "cpy313.locale") 194, code := Value.ref 27 } } : Obj)) rfl
noncomputable def k41 : Params → Obj := fun P => (fun (_ : (Str.ofString "").cps.size = 0) => ({ cls := Value.type "code", data := Data.fields #[Value.str (Str.ofString "__init__") 218, Value.str (Str.ofString "_netrclex.__init__") 219, Value.str (Str.ofString "/claim/cut.py") 220, Value.int 10 0, Value.int 2 0, Value.int 0 0, Value.int 0 0, Value.int 3 0, Value.ref 36, Value.bool true, Value.int 181 0, Value.ref 37, Value.none, Value.ref 38, Value.ref 39, Value.ref 40, Value.int 223 0, Value.int 10 0, Value.str (Str.ofString "/claim/cut.py") 224] } : Obj)) rfl
noncomputable def k42 : Params → Obj := by
  refine (?f : ∀ a b c d e g h i j k, nth (clsBody (nth PySem.Challenge.pw_to0047_01.main.body 4)) 0 = .FunctionDef a b c d e g h i j k → Params → Obj) _ _ _ _ _ _ _ _ _ _ rfl
  exact fun a b c d e g h i j k _ _ => (fun (_ : (Str.ofString "").cps.size = 0) => ({ cls := Value.type "function", data := Data.func { name := Str.ofString "__init__", qualname := Str.ofString "_netrclex.__init__", params := b, body := FuncBody.stmts c, scope := h, globals := 3, closure := [], defaults := Value.none, kwdefaults := Value.none, pyModule := Value.str (Str.ofString "cpy313.netrc") 204, code := Value.ref 41 } } : Obj)) rfl
noncomputable def k48 : Params → Obj := fun P => (fun (_ : (Str.ofString "").cps.size = 0) => ({ cls := Value.type "code", data := Data.fields #[Value.str (Str.ofString "_read_char") 226, Value.str (Str.ofString "_netrclex._read_char") 227, Value.str (Str.ofString "/claim/cut.py") 228, Value.int 16 0, Value.int 1 0, Value.int 0 0, Value.int 0 0, Value.int 3 0, Value.ref 43, Value.bool true, Value.int 181 0, Value.ref 44, Value.none, Value.ref 45, Value.ref 46, Value.ref 47, Value.int 231 0, Value.int 16 0, Value.str (Str.ofString "/claim/cut.py") 232] } : Obj)) rfl
noncomputable def k49 : Params → Obj := by
  refine (?f : ∀ a b c d e g h i j k, nth (clsBody (nth PySem.Challenge.pw_to0047_01.main.body 4)) 1 = .FunctionDef a b c d e g h i j k → Params → Obj) _ _ _ _ _ _ _ _ _ _ rfl
  exact fun a b c d e g h i j k _ _ => (fun (_ : (Str.ofString "").cps.size = 0) => ({ cls := Value.type "function", data := Data.func { name := Str.ofString "_read_char", qualname := Str.ofString "_netrclex._read_char", params := b, body := FuncBody.stmts c, scope := h, globals := 3, closure := [], defaults := Value.none, kwdefaults := Value.none, pyModule := Value.str (Str.ofString "cpy313.netrc") 204, code := Value.ref 48 } } : Obj)) rfl
noncomputable def k55 : Params → Obj := fun P => (fun (_ : (Str.ofString "").cps.size = 0) => ({ cls := Value.type "code", data := Data.fields #[Value.str (Str.ofString "get_token") 234, Value.str (Str.ofString "_netrclex.get_token") 235, Value.str (Str.ofString "/claim/cut.py") 236, Value.int 22 0, Value.int 1 0, Value.int 0 0, Value.int 0 0, Value.int 3 0, Value.ref 50, Value.bool true, Value.int 181 0, Value.ref 51, Value.none, Value.ref 52, Value.ref 53, Value.ref 54, Value.int 241 0, Value.int 22 0, Value.str (Str.ofString "/claim/cut.py") 242] } : Obj)) rfl
noncomputable def k56 : Params → Obj := by
  refine (?f : ∀ a b c d e g h i j k, nth (clsBody (nth PySem.Challenge.pw_to0047_01.main.body 4)) 2 = .FunctionDef a b c d e g h i j k → Params → Obj) _ _ _ _ _ _ _ _ _ _ rfl
  exact fun a b c d e g h i j k _ _ => (fun (_ : (Str.ofString "").cps.size = 0) => ({ cls := Value.type "function", data := Data.func { name := Str.ofString "get_token", qualname := Str.ofString "_netrclex.get_token", params := b, body := FuncBody.stmts c, scope := h, globals := 3, closure := [], defaults := Value.none, kwdefaults := Value.none, pyModule := Value.str (Str.ofString "cpy313.netrc") 204, code := Value.ref 55 } } : Obj)) rfl
noncomputable def k64 : Params → Obj := fun P => (fun (_ : (Str.ofString "").cps.size = 0) => ({ cls := Value.type "tuple", data := Data.seq #[Value.str (Str.ofString "instream") 252, Value.str (Str.ofString "lineno") 253, Value.str (Str.ofString "pushback") 254, Value.str (Str.ofString "whitespace") 255] } : Obj)) rfl
noncomputable def k65 : Params → Obj := fun P => (fun (_ : (Str.ofString "").cps.size = 0) => ({ cls := Value.type "dict", data := Data.dict #[{ hash := PyData.keyHash P (Str.ofString "__module__"), key := Value.str (Str.ofString "__module__") 213, val := Value.str (Str.ofString "cpy313.netrc") 204 }, { hash := PyData.keyHash P (Str.ofString "__firstlineno__"), key := Value.str (Str.ofString "__firstlineno__") 217, val := Value.int 8 216 }, { hash := PyData.keyHash P (Str.ofString "__init__"), key := Value.str (Str.ofString "__init__") 225, val := Value.ref 42 }, { hash := PyData.keyHash P (Str.ofString "_read_char"), key := Value.str (Str.ofString "_read_char") 233, val := Value.ref 49 }, { hash := PyData.keyHash P (Str.ofString "get_token"), key := Value.str (Str.ofString "get_token") 243, val := Value.ref 56 }, { hash := PyData.keyHash P (Str.ofString "push_token"), key := Value.str (Str.ofString "push_token") 251, val := Value.ref 63 }, { hash := PyData.keyHash P (Str.ofString "__static_attributes__"), key := Value.str (Str.ofString "__static_attributes__") 256, val := Value.ref 64 }, { hash := PyData.keyHash P (Str.ofString "__dict__"), key := Value.str (Str.ofString "__dict__") 258, val := Value.ref 67 }, { hash := PyData.keyHash P (Str.ofString "__weakref__"), key := Value.str (Str.ofString "__weakref__") 260, val := Value.ref 68 }, { hash := PyData.keyHash P (Str.ofString "__doc__"), key := Value.str (Str.ofString "__doc__") 261, val := Value.none }] 4 } : Obj)) rfl
noncomputable def k66 : Params → Obj := fun P => (fun (_ : (Str.ofString "").cps.size = 0) => ({ cls := Value.type "type", data := Data.cls { name := Str.ofString "_netrclex", bases := [Value.type "object"], mro := [Value.ref 66, Value.type "object"], ns := 65, qualname := Str.ofString "_netrclex" }, slots := #[none, none, some (Value.str (Str.ofString "_netrclex") 206), some (Value.str (Str.ofString "_netrclex") 214), some (Value.builtin "object.__new__"), some (Value.bool true)] } : Obj)) rfl
noncomputable def k67 : Params → Obj := fun P => (fun (_ : (Str.ofString "").cps.size = 0) => ({ cls := Value.type "getset_descriptor", data := Data.fields #[Value.str (Str.ofString "__dict__") 257, Value.ref 66, Value.builtin "function.__dict__", Value.builtin "function.__dict__#set"] } : Obj)) rfl
noncomputable def k68 : Params → Obj := fun P => (fun (_ : (Str.ofString "").cps.size = 0) => ({ cls := Value.type "getset_descriptor", data := Data.fields #[Value.str (Str.ofString "__weakref__") 259, Value.ref 66, Value.builtin "ExceptionGroup.__weakref__", Value.none] } : Obj)) rfl
noncomputable def k71 : Params → Obj := fun P => (fun (_ : (Str.ofString "").cps.size = 0) => ({ cls := Value.type "dict", data := Data.dict #[{ hash := PyData.keyHash P (Str.ofString "!"), key := Value.str (Str.ofString "!") 360, val := Value.int 54 358 }, { hash := PyData.keyHash P (Str.ofString "!="), key := Value.str (Str.ofString "!=") 362, val := Value.int 28 306 }, { hash := PyData.keyHash P (Str.ofString "%"), key := Value.str (Str.ofString "%") 364, val := Value.int 24 298 }, { hash := PyData.keyHash P (Str.ofString "%="), key := Value.str (Str.ofString "%=") 366, val := Value.int 40 330 }, { hash := PyData.keyHash P (Str.ofString "&"), key := Value.str (Str.ofString "&") 368, val := Value.int 19 288 }, { hash := PyData.keyHash P (Str.ofString "&="), key := Value.str (Str.ofString "&=") 370, val := Value.int 41 332 }, { hash := PyData.keyHash P (Str.ofString "("), key := Value.str (Str.ofString "(") 372, val := Value.int 7 264 }, { hash := PyData.keyHash P (Str.ofString ")"), key := Value.str (Str.ofString ")") 374, val := Value.int 8 266 }, { hash := PyData.keyHash P (Str.ofString "*"), key := Value.str (Str.ofString "*") 376, val := Value.int 16 282 }, { hash := PyData.keyHash P (Str.ofString "**"), key := Value.str (Str.ofString "**") 378, val := Value.int 35 320 }, { hash := PyData.keyHash P (Str.ofString "**="), key := Value.str (Str.ofString "**=") 380, val := Value.int 46 342 }, { hash := PyData.keyHash P (Str.ofString "*="), key := Value.str (Str.ofString "*=") 382, val := Value.int 38 326 }, { hash := PyData.keyHash P (Str.ofString "+"), key := Value.str (Str.ofString "+") 384, val := Value.int 14 278 }, { hash := PyData.keyHash P (Str.ofString "+="), key := Value.str (Str.ofString "+=") 386, val := Value.int 36 322 }, { hash := PyData.keyHash P (Str.ofString ","), key := Value.str (Str.ofString ",") 388, val := Value.int 12 274 }, { hash := PyData.keyHash P (Str.ofString "-"), key := Value.str (Str.ofString "-") 390, val := Value.int 15 280 }, { hash := PyData.keyHash P (Str.ofString "-="), key := Value.str (Str.ofString "-=") 392, val := Value.int 37 324 }, { hash := PyData.keyHash P (Str.ofString "->"), key := Value.str (Str.ofString "->") 394, val := Value.int 51 352 }, { hash := PyData.keyHash P (Str.ofString "."), key := Value.str (Str.ofString ".") 396, val := Value.int 23 296 }, { hash := PyData.keyHash P (Str.ofString "..."), key := Value.str (Str.ofString "...") 398, val := Value.int 52 354 }, { hash := PyData.keyHash P (Str.ofString "/"), key := Value.str (Str.ofString "/") 400, val := Value.int 17 284 }, { hash := PyData.keyHash P (Str.ofString "//"), key := Value.str (Str.ofString "//") 402, val := Value.int 47 344 }, { hash := PyData.keyHash P (Str.ofString "//="), key := Value.str (Str.ofString "//=") 404, val := Value.int 48 346 }, { hash := PyData.keyHash P (Str.ofString "/="), key := Value.str (Str.ofString "/=") 406, val := Value.int 39 328 }, { hash := PyData.keyHash P (Str.ofString ":"), key := Value.str (Str.ofString ":") 408, val := Value.int 11 272 }, { hash := PyData.keyHash P (Str.ofString ":="), key := Value.str (Str.ofString ":=") 410, val := Value.int 53 356 }, { hash := PyData.keyHash P (Str.ofString ";"), key := Value.str (Str.ofString ";") 412, val := Value.int 13 276 }, { hash := PyData.keyHash P (Str.ofString "<"), key := Value.str (Str.ofString "<") 414, val := Value.int 20 290 }, { hash := PyData.keyHash P (Str.ofString "<<"), key := Value.str (Str.ofString "<<") 416, val := Value.int 33 316 }, { hash := PyData.keyHash P (Str.ofString "<<="), key := Value.str (Str.ofString "<<=") 418, val := Value.int 44 338 }, { hash := PyData.keyHash P (Str.ofString "<="), key := Value.str (Str.ofString "<=") 420, val := Value.int 29 308 }, { hash := PyData.keyHash P (Str.ofString "="), key := Value.str (Str.ofString "=") 422, val := Value.int 22 294 }, { hash := PyData.keyHash P (Str.ofString "=="), key := Value.str (Str.ofString "==") 424, val := Value.int 27 304 }, { hash := PyData.keyHash P (Str.ofString ">"), key := Value.str (Str.ofString ">") 426, val := Value.int 21 292 }, { hash := PyData.keyHash P (Str.ofString ">="), key := Value.str (Str.ofString ">=") 428, val := Value.int 30 310 }, { hash := PyData.keyHash P (Str.ofString ">>"), key := Value.str (Str.ofString ">>") 429, val := Value.int 34 318 }, { hash := PyData.keyHash P (Str.ofString ">>="), key := Value.str (Str.ofString ">>=") 430, val := Value.int 45 340 }, { hash := PyData.keyHash P (Str.ofString "@"), key := Value.str (Str.ofString "@") 431, val := Value.int 49 348 }, { hash := PyData.keyHash P (Str.ofString "@="), key := Value.str (Str.ofString "@=") 432, val := Value.int 50 350 }, { hash := PyData.keyHash P (Str.ofString "["), key := Value.str (Str.ofString "[") 433, val := Value.int 9 268 }, { hash := PyData.keyHash P (Str.ofString "]"), key := Value.str (Str.ofString "]") 434, val := Value.int 10 270 }, { hash := PyData.keyHash P (Str.ofString "^"), key := Value.str (Str.ofString "^") 435, val := Value.int 32 314 }, { hash := PyData.keyHash P (Str.ofString "^="), key := Value.str (Str.ofString "^=") 436, val := Value.int 43 336 }, { hash := PyData.keyHash P (Str.ofString "{"), key := Value.str (Str.ofString "{") 437, val := Value.int 25 300 }, { hash := PyData.keyHash P (Str.ofString "|"), key := Value.str (Str.ofString "|") 438, val := Value.int 18 286 }, { hash := PyData.keyHash P (Str.ofString "|="), key := Value.str (Str.ofString "|=") 439, val := Value.int 42 334 }, { hash := PyData.keyHash P (Str.ofString "}"), key := Value.str (Str.ofString "}") 440, val := Value.int 26 302 }, { hash := PyData.keyHash P (Str.ofString "~"), key := Value.str (Str.ofString "~") 441, val := Value.int 31 312 }] 48 } : Obj)) rfl
noncomputable def k86 : Params → Obj := fun P => (fun (_ : (Str.ofString "").cps.size = 0) => ({ cls := Value.type "code", data := Data.fields #[Value.str (Str.ofString "_escape_cdata") 466, Value.str (Str.ofString "_escape_cdata") 467, Value.str (Str.ofString "/claim/cut.py") 468, Value.int 103 0, Value.int 1 0, Value.int 0 0, Value.int 0 0, Value.int 3 0, Value.ref 81, Value.bool true, Value.int 181 0, Value.ref 82, Value.none, Value.ref 83, Value.ref 84, Value.ref 85, Value.int 470 0, Value.int 103 0, Value.str (Str.ofString "/claim/cut.py") 471] } : Obj)) rfl
noncomputable def k87 : Params → Obj := by
  refine (?f : ∀ a b c d e g h i j k, nth PySem.Challenge.pw_to0047_01.main.body 56 = .FunctionDef a b c d e g h i j k → Params → Obj) _ _ _ _ _ _ _ _ _ _ rfl
  exact fun a b c d e g h i j k _ _ => (fun (_ : (Str.ofString "").cps.size = 0) => ({ cls := Value.type "function", data := Data.func { name := Str.ofString "_escape_cdata", qualname := Str.ofString "_escape_cdata", params := b, body := FuncBody.stmts c, scope := h, globals := 3, closure := [], defaults := Value.none, kwdefaults := Value.none, pyModule := Value.str (Str.ofString "cpy313.xml.etree.ElementTree") 457, code := Value.ref 86 } } : Obj)) rfl
noncomputable def k93 : Params → Obj := fun P => (fun (_ : (Str.ofString "").cps.size = 0) => ({ cls := Value.type "code", data := Data.fields #[Value.str (Str.ofString "_escape_attrib") 473, Value.str (Str.ofString "_escape_attrib") 474, Value.str (Str.ofString "/claim/cut.py") 475, Value.int 114 0, Value.int 1 0, Value.int 0 0, Value.int 0 0, Value.int 3 0, Value.ref 88, Value.bool true, Value.int 181 0, Value.ref 89, Value.none, Value.ref 90, Value.ref 91, Value.ref 92, Value.int 477 0, Value.int 114 0, Value.str (Str.ofString "/claim/cut.py") 478] } : Obj)) rfl
noncomputable def k94 : Params → Obj := by
  refine (?f : ∀ a b c d e g h i j k, nth PySem.Challenge.pw_to0047_01.main.body 57 = .FunctionDef a b c d e g h i j k → Params → Obj) _ _ _ _ _ _ _ _ _ _ rfl
  exact fun a b c d e g h i j k _ _ => (fun (_ : (Str.ofString "").cps.size = 0) => ({ cls := Value.type "function", data := Data.func { name := Str.ofString "_escape_attrib", qualname := Str.ofString "_escape_attrib", params := b, body := FuncBody.stmts c, scope := h, globals := 3, closure := [], defaults := Value.none, kwdefaults := Value.none, pyModule := Value.str (Str.ofString "cpy313.xml.etree.ElementTree") 457, code := Value.ref 93 } } : Obj)) rfl
noncomputable def k100 : Params → Obj := fun P => (fun (_ : (Str.ofString "").cps.size = 0) => ({ cls := Value.type "code", data := Data.fields #[Value.str (Str.ofString "_escape_attrib_html") 480, Value.str (Str.ofString "_escape_attrib_html") 481, Value.str (Str.ofString "/claim/cut.py") 482, Value.int 133 0, Value.int 1 0, Value.int 0 0, Value.int 0 0, Value.int 3 0, Value.ref 95, Value.bool true, Value.int 181 0, Value.ref 96, Value.none, Value.ref 97, Value.ref 98, Value.ref 99, Value.int 484 0, Value.int 133 0, Value.str (Str.ofString "/claim/cut.py") 485] } : Obj)) rfl
noncomputable def k101 : Params → Obj := by
  refine (?f : ∀ a b c d e g h i j k, nth PySem.Challenge.pw_to0047_01.main.body 58 = .FunctionDef a b c d e g h i j k → Params → Obj) _ _ _ _ _ _ _ _ _ _ rfl
  exact fun a b c d e g h i j k _ _ => (fun (_ : (Str.ofString "").cps.size = 0) => ({ cls := Value.type "function", data := Data.func { name := Str.ofString "_escape_attrib_html", qualname := Str.ofString "_escape_attrib_html", params := b, body := FuncBody.stmts c, scope := h, globals := 3, closure := [], defaults := Value.none, kwdefaults := Value.none, pyModule := Value.str (Str.ofString "cpy313.xml.etree.ElementTree") 457, code := Value.ref 100 } } : Obj)) rfl
noncomputable def k107 : Params → Obj := fun P => (fun (_ : (Str.ofString "").cps.size = 0) => ({ cls := Value.type "code", data := Data.fields #[Value.str (Str.ofString "_escape_cdata_c14n") 487, Value.str (Str.ofString "_escape_cdata_c14n") 488, Value.str (Str.ofString "/claim/cut.py") 489, Value.int 144 0, Value.int 1 0, Value.int 0 0, Value.int 0 0, Value.int 3 0, Value.ref 102, Value.bool true, Value.int 181 0, Value.ref 103, Value.none, Value.ref 104, Value.ref 105, Value.ref 106, Value.int 491 0, Value.int 144 0, Value.str (Str.ofString "/claim/cut.py") 492] } : Obj)) rfl
noncomputable def k108 : Params → Obj := by
  refine (?f : ∀ a b c d e g h i j k, nth PySem.Challenge.pw_to0047_01.main.body 59 = .FunctionDef a b c d e g h i j k → Params → Obj) _ _ _ _ _ _ _ _ _ _ rfl
  exact fun a b c d e g h i j k _ _ => (fun (_ : (Str.ofString "").cps.size = 0) => ({ cls := Value.type "function", data := Data.func { name := Str.ofString "_escape_cdata_c14n", qualname := Str.ofString "_escape_cdata_c14n", params := b, body := FuncBody.stmts c, scope := h, globals := 3, closure := [], defaults := Value.none, kwdefaults := Value.none, pyModule := Value.str (Str.ofString "cpy313.xml.etree.ElementTree") 457, code := Value.ref 107 } } : Obj)) rfl
noncomputable def k114 : Params → Obj := fun P => (fun (_ : (Str.ofString "").cps.size = 0) => ({ cls := Value.type "code", data := Data.fields #[Value.str (Str.ofString "_escape_attrib_c14n") 494, Value.str (Str.ofString "_escape_attrib_c14n") 495, Value.str (Str.ofString "/claim/cut.py") 496, Value.int 157 0, Value.int 1 0, Value.int 0 0, Value.int 0 0, Value.int 3 0, Value.ref 109, Value.bool true, Value.int 181 0, Value.ref 110, Value.none, Value.ref 111, Value.ref 112, Value.ref 113, Value.int 498 0, Value.int 157 0, Value.str (Str.ofString "/claim/cut.py") 499] } : Obj)) rfl
noncomputable def k115 : Params → Obj := by
  refine (?f : ∀ a b c d e g h i j k, nth PySem.Challenge.pw_to0047_01.main.body 60 = .FunctionDef a b c d e g h i j k → Params → Obj) _ _ _ _ _ _ _ _ _ _ rfl
  exact fun a b c d e g h i j k _ _ => (fun (_ : (Str.ofString "").cps.size = 0) => ({ cls := Value.type "function", data := Data.func { name := Str.ofString "_escape_attrib_c14n", qualname := Str.ofString "_escape_attrib_c14n", params := b, body := FuncBody.stmts c, scope := h, globals := 3, closure := [], defaults := Value.none, kwdefaults := Value.none, pyModule := Value.str (Str.ofString "cpy313.xml.etree.ElementTree") 457, code := Value.ref 114 } } : Obj)) rfl
noncomputable def k121 : Params → Obj := fun P => (fun (_ : (Str.ofString "").cps.size = 0) => ({ cls := Value.type "code", data := Data.fields #[Value.str (Str.ofString "_law_lexer") 503, Value.str (Str.ofString "_law_lexer") 504, Value.str (Str.ofString "/claim/cut.py") 505, Value.int 175 0, Value.int 1 0, Value.int 0 0, Value.int 0 0, Value.int 3 0, Value.ref 116, Value.bool true, Value.int 181 0, Value.ref 117, Value.none, Value.ref 118, Value.ref 119, Value.ref 120, Value.int 510 0, Value.int 175 0, Value.str (Str.ofString "/claim/cut.py") 511] } : Obj)) rfl
noncomputable def k122 : Params → Obj := by
  refine (?f : ∀ a b c d e g h i j k, nth PySem.Challenge.pw_to0047_01.main.body 62 = .FunctionDef a b c d e g h i j k → Params → Obj) _ _ _ _ _ _ _ _ _ _ rfl
  exact fun a b c d e g h i j k _ _ => (fun (_ : (Str.ofString "").cps.size = 0) => ({ cls := Value.type "function", data := Data.func { name := Str.ofString "_law_lexer", qualname := Str.ofString "_law_lexer", params := b, body := FuncBody.stmts c, scope := h, globals := 3, closure := [], defaults := Value.none, kwdefaults := Value.none, pyModule := Value.str (Str.ofString "law_to0047_01") 501, code := Value.ref 121 } } : Obj)) rfl
noncomputable def k128 : Params → Obj := fun P => (fun (_ : (Str.ofString "").cps.size = 0) => ({ cls := Value.type "code", data := Data.fields #[Value.str (Str.ofString "_law_hand") 513, Value.str (Str.ofString "_law_hand") 514, Value.str (Str.ofString "/claim/cut.py") 515, Value.int 183 0, Value.int 1 0, Value.int 0 0, Value.int 0 0, Value.int 3 0, Value.ref 123, Value.bool true, Value.int 181 0, Value.ref 124, Value.none, Value.ref 125, Value.ref 126, Value.ref 127, Value.int 518 0, Value.int 183 0, Value.str (Str.ofString "/claim/cut.py") 519] } : Obj)) rfl
noncomputable def k129 : Params → Obj := by
  refine (?f : ∀ a b c d e g h i j k, nth PySem.Challenge.pw_to0047_01.main.body 63 = .FunctionDef a b c d e g h i j k → Params → Obj) _ _ _ _ _ _ _ _ _ _ rfl
  exact fun a b c d e g h i j k _ _ => (fun (_ : (Str.ofString "").cps.size = 0) => ({ cls := Value.type "function", data := Data.func { name := Str.ofString "_law_hand", qualname := Str.ofString "_law_hand", params := b, body := FuncBody.stmts c, scope := h, globals := 3, closure := [], defaults := Value.none, kwdefaults := Value.none, pyModule := Value.str (Str.ofString "law_to0047_01") 501, code := Value.ref 128 } } : Obj)) rfl
noncomputable def k133 : Params → Obj := fun P => (fun (_ : (Str.ofString "").cps.size = 0) => ({ cls := Value.type "code", data := Data.fields #[Value.str (Str.ofString "_law_operators") 521, Value.str (Str.ofString "_law_operators") 522, Value.str (Str.ofString "/claim/cut.py") 523, Value.int 186 0, Value.int 2 0, Value.int 0 0, Value.int 0 0, Value.int 3 0, Value.ref 130, Value.bool true, Value.int 181 0, Value.ref 131, Value.none, Value.none, Value.none, Value.ref 132, Value.int 524 0, Value.int 186 0, Value.str (Str.ofString "/claim/cut.py") 525] } : Obj)) rfl
noncomputable def k134 : Params → Obj := by
  refine (?f : ∀ a b c d e g h i j k, nth PySem.Challenge.pw_to0047_01.main.body 64 = .FunctionDef a b c d e g h i j k → Params → Obj) _ _ _ _ _ _ _ _ _ _ rfl
  exact fun a b c d e g h i j k _ _ => (fun (_ : (Str.ofString "").cps.size = 0) => ({ cls := Value.type "function", data := Data.func { name := Str.ofString "_law_operators", qualname := Str.ofString "_law_operators", params := b, body := FuncBody.stmts c, scope := h, globals := 3, closure := [], defaults := Value.none, kwdefaults := Value.none, pyModule := Value.str (Str.ofString "law_to0047_01") 501, code := Value.ref 133 } } : Obj)) rfl
noncomputable def k140 : Params → Obj := fun P => (fun (_ : (Str.ofString "").cps.size = 0) => ({ cls := Value.type "code", data := Data.fields #[Value.str (Str.ofString "_law_sent") 527, Value.str (Str.ofString "_law_sent") 528, Value.str (Str.ofString "/claim/cut.py") 529, Value.int 188 0, Value.int 2 0, Value.int 0 0, Value.int 0 0, Value.int 3 0, Value.ref 135, Value.bool true, Value.int 181 0, Value.ref 136, Value.none, Value.ref 137, Value.ref 138, Value.ref 139, Value.int 536 0, Value.int 188 0, Value.str (Str.ofString "/claim/cut.py") 537] } : Obj)) rfl
noncomputable def k141 : Params → Obj := by
  refine (?f : ∀ a b c d e g h i j k, nth PySem.Challenge.pw_to0047_01.main.body 65 = .FunctionDef a b c d e g h i j k → Params → Obj) _ _ _ _ _ _ _ _ _ _ rfl
  exact fun a b c d e g h i j k _ _ => (fun (_ : (Str.ofString "").cps.size = 0) => ({ cls := Value.type "function", data := Data.func { name := Str.ofString "_law_sent", qualname := Str.ofString "_law_sent", params := b, body := FuncBody.stmts c, scope := h, globals := 3, closure := [], defaults := Value.none, kwdefaults := Value.none, pyModule := Value.str (Str.ofString "law_to0047_01") 501, code := Value.ref 140 } } : Obj)) rfl
noncomputable def k145 : Params → Obj := fun P => (fun (_ : (Str.ofString "").cps.size = 0) => ({ cls := Value.type "code", data := Data.fields #[Value.str (Str.ofString "_law_below") 539, Value.str (Str.ofString "_law_below") 540, Value.str (Str.ofString "/claim/cut.py") 541, Value.int 195 0, Value.int 2 0, Value.int 0 0, Value.int 0 0, Value.int 3 0, Value.ref 142, Value.bool true, Value.int 181 0, Value.ref 143, Value.none, Value.none, Value.none, Value.ref 144, Value.int 542 0, Value.int 195 0, Value.str (Str.ofString "/claim/cut.py") 543] } : Obj)) rfl
noncomputable def k146 : Params → Obj := by
  refine (?f : ∀ a b c d e g h i j k, nth PySem.Challenge.pw_to0047_01.main.body 66 = .FunctionDef a b c d e g h i j k → Params → Obj) _ _ _ _ _ _ _ _ _ _ rfl
  exact fun a b c d e g h i j k _ _ => (fun (_ : (Str.ofString "").cps.size = 0) => ({ cls := Value.type "function", data := Data.func { name := Str.ofString "_law_below", qualname := Str.ofString "_law_below", params := b, body := FuncBody.stmts c, scope := h, globals := 3, closure := [], defaults := Value.none, kwdefaults := Value.none, pyModule := Value.str (Str.ofString "law_to0047_01") 501, code := Value.ref 145 } } : Obj)) rfl
noncomputable def k150 : Params → Obj := fun P => (fun (_ : (Str.ofString "").cps.size = 0) => ({ cls := Value.type "code", data := Data.fields #[Value.str (Str.ofString "law") 545, Value.str (Str.ofString "law") 546, Value.str (Str.ofString "/claim/cut.py") 547, Value.int 201 0, Value.int 1 0, Value.int 0 0, Value.int 0 0, Value.int 3 0, Value.ref 147, Value.bool true, Value.int 181 0, Value.ref 148, Value.none, Value.none, Value.none, Value.ref 149, Value.int 548 0, Value.int 201 0, Value.str (Str.ofString "/claim/cut.py") 549] } : Obj)) rfl
noncomputable def k151 : Params → Obj := by
  refine (?f : ∀ a b c d e g h i j k, nth PySem.Challenge.pw_to0047_01.main.body 67 = .FunctionDef a b c d e g h i j k → Params → Obj) _ _ _ _ _ _ _ _ _ _ rfl
  exact fun a b c d e g h i j k _ _ => (fun (_ : (Str.ofString "").cps.size = 0) => ({ cls := Value.type "function", data := Data.func { name := Str.ofString "law", qualname := Str.ofString "law", params := b, body := FuncBody.stmts c, scope := h, globals := 3, closure := [], defaults := Value.none, kwdefaults := Value.none, pyModule := Value.str (Str.ofString "law_to0047_01") 501, code := Value.ref 150 } } : Obj)) rfl
noncomputable def KK : Params → Frag := fun P => (nat_lit 2, k2 P) :: (nat_lit 3, k3 P) :: (nat_lit 27, k27 P) :: (nat_lit 28, k28 P) :: (nat_lit 41, k41 P) :: (nat_lit 42, k42 P) :: (nat_lit 48, k48 P) :: (nat_lit 49, k49 P) :: (nat_lit 55, k55 P) :: (nat_lit 56, k56 P) :: (nat_lit 64, k64 P) :: (nat_lit 65, k65 P) :: (nat_lit 66, k66 P) :: (nat_lit 67, k67 P) :: (nat_lit 68, k68 P) :: (nat_lit 71, k71 P) :: (nat_lit 86, k86 P) :: (nat_lit 87, k87 P) :: (nat_lit 93, k93 P) :: (nat_lit 94, k94 P) :: (nat_lit 100, k100 P) :: (nat_lit 101, k101 P) :: (nat_lit 107, k107 P) :: (nat_lit 108, k108 P) :: (nat_lit 114, k114 P) :: (nat_lit 115, k115 P) :: (nat_lit 121, k121 P) :: (nat_lit 122, k122 P) :: (nat_lit 128, k128 P) :: (nat_lit 129, k129 P) :: (nat_lit 133, k133 P) :: (nat_lit 134, k134 P) :: (nat_lit 140, k140 P) :: (nat_lit 141, k141 P) :: (nat_lit 145, k145 P) :: (nat_lit 146, k146 P) :: (nat_lit 150, k150 P) :: (nat_lit 151, k151 P) :: []
noncomputable def lawRec : DefRec := by
  refine (?f : ∀ a b c d e g h i j k, nth PySem.Challenge.pw_to0047_01.main.body 67 = .FunctionDef a b c d e g h i j k → DefRec) _ _ _ _ _ _ _ _ _ _ rfl
  exact fun a b c _ _ _ h _ _ k _ => ⟨a, b, c, h, k⟩

theorem keep_as (P : Params) : (nat_lit 2 :: nat_lit 3 :: nat_lit 27 :: nat_lit 28 :: nat_lit 41 :: nat_lit 42 :: nat_lit 48 :: nat_lit 49 :: nat_lit 55 :: nat_lit 56 :: nat_lit 64 :: nat_lit 65 :: nat_lit 66 :: nat_lit 67 :: nat_lit 68 :: nat_lit 71 :: nat_lit 86 :: nat_lit 87 :: nat_lit 93 :: nat_lit 94 :: nat_lit 100 :: nat_lit 101 :: nat_lit 107 :: nat_lit 108 :: nat_lit 114 :: nat_lit 115 :: nat_lit 121 :: nat_lit 122 :: nat_lit 128 :: nat_lit 129 :: nat_lit 133 :: nat_lit 134 :: nat_lit 140 :: nat_lit 141 :: nat_lit 145 :: nat_lit 146 :: nat_lit 150 :: nat_lit 151 :: []) = (KK P).map (·.1) := by kernel_rfl
end Mine
end
/-! Base -/
section
open PySem PySem.W PySem.Spec PySem.Calls PyProof.Rows
set_option maxRecDepth 100000
set_option maxHeartbeats 8000000
namespace Mine

/-- where a walk shall stop -/
structure Mark (_ : String) : Prop where
  one : True
def HaltK (_ : String) (p : Prop) : Prop := p
theorem haltK {x : String} {p : Prop} (_ : Mark x) (h : HaltK x p) : p := h
theorem addMark {x : String} {p : Prop} (h : Mark x → p) : p := h ⟨trivial⟩
theorem foldK {p : Prop} (_ : Mark "fold") (h : p) : p := h
theorem unhalt {x : String} {p : Prop} (h : p) : HaltK x p := h
/-- every object that stands in the one stands in the other -/
def Ext (h h' : Heap) : Prop := ∀ b o, h.get? b = some o → h'.get? b = some o
theorem Ext.refl (h : Heap) : Ext h h := fun _ _ e => e
theorem Ext.trans {a b c : Heap} (x : Ext a b) (y : Ext b c) : Ext a c := fun _ _ e => y _ _ (x _ _ e)

/-- the room that a call finds: no exception is handled, depth, frames, guards, units -/
abbrev Rm (dp un : Nat) (fr : Option (List Env)) (gd : Option (List Code)) : Around := { handled := none, depth := dp, frames := fr, guards := gd, units := un }

theorem fr_ext {h₀ h h' : Heap} {L : Addr} {m : Str → Option Value} (F : Fr h₀ L h m) (x : Ext h h') : Fr h₀ L h' m :=
  ⟨F.ns.keeps x, fun b o e => x _ _ (F.keep b o e), F.above⟩
theorem news_ext {h₀ h h' : Heap} {L : Addr} {news : List (Addr × Obj)} (N : News h₀ L h news) (x : Ext h h') : News h₀ L h' news :=
  fun p hp => ⟨x _ _ (N p hp).1, (N p hp).2⟩
theorem news_new {h₀ h h' : Heap} {L r : Addr} {o : Obj} {m : Str → Option Value} {news : List (Addr × Obj)} (F : Fr h₀ L h m) (N : News h₀ L h news) (x : Ext h h') (hr : h.get? r = none) (ho : h'.get? r = some o) :
    News h₀ L h' ((r, o) :: news) := by
  intro p hp
  rcases List.mem_cons.mp hp with rfl | hp
  · refine ⟨ho, ?_, ?_⟩
    · rintro rfl
      obtain ⟨oL, _, _, hL, _⟩ := F.ns
      rw [hL] at hr; cases hr
    · cases q : h₀.get? r with
      | none => rfl
      | some o' => rw [F.keep _ _ q] at hr; cases hr
  · exact news_ext N x p hp

/-- the callee's ground: the whole heap but what is handed on as a ledger -/
structure Gr (h₀ h g : Heap) (hid : List (Addr × Obj)) : Prop where
  at_ : ∀ q ∈ hid, h.get? q.1 = some q.2 ∧ h₀.get? q.1 = none
  keep : ∀ b o, h.get? b = some o → b ∉ hid.map (·.1) → g.get? b = some o
  size : g.objs.size = h.objs.size

theorem Gr.back {h₀ h g h' : Heap} {L' : Addr} {m' : Str → Option Value} {hid news' : List (Addr × Obj)} (G : Gr h₀ h g hid) (F : Fr g L' h' m') (N : News g L' h' news') (hs : ∀ q ∈ hid, q ∈ news') : Ext h h' := fun b o e => by
  by_cases hb : b ∈ hid.map (·.1)
  · obtain ⟨q, hq, rfl⟩ := List.mem_map.mp hb
    have e1 := (G.at_ q hq).1
    rw [e] at e1
    cases e1
    exact (N q (hs q hq)).1
  · exact F.keep _ _ (G.keep b o e hb)
theorem Gr.fresh {h₀ h g h' : Heap} {L' r : Addr} {m' : Str → Option Value} {o : Obj} {hid news' : List (Addr × Obj)} (G : Gr h₀ h g hid) (F : Fr g L' h' m') (N : News g L' h' news') (hr : (r, o) ∈ news') (hn : ∀ q ∈ hid, q.1 ≠ r) : h.get? r = none ∧ h'.get? r = some o := by
  refine ⟨?_, (N _ hr).1⟩
  cases q : h.get? r with
  | none => rfl
  | some o' =>
    have hb : r ∉ hid.map (·.1) := fun hm => by
      obtain ⟨p, hp, e⟩ := List.mem_map.mp hm
      exact hn p hp e
    have := G.keep _ _ q hb
    rw [(N _ hr).2.2] at this
    cases this

theorem Gr.off {h₀ h g h' : Heap} {L' r : Addr} {o : Obj} {hid news' : List (Addr × Obj)} (G : Gr h₀ h g hid) (N : News g L' h' news') (hr : (r, o) ∈ news') : h'.get? r = some o ∧ ∀ o', h.get? r = some o' → r ∈ hid.map (·.1) := by
  refine ⟨(N _ hr).1, fun o' q => ?_⟩
  by_cases hb : r ∈ hid.map (·.1)
  · exact hb
  · have := G.keep _ _ q hb
    rw [(N _ hr).2.2] at this
    cases this
theorem news_back {h₀ h h' : Heap} {L r : Addr} {m : Str → Option Value} {o : Obj} {hid news : List (Addr × Obj)} (F : Fr h₀ L h m) (N : News h₀ L h news) (hh : ∀ q ∈ hid, q ∈ news) (x : Ext h h') (ho : h'.get? r = some o ∧ ∀ o', h.get? r = some o' → r ∈ hid.map (·.1)) :
    News h₀ L h' ((r, o) :: news) := by
  intro p hp
  rcases List.mem_cons.mp hp with rfl | hp
  · have key : ∀ o', h.get? r = some o' → r ≠ L ∧ h₀.get? r = none := fun o' q => by
      obtain ⟨q', hq, e⟩ := List.mem_map.mp (ho.2 o' q)
      have := (N q' (hh q' hq)).2
      rw [e] at this
      exact this
    refine ⟨ho.1, ?_, ?_⟩
    · rintro rfl
      obtain ⟨oL, _, _, hL, _⟩ := F.ns
      exact (key _ hL).1 rfl
    · cases q : h₀.get? r with
      | none => rfl
      | some o' => have := (key _ (F.keep _ _ q)).2; rw [q] at this; exact this
  · exact news_ext N x p hp
theorem sub0 {α : Type} {l : List α} : ∀ p ∈ ([] : List α), p ∈ l := fun _ h => nomatch h
theorem sub1 {α : Type} {a : α} {l rest : List α} (ha : a ∈ l) (hr : ∀ p ∈ rest, p ∈ l) : ∀ p ∈ a :: rest, p ∈ l := fun p hp => by
  rcases List.mem_cons.mp hp with rfl | hp
  · exact ha
  · exact hr p hp

theorem hide_gr {h₀ h : Heap} {hid : List (Addr × Obj)} (H : ∀ q ∈ hid, h.get? q.1 = some q.2 ∧ h₀.get? q.1 = none) : Gr h₀ h (hideAll h (hid.map (·.1))) hid :=
  ⟨H, fun _ _ e hb => hideAll_get _ e hb, hideAll_size _ _⟩

section
variable {prog : Program} {w : World} {A : Around} {K : Frag} {p : Program} {loose : List Str} {mean : ExcName → Option Value} {mg mb : Str → Option Value} {h₀ : Heap} {s : Shared} {R : Result → Shared → Prop}
  {name qual : Str} {params : Arguments} {body : List Stmt} {scope : Scope} {dV kV doc pm cdv ct oc : Value} {an od : Option Addr} {osl : Array (Option Value)} {f : Addr} {args : Args} {binds : List (Str × Value)}
theorem enter (hid : List (Addr × Obj)) (X₀ : K.In h₀) (T : Top p loose mean mg mb h₀) (E₀ : Ext h₀ s.heap) (H : ∀ q ∈ hid, s.heap.get? q.1 = some q.2 ∧ h₀.get? q.1 = none)
    (ho : K.lookup f = some ⟨oc, od, .func (fnOf name qual params body scope dV kV doc pm an cdv ct), osl⟩) (hcd : codeIn K cdv qual = true) (hroom : A.depth < recursionLimit)
    (hbind : BindsTo s (fnOf name qual params body scope dV kV doc pm an cdv ct) args binds) (hloc : ∀ y ∈ binds, scope.names.lookup y.1 = some .local)
    (h : ∀ g L' h₁, Gr h₀ s.heap g hid → Fr g L' h₁ (fun y => binds.reverse.lookup y) → News g L' h₁ hid → K.In g → Top p loose mean mg mb g →
      wpAny (model prog w) (A.deeper (envOf qual scope L' f cdv)) (execs body (envOf qual scope L' f cdv)) (fun fl s' => R (.ok (.ret (match fl with | .ret v => v | _ => .none))) s') (fun _ _ => False)
        { s with heap := h₁, toks := s.toks + binds.length })
    (hco : scope.isCoroutine = false) (hgen : scope.isGenerator = false) (hk : scope.kind = .function) (hcell : ∀ x ∈ scope.names, x.2 ≠ .cell) : codeAny (model prog w) A (.call (.ref f) args) R s := by
  have st : Ext h₀ (hideAll s.heap (hid.map (·.1))) := fun b o e => hideAll_get _ (E₀ b o e) fun q => by
    obtain ⟨p, hp, rfl⟩ := List.mem_map.mp q
    rw [(H p hp).2] at e; cases e
  have K1 := X₀.keeps st
  have T1 := T.keeps st
  have X := X₀.keeps E₀
  refine codeAny_call_def (fd := fnOf name qual params body scope dV kV doc pm an cdv ct) (body := body) (binds := binds) hroom (X _ _ ho) rfl (T.nolimit.keeps E₀) (codeRec_of X hcd) rfl hbind hcell hloc (fun h₁ hns hk₁ => ?_) hco hgen hk
  refine wpAny_mono (h _ s.heap.objs.size h₁ (hide_gr H) ⟨hns, fun b o e => hk₁ b o (of_hideAll _ e), Nat.le_of_eq (hideAll_size _ _)⟩
    (fun p hp => ⟨hk₁ _ _ (H p hp).1, Nat.ne_of_lt (Heap.lt_size (H p hp).1), hideAll_none _ (List.mem_map_of_mem hp)⟩) K1 T1) (fun _ _ e => e) fun _ _ e => e.elim

theorem enterC (hid : List (Addr × Obj)) (X₀ : K.In h₀) (T : Top p loose mean mg mb h₀) (E₀ : Ext h₀ s.heap) (H : ∀ q ∈ hid, s.heap.get? q.1 = some q.2 ∧ h₀.get? q.1 = none)
    (ho : K.lookup f = some ⟨oc, od, .func (fnOf name qual params body scope dV kV doc pm an cdv ct), osl⟩) (hcd : codeIn K cdv qual = true) (hroom : A.depth < recursionLimit)
    (hbind : BindsTo s (fnOf name qual params body scope dV kV doc pm an cdv ct) args binds) (hkind : (binds.all fun y => scope.names.lookup y.1 == some .local || scope.names.lookup y.1 == some .cell) = true)
    (hnd : ((cellsFrom 0 scope.names []).map (·.1)).Nodup)
    (h : ∀ g L' h₁ tk cells, Gr h₀ s.heap g hid → Fr g L' h₁ (bindL (envOfC qual scope L' f cdv).kindOf binds fun _ => none) → News g L' h₁ (cells ++ hid) →
      CellsAre (bindC (envOfC qual scope L' f cdv).kindOf binds fun _ => none) (cellsFrom (L' + 1) scope.names []) cells → K.In g → Top p loose mean mg mb g → (∀ p ∈ hid, p.1 < L') →
      wpAny (model prog w) (A.deeper (envOfC qual scope L' f cdv)) (execs body (envOfC qual scope L' f cdv)) (fun fl s' => R (.ok (.ret (match fl with | .ret v => v | _ => .none))) s') (fun _ _ => False)
        { s with heap := h₁, toks := tk })
    (hco : scope.isCoroutine = false) (hgen : scope.isGenerator = false) (hk : scope.kind = .function) : codeAny (model prog w) A (.call (.ref f) args) R s := by
  have st : Ext h₀ (hideAll s.heap (hid.map (·.1))) := fun b o e => hideAll_get _ (E₀ b o e) fun q => by
    obtain ⟨p, hp, rfl⟩ := List.mem_map.mp q
    rw [(H p hp).2] at e; cases e
  have K1 := X₀.keeps st
  have T1 := T.keeps st
  have X := X₀.keeps E₀
  refine codeAny_call_function hroom (X _ _ ho) rfl hco hgen rfl (codeRec_of X hcd) (hbind _ _ _ _ ?_)
  refine wpAny_newFunctionEnv_cells hk (kindsX hkind _) fun env' he s' x => ?_
  subst he
  refine ⟨(T.nolimit.keeps E₀).keeps x.toInCall.keep, codeAny_func ?_⟩
  obtain ⟨h₁, tk, rfl, _⟩ := x.done
  have hk₁ := x.toInCall.keep
  obtain ⟨cells, NC, Y⟩ := Cl.news (h₀ := s.heap) (Nat.le_refl _) fun n c hm => ⟨x.cell n c (lookup_of_mem_nodup (cellsFrom_names scope.names 0 (s.heap.objs.size + 1) [] [] rfl ▸ hnd) hm), x.above n c hm⟩
  refine wpAny_mono (h _ s.heap.objs.size h₁ tk cells (hide_gr H) ⟨x.toInCall.ns, fun b o e => hk₁ b o (of_hideAll _ e), Nat.le_of_eq (hideAll_size _ _)⟩ (fun p hp => ?_) Y K1 T1 (fun p hp => Heap.lt_size (H p hp).1)) (fun fl s' hl => hl) fun _ _ y => y.elim
  rcases List.mem_append.mp hp with hp | hp
  · refine ⟨(NC p hp).1, (NC p hp).2.1, ?_⟩
    cases q : (hideAll s.heap (hid.map (·.1))).get? p.1 with
    | none => rfl
    | some o => have := of_hideAll _ q; rw [(NC p hp).2.2] at this; cases this
  · exact ⟨hk₁ _ _ (H p hp).1, Nat.ne_of_lt (Heap.lt_size (H p hp).1), hideAll_none _ (List.mem_map_of_mem hp)⟩
end
end Mine
end
local macro_rules | `(tactic| walk_at $s) => if s.getString == "execs cons" then `(tactic| first | (refine Mine.haltK (x := $s) (by with_reducible assumption) ?_) | (refine Mine.foldK (by with_reducible assumption) ?_; k_fold)) else if ["CellSrc", "CompEnd", "CompSrc", "DSrc", "FnAt", "In2", "InEnd", "TwoSrc", "binaryOp Add ref ref", "binaryOp Add str str", "call builtin:dict.get", "call builtin:dict.items", "call builtin:iter", "call builtin:len", "call builtin:list.pop", "call builtin:sorted", "call builtin:str.join", "call ref", "call type:zip", "callWith", "callWith ref", "compareOp Eq ref ref", "compareOp In bool ref", "compareOp NotEq bool bool", "compareOp NotEq ref ref", "eval DictComp", "eval ListComp", "exec Assign cons ListComp", "exec For", "exec For Name Name cons nil", "exec If", "execs cons", "execs nil", "getMethod ref", "inplaceOp Add str str", "isTrue", "pyIter ref", "pyIter str", "subscriptTail", "subscriptTail Name Slice ref ref"].contains s.getString then `(tactic| refine Mine.haltK (x := $s) (by with_reducible assumption) ?_) else Lean.Macro.throwUnsupported
/-! Iter -/
section
open PySem PySem.W PySem.Spec PySem.Calls PyProof.Rows
set_option maxRecDepth 100000
set_option maxHeartbeats 8000000
namespace Mine

theorem walks_obj {prog : Program} {w : World} {A : Around} (hh : A.handled = none) (I l : Addr) (hne : l ≠ I) (vs : List Value) (nn : Nat) :
    Walks prog w A I [I, l] [I] vs.length (fun i v => vs[i]? = some v) (fun i h => h.IsListIter I l i ∧ h.get? l = some (listOf vs.toArray nn)) where
  sub := fun b hb => by simp at hb; simp [hb]
  frame := fun _ _ _ st hk => ⟨st.1.at fun o e => hk I (by simp) o e, hk l (by simp) _ st.2⟩
  item := fun i s Q E hi st hQ => by
    refine wpAny_pyNext_list_item st.1 ⟨_, st.2, rfl, nn, rfl⟩ (x := vs[i]) (by simp [hi]) fun h' hit' hs' => ?_
    exact hQ _ h' s.toks (by simp [hi]) ⟨hit', (hs'.2 l hne).trans st.2⟩ fun b o hb e => hs'.extBut b o (fun h => hb (by simp [h])) e
  done := fun s Q E st hQ => wpAny_pyNext_list_end hh st.1 ⟨_, st.2, rfl, nn, rfl⟩ (by simp) fun h' he' => hQ h' s.toks fun b o hb e => he' b o (fun h => hb (by simp [h])) e
  self := fun _ _ _ _ st hQ => wpAny_pyIter_listiter st.1 hQ

/-- what stands behind a turn of a loop over the list l by the iterator I -/
def TurnEnd (h₀ : Heap) (L l I : Addr) (ol oI : Obj) (J : (Str → Option Value) → List (Addr × Obj) → Prop) (s₁ s₂ : Shared) : Prop :=
  ∃ h' tk m' live', s₂ = { s₁ with heap := h', toks := tk } ∧ Fr h₀ L h' m' ∧ News h₀ L h' ((l, ol) :: (I, oI) :: live') ∧ (∀ p ∈ live', p.1 ≠ I) ∧ J m' live'
def TurnPost (h₀ : Heap) (L l I : Addr) (ol oI : Obj) (J : (Str → Option Value) → List (Addr × Obj) → Prop) (s₁ : Shared) (Q : Flow → Shared → Prop) (f : Flow) (s₂ : Shared) : Prop :=
  match f with
  | .ret v => Q (.ret v) s₂
  | .brk => Q .next s₂
  | _ => TurnEnd h₀ L l I ol oI J s₁ s₂

section
variable {prog : Program} {w : World} {A : Around} {E : Value → Shared → Prop} {s : Shared} {env : Env} {h₀ : Heap} {x : Str} {body : List Stmt} {Q : Flow → Shared → Prop}
theorem iter_vals {l : Addr} {vs : List Value} {nn : Nat} {m₀ : Str → Option Value} {news live₀ : List (Addr × Obj)} (J : Nat → (Str → Option Value) → List (Addr × Obj) → Prop)
    (hh : A.handled = none) (F : Fr h₀ env.locals s.heap m₀) (N : News h₀ env.locals s.heap news) (hl : (l, listOf vs.toArray nn) ∈ news) (hlive : ∀ p ∈ live₀, p ∈ news) (hj : J 0 m₀ live₀)
    (turn : ∀ i v m₁ live h tk I oI, vs[i]? = some v → (∀ p ∈ live, p.1 ≠ I) → l ≠ I → J i m₁ live → Fr h₀ env.locals h (fun y => if y = x then some v else m₁ y) → News h₀ env.locals h ((l, listOf vs.toArray nn) :: (I, oI) :: live) →
      wpAny (model prog w) A (execs body env) (TurnPost h₀ env.locals l I (listOf vs.toArray nn) oI (J (i + 1)) { s with heap := h, toks := tk } Q) E { s with heap := h, toks := tk })
    (done : ∀ m₁ live h tk, J vs.length m₁ live → Fr h₀ env.locals h m₁ → News h₀ env.locals h ((l, listOf vs.toArray nn) :: live) → Q .next { s with heap := h, toks := tk }) :
    wpAny (model prog w) A (pyIter (.ref l)) (fun it s₂ => LoopAtV prog w A h₀ env x body Q E it s₂) E s := by
  have hol : s.heap.get? l = some (listOf vs.toArray nn) := (N _ hl).1
  have hls : s.heap.IsList l vs.toArray := ⟨_, hol, rfl, nn, rfl⟩
  have hne : l ≠ s.heap.objs.size := Nat.ne_of_lt (Heap.lt_size hol)
  refine wpAny_pyIter_list hls ?_
  have W := walks_obj (prog := prog) (w := w) hh s.heap.objs.size l hne vs nn
  refine ⟨_, _, _, vs.length, _, _, m₀, (l, listOf vs.toArray nn) :: live₀, (fun i m nx => ∃ lv, nx = (l, listOf vs.toArray nn) :: lv ∧ J i m lv), rfl, W, ?_, ?_, ?_, ⟨⟨_, Heap.get?_push_size _ rfl, rfl, rfl⟩, Heap.get?_push_of_some _ hol⟩, F.push _, ?_, ⟨_, rfl, hj⟩, ?_, ?_⟩
  · intro hm
    rcases List.mem_cons.mp hm with e | hm
    · exact absurd F.ns.lt (e ▸ Nat.lt_irrefl _)
    · exact (N _ hl).2.1 ((List.mem_singleton.mp hm).symm)
  · intro b hb
    rw [List.mem_singleton.mp hb]
    exact next_is_new F
  · intro p hp hI
    have hp' : p ∈ news := by
      rcases List.mem_cons.mp hp with rfl | hp
      · exact hl
      · exact hlive p hp
    exact absurd (Heap.lt_size (N p hp').1) ((List.mem_singleton.mp hI) ▸ Nat.lt_irrefl _)
  · intro p hp
    have hp' : p ∈ news := by
      rcases List.mem_cons.mp hp with rfl | hp
      · exact hl
      · exact hlive p hp
    exact ⟨Heap.get?_push_of_some _ (N p hp').1, (N p hp').2⟩
  · rintro i v m₁ _ s₁ own ⟨hh', tk', rfl⟩ hin hP ⟨live, rfl, hJ⟩ hoff hown hget hfp st F₁ N₁
    obtain ⟨oI, hoI⟩ : ∃ oI, hh'.get? s.heap.objs.size = some oI := by
      obtain ⟨o, e, _⟩ := st.1
      exact ⟨o, e⟩
    have hIown : (s.heap.objs.size, oI) ∈ own := hfp _ (List.mem_cons_self ..) (next_is_new F) _ hoI
    have hoff' : ∀ p ∈ live, p.1 ≠ s.heap.objs.size := fun p hp e => hoff p (.tail _ hp) (by simp [e])
    have N₂ : News h₀ env.locals hh' ((l, listOf vs.toArray nn) :: (s.heap.objs.size, oI) :: live) := fun p hp => by
      rcases List.mem_cons.mp hp with rfl | hp
      · exact N₁ _ (List.mem_append_right _ (.head _))
      · rcases List.mem_cons.mp hp with rfl | hp
        · exact N₁ _ (List.mem_append_left _ hIown)
        · exact N₁ _ (List.mem_append_right _ (.tail _ hp))
    refine wpAny_mono (turn i v m₁ live hh' tk' _ oI (by simpa using hP) hoff' hne hJ F₁ N₂) (fun f s₂ p => ?_) fun _ _ e => e
    have fin : TurnEnd h₀ env.locals l s.heap.objs.size (listOf vs.toArray nn) oI (J (i + 1)) { s with heap := hh', toks := tk' } s₂ →
        LoopStepU h₀ env.locals [s.heap.objs.size] own (fun m nx => ∃ lv, nx = (l, listOf vs.toArray nn) :: lv ∧ J (i + 1) m lv) { s with heap := hh', toks := tk' } .next s₂ := by
      rintro ⟨h', tk, m', live', e, F', N', hn, hm⟩
      refine ⟨rfl, h', tk, m', (l, listOf vs.toArray nn) :: live', e, F', fun p hp => ?_, fun p hp hb => ?_, ⟨_, rfl, hm⟩⟩
      · rcases List.mem_append.mp hp with hq | hq
        · have h2 : hh'.get? p.1 = some p.2 := hget p hq
          rcases List.mem_cons.mp (hown p hq) with h1 | h1
          · rw [h1, hoI] at h2
            have h3 : p = (s.heap.objs.size, oI) := Prod.ext h1 (Option.some.inj h2).symm
            rw [h3]
            exact N' _ (.tail _ (.head _))
          · have h1 := List.mem_singleton.mp h1
            have h4 := st.2
            change hh'.get? l = _ at h4
            rw [h1, h4] at h2
            have h3 : p = (l, listOf vs.toArray nn) := Prod.ext h1 (Option.some.inj h2).symm
            rw [h3]
            exact N' _ (.head _)
        · rcases List.mem_cons.mp hq with rfl | hq
          · exact N' _ (.head _)
          · exact N' _ (.tail _ (.tail _ hq))
      · rcases List.mem_cons.mp hp with rfl | hp
        · exact hne (List.mem_singleton.mp hb)
        · exact hn p hp (List.mem_singleton.mp hb)
    cases f with
    | ret v => exact .ret p
    | brk => exact .brk p
    | next => exact .next (fin p)
    | cont => exact .cont (fin p)
  · rintro h' tk m' _ F' N' _ ⟨live', rfl, hJ⟩
    exact done m' live' h' tk hJ F' N'
end
end Mine
end
/-! Strcoll -/
section
open PySem PySem.W PySem.Spec PySem.Calls PyProof.Rows
set_option maxRecDepth 100000
set_option maxHeartbeats 0
namespace Mine
def cmpS (x y : Str) : Int := b2i (decide (y.cps.toList < x.cps.toList)) - b2i (decide (x.cps.toList < y.cps.toList))

theorem strcoll_ok {w : World} {loose : List Str} {p : Program} {mean : ExcName → Option Value} {mg mb : Str → Option Value}
  {dp un : Nat} {fr : Option (List Env)} {gd : Option (List Code)} {h₀ : Heap} {s : Shared} {Q E : Value → Shared → Prop}
  {x y : Str} {tx ty : Tok}
  (T : Top p loose mean mg mb h₀) (E₀ : Ext h₀ s.heap) 
  (hdp : dp + 1 < recursionLimit) (hu : un + 8 < cLine)
  (hret : ∀ t h' tk', Ext s.heap h' → Q (.int (cmpS x y) t) { s with heap := h', toks := tk' }) :
   (KK w.params).In h₀ → wpAny (model (RW.row.toRowW.prog) w) (Rm dp un fr gd) (call (.ref 28) [.str x tx, .str y ty]) Q E s := by
  k_fill
  intro X₀
  have H : ∀ q ∈ ([] : List (Addr × Obj)), s.heap.get? q.1 = some q.2 ∧ h₀.get? q.1 = none := fun _ h => nomatch h
  ((refine wpAny_call ?_); (refine' enter _ (by assumption) (by assumption) (by assumption) (by assumption) (by k_is) (by k_is) (by ktr_room) (by exact BindsTo.of_eq rfl) (by exact locs rfl) ?_ (by exact rfl) (by exact rfl) (by exact rfl) (by decide)))
  intro g L' h₁ G F' N' X' T'
  k_steps
  exact hret _ _ _ (G.back (by assumption) (by assumption) (fun _ h => nomatch h))
theorem strcoll_use {w : World} {loose : List Str} {p : Program} {mean : ExcName → Option Value} {mg mb : Str → Option Value}
  {dp un : Nat} {fr : Option (List Env)} {gd : Option (List Code)} {h₀ : Heap} {s : Shared} {Q E : Value → Shared → Prop} {L : Addr} {m : Str → Option Value} {news : List (Addr × Obj)}
  {x y : Str} {tx ty : Tok} (F : Fr h₀ L s.heap m) (N : News h₀ L s.heap news) (X₀ : (KK w.params).In h₀)
  (T : Top p loose mean mg mb h₀) (hdp : dp + 1 < recursionLimit) (hu : un + 8 < cLine)
  (hret : ∀ t h' tk', Fr h₀ L h' m → News h₀ L h' news → Q (.int (cmpS x y) t) { s with heap := h', toks := tk' }) :
   wpAny (model (RW.row.toRowW.prog) w) (Rm dp un fr gd) (call (.ref 28) [.str x tx, .str y ty]) Q E s :=
  strcoll_ok T F.keep hdp hu (fun t h' tk' x => hret t h' tk' (fr_ext F x) (news_ext N x)) X₀
end Mine
end
/-! Srt -/
section
open PySem PySem.W PySem.Spec PySem.Calls PyProof.Rows
set_option maxRecDepth 100000
set_option maxHeartbeats 8000000
namespace Mine
/-- a text ahead of another -/
def ltS (a b : Str) : Bool := decide (a.cps.toList < b.cps.toList)
def insS (a : Str) : List Str → List Str
  | [] => [a]
  | b :: r => if ltS b a then b :: insS a r else a :: b :: r
def srt : List Str → List Str
  | [] => []
  | a :: r => insS a (srt r)

theorem ltS_irrefl (a : Str) : ltS a a = false := decide_eq_false (List.lt_irrefl _)
theorem ltS_trans {a b c : Str} (h1 : ltS a b = true) (h2 : ltS b c = true) : ltS a c = true := decide_eq_true (List.lt_trans (of_decide_eq_true h1) (of_decide_eq_true h2))
theorem str_ext {a b : Str} (h : a.cps.toList = b.cps.toList) : a = b := by
  cases a; cases b
  simp only at h
  congr
  exact Array.ext' h
theorem ltS_anti {a b : Str} (h1 : ltS a b = false) (h2 : ltS b a = false) : a = b := by
  have h1' := of_decide_eq_false h1
  have h2' := of_decide_eq_false h2
  exact str_ext (List.le_antisymm h2' h1')

theorem insS_perm (a : Str) : ∀ l, (insS a l).Perm (a :: l)
  | [] => .refl _
  | b :: r => by
    unfold insS
    split
    · exact ((insS_perm a r).cons b).trans (.swap a b r)
    · exact .refl _
theorem srt_perm : ∀ l, (srt l).Perm l
  | [] => .refl _
  | a :: r => (insS_perm a (srt r)).trans ((srt_perm r).cons a)
abbrev SortedS (l : List Str) : Prop := l.Pairwise (fun a b => ltS b a = false)
theorem insS_sorted (a : Str) : ∀ l, SortedS l → SortedS (insS a l)
  | [], _ => by simp [insS, SortedS]
  | b :: r, h => by
    have hb := List.pairwise_cons.mp h
    unfold insS
    split
    · rename_i hba
      refine List.pairwise_cons.mpr ⟨fun c hc => ?_, insS_sorted a r hb.2⟩
      rcases List.mem_cons.mp ((insS_perm a r).mem_iff.mp hc) with rfl | hc
      · cases q : ltS c b with
        | false => rfl
        | true => have := ltS_trans q hba; rw [ltS_irrefl] at this; cases this
      · exact hb.1 c hc
    · rename_i hba
      refine List.pairwise_cons.mpr ⟨fun c hc => ?_, h⟩
      have hba' : ltS b a = false := by simpa using hba
      rcases List.mem_cons.mp hc with rfl | hc
      · exact hba'
      · cases q : ltS c a with
        | false => rfl
        | true =>
          cases q2 : ltS b c with
          | true => rw [ltS_trans q2 q] at hba'; cases hba'
          | false => have e := ltS_anti (hb.1 c hc) q2; subst e; rw [q] at hba'; cases hba'
theorem srt_sorted : ∀ l, SortedS (srt l)
  | [] => .nil
  | a :: r => insS_sorted a _ (srt_sorted r)
theorem sorted_uniq : ∀ {l l' : List Str}, l.Perm l' → SortedS l → SortedS l' → l = l'
  | [], l', p, _, _ => (List.nil_perm.mp p).symm
  | a :: r, [], p, _, _ => absurd p.length_eq (by simp)
  | a :: r, b :: r', p, h, h' => by
    have ha := List.pairwise_cons.mp h
    have hb := List.pairwise_cons.mp h'
    have e : a = b := by
      rcases List.mem_cons.mp (p.mem_iff.mp (List.mem_cons_self ..)) with e | m1
      · exact e
      · rcases List.mem_cons.mp (p.mem_iff.mpr (List.mem_cons_self ..)) with e | m2
        · exact e.symm
        · exact ltS_anti (hb.1 a m1) (ha.1 b m2)
    subst e
    rw [sorted_uniq (List.Perm.cons_inv p) ha.2 hb.2]
theorem risingS_pw : ∀ (p : Str) (l : List Str), risingS p l = true → SortedS (p :: l)
  | p, [], _ => by simp [SortedS]
  | p, x :: r, h => by
    have h' : (!ltCps x.cps.toList p.cps.toList && risingS x r) = true := h
    have h1 := (Bool.and_eq_true_iff.mp h').1
    have h2 := risingS_pw x r (Bool.and_eq_true_iff.mp h').2
    have h3 : ltS x p = false := by
      have : ltCps x.cps.toList p.cps.toList = false := by simpa using h1
      rw [ltCps_eq] at this
      exact this
    refine List.pairwise_cons.mpr ⟨fun c hc => ?_, h2⟩
    rcases List.mem_cons.mp hc with rfl | hc
    · exact h3
    · have hx := (List.pairwise_cons.mp h2).1 c hc
      cases q : ltS c p with
      | false => rfl
      | true =>
        cases q2 : ltS x c with
        | true => rw [ltS_trans q2 q] at h3; cases h3
        | false => have e := ltS_anti hx q2; subst e; rw [q] at h3; cases h3
theorem srt_of {ss ss' : List Str} (p : ss'.Perm ss) (h : sortedS ss' = true) : ss' = srt ss := by
  refine sorted_uniq (p.trans (srt_perm ss).symm) ?_ (srt_sorted ss)
  cases ss' with
  | nil => exact .nil
  | cons a r => exact risingS_pw a r h

theorem sinv {vs : List Value} {x : Str} {r : List Str} (h : StrsAre vs (x :: r)) : ∃ t vs', vs = .str x t :: vs' ∧ StrsAre vs' r := by
  cases h with
  | cons _ t hr => exact ⟨t, _, rfl, hr⟩
theorem snil {vs : List Value} (h : StrsAre vs []) : vs = [] := by cases h; rfl
theorem len_cons {α : Type} {l : List α} {n : Nat} (h : l.length = n + 1) : ∃ a r, l = a :: r ∧ r.length = n := by
  cases l with
  | nil => cases h
  | cons a r => exact ⟨a, r, rfl, Nat.succ.inj h⟩
theorem len_nil {α : Type} {l : List α} (h : l.length = 0) : l = [] := List.eq_nil_of_length_eq_zero h
section
variable {prog : Program} {w : World} {A : Around} {E : Value → Shared → Prop} {s : Shared} {h₀ : Heap} {L : Addr} {m : Str → Option Value} {news : List (Addr × Obj)} {l : Addr} {Q : Value → Shared → Prop} {e : Nat}
theorem srt1 {a : Str} {ta : Tok} (F : Fr h₀ L s.heap m) (N : News h₀ L s.heap news) (hm : (l, W.listOf (List.toArray [.str a ta]) e) ∈ news)
    (h : ∀ D h' e' u, Fr h₀ L h' m → News h₀ L h' ((D, W.listOf (List.toArray [.str a u]) e') :: news) → (∀ q ∈ news, q.1 < D) → Q (.ref D) { s with heap := h' }) :
    wpAny (model prog w) A (call (.builtin "sorted") [.ref l]) Q E s :=
  sorted_N_str F N (vs := [.str a ta]) (ss := [a]) ⟨_, (N _ hm).1, rfl, _, rfl⟩ (.cons _ _ .nil) (by simp) fun h' vs' ss' e' F' N' hs hp ho => by
    have q := srt_of hp ho
    subst q
    cases hs with
    | cons x u hs => cases hs; exact h _ h' e' u F' N' fun p hp => Nat.lt_succ_of_lt (Heap.lt_size (N p hp).1)
theorem srt2 {a b : Str} {ta tb : Tok} (F : Fr h₀ L s.heap m) (N : News h₀ L s.heap news) (hm : (l, W.listOf (List.toArray [.str a ta, .str b tb]) e) ∈ news)
    (h : ∀ D h' e' z0 z1 u0 u1, srt [a, b] = [z0, z1] → Fr h₀ L h' m → News h₀ L h' ((D, W.listOf (List.toArray [.str z0 u0, .str z1 u1]) e') :: news) → (∀ q ∈ news, q.1 < D) → Q (.ref D) { s with heap := h' }) :
    wpAny (model prog w) A (call (.builtin "sorted") [.ref l]) Q E s :=
  sorted_N_str F N (vs := [.str a ta, .str b tb]) (ss := [a, b]) ⟨_, (N _ hm).1, rfl, _, rfl⟩ (.cons _ _ (.cons _ _ .nil)) (by simp) fun h' vs' ss' e' F' N' hs hp ho => by
    have q := srt_of hp ho
    have hl : ss'.length = 2 := hp.length_eq
    obtain ⟨z0, r0, rfl, hl1⟩ := len_cons hl
    obtain ⟨z1, r1, rfl, hl2⟩ := len_cons hl1
    obtain rfl := len_nil hl2
    obtain ⟨u0, v0, rfl, hs1⟩ := sinv hs
    obtain ⟨u1, v1, rfl, hs2⟩ := sinv hs1
    obtain rfl := snil hs2
    exact h _ h' e' z0 z1 u0 u1 q.symm F' N' fun p hp => Nat.lt_succ_of_lt (Heap.lt_size (N p hp).1)
theorem srt3 {a b c : Str} {ta tb tc : Tok} (F : Fr h₀ L s.heap m) (N : News h₀ L s.heap news) (hm : (l, W.listOf (List.toArray [.str a ta, .str b tb, .str c tc]) e) ∈ news)
    (h : ∀ D h' e' z0 z1 z2 u0 u1 u2, srt [a, b, c] = [z0, z1, z2] → Fr h₀ L h' m → News h₀ L h' ((D, W.listOf (List.toArray [.str z0 u0, .str z1 u1, .str z2 u2]) e') :: news) → (∀ q ∈ news, q.1 < D) → Q (.ref D) { s with heap := h' }) :
    wpAny (model prog w) A (call (.builtin "sorted") [.ref l]) Q E s :=
  sorted_N_str F N (vs := [.str a ta, .str b tb, .str c tc]) (ss := [a, b, c]) ⟨_, (N _ hm).1, rfl, _, rfl⟩ (.cons _ _ (.cons _ _ (.cons _ _ .nil))) (by simp) fun h' vs' ss' e' F' N' hs hp ho => by
    have q := srt_of hp ho
    have hl : ss'.length = 3 := hp.length_eq
    obtain ⟨z0, r0, rfl, hl1⟩ := len_cons hl
    obtain ⟨z1, r1, rfl, hl2⟩ := len_cons hl1
    obtain ⟨z2, r2, rfl, hl3⟩ := len_cons hl2
    obtain rfl := len_nil hl3
    obtain ⟨u0, v0, rfl, hs1⟩ := sinv hs
    obtain ⟨u1, v1, rfl, hs2⟩ := sinv hs1
    obtain ⟨u2, v2, rfl, hs3⟩ := sinv hs2
    obtain rfl := snil hs3
    exact h _ h' e' z0 z1 z2 u0 u1 u2 q.symm F' N' fun p hp => Nat.lt_succ_of_lt (Heap.lt_size (N p hp).1)
theorem srt4 {a b c d : Str} {ta tb tc td : Tok} (F : Fr h₀ L s.heap m) (N : News h₀ L s.heap news) (hm : (l, W.listOf (List.toArray [.str a ta, .str b tb, .str c tc, .str d td]) e) ∈ news)
    (h : ∀ D h' e' z0 z1 z2 z3 u0 u1 u2 u3, srt [a, b, c, d] = [z0, z1, z2, z3] → Fr h₀ L h' m → News h₀ L h' ((D, W.listOf (List.toArray [.str z0 u0, .str z1 u1, .str z2 u2, .str z3 u3]) e') :: news) → (∀ q ∈ news, q.1 < D) → Q (.ref D) { s with heap := h' }) :
    wpAny (model prog w) A (call (.builtin "sorted") [.ref l]) Q E s :=
  sorted_N_str F N (vs := [.str a ta, .str b tb, .str c tc, .str d td]) (ss := [a, b, c, d]) ⟨_, (N _ hm).1, rfl, _, rfl⟩ (.cons _ _ (.cons _ _ (.cons _ _ (.cons _ _ .nil)))) (by simp) fun h' vs' ss' e' F' N' hs hp ho => by
    have q := srt_of hp ho
    have hl : ss'.length = 4 := hp.length_eq
    obtain ⟨z0, r0, rfl, hl1⟩ := len_cons hl
    obtain ⟨z1, r1, rfl, hl2⟩ := len_cons hl1
    obtain ⟨z2, r2, rfl, hl3⟩ := len_cons hl2
    obtain ⟨z3, r3, rfl, hl4⟩ := len_cons hl3
    obtain rfl := len_nil hl4
    obtain ⟨u0, v0, rfl, hs1⟩ := sinv hs
    obtain ⟨u1, v1, rfl, hs2⟩ := sinv hs1
    obtain ⟨u2, v2, rfl, hs3⟩ := sinv hs2
    obtain ⟨u3, v3, rfl, hs4⟩ := sinv hs3
    obtain rfl := snil hs4
    exact h _ h' e' z0 z1 z2 z3 u0 u1 u2 u3 q.symm F' N' fun p hp => Nat.lt_succ_of_lt (Heap.lt_size (N p hp).1)
end
end Mine
end
/-! Comp -/
section
open PySem PySem.W PySem.Spec PySem.Calls PyProof.Rows PyProof.Rows.LCg
set_option maxRecDepth 100000
set_option maxHeartbeats 8000000
namespace Mine

/-- where a comprehension's block begins: D the list to be, C its names -/
structure CStart (s₂ : Shared) (D C : Addr) (h₃ : Heap) : Prop where
  d : D = s₂.heap.objs.size
  c : C = s₂.heap.objs.size + 1
  ext : Ext s₂.heap h₃
  acc : h₃.get? D = some (lst [])
  ns : h₃.Ns C (fun _ => none)

section
variable {prog : Program} {w : World} {A : Around} {E : Value → Shared → Prop} {s : Shared} {env : Env}
def CGo (prog : Program) (w : World) (A : Around) (E : Value → Shared → Prop) (env : Env) (elt target iter : Expr) (rest : List Comprehension) (scope : Scope) (pos : Pos) (cl : List (Str × Addr)) (Q : Value → Shared → Prop) (it : Value) (s₂ : Shared) : Prop :=
  ∀ D C h₃ tk, CStart s₂ D C h₃ → ∀ s₃, s₃ = { s₂ with heap := h₃, toks := tk } →
    (∀ R : Result → Shared → Prop, R = compPost (model prog w) A E none Q (.ref D) C → codeAny (model prog w) A (.compLoop (.ListComp elt (⟨target, iter, [], 0⟩ :: rest) scope pos) 0 it (.ref D) (compEnvC scope cl C env)) R s₃) ∧
    (∀ (Q' : Value → Shared → Prop) E' A', A'.handled = A.handled → Q' it s₃ → wpAny (model prog w) A' (pyIter it) Q' E' s₃)

theorem comp_gen {elt target iter : Expr} {rest : List Comprehension} {scope : Scope} {pos : Pos} {cl : List (Str × Addr)} {Q : Value → Shared → Prop}
    (hclos : closureFor scope env = pure cl) (hkind : scope.kind = .function) (hcell : ∀ y ∈ scope.names, y.2 ≠ .cell)
    (hnames : ∀ y ∈ scope.names, y.2 = .local → scope.names.lookup y.1 = some .local)
    (h : wpAny (model prog w) A (eval iter env) (fun xv s₁ => wpAny (model prog w) A (pyIter xv) (fun it s₂ => CGo prog w A E env elt target iter rest scope pos cl Q it s₂) E s₁) E s)
    (hs : ∀ x, foldedSetIterable iter env x = pure x := by intro _; rfl) :
    wpAny (model prog w) A (eval (.ListComp elt (⟨target, iter, [], 0⟩ :: rest) scope pos) env) Q E s := by
  rw [eval_ListComp]
  refine wpAny_comprehension_free (use := none) rfl hs hclos hkind hnames (wpAny_mono h (fun xv s₁ h₁ => wpAny_mono h₁ (fun it s₂ h₂ => ?_) fun _ _ e => e) fun _ _ e => e)
  refine wpAny_newObj_type (wpAny_newFunctionEnv hcell (by intro y hy; simp at hy) (fun h₁ hns₁ hsb₁ => ?_) hkind)
  dsimp only at hns₁ hsb₁ ⊢
  generalize hH2 : s₂.heap.push { cls := .type "list", dict := none, data := .seq ([] : List Value).toArray } = H2 at hns₁ hsb₁ ⊢
  have hC : H2.objs.size = s₂.heap.objs.size + 1 := by rw [← hH2, Heap.size_push]
  have hDC : s₂.heap.objs.size ≠ H2.objs.size := by rw [hC]; exact Nat.ne_of_lt (Nat.lt_succ_self _)
  have old : Ext s₂.heap h₁ := fun b o e => hsb₁.extBut b o (by rw [hC]; exact Nat.ne_of_lt (Nat.lt_succ_of_lt (Heap.lt_size e))) (Heap.get?_push_of_some _ (hH2 ▸ Heap.get?_push_of_some _ e))
  have hacc : h₁.get? s₂.heap.objs.size = some (lst []) := hsb₁.extBut _ _ hDC (Heap.get?_push_of_some _ (hH2 ▸ Heap.get?_push_size _ rfl))
  have key := h₂ s₂.heap.objs.size H2.objs.size h₁ (s₂.toks + ([] : List (Str × Value)).length) ⟨rfl, hC, old, hacc, hns₁⟩ _ rfl
  exact codeAny_compStart_list (key.1 _ rfl) (key.2 _ _ _ rfl (key.1 _ rfl))

abbrev zipObj (TI TO : Addr) : Obj := { cls := .type "zip", dict := none, data := .fields #[.none, .bool false, .bool false, .ref TI, .ref TO], slots := #[] }
abbrev pairObj (a b : Value) : Obj := { cls := .type "tuple", data := .seq #[a, b] }
def LIt (o : Obj) (l : Addr) : Prop := o.cls = .type "list_iterator" ∧ o.data = .fields #[.ref l, .int 0 0]
/-- a zip's objects, in the order in which they are made -/
structure ZAt (i1 i2 TI TO z : Addr) (o1 o2 : Obj) (l1 l2 : Addr) : Prop where
  a : i2 = i1 + 1
  b : TI = i1 + 2
  c : TO = i1 + 3
  d : z = i1 + 4
  e : LIt o1 l1
  f : LIt o2 l2
  g : l1 < i1
  h : l2 < i1
theorem ZAt.apart {i1 i2 TI TO z : Addr} {o1 o2 : Obj} {l1 l2 : Addr} (Z : ZAt i1 i2 TI TO z o1 o2 l1 l2) : ZipApart z TI TO i1 i2 l1 l2 := by
  obtain ⟨rfl, rfl, rfl, rfl, _, _, g, h⟩ := Z
  have g' : @LT.lt Nat instLTNat l1 i1 := g
  have h' : @LT.lt Nat instLTNat l2 i1 := h
  constructor <;> first | exact Nat.ne_of_lt (by omega) | exact Nat.ne_of_gt (by omega)

section
variable {h₀ : Heap} {L : Addr} {m : Str → Option Value} {news : List (Addr × Obj)} {Q : Value → Shared → Prop}
theorem zip_N {l1 l2 : Addr} {xs ys : Array Value} {n1 n2 : Nat} (F : Fr h₀ L s.heap m) (N : News h₀ L s.heap news) (hl1 : (l1, W.listOf xs n1) ∈ news) (hl2 : (l2, W.listOf ys n2) ∈ news)
    (h : ∀ z TI TO i1 i2 o1 o2 h', ZAt i1 i2 TI TO z o1 o2 l1 l2 → Fr h₀ L h' m → News h₀ L h' ((z, zipObj TI TO) :: (TI, pairObj (.ref i1) (.ref i2)) :: (TO, pairObj .none .none) :: (i1, o1) :: (i2, o2) :: news) → (∀ p ∈ news, p.1 < i1) → L < i1 → Q (.ref z) { s with heap := h' }) :
    wpAny (model prog w) A (call (.type "zip") [.ref l1, .ref l2]) Q E s := by
  have h1 : s.heap.IsList l1 xs := ⟨_, (N _ hl1).1, rfl, _, rfl⟩
  have h2 : s.heap.IsList l2 ys := ⟨_, (N _ hl2).1, rfl, _, rfl⟩
  refine call_zip_2 h1 h2 fun h' hz hTI hTO hi1 hi2 hsz old => ?_
  obtain ⟨o1, e1, c1, d1⟩ := hi1
  obtain ⟨o2, e2, c2, d2⟩ := hi2
  have new : ∀ b o, s.heap.objs.size ≤ b → h'.get? b = some o → ∀ nw, News h₀ L h' nw → News h₀ L h' ((b, o) :: nw) := fun b o hb e nw N' p hp => by
    rcases List.mem_cons.mp hp with rfl | hp
    · refine ⟨e, Nat.ne_of_gt (Nat.lt_of_lt_of_le F.ns.lt hb), ?_⟩
      cases q : h₀.get? b with
      | none => rfl
      | some o' => exact absurd (Heap.lt_size (F.keep _ _ q)) (Nat.not_lt.mpr hb)
    · exact N' p hp
  refine h _ _ _ _ _ o1 o2 h' ⟨rfl, rfl, rfl, rfl, ⟨c1, d1⟩, ⟨c2, d2⟩, Heap.lt_size (N _ hl1).1, Heap.lt_size (N _ hl2).1⟩ (fr_ext F old) ?_ (fun p hp => Heap.lt_size (N p hp).1) F.ns.lt
  refine new _ _ (by omega) hz _ (new _ _ (by omega) hTI _ (new _ _ (by omega) hTO _ (new _ _ (Nat.le_refl _) e1 _ (new _ _ (by omega) e2 _ (news_ext N old)))))

theorem cgo_zip {elt iter : Expr} {x x₂ : Str} {px px₂ tp : Pos} {tk₀} {scope : Scope} {pos : Pos} {cl : List (Str × Addr)} {s₂ : Shared} {i1 i2 TI TO z : Addr} {o1 o2 : Obj} {l1 l2 : Addr} {xs ys : List Value} {n1 n2 : Nat} {keepl : List (Addr × Obj)} (g : Value → Value → Value)
    (hh : A.handled = none) (F : Fr h₀ L s₂.heap m) (N : News h₀ L s₂.heap ((z, zipObj TI TO) :: (TI, pairObj (.ref i1) (.ref i2)) :: (TO, pairObj .none .none) :: (i1, o1) :: (i2, o2) :: keepl)) (Z : ZAt i1 i2 TI TO z o1 o2 l1 l2)
    (hlt : ∀ p ∈ keepl, p.1 < i1) (hL : L < i1) (hl1 : (l1, W.listOf xs.toArray n1) ∈ keepl) (hl2 : (l2, W.listOf ys.toArray n2) ∈ keepl) (hsz : min xs.length ys.length ≤ sizeLine)
    (hkind : scope.kind = .function) (hx : scope.names.lookup x = some .local) (hx₂ : scope.names.lookup x₂ = some .local) (hxx : x ≠ x₂)
    (helt : ∀ (i : Nat) (v₁ v₂ : Value) (C : Addr) (oC : Obj) (m₂ : Str → Option Value) (h : Heap) (tk : Nat) (E' : Value → Shared → Prop), xs[i]? = some v₁ → ys[i]? = some v₂ → NsObj oC m₂ → m₂ x = some v₁ → m₂ x₂ = some v₂ → Fr h₀ L h m → News h₀ L h [(C, oC)] →
      wpAny (model prog w) A (eval elt (compEnvC scope cl C env)) (fun y s₃ => ∃ tk', s₃ = { s₂ with heap := h, toks := tk' } ∧ y = g v₁ v₂) E' { s₂ with heap := h, toks := tk })
    (hQ : ∀ D h tk, Fr h₀ L h m → News h₀ L h ((D, lst (List.zipWith g xs ys)) :: keepl) → (∀ p ∈ keepl, p.1 < D) → Q (.ref D) { s₂ with heap := h, toks := tk }) :
    CGo prog w A E env elt (.Tuple [.Name x px, .Name x₂ px₂] tk₀ tp) iter [] scope pos cl Q (.ref z) s₂ := by
  rintro D C h₃ tk3 ⟨rfl, rfl, old, hacc, hnsC⟩ s₃ rfl
  have D' := Z.apart
  have W := WalksT.zip2 (prog := prog) (w := w) hh z TI TO i1 i2 l1 l2 D' xs.toArray ys.toArray
  have Nz := (N _ (.head _)).1
  have NTI := (N _ (.tail _ (.head _))).1
  have NTO := (N _ (.tail _ (.tail _ (.head _)))).1
  have Ni1 := (N _ (.tail _ (.tail _ (.tail _ (.head _))))).1
  have Ni2 := (N _ (.tail _ (.tail _ (.tail _ (.tail _ (.head _)))))).1
  have Nk : News h₀ L s₂.heap keepl := fun p hp => N p (.tail _ (.tail _ (.tail _ (.tail _ (.tail _ hp)))))
  have Nl1 := (Nk _ hl1).1
  have Nl2 := (Nk _ hl2).1
  have st₀ : IsZip h₃ z TI TO .none ∧ IsPair h₃ TI (.ref i1) (.ref i2) ∧ (∃ a b, IsPair h₃ TO a b) ∧ h₃.IsListIter i1 l1 0 ∧ h₃.IsListIter i2 l2 0 ∧ h₃.IsList l1 xs.toArray ∧ h₃.IsList l2 ys.toArray :=
    ⟨old _ _ Nz, old _ _ NTI, ⟨_, _, old _ _ NTO⟩, ⟨_, old _ _ Ni1, Z.e.1, Z.e.2⟩, ⟨_, old _ _ Ni2, Z.f.1, Z.f.2⟩, ⟨_, old _ _ Nl1, rfl, _, rfl⟩, ⟨_, old _ _ Nl2, rfl, _, rfl⟩⟩
  have lt : ∀ {b o}, s₂.heap.get? b = some o → b < s₂.heap.objs.size := fun e => Heap.lt_size e
  have fpD : ∀ b ∈ [z, TI, TO, i1, i2, l1, l2], b < s₂.heap.objs.size := fun b hb => by
    simp only [List.mem_cons, List.not_mem_nil, or_false] at hb
    rcases hb with rfl | rfl | rfl | rfl | rfl | rfl | rfl
    · exact lt Nz
    · exact lt NTI
    · exact lt NTO
    · exact lt Ni1
    · exact lt Ni2
    · exact lt Nl1
    · exact lt Nl2
  have wrg : ∀ b ∈ [z, TO, i1, i2], i1 ≤ b := fun b hb => by
    have za := Z.a; have zb := Z.b; have zc := Z.c; have zd := Z.d
    simp only [List.mem_cons, List.not_mem_nil, or_false] at hb
    rcases hb with rfl | rfl | rfl | rfl
    · rw [zd]; exact Nat.le_add_right _ _
    · rw [zc]; exact Nat.le_add_right _ _
    · exact Nat.le_refl _
    · rw [za]; exact Nat.le_add_right _ _
  have wr0 : ∀ b ∈ [z, TO, i1, i2], h₀.get? b = none := fun b hb => by
    simp only [List.mem_cons, List.not_mem_nil, or_false] at hb
    rcases hb with rfl | rfl | rfl | rfl
    · exact (N _ (.head _)).2.2
    · exact (N _ (.tail _ (.tail _ (.head _)))).2.2
    · exact (N _ (.tail _ (.tail _ (.tail _ (.head _))))).2.2
    · exact (N _ (.tail _ (.tail _ (.tail _ (.tail _ (.head _)))))).2.2
  have hLs : L < s₂.heap.objs.size := F.ns.lt
  have fresh₀ : ∀ b, s₂.heap.objs.size ≤ b → h₀.get? b = none := fun b hb => by
    cases e : h₀.get? b with
    | none => rfl
    | some o' => exact absurd (lt (F.keep b o' e)) (Nat.not_lt.mpr hb)
  -- what a step that turns the walker's own alone keeps
  have step_fr : ∀ {h h' : Heap}, (∀ b o, b ∉ [z, TO, i1, i2] → h.get? b = some o → h'.get? b = some o) → Fr h₀ L h m → Fr h₀ L h' m := fun {h h'} hk F' =>
    ⟨F'.ns.at' fun o e => hk L o (fun hm => absurd (wrg L hm) (Nat.not_le.mpr hL)) e, fun b o e => hk b o (fun hm => by rw [wr0 b hm] at e; cases e) (F'.keep b o e), F'.above⟩
  have step_nw : ∀ {h h' : Heap} {nw}, (∀ b o, b ∉ [z, TO, i1, i2] → h.get? b = some o → h'.get? b = some o) → (∀ p ∈ nw, p.1 ∉ [z, TO, i1, i2]) → News h₀ L h nw → News h₀ L h' nw := fun {h h' nw} hk ho N' p hp =>
    ⟨hk _ _ (ho p hp) (N' p hp).1, (N' p hp).2⟩
  have offk : ∀ p ∈ keepl, p.1 ∉ [z, TO, i1, i2] := fun p hp hm => absurd (wrg _ hm) (Nat.not_le.mpr (hlt p hp))
  have big : ∀ b, s₂.heap.objs.size ≤ b → b ∉ [z, TO, i1, i2] := fun b hb hm => absurd (fpD b (by
    simp only [List.mem_cons, List.not_mem_nil, or_false] at hm ⊢
    rcases hm with h | h | h | h
    · exact .inl h
    · exact .inr (.inr (.inl h))
    · exact .inr (.inr (.inr (.inl h)))
    · exact .inr (.inr (.inr (.inr (.inl h)))))) (Nat.not_lt.mpr hb)
  have hDC : s₂.heap.objs.size ≠ s₂.heap.objs.size + 1 := Nat.ne_of_lt (Nat.lt_succ_self _)
  have hDL : s₂.heap.objs.size ≠ L := Nat.ne_of_gt hLs
  have hCL : s₂.heap.objs.size + 1 ≠ L := Nat.ne_of_gt (Nat.lt_succ_of_lt hLs)
  have hmin : min xs.toArray.size ys.toArray.size = (List.zipWith g xs ys).length := by simp
  refine ⟨?_, fun Q' E' A' hA' hq => (WalksT.zip2 (prog := prog) (w := w) (hA'.trans hh) z TI TO i1 i2 l1 l2 D' xs.toArray ys.toArray).self 0 _ _ _ st₀ hq⟩
  rintro R rfl
  refine LCp.codeAny_compLoop_pair
    (fun k s' => ∃ h' tk i m', s' = { s₂ with heap := h', toks := tk } ∧ i ≤ min xs.toArray.size ys.toArray.size ∧ k = min xs.toArray.size ys.toArray.size + 1 - i ∧
      (IsZip h' z TI TO .none ∧ IsPair h' TI (.ref i1) (.ref i2) ∧ (∃ a b, IsPair h' TO a b) ∧ h'.IsListIter i1 l1 i ∧ h'.IsListIter i2 l2 i ∧ h'.IsList l1 xs.toArray ∧ h'.IsList l2 ys.toArray) ∧
      Fr h₀ L h' m ∧ h'.Ns (s₂.heap.objs.size + 1) m' ∧ News h₀ L h' ((s₂.heap.objs.size, lst ((List.zipWith g xs ys).take i)) :: keepl)) ?_ _
    ⟨h₃, tk3, 0, _, rfl, Nat.zero_le _, rfl, st₀, fr_ext F old, hnsC, fun p hp => ?_⟩
  · rintro k s' ⟨h', tk, i, m', rfl, hi, rfl, st, F', hn', N'⟩
    have offN : ∀ p ∈ (s₂.heap.objs.size, lst ((List.zipWith g xs ys).take i)) :: keepl, p.1 ∉ [z, TO, i1, i2] := fun p hp => by
      rcases List.mem_cons.mp hp with rfl | hp
      · exact big _ (Nat.le_refl _)
      · exact offk p hp
    by_cases hlti : i < min xs.toArray.size ys.toArray.size
    · refine W.item i _ _ _ hlti st fun T vals h₂ tk₂ hP hTs ht hmid hk₂ => ?_
      obtain ⟨v₁, v₂, hv₁, hv₂, rfl⟩ := hP
      refine W.go _ _ _ i T _ _ _ hmid fun h₄ st₄ hk₄ => ?_
      have hTw := W.apart i T h₂ hmid
      have ht₄ : IsTup h₄ T #[v₁, v₂] := by
        obtain ⟨o, e, r⟩ := ht
        exact ⟨o, hk₄ _ _ hTw e, r⟩
      refine assign_Tuple_tuple hh ht₄ rfl rfl fun h₅ he => ?_
      have he' : Ext h₄ h₅ := fun b o e => he b o (Nat.ne_of_lt (Heap.lt_size e)) e
      have hkk : ∀ b o, b ∉ [z, TO, i1, i2] → h'.get? b = some o → h₅.get? b = some o := fun b o hb e => he' _ _ (hk₄ b o hb (hk₂ b o hb e))
      have hn₅ : h₅.Ns (s₂.heap.objs.size + 1) m' := hn'.at' fun o e => hkk _ o (big _ (Nat.le_succ _)) e
      refine assignInOrder_cons (wpAny_assign_Name (wpAny_storeName_local (lookup_relabel_local hx) hn₅ (fun h₆ hn₆ hs₆ => ?_) (by simp [compEnvC, relabel, hkind])))
      refine assignInOrder_cons (wpAny_assign_Name (wpAny_storeName_local (lookup_relabel_local hx₂) hn₆ (fun h₇ hn₇ hs₇ => ?_) (by simp [compEnvC, relabel, hkind])))
      refine assignInOrder_nil ?_
      have old7 : ∀ b o, b ≠ s₂.heap.objs.size + 1 → h₅.get? b = some o → h₇.get? b = some o := fun b o hb e => hs₇.extBut b o hb (hs₆.extBut b o hb e)
      have hC₀ : h₀.get? (s₂.heap.objs.size + 1) = none := fresh₀ _ (Nat.le_succ _)
      have hD₀ : h₀.get? s₂.heap.objs.size = none := fresh₀ _ (Nat.le_refl _)
      have F₇ : Fr h₀ L h₇ m := ((step_fr hkk F').change hs₆ hCL hC₀).change hs₇ hCL hC₀
      have N₅ := step_nw hkk offN N'
      have N₇ : News h₀ L h₇ ((s₂.heap.objs.size, lst ((List.zipWith g xs ys).take i)) :: keepl) := fun p hp => by
        refine ⟨old7 _ _ ?_ (N₅ p hp).1, (N₅ p hp).2⟩
        rcases List.mem_cons.mp hp with rfl | hp
        · exact hDC
        · exact Nat.ne_of_lt (Nat.lt_succ_of_lt (lt (Nk p hp).1))
      have st₇ : _ := W.frame (i + 1) h₄ h₇ st₄ fun b hb o e => old7 b o (Nat.ne_of_lt (Nat.lt_succ_of_lt (fpD b hb))) (he' _ _ e)
      obtain ⟨oC, heC, hoC⟩ := ns_obj hn₇
      refine wpAny_mono (helt i v₁ v₂ _ oC _ h₇ _ _ (by simpa using hv₁) (by simpa using hv₂) hoC (by simp [hxx]) (by simp) F₇ (fun p hp => by
        rw [List.mem_singleton.mp hp]; exact ⟨heC, hCL, hC₀⟩)) (fun y s₄ h₄ => ?_) fun _ _ e => e
      obtain ⟨tk', rfl, rfl⟩ := h₄
      have zD := (N₇ _ (.head _)).1
      refine append_at (hsz := ?hsz) zD fun h₈ hs₈ hD₈ => ?nx
      case hsz =>
        rw [List.size_toArray]
        refine Nat.le_trans ?_ hsz
        rw [List.length_take, List.length_zipWith]
        exact Nat.min_le_right _ _
      have hti : ((List.zipWith g xs ys).take i).length = i := by
        rw [List.length_take, ← hmin]
        exact Nat.min_eq_left hi
      refine ⟨min xs.toArray.size ys.toArray.size + 1 - (i + 1), by omega, h₈, tk', i + 1, _, rfl, hlti, rfl, W.frame _ _ _ st₇ fun b hb o e => hs₈.extBut b o (Nat.ne_of_lt (fpD b hb)) e, F₇.change hs₈ hDL hD₀,
        (hoC.ns heC).sameBut hs₈ (Ne.symm hDC), fun p hp => ?_⟩
      rcases List.mem_cons.mp hp with rfl | hp
      · refine ⟨hD₈.trans (congrArg some ?_), hDL, hD₀⟩
        have e9 : (List.zipWith g xs ys).take (i + 1) = (List.zipWith g xs ys).take i ++ [g v₁ v₂] := by
          rw [List.take_add_one]
          congr 1
          have a1 : xs[i]? = some v₁ := by simpa using hv₁
          have a2 : ys[i]? = some v₂ := by simpa using hv₂
          rw [List.getElem?_zipWith, a1, a2]
          rfl
        show ({ cls := .type "list", data := .seq (((List.zipWith g xs ys).take i).toArray.push (g v₁ v₂)) (((List.zipWith g xs ys).take i).length + 1) } : Obj) = lst ((List.zipWith g xs ys).take (i + 1))
        rw [lst_snoc, e9]
      · exact ⟨hs₈.extBut _ _ (Nat.ne_of_lt (lt (Nk p hp).1)) (N₇ _ (.tail _ hp)).1, (N₇ _ (.tail _ hp)).2⟩
    · obtain rfl : i = min xs.toArray.size ys.toArray.size := Nat.le_antisymm hi (Nat.not_lt.mp hlti)
      refine W.done _ _ _ st fun h₂ tk₂ hk₂ => ?_
      refine ⟨m', hn'.at' fun o e => hk₂ _ o (big _ (Nat.le_succ _)) e, fun h'' hs'' => ?_⟩
      have F₂ := step_fr hk₂ F'
      have N₂ := step_nw hk₂ offN N'
      rw [hmin, List.take_length] at N₂
      refine hQ _ h'' tk₂ (F₂.change hs'' hCL (fresh₀ _ (Nat.le_succ _))) (fun p hp => ⟨hs''.extBut _ _ ?_ (N₂ p hp).1, (N₂ p hp).2⟩) fun p hp => lt (Nk p hp).1
      rcases List.mem_cons.mp hp with rfl | hp
      · exact hDC
      · exact Nat.ne_of_lt (Nat.lt_succ_of_lt (lt (Nk p hp).1))
  · rcases List.mem_cons.mp hp with rfl | hp
    · exact ⟨hacc, hDL, fresh₀ _ (Nat.le_refl _)⟩
    · exact news_ext Nk old p hp
end
end

/-- a comprehension over a list or a range, of any length, by what holds of what it has made -/
theorem rest_inv {prog : Program} {w : World} {A : Around} {h₀ : Heap} {L : Addr} {m : Str → Option Value} {env : Env} {elt : Expr} {x : Str} {scope : Scope} {cl : List (Str × Addr)} {s : Shared} {S : List (Addr × Obj) → Prop} {P : Nat → Value → Prop}
    {Fin : List Value → List (Addr × Obj) → Prop} {n : Nat} (J : Nat → List Value → List (Addr × Obj) → Prop)
    (turn : ∀ (i : Nat) (ys : List Value) (live : List (Addr × Obj)) (v : Value) (I : Addr) (oI : Obj) (C : Addr) (oC : Obj) (D : Addr) (m₂ : Str → Option Value) (h : Heap) (tk : Nat) (E' : Value → Shared → Prop), i < n → J i ys live → P i v → NsObj oC m₂ → m₂ x = some v →
      Fr h₀ L h m → News h₀ L h ((I, oI) :: (C, oC) :: (D, lst ys) :: live) → Off3 I C D live → ((@Ne Nat I C) ∧ (@Ne Nat I D) ∧ (@Ne Nat C D)) →
      wpAny (model prog w) A (eval elt (compEnvC scope cl C env)) (LCg.CompEnd h₀ L m { s with heap := h, toks := tk } I oI C oC D (lst ys) S (fun y live' => J (i + 1) (ys ++ [y]) live')) E' { s with heap := h, toks := tk })
    (fin : ∀ ys live, J n ys live → Fin ys live) :
    ∀ (k i : Nat) (ys : List Value) (live : List (Addr × Obj)), i + k = n → J i ys live → CompRest prog w A h₀ L m env elt x scope cl s S P Fin k i ys live
  | 0, i, ys, live, e, hj => CompRest.zero (fin ys live (by have e' : i = n := e; exact e' ▸ hj))
  | k + 1, i, ys, live, e, hj => CompRest.succ fun v I oI C oC D m₂ h tk E' hP hC hx F N off ne =>
    wpAny_mono (turn i ys live v I oI C oC D m₂ h tk E' (by omega) hj hP hC hx F N off ne) (fun y s₂ hy => by
      obtain ⟨h', tk', news', e', F', N', off', hS, hJ⟩ := hy
      exact ⟨h', tk', news', e', F', N', off', hS, rest_inv J turn fin k (i + 1) _ _ (by omega) hJ⟩) fun _ _ x => x
end Mine
end
/-! Two -/
section
open PySem PySem.W PySem.Spec PySem.Calls PyProof.Rows PyProof.Rows.LCg
set_option maxRecDepth 100000
set_option maxHeartbeats 2000000
namespace Mine
section
variable {prog : Program} {w : World} {A : Around} {E : Value → Shared → Prop} {R : Result → Shared → Prop} {s : Shared}
abbrev two (elt t1 i1 t2 i2 : Expr) (scope : Scope) (pos : Pos) : Expr := .ListComp elt [⟨t1, i1, [], 0⟩, ⟨t2, i2, [], 0⟩] scope pos
theorem turn0 (elt t1 i1 t2 i2 : Expr) (scope : Scope) (pos : Pos) (it acc : Value) (env : Env) :
    compTurn (two elt t1 i1 t2 i2 scope pos) 0 it acc env = (do
      standAt i1.pos
      match ← pyNext it with
      | none => pure (.done .next)
      | some v =>
        letOwnedTupleGo t1 it v
        assign t1 env v
        let mut ok := true
        for c in ([] : List Expr) do
          if ok then ok ← isTrue c env (eval c env)
        if ok then
          let x ← eval i2 env
          standAt i2.pos
          let x ← foldedSetIterable i2 env x
          let _ ← runOwn (.compStart (two elt t1 i1 t2 i2 scope pos) 1 (← holding [x] (pyIter x)) acc env) env
        again (.compLoop (two elt t1 i1 t2 i2 scope pos) 0 it acc env)) := by rfl
theorem turn1 (elt t1 i1 t2 i2 : Expr) (scope : Scope) (pos : Pos) (it acc : Value) (env : Env) :
    compTurn (two elt t1 i1 t2 i2 scope pos) 1 it acc env = (do
      standAt i2.pos
      match ← pyNext it with
      | none => pure (.done .next)
      | some v =>
        letOwnedTupleGo t2 it v
        assign t2 env v
        let mut ok := true
        for c in ([] : List Expr) do
          if ok then ok ← isTrue c env (eval c env)
        if ok then
          (do let _ ← call (.builtin "list.append") [acc, ← eval elt env])
        again (.compLoop (two elt t1 i1 t2 i2 scope pos) 1 it acc env)) := by rfl
theorem loop0 {elt t1 i1 t2 i2 : Expr} {scope : Scope} {pos : Pos} {it acc : Value} {env : Env} (I : Nat → Shared → Prop)
    (turn : ∀ n s, I n s → wpAny (model prog w) A (pyNext it) (fun r s₁ => match r with
      | none => R (.ok .next) s₁
      | some v => wpAny (model prog w) A (assign t1 env v) (fun _ s₂ => wpAny (model prog w) A (eval i2 env) (fun x s₃ => wpAny (model prog w) A (pyIter x) (fun it2 s₄ =>
          codeAny (model prog w) (A.mark none) (.compStart (two elt t1 i1 t2 i2 scope pos) 1 it2 acc env) (fun r s₅ => match r with | .ok _ => ∃ m, m < n ∧ I m s₅ | .error _ => False) s₄)
            (notedBy (model prog w) A env fun e s' => R (.error e) s') s₃) (notedBy (model prog w) A env fun e s' => R (.error e) s') s₂) (notedBy (model prog w) A env fun e s' => R (.error e) s') s₁) (notedBy (model prog w) A env fun e s' => R (.error e) s') s)
    (n : Nat) (h : I n s) (ht : ∀ v, letOwnedTupleGo t1 it v = pure () := by intro _; rfl) (hs : ∀ x, foldedSetIterable i2 env x = pure x := by intro _; rfl) :
    codeAny (model prog w) A (.compLoop (two elt t1 i1 t2 i2 scope pos) 0 it acc env) R s := by
  refine codeAny_loop rfl I (fun n s hI => ?_) n h
  show wpAny _ A ((compTurn (two elt t1 i1 t2 i2 scope pos) 0 it acc env).onRaise (fun x => do noteFrame x env; theTreesLotGoes x)) _ _ s
  refine wpAny_noted ?_
  rw [turn0]
  refine wpAny_bind (wpAny_standAt (wpAny_bind (wpAny_mono (turn n s hI) (fun r s₁ h₁ => ?_) fun _ _ h' => h')))
  cases r with
  | none => exact wpAny_pure h₁
  | some v =>
    refine wpAny_bind (wpAny_of_eq (ht v) ?_)
    refine wpAny_bind (wpAny_mono h₁ (fun _ s₂ h₂ => wpAny_bind (wpAny_mono (wpAny_tests_nil (Q := fun ok s₃ => ok = true ∧ s₃ = s₂) ⟨rfl, rfl⟩) (fun ok s₃ h₃ => ?_) fun _ _ h' => h')) fun _ _ h' => h')
    obtain ⟨rfl, rfl⟩ := h₃
    refine wpAny_bind (wpAny_mono h₂ (fun x s₄ h₄ => wpAny_bind (wpAny_standAt (wpAny_bind (wpAny_of_eq (hs x) (wpAny_bind (wpAny_holding (wpAny_mono h₄ (fun it2 s₅ h₅ => wpAny_bind (wpAny_runOwn (codeAny_mono h₅ fun r s₆ h₆ => ?_))) fun _ _ h' => h'))))))) fun _ _ h' => h')
    cases r with
    | ok f => exact wpAny_pure ⟨rfl, h₆⟩
    | error e => exact h₆.elim
theorem loop1 {elt t1 i1 t2 i2 : Expr} {scope : Scope} {pos : Pos} {it acc : Value} {env : Env} (I : Nat → Shared → Prop)
    (turn : ∀ n s, I n s → wpAny (model prog w) A (pyNext it) (fun r s₁ => match r with
      | none => R (.ok .next) s₁
      | some v => wpAny (model prog w) A (assign t2 env v) (fun _ s₂ => wpAny (model prog w) A (eval elt env) (fun x s₄ =>
              wpAny (model prog w) A (call (.builtin "list.append") [acc, x]) (fun _ s₅ => ∃ m, m < n ∧ I m s₅) (notedBy (model prog w) A env fun e s' => R (.error e) s') s₄) (notedBy (model prog w) A env fun e s' => R (.error e) s') s₂) (notedBy (model prog w) A env fun e s' => R (.error e) s') s₁) (notedBy (model prog w) A env fun e s' => R (.error e) s') s)
    (n : Nat) (h : I n s) (ht : ∀ v, letOwnedTupleGo t2 it v = pure () := by intro _; rfl) :
    codeAny (model prog w) A (.compLoop (two elt t1 i1 t2 i2 scope pos) 1 it acc env) R s := by
  refine codeAny_loop rfl I (fun n s hI => ?_) n h
  show wpAny _ A ((compTurn (two elt t1 i1 t2 i2 scope pos) 1 it acc env).onRaise (fun x => do noteFrame x env; theTreesLotGoes x)) _ _ s
  refine wpAny_noted ?_
  rw [turn1]
  refine wpAny_bind (wpAny_standAt (wpAny_bind (wpAny_mono (turn n s hI) (fun r s₁ h₁ => ?_) fun _ _ h' => h')))
  cases r with
  | none => exact wpAny_pure h₁
  | some v =>
    refine wpAny_bind (wpAny_of_eq (ht v) ?_)
    refine wpAny_bind (wpAny_mono h₁ (fun _ s₂ h₂ => wpAny_bind (wpAny_mono (wpAny_tests_nil (Q := fun ok s₃ => ok = true ∧ s₃ = s₂) ⟨rfl, rfl⟩) (fun ok s₃ h₃ => ?_) fun _ _ h' => h')) fun _ _ h' => h')
    obtain ⟨rfl, rfl⟩ := h₃
    exact wpAny_bind (wpAny_bind (wpAny_mono h₂ (fun x s₄ h₄ => wpAny_bind (wpAny_mono h₄ (fun _ s₅ h₅ => wpAny_pure (wpAny_pure ⟨rfl, h₅⟩)) fun _ _ h' => h')) fun _ _ h' => h'))
theorem start1 {elt t1 i1 t2 i2 : Expr} {scope : Scope} {pos : Pos} {it acc : Value} {env : Env}
    (h0 : codeAny (model prog w) A (.compLoop (two elt t1 i1 t2 i2 scope pos) 1 it acc env) R s)
    (h : wpAny (model prog w) A (pyIter it) (fun it' s' => codeAny (model prog w) A (.compLoop (two elt t1 i1 t2 i2 scope pos) 1 it' acc env) R s')
      (notedBy (model prog w) A env fun x s' => R (.error x) s') s) :
    codeAny (model prog w) A (.compStart (two elt t1 i1 t2 i2 scope pos) 1 it acc env) R s := by
  refine codeAny_of_tree ?_
  show wpAny _ _ ((compStart (two elt t1 i1 t2 i2 scope pos) 1 it acc env).onRaise (fun x => do noteFrame x env; standAt theWindowsPlace)) _ _ s
  refine wpAny_notedAt ?_
  unfold compStart
  show wpAny _ _ (ask >>= _) _ _ s
  refine wpAny_bind (wpAny_askSetting (wpAny_ite ?_))
  split
  · first
      | exact wpAny_bind (wpAny_pure (wpAny_pure (And.intro rfl h0)))
      | exact wpAny_pure (And.intro rfl h0)
  · first
      | exact wpAny_bind (wpAny_rule (wpAny_bind (wpAny_standAt (wpAny_bind (wpAny_mono h (fun it' s' h' => wpAny_pure (And.intro rfl h')) fun _ _ x => x)))))
      | (refine wpAny_bind (wpAny_rule ?_); show wpAny _ _ (standAt i2.pos >>= _) _ _ s; exact wpAny_bind (wpAny_standAt (wpAny_bind (wpAny_mono h (fun it' s' h' => wpAny_pure (And.intro rfl h')) fun _ _ x => x))))
end
abbrev lob (its : Array Value) (k : Nat) : Obj := { cls := .type "list", data := .seq its k }
def InEnd (h₀ : Heap) (L : Addr) (m : Str → Option Value) (s₁ : Shared) (J : Addr) (oJ : Obj) (I : Addr) (oI : Obj) (C : Addr) (oC : Obj) (D : Addr) (ys : List Value) (Jn : List Value → List (Addr × Obj) → Prop) (y : Value) (s₂ : Shared) : Prop :=
  ∃ h' tk live', s₂ = { s₁ with heap := h', toks := tk } ∧ Fr h₀ L h' m ∧ News h₀ L h' ((J, oJ) :: (I, oI) :: (C, oC) :: (D, lst ys) :: live') ∧ (∀ p ∈ live', p.1 ≠ J ∧ p.1 ≠ I ∧ p.1 ≠ C ∧ p.1 ≠ D) ∧ Jn (ys ++ [y]) live'
def In2 (prog : Program) (w : World) (A : Around) (h₀ : Heap) (L : Addr) (m : Str → Option Value) (env' : Env) (elt : Expr) (x x₂ : Str) (v1 : Value) (s₁ : Shared) (I : Addr) (oI : Obj) (C : Addr) (oC : Obj) (D : Addr)
    (Jnext : List Value → List (Addr × Obj) → Prop) (xv : Value) (s₂ : Shared) : Prop :=
  ∃ (h' : Heap) (tk n : Nat) (P : Nat → Value → Prop) (Jn : Nat → List Value → List (Addr × Obj) → Prop) (ys : List Value) (live : List (Addr × Obj)), s₂ = { s₁ with heap := h', toks := tk } ∧ Fr h₀ L h' m ∧ News h₀ L h' ((I, oI) :: (C, oC) :: (D, lst ys) :: live) ∧
    (∀ p ∈ live, p.1 ≠ I ∧ p.1 ≠ C ∧ p.1 ≠ D) ∧ Jn 0 ys live ∧ n ≤ sizeLine ∧ (∀ j ys live, Jn j ys live → ys.length ≤ sizeLine) ∧ (∀ ys live, Jn n ys live → Jnext ys live) ∧
    ((∃ l its k, xv = .ref l ∧ n = its.size ∧ (∀ j v, its[j]? = some v → P j v) ∧ (∀ j ys live, Jn j ys live → (l, lob its k) ∈ live)) ∨
      (∃ r a b t u v, xv = .ref r ∧ IsRange h' r a b 1 t u v ∧ Builtin.Range.small a b 1 = true ∧ Builtin.Range.rangeSize a b 1 = ((n : Nat) : Int) ∧ (∀ (j : Nat) t, P j (.int (a + (j : Int)) t)))) ∧
    (∀ j ys live v J oJ oC m₂ h tk E', j < n → Jn j ys live → P j v → NsObj oC m₂ → m₂ x = some v1 → m₂ x₂ = some v → Fr h₀ L h m → News h₀ L h ((J, oJ) :: (I, oI) :: (C, oC) :: (D, lst ys) :: live) →
      (∀ p ∈ live, p.1 ≠ J ∧ p.1 ≠ I ∧ p.1 ≠ C ∧ p.1 ≠ D) → (J ≠ I ∧ J ≠ C ∧ J ≠ D) →
      wpAny (model prog w) A (eval elt env') (InEnd h₀ L m { s₁ with heap := h, toks := tk } J oJ I oI C oC D ys (Jn (j + 1))) E' { s₁ with heap := h, toks := tk })
section
variable {prog : Program} {w : World} {A : Around} {E : Value → Shared → Prop} {R : Result → Shared → Prop} {s : Shared} {h₀ : Heap} {L : Addr} {m : Str → Option Value} {env : Env}
/-- the inner for: over a list or a range -/
theorem inner_W {elt t1 i1 i2 : Expr} {x x₂ : Str} {px₂ : Pos} {scope : Scope} {cl : List (Str × Addr)} {pos : Pos} {J I C D : Addr} {oI : Obj} {v1 : Value} {n : Nat} {fp : List Addr} {P P' : Nat → Value → Prop} {St : Nat → Heap → Prop} {S : List (Addr × Obj) → Prop}
    {Jn : Nat → List Value → List (Addr × Obj) → Prop} {ys₀ : List Value} {live₀ : List (Addr × Obj)} {m₀ : Str → Option Value}
    (W : Walks prog w A J fp [J] n P St) (hPP : ∀ j v, P j v → P' j v) (hIo : ∀ i h, St i h → ∃ o, h.get? J = some o)
    (hSt : ∀ i h h' o nw, St i h → h.get? J = some o → h'.get? J = some o → (∀ b o, h₀.get? b = some o → h'.get? b = some o) → News h₀ L h' nw → S nw → St i h')
    (hkind : scope.kind = .function) (hx₂ : scope.names.lookup x₂ = some .local) (hxx : x ≠ x₂)
    (hst : St 0 s.heap) (hCf : C ∉ fp) (hDf : D ∉ fp) (hJL : L ≠ J) (hJ₀ : h₀.get? J = none) (hJI : J ≠ I) (hJC : J ≠ C) (hJD : J ≠ D) (hIC : I ≠ C) (hID : I ≠ D) (hCD : C ≠ D)
    (F : Fr h₀ L s.heap m) (N : News h₀ L s.heap ((I, oI) :: (D, lst ys₀) :: live₀)) (hns : s.heap.Ns C m₀) (hm₀ : m₀ x = some v1) (hCL : C ≠ L) (hC₀ : h₀.get? C = none)
    (off : ∀ p ∈ live₀, p.1 ≠ J ∧ p.1 ≠ I ∧ p.1 ≠ C ∧ p.1 ≠ D) (hJ0 : Jn 0 ys₀ live₀) (hS : ∀ j ys live, Jn j ys live → S live) (hsz : ∀ j ys live, Jn j ys live → ys.length ≤ sizeLine)
    (turn : ∀ j ys live v J oJ oC m₂ h tk E', j < n → Jn j ys live → P' j v → NsObj oC m₂ → m₂ x = some v1 → m₂ x₂ = some v → Fr h₀ L h m → News h₀ L h ((J, oJ) :: (I, oI) :: (C, oC) :: (D, lst ys) :: live) →
      (∀ p ∈ live, p.1 ≠ J ∧ p.1 ≠ I ∧ p.1 ≠ C ∧ p.1 ≠ D) → (J ≠ I ∧ J ≠ C ∧ J ≠ D) →
      wpAny (model prog w) A (eval elt (compEnvC scope cl C env)) (InEnd h₀ L m { s with heap := h, toks := tk } J oJ I oI C oC D ys (Jn (j + 1))) E' { s with heap := h, toks := tk })
    (hR : ∀ h' tk ys live m', Fr h₀ L h' m → News h₀ L h' ((I, oI) :: (D, lst ys) :: live) → h'.Ns C m' → (∀ p ∈ live, p.1 ≠ J ∧ p.1 ≠ I ∧ p.1 ≠ C ∧ p.1 ≠ D) → Jn n ys live → R (.ok .next) { s with heap := h', toks := tk }) :
    codeAny (model prog w) A (.compLoop (two elt t1 i1 (.Name x₂ px₂) i2 scope pos) 1 (.ref J) (.ref D) (compEnvC scope cl C env)) R s := by
  have hDL : D ≠ L := (N (D, lst ys₀) (.tail _ (.head _))).2.1
  have hD₀ : h₀.get? D = none := (N (D, lst ys₀) (.tail _ (.head _))).2.2
  refine loop1
    (fun k s' => ∃ h' tk j ys m' live, s' = { s with heap := h', toks := tk } ∧ j ≤ n ∧ k = n + 1 - j ∧ St j h' ∧ Fr h₀ L h' m ∧ h'.Ns C m' ∧ m' x = some v1 ∧ News h₀ L h' ((I, oI) :: (D, lst ys) :: live) ∧
      (∀ p ∈ live, p.1 ≠ J ∧ p.1 ≠ I ∧ p.1 ≠ C ∧ p.1 ≠ D) ∧ Jn j ys live) ?_ (n + 1)
    ⟨s.heap, s.toks, 0, ys₀, m₀, live₀, rfl, Nat.zero_le _, rfl, hst, F, hns, hm₀, N, off, hJ0⟩
  rintro k s' ⟨h', tk, j, ys, m', live, rfl, hj, rfl, hst', F', hn', hm', N', off', hJ'⟩
  have offN : ∀ p ∈ (I, oI) :: (D, lst ys) :: live, p.1 ≠ J := fun p hp => by
    rcases List.mem_cons.mp hp with rfl | hp
    · exact Ne.symm hJI
    rcases List.mem_cons.mp hp with rfl | hp
    · exact Ne.symm hJD
    · exact (off' p hp).1
  by_cases hlt : j < n
  · refine W.item j _ _ _ hlt hst' fun v h₂ tk₂ hPv hst₂ hk₂ => ?_
    refine wpAny_assign_Name (wpAny_storeName_local (lookup_relabel_local hx₂) (hn'.at' fun o e => hk₂ _ o (by simpa using Ne.symm hJC) e) (fun h₃ hn₃ hs₃ => ?_) (by simp [compEnvC, relabel, hkind]))
    have hst₃ : St (j + 1) h₃ := W.frame _ _ _ hst₂ fun b hb o e => hs₃.extBut b o (fun q => hCf (by have q' : b = C := q; rw [← q']; exact hb)) e
    obtain ⟨oJ, heJ⟩ := hIo _ _ hst₃
    obtain ⟨oC, heC, hoC⟩ := ns_obj hn₃
    have F₃ : Fr h₀ L h₃ m := (fr_but F' hk₂ hJL hJ₀).change hs₃ hCL hC₀
    have N₂ : News h₀ L h₂ ((I, oI) :: (D, lst ys) :: live) := news_but N' hk₂ offN
    have N₃ : News h₀ L h₃ ((J, oJ) :: (I, oI) :: (C, oC) :: (D, lst ys) :: live) := fun p hp => by
      rcases List.mem_cons.mp hp with rfl | hp
      · exact ⟨heJ, Ne.symm hJL, hJ₀⟩
      rcases List.mem_cons.mp hp with rfl | hp
      · exact ⟨hs₃.extBut _ _ hIC (N₂ _ (.head _)).1, (N₂ _ (.head _)).2⟩
      rcases List.mem_cons.mp hp with rfl | hp
      · exact ⟨heC, hCL, hC₀⟩
      have z := N₂ p (.tail _ hp)
      refine ⟨hs₃.extBut _ _ ?_ z.1, z.2⟩
      rcases List.mem_cons.mp hp with rfl | hp
      · exact Ne.symm hCD
      · exact (off' p hp).2.2.1
    refine wpAny_mono (turn j ys live v J oJ oC _ h₃ _ _ hlt hJ' (hPP _ _ hPv) hoC (by simp [hxx, hm']) (by simp) F₃ N₃ off' ⟨hJI, hJC, hJD⟩) (fun y s₄ h₄ => ?_) fun _ _ e => e
    obtain ⟨h₄, tk₄, live₄, rfl, F₄, N₄, off₄, hJ₄⟩ := h₄
    have zJ := (N₄ _ (.head _)).1
    have zC := (N₄ _ (.tail _ (.tail _ (.head _)))).1
    have zD := (N₄ _ (.tail _ (.tail _ (.tail _ (.head _))))).1
    have N₄' : News h₀ L h₄ live₄ := fun p hp => N₄ p (.tail _ (.tail _ (.tail _ (.tail _ hp))))
    have hst₄ : St (j + 1) h₄ := hSt _ _ _ _ _ hst₃ heJ zJ F₄.keep N₄' (hS _ _ _ hJ₄)
    refine append_at (hsz := by show ys.toArray.size ≤ sizeLine; rw [List.size_toArray]; exact hsz _ _ _ hJ') zD fun h₅ hs₅ hD₅ => ?_
    refine ⟨n + 1 - (j + 1), by omega, h₅, tk₄, j + 1, ys ++ [y], _, live₄, rfl, hlt, rfl, W.frame _ _ _ hst₄ fun b hb o e => hs₅.extBut b o (fun q => hDf (q ▸ hb)) e, F₄.change hs₅ hDL hD₀,
      (hoC.ns zC).sameBut hs₅ hCD, by simp [hxx, hm'], fun p hp => ?_, off₄, hJ₄⟩
    rcases List.mem_cons.mp hp with rfl | hp
    · exact ⟨hs₅.extBut _ _ hID (N₄ _ (.tail _ (.head _))).1, (N₄ _ (.tail _ (.head _))).2⟩
    rcases List.mem_cons.mp hp with rfl | hp
    · exact ⟨hD₅.trans (congrArg some (lst_snoc ys y)), hDL, hD₀⟩
    · exact ⟨hs₅.extBut _ _ (off₄ p hp).2.2.2 (N₄' p hp).1, (N₄' p hp).2⟩
  · obtain rfl : j = n := Nat.le_antisymm hj (Nat.not_lt.mp hlt)
    refine W.done _ _ _ hst' fun h₂ tk₂ hk₂ => ?_
    exact hR h₂ tk₂ ys live m' (fr_but F' hk₂ hJL hJ₀) (news_but N' hk₂ offN) (hn'.at' fun o e => hk₂ _ o (by simpa using Ne.symm hJC) e) off' hJ'

/-- what evaluating the inner iterable leaves is walked: from pyIter to the outer loop's next turn -/
theorem inner_go {elt t1 i1 i2 : Expr} {x x₂ : Str} {px₂ : Pos} {scope : Scope} {cl : List (Str × Addr)} {pos : Pos} {I C D : Addr} {oI oC : Obj} {v1 xv : Value} {s₁ s₂ : Shared} {Jnext : List Value → List (Addr × Obj) → Prop} {m₂ : Str → Option Value}
    (hh : A.handled = none) (hkind : scope.kind = .function) (hx₂ : scope.names.lookup x₂ = some .local) (hxx : x ≠ x₂) (hIC : I ≠ C) (hID : I ≠ D) (hCD : C ≠ D) (hoC : NsObj oC m₂) (hm₂ : m₂ x = some v1)
    (K : In2 prog w A h₀ L m (compEnvC scope cl C env) elt x x₂ v1 s₁ I oI C oC D Jnext xv s₂)
    (hR : ∀ h' tk ys live m', Fr h₀ L h' m → News h₀ L h' ((I, oI) :: (D, lst ys) :: live) → h'.Ns C m' → (∀ p ∈ live, p.1 ≠ I ∧ p.1 ≠ C ∧ p.1 ≠ D) → Jnext ys live → R (.ok .next) { s₁ with heap := h', toks := tk }) :
    wpAny (model prog w) A (pyIter xv) (fun it2 s₄ => codeAny (model prog w) A (.compStart (two elt t1 i1 (.Name x₂ px₂) i2 scope pos) 1 it2 (.ref D) (compEnvC scope cl C env)) R s₄) E s₂ := by
  obtain ⟨h', tk, n, P, Jn, ys, live, rfl, F, N, off, hJ0, hn, hlen, hnext, src, turn⟩ := K
  have NC := N _ (.tail _ (.head _))
  have ND := N _ (.tail _ (.tail _ (.head _)))
  have NI := N _ (.head _)
  have N' : News h₀ L h' ((I, oI) :: (D, lst ys) :: live) := fun p hp => by
    rcases List.mem_cons.mp hp with rfl | hp
    · exact NI
    rcases List.mem_cons.mp hp with rfl | hp
    · exact ND
    · exact N p (.tail _ (.tail _ (.tail _ hp)))
  have lt : ∀ {b o}, h'.get? b = some o → b ≠ h'.objs.size := fun e => Nat.ne_of_lt (Heap.lt_size e)
  have live_lt : ∀ p ∈ live, p.1 ≠ h'.objs.size := fun p hp => lt (N' p (.tail _ (.tail _ hp))).1
  rcases src with ⟨l, its, k, rfl, rfl, hP, hl⟩ | ⟨r, a, b, t, u, v, rfl, hr, hsm, hrs, hP⟩
  · have hll := hl _ _ _ hJ0
    have Nl := N' _ (.tail _ (.tail _ hll))
    have hil : h'.IsList l its := ⟨_, Nl.1, rfl, _, rfl⟩
    refine wpAny_pyIter_list hil ?_
    have up : ∀ b o, h'.get? b = some o → (h'.push { cls := .type "list_iterator", data := .fields #[.ref l, .int 0 0] }).get? b = some o := fun b o e => Heap.get?_push_of_some _ e
    have st0 : (h'.push { cls := .type "list_iterator", data := .fields #[.ref l, .int 0 0] }).IsListIter h'.objs.size l 0 ∧ (h'.push { cls := .type "list_iterator", data := .fields #[.ref l, .int 0 0] }).IsList l its := ⟨⟨_, Heap.get?_push_size _ rfl, rfl, rfl⟩, hil.push _⟩
    have W := Walks.list (prog := prog) (w := w) hh h'.objs.size l (lt Nl.1) its
    have loop : codeAny (model prog w) A (.compLoop (two elt t1 i1 (.Name x₂ px₂) i2 scope pos) 1 (.ref h'.objs.size) (.ref D) (compEnvC scope cl C env)) R { s₁ with heap := h'.push { cls := .type "list_iterator", data := .fields #[.ref l, .int 0 0] }, toks := tk } := by
      refine inner_W (P' := P) (Jn := Jn) (S := SrcAt h₀ l its) (x := x) (v1 := v1) (oI := oI) (m₀ := m₂) W hP (fun i h st => by obtain ⟨o, e, _⟩ := st.1; exact ⟨o, e⟩) list_st hkind hx₂ hxx st0 ?_ ?_ (Nat.ne_of_lt F.ns.lt) (next_is_new F) (Ne.symm (lt NI.1)) (Ne.symm (lt NC.1)) (Ne.symm (lt ND.1)) hIC hID hCD
        (F.keeps up) (N'.grown up) ((hoC.ns NC.1).at' fun o e => up _ _ e) hm₂ NC.2.1 NC.2.2 (fun p hp => ⟨live_lt p hp, off p hp⟩) hJ0 (fun j ys live hj => .inr ⟨_, hl j ys live hj, rfl, _, rfl⟩) hlen ?_ ?_
      · intro hm
        rcases List.mem_cons.mp hm with e | hm
        · exact lt NC.1 e
        · rw [List.mem_singleton.mp hm] at off; exact (off _ hll).2.1 rfl
      · intro hm
        rcases List.mem_cons.mp hm with e | hm
        · exact lt ND.1 e
        · rw [List.mem_singleton.mp hm] at off; exact (off _ hll).2.2 rfl
      · exact turn
      · exact fun h'' tk' ys' live' m' F' N' hns off' hj => hR h'' tk' ys' live' m' F' N' hns (fun p hp => (off' p hp).2) (hnext _ _ hj)
    exact start1 loop (W.self 0 _ _ _ st0 loop)
  · refine wpAny_pyIter_range hr hsm ?_
    have up : ∀ q o, h'.get? q = some o → (h'.push { cls := .type "range_iterator", data := .fields #[rawInt a, rawInt (Builtin.Range.rangeSize a b 1), rawInt 1] }).get? q = some o := fun q o e => Heap.get?_push_of_some _ e
    have st0 : IsRangeIter (h'.push { cls := .type "range_iterator", data := .fields #[rawInt a, rawInt (Builtin.Range.rangeSize a b 1), rawInt 1] }) h'.objs.size (a + ((0 : Nat) : Int) * 1) ((n : Int) - ((0 : Nat) : Int)) 1 := by
      have e1 : a + ((0 : Nat) : Int) * 1 = a := by simp
      have e2 : (n : Int) - ((0 : Nat) : Int) = n := by simp
      rw [e1, e2, hrs]
      exact Heap.get?_push_size _ rfl
    have W := range_walks (prog := prog) (w := w) (I := h'.objs.size) hh a n
    have loop : codeAny (model prog w) A (.compLoop (two elt t1 i1 (.Name x₂ px₂) i2 scope pos) 1 (.ref h'.objs.size) (.ref D) (compEnvC scope cl C env)) R { s₁ with heap := h'.push { cls := .type "range_iterator", data := .fields #[rawInt a, rawInt (Builtin.Range.rangeSize a b 1), rawInt 1] }, toks := tk } := by
      refine inner_W (P' := P) (Jn := Jn) (S := fun _ => True) (x := x) (v1 := v1) (oI := oI) (m₀ := m₂) W (fun j v hv => by obtain ⟨t, rfl⟩ := hv; exact hP j t) (fun i h st => ⟨_, st⟩) range_st hkind hx₂ hxx st0 ?_ ?_ (Nat.ne_of_lt F.ns.lt) (next_is_new F) (Ne.symm (lt NI.1)) (Ne.symm (lt NC.1)) (Ne.symm (lt ND.1)) hIC hID hCD
        (F.keeps up) (N'.grown up) ((hoC.ns NC.1).at' fun o e => up _ _ e) hm₂ NC.2.1 NC.2.2 (fun p hp => ⟨live_lt p hp, off p hp⟩) hJ0 (fun _ _ _ _ => trivial) hlen ?_ ?_
      · exact fun hm => lt NC.1 (List.mem_singleton.mp hm)
      · exact fun hm => lt ND.1 (List.mem_singleton.mp hm)
      · exact turn
      · exact fun h'' tk' ys' live' m' F' N' hns off' hj => hR h'' tk' ys' live' m' F' N' hns (fun p hp => (off' p hp).2) (hnext _ _ hj)
    exact start1 loop (W.self 0 _ _ _ st0 loop)

theorem block_two {elt i1 i2 : Expr} {x x₂ : Str} {px px₂ : Pos} {scope : Scope} {cl : List (Str × Addr)} {pos : Pos} {s₂ : Shared} {I l : Addr} {its : Array Value} {k : Nat} {news : List (Addr × Obj)} {J : Nat → List Value → List (Addr × Obj) → Prop}
    {RR : Value → Addr → Result → Shared → Prop} (hh : A.handled = none) (hIl : l ≠ I) (hlit : s₂.heap.IsListIter I l 0) (hll : (l, lob its k) ∈ news)
    (hcell : ∀ y ∈ scope.names, y.2 ≠ .cell) (hkind : scope.kind = .function) (hx : scope.names.lookup x = some .local) (hx₂ : scope.names.lookup x₂ = some .local) (hxx : x ≠ x₂)
    (F : Fr h₀ L s₂.heap m) (N : News h₀ L s₂.heap news) (hIL : L ≠ I) (hI₀ : h₀.get? I = none) (off : ∀ p ∈ news, p.1 ≠ I)
    (hJ0 : J 0 [] news) (hJl : ∀ i ys live, J i ys live → (l, lob its k) ∈ live)
    (turn : ∀ i ys live v I oI C oC D m₂ h tk E', its[i]? = some v → J i ys live → NsObj oC m₂ → m₂ x = some v → Fr h₀ L h m → News h₀ L h ((I, oI) :: (C, oC) :: (D, lst ys) :: live) → (∀ p ∈ live, p.1 ≠ I ∧ p.1 ≠ C ∧ p.1 ≠ D) → (I ≠ C ∧ I ≠ D ∧ C ≠ D) →
      wpAny (model prog w) A (eval i2 (compEnvC scope cl C env)) (In2 prog w A h₀ L m (compEnvC scope cl C env) elt x x₂ v { s₂ with heap := h, toks := tk } I oI C oC D (J (i + 1))) E' { s₂ with heap := h, toks := tk })
    (hRR : ∀ D C h tk m' ys live, Fr h₀ L h m → News h₀ L h ((D, lst ys) :: live) → (∀ p ∈ live, p.1 ≠ D) → h.Ns C m' → h₀.get? C = none → h₀.get? D = none → C ≠ L → D ≠ L → C ≠ D → (∀ p ∈ live, p.1 ≠ C) → J its.size ys live → RR (.ref D) C (.ok .next) { s₂ with heap := h, toks := tk })
    (hs2 : ∀ e x, foldedSetIterable i2 e x = pure x := by intro _ _; rfl) :
    wpAny (model prog w) A (newList []) (fun acc s₃ => wpAny (model prog w) A (newFunctionEnv scope env.globals cl [] env.qual none .none (some env)) (fun cenv s₄ =>
      codeAny (model prog w) A (.compStart (two elt (.Name x px) i1 (.Name x₂ px₂) i2 scope pos) 0 (.ref I) acc { cenv with scope := relabel scope env }) (RR acc cenv.locals) s₄) E s₃) E s₂ := by
  refine wpAny_newObj_type (wpAny_newFunctionEnv hcell (by intro y hy; simp at hy) (fun h₁ hns₁ hsb₁ => ?_) hkind)
  dsimp only at hns₁ hsb₁ ⊢
  generalize hH2 : s₂.heap.push { cls := .type "list", dict := none, data := .seq ([] : List Value).toArray } = H2 at hns₁ hsb₁ ⊢
  have hC : H2.objs.size = s₂.heap.objs.size + 1 := by rw [← hH2, Heap.size_push]
  have hDC : s₂.heap.objs.size ≠ H2.objs.size := by rw [hC]; exact Nat.ne_of_lt (Nat.lt_succ_self _)
  have below : ∀ b, b < s₂.heap.objs.size → b ≠ H2.objs.size ∧ b ≠ s₂.heap.objs.size := fun b hb => ⟨by rw [hC]; exact Nat.ne_of_lt (Nat.lt_succ_of_lt hb), Nat.ne_of_lt hb⟩
  have hil : s₂.heap.IsList l its := ⟨_, (N _ hll).1, rfl, _, rfl⟩
  have hIlt : I < s₂.heap.objs.size := by obtain ⟨o, e, _⟩ := hlit; exact Heap.lt_size e
  have old : ∀ b o, s₂.heap.get? b = some o → h₁.get? b = some o := fun b o e => hsb₁.extBut b o (below b (Heap.lt_size e)).1 (Heap.get?_push_of_some _ (hH2 ▸ Heap.get?_push_of_some _ e))
  have hacc : h₁.get? s₂.heap.objs.size = some (lst []) := hsb₁.extBut _ _ hDC (Heap.get?_push_of_some _ (hH2 ▸ Heap.get?_push_size _ rfl))
  have W := Walks.list (prog := prog) (w := w) hh I l hIl its
  have st : s₂.heap.IsListIter I l 0 ∧ s₂.heap.IsList l its := ⟨hlit, hil⟩
  have hst₁ : h₁.IsListIter I l 0 ∧ h₁.IsList l its := W.frame _ _ _ st fun b _ o e => old b o e
  have fresh : ∀ a, s₂.heap.objs.size ≤ a → s₂.heap.get? a = none := fun a ha => by
    cases e : s₂.heap.get? a with
    | none => rfl
    | some o' => exact absurd (Heap.lt_size e) (Nat.not_lt.mpr ha)
  have fresh₀ : ∀ a, s₂.heap.objs.size ≤ a → h₀.get? a = none := fun a ha => by
    cases e : h₀.get? a with
    | none => rfl
    | some o' => have := F.keep a o' e; rw [fresh a ha] at this; cases this
  have hD₀ : h₀.get? s₂.heap.objs.size = none := fresh₀ _ (Nat.le_refl _)
  have hC₀ : h₀.get? H2.objs.size = none := fresh₀ _ (by rw [hC]; exact Nat.le_succ _)
  have hLlt : L < s₂.heap.objs.size := F.ns.lt
  have hDL : s₂.heap.objs.size ≠ L := Ne.symm (below L hLlt).2
  have hCL : H2.objs.size ≠ L := Ne.symm (below L hLlt).1
  have hCI : I ≠ H2.objs.size := (below I hIlt).1
  have hDI : I ≠ s₂.heap.objs.size := (below I hIlt).2
  have off₀ : ∀ p ∈ news, p.1 ≠ I ∧ p.1 ≠ H2.objs.size ∧ p.1 ≠ s₂.heap.objs.size := fun p hp => ⟨off p hp, (below _ (Heap.lt_size (N p hp).1)).1, (below _ (Heap.lt_size (N p hp).1)).2⟩
  have loop : ∀ s₃ : Shared, s₃ = { s₂ with heap := h₁, toks := s₂.toks + ([] : List (Str × Value)).length } →
      codeAny (model prog w) A (.compLoop (two elt (.Name x px) i1 (.Name x₂ px₂) i2 scope pos) 0 (.ref I) (.ref s₂.heap.objs.size) (compEnvC scope cl H2.objs.size env))
        (RR (.ref s₂.heap.objs.size) H2.objs.size) s₃ := by
    rintro s₃ rfl
    refine loop0
      (fun kk s' => ∃ h' tk i ys m' live, s' = { s₂ with heap := h', toks := tk } ∧ i ≤ its.size ∧ kk = its.size + 1 - i ∧ (h'.IsListIter I l i ∧ h'.IsList l its) ∧ Fr h₀ L h' m ∧ h'.Ns H2.objs.size m' ∧ News h₀ L h' ((s₂.heap.objs.size, lst ys) :: live) ∧
        (∀ p ∈ live, p.1 ≠ I ∧ p.1 ≠ H2.objs.size ∧ p.1 ≠ s₂.heap.objs.size) ∧ J i ys live) ?_ (its.size + 1)
      ⟨h₁, _, 0, [], _, news, rfl, Nat.zero_le _, rfl, hst₁, F.keeps old, hns₁, fun p hp => ?_, off₀, hJ0⟩ (hs := fun x => hs2 _ x)
    · rintro kk s' ⟨h', tk, i, ys, m', live, rfl, hi, rfl, hst', F', hn', N', off', hJ'⟩
      have offN : ∀ p ∈ (s₂.heap.objs.size, lst ys) :: live, p.1 ≠ I := fun p hp => by
        rcases List.mem_cons.mp hp with rfl | hp
        · exact Ne.symm hDI
        · exact (off' p hp).1
      by_cases hlt : i < its.size
      · refine W.item i _ _ _ hlt hst' fun v h₂ tk₂ hPv hst₂ hk₂ => ?_
        refine wpAny_assign_Name (wpAny_storeName_local (lookup_relabel_local hx) (hn'.at' fun o e => hk₂ _ o (by simpa using Ne.symm hCI) e) (fun h₃ hn₃ hs₃ => ?_) (by simp [compEnvC, relabel, hkind]))
        have hst₃ : h₃.IsListIter I l (i + 1) ∧ h₃.IsList l its := W.frame _ _ _ hst₂ fun b hb o e => hs₃.extBut b o (fun q => by
          have q' : b = H2.objs.size := q
          rcases List.mem_cons.mp hb with e1 | hb
          · exact hCI (e1.symm.trans q')
          · rw [List.mem_singleton.mp hb] at q'
            exact (below l (Heap.lt_size (N _ hll).1)).1 q') e
        obtain ⟨oI, heI⟩ : ∃ o, h₃.get? I = some o := by obtain ⟨o, e, _⟩ := hst₃.1; exact ⟨o, e⟩
        obtain ⟨oC, heC, hoC⟩ := ns_obj hn₃
        have F₃ : Fr h₀ L h₃ m := (fr_but F' hk₂ hIL hI₀).change hs₃ hCL hC₀
        have N₂ : News h₀ L h₂ ((s₂.heap.objs.size, lst ys) :: live) := news_but N' hk₂ offN
        have N₃ : News h₀ L h₃ ((I, oI) :: (H2.objs.size, oC) :: (s₂.heap.objs.size, lst ys) :: live) := fun p hp => by
          rcases List.mem_cons.mp hp with rfl | hp
          · exact ⟨heI, Ne.symm hIL, hI₀⟩
          rcases List.mem_cons.mp hp with rfl | hp
          · exact ⟨heC, hCL, hC₀⟩
          have z := N₂ p hp
          refine ⟨hs₃.extBut _ _ ?_ z.1, z.2⟩
          rcases List.mem_cons.mp hp with rfl | hp
          · exact hDC
          · exact (off' p hp).2.1
        refine wpAny_mono (turn i ys live v I oI H2.objs.size oC s₂.heap.objs.size _ h₃ _ _ hPv hJ' hoC (by simp) F₃ N₃ off' ⟨hCI, hDI, Ne.symm hDC⟩) (fun xv s₄ h₄ => ?_) fun _ _ e => e
        refine inner_go (R := fun r s₅ => match r with | .ok _ => _ | .error _ => False) hh hkind hx₂ hxx hCI hDI (Ne.symm hDC) hoC (by simp) h₄ ?_
        intro h₅ tk₅ ys₅ live₅ m₅ F₅ N₅ hns₅ off₅ hJ₅
        have hst₅ : h₅.IsListIter I l (i + 1) ∧ h₅.IsList l its := by
          refine ⟨?_, ⟨_, (N₅ _ (.tail _ (.tail _ (hJl _ _ _ hJ₅)))).1, rfl, _, rfl⟩⟩
          obtain ⟨o, e, r⟩ := hst₃.1
          rw [heI] at e
          cases e
          exact ⟨_, (N₅ _ (.head _)).1, r⟩
        exact ⟨its.size + 1 - (i + 1), by omega, h₅, tk₅, i + 1, ys₅, m₅, live₅, rfl, hlt, rfl, hst₅, F₅, hns₅, fun p hp => N₅ p (.tail _ hp), off₅, hJ₅⟩
      · obtain rfl : i = its.size := Nat.le_antisymm hi (Nat.not_lt.mp hlt)
        refine W.done _ _ _ hst' fun h₂ tk₂ hk₂ => ?_
        exact hRR _ _ h₂ tk₂ _ ys live (fr_but F' hk₂ hIL hI₀) (news_but N' hk₂ offN) (fun p hp => (off' p hp).2.2) (hn'.at' fun o e => hk₂ _ o (by simpa using Ne.symm hCI) e) hC₀ hD₀ hCL hDL (Ne.symm hDC) (fun p hp => (off' p hp).2.1) hJ'
    · rcases List.mem_cons.mp hp with rfl | hp
      · exact ⟨hacc, hDL, hD₀⟩
      · exact ⟨old _ _ (N p hp).1, (N p hp).2⟩
  exact codeAny_compStart_list (loop _ rfl) (W.self 0 _ _ _ hst₁ (loop _ rfl))

def FinE2 (h₀ : Heap) (L : Addr) (m : Str → Option Value) (s : Shared) (Q : Value → Shared → Prop) (ys : List Value) (live : List (Addr × Obj)) : Prop :=
  ∀ D h tk, Fr h₀ L h m → News h₀ L h ((D, lst ys) :: live) → (∀ p ∈ live, p.1 ≠ D) → Q (.ref D) { s with heap := h, toks := tk }
def FinA2 (h₀ : Heap) (L : Addr) (m : Str → Option Value) (s : Shared) (y : Str) (Q : Flow → Shared → Prop) (ys : List Value) (live : List (Addr × Obj)) : Prop :=
  ∀ D h tk, Fr h₀ L h (fun z => if z = y then some (.ref D) else m z) → News h₀ L h ((D, lst ys) :: live) → (∀ p ∈ live, p.1 ≠ D) → Q .next { s with heap := h, toks := tk }
def TwoSrc (prog : Program) (w : World) (A : Around) (h₀ : Heap) (L : Addr) (m : Str → Option Value) (env : Env) (elt i2 : Expr) (x x₂ : Str) (scope : Scope) (cl : List (Str × Addr)) (Fin : Shared → List Value → List (Addr × Obj) → Prop) (xv : Value) (s₁ : Shared) : Prop :=
  ∃ (l : Addr) (its : Array Value) (k : Nat) (news : List (Addr × Obj)) (J : Nat → List Value → List (Addr × Obj) → Prop), xv = .ref l ∧ Fr h₀ L s₁.heap m ∧ News h₀ L s₁.heap news ∧ (l, lob its k) ∈ news ∧ J 0 [] news ∧ (∀ i ys live, J i ys live → (l, lob its k) ∈ live) ∧
    (∀ i ys live v I oI C oC D m₂ h tk E', its[i]? = some v → J i ys live → NsObj oC m₂ → m₂ x = some v → Fr h₀ L h m → News h₀ L h ((I, oI) :: (C, oC) :: (D, lst ys) :: live) → (∀ p ∈ live, p.1 ≠ I ∧ p.1 ≠ C ∧ p.1 ≠ D) → (I ≠ C ∧ I ≠ D ∧ C ≠ D) →
      wpAny (model prog w) A (eval i2 (compEnvC scope cl C env)) (In2 prog w A h₀ L m (compEnvC scope cl C env) elt x x₂ v { s₁ with heap := h, toks := tk } I oI C oC D (J (i + 1))) E' { s₁ with heap := h, toks := tk }) ∧
    (∀ ys live, J its.size ys live → Fin s₁ ys live)
theorem ListComp_two {elt i1 i2 : Expr} {x x₂ : Str} {px px₂ : Pos} {scope : Scope} {cl : List (Str × Addr)} {pos : Pos} {Q : Value → Shared → Prop} (F₀ : Fr h₀ L s.heap m) (hh : A.handled = none)
    (hclos : closureFor scope env = pure cl) (hcell : ∀ y ∈ scope.names, y.2 ≠ .cell) (hkind : scope.kind = .function)
    (hnames : ∀ y ∈ scope.names, y.2 = .local → scope.names.lookup y.1 = some .local) (hx : scope.names.lookup x = some .local) (hx₂ : scope.names.lookup x₂ = some .local) (hxx : x ≠ x₂)
    (h : wpAny (model prog w) A (eval i1 env) (TwoSrc prog w A h₀ L m env elt i2 x x₂ scope cl (fun s₂ => FinE2 h₀ L m s₂ Q)) E s)
    (hs : ∀ x, foldedSetIterable i1 env x = pure x := by intro _; rfl) (hs2 : ∀ e x, foldedSetIterable i2 e x = pure x := by intro _ _; rfl) :
    wpAny (model prog w) A (eval (two elt (.Name x px) i1 (.Name x₂ px₂) i2 scope pos) env) Q E s := by
  rw [eval_ListComp]
  refine wpAny_comprehension_free (use := none) rfl hs hclos hkind hnames (wpAny_mono h (fun xv s₁ h₁ => ?_) fun _ _ e => e)
  obtain ⟨l, its, k, news, J, rfl, F, N, hll, hJ0, hJl, turn, fin⟩ := h₁
  have hil : s₁.heap.IsList l its := ⟨_, (N _ hll).1, rfl, _, rfl⟩
  have hlt : l < s₁.heap.objs.size := Heap.lt_size (N _ hll).1
  refine wpAny_pyIter_list hil ?_
  have up : ∀ b o, s₁.heap.get? b = some o → (s₁.heap.push { cls := .type "list_iterator", data := .fields #[.ref l, .int 0 0] }).get? b = some o := fun b o e => Heap.get?_push_of_some _ e
  refine block_two (J := J) hh (Nat.ne_of_lt hlt) ⟨_, Heap.get?_push_size _ rfl, rfl, rfl⟩ hll hcell hkind hx hx₂ hxx (F.keeps up) (N.grown up) (Nat.ne_of_lt F.ns.lt) (next_is_new F) (fun p hp => Nat.ne_of_lt (Heap.lt_size (N p hp).1)) hJ0 hJl turn ?_ hs2
  intro D C h tk m' ys live F' N' o1 hn hC₀ hD₀ hCL hDL hCD offC hj
  refine ⟨m', hn, fun h'' hs'' => fin ys live hj D h'' tk (F'.change hs'' hCL hC₀) (fun p hp => ?_) o1⟩
  refine ⟨hs''.extBut _ _ ?_ (N' p hp).1, (N' p hp).2⟩
  rcases List.mem_cons.mp hp with rfl | hp
  · exact Ne.symm hCD
  · exact offC p hp
theorem Assign_two {elt i1 i2 : Expr} {x x₂ y : Str} {px px₂ py : Pos} {scope : Scope} {cl : List (Str × Addr)} {pos spos : Pos} {Q : Flow → Shared → Prop} (F₀ : Fr h₀ L s.heap m) (hLe : env.locals = L) (hh : A.handled = none)
    (hsw : swapsWith (two elt (.Name x px) i1 (.Name x₂ px₂) i2 scope pos) (some (.Name y py)) spos.line env = pure true)
    (hclos : closureFor scope env = pure cl) (hcell : ∀ y ∈ scope.names, y.2 ≠ .cell) (hkind : scope.kind = .function)
    (hnames : ∀ y ∈ scope.names, y.2 = .local → scope.names.lookup y.1 = some .local) (hx : scope.names.lookup x = some .local) (hx₂ : scope.names.lookup x₂ = some .local) (hxx : x ≠ x₂)
    (hy : env.kindOf y = some .local) (hp : (env.scope.kind == .class || (env.scope.kind == .module && env.locals != env.globals)) = false)
    (h : wpAny (model prog w) A (eval i1 env) (TwoSrc prog w A h₀ L m env elt i2 x x₂ scope cl (fun s₂ => FinA2 h₀ L m s₂ y Q)) E s)
    (hs : ∀ x, foldedSetIterable i1 env x = pure x := by intro _; rfl) (hs2 : ∀ e x, foldedSetIterable i2 e x = pure x := by intro _ _; rfl) :
    wpAny (model prog w) A (exec (.Assign [.Name y py] (two elt (.Name x px) i1 (.Name x₂ px₂) i2 scope pos) spos) env) Q E s := by
  subst hLe
  rw [exec_Assign_Name_used _ _ _ _ hsw]
  refine wpAny_bind (wpAny_standAt (wpAny_bind ?_))
  show wpAny _ A (do let _ ← comprehension (two elt (.Name x px) i1 (.Name x₂ px₂) i2 scope pos) scope env _ (newList []) false (eval i1 env) (some (assign (.Name y py) env))) _ _ s
  refine wpAny_bind (wpAny_mono (wpAny_comprehension_free (use := some (assign (.Name y py) env)) (Q := fun _ s' => Q .next s') rfl hs hclos hkind hnames
    (wpAny_mono h (fun xv s₁ h₁ => ?_) fun _ _ e => e)) (fun _ s' hq => wpAny_pure (wpAny_pure hq)) fun _ _ e => e)
  obtain ⟨l, its, k, news, J, rfl, F, N, hll, hJ0, hJl, turn, fin⟩ := h₁
  have hil : s₁.heap.IsList l its := ⟨_, (N _ hll).1, rfl, _, rfl⟩
  have hlt : l < s₁.heap.objs.size := Heap.lt_size (N _ hll).1
  refine wpAny_pyIter_list hil ?_
  have up : ∀ b o, s₁.heap.get? b = some o → (s₁.heap.push { cls := .type "list_iterator", data := .fields #[.ref l, .int 0 0] }).get? b = some o := fun b o e => Heap.get?_push_of_some _ e
  refine block_two (J := J) (RR := fun acc C => compPost (model prog w) A E (some (assign (.Name y py) env)) (fun _ s' => Q .next s') acc C) hh (Nat.ne_of_lt hlt) ⟨_, Heap.get?_push_size _ rfl, rfl, rfl⟩ hll hcell hkind hx hx₂ hxx (F.keeps up) (N.grown up) (Nat.ne_of_lt F.ns.lt) (next_is_new F) (fun p hp => Nat.ne_of_lt (Heap.lt_size (N p hp).1)) hJ0 hJl turn ?_ hs2
  intro D C h tk m' ys live F' N' o1 hn hC₀ hD₀ hCL hDL hCD offC hj
  show wpAny _ A (assign (.Name y py) env (.ref D)) _ _ _
  refine wpAny_assign_Name (wpAny_storeName_local hy F'.ns (fun h₂ hn₂ hs₂ => ?_) hp)
  refine ⟨m', hn.sameBut hs₂ hCL, fun h₃ hs₃ => ?_⟩
  have NL : ∀ p ∈ (D, lst ys) :: live, p.1 ≠ env.locals := fun p hp => (N' p hp).2.1
  have keep : ∀ b o, b ≠ env.locals → b ≠ C → h.get? b = some o → h₃.get? b = some o := fun b o hb hc e => hs₃.extBut b o hc (hs₂.extBut b o hb e)
  refine fin ys live hj D h₃ _ ⟨hn₂.sameBut hs₃ (Ne.symm hCL), fun b o e => ?_, F'.above⟩ (fun p hp => ⟨keep _ _ (NL p hp) ?_ (N' p hp).1, (N' p hp).2⟩) o1
  · refine keep b o (Nat.ne_of_lt (Nat.lt_of_lt_of_le (Heap.lt_size e) F'.above)) (fun q => ?_) (F'.keep b o e)
    rw [q, hC₀] at e; cases e
  · rcases List.mem_cons.mp hp with rfl | hp
    · exact Ne.symm hCD
    · exact offC p hp
end
end Mine
end
/-! DCI -/
section
open PySem PySem.W PySem.Spec PySem.Calls PyProof.Rows PyProof.Rows.LCg
set_option maxRecDepth 100000
set_option maxHeartbeats 2000000
namespace Mine
section
variable {prog : Program} {w : World} {A : Around} {E : Value → Shared → Prop} {R : Result → Shared → Prop} {s : Shared}
theorem loopD {kx vx iter : Expr} {elts : List Expr} {x1} {tp : Pos} {scope : Scope} {pos : Pos} {it : Value} {D : Addr} {env : Env} (I : Nat → Shared → Prop)
    (turn : ∀ n s, I n s → wpAny (model prog w) A (pyNext it) (fun r s₁ => match r with
      | none => R (.ok .next) s₁
      | some v => wpAny (model prog w) A (letOwnedTupleGo (.Tuple elts x1 tp) it v) (fun _ s₁' => wpAny (model prog w) A (assign (.Tuple elts x1 tp) env v) (fun _ s₂ =>
          wpAny (model prog w) A (eval kx env) (fun kv s₄ => wpAny (model prog w) A (eval vx env) (fun vv s₅ =>
              wpAny (model prog w) A (dictSet D kv vv) (fun _ s₆ => ∃ m, m < n ∧ I m s₆) (notedBy (model prog w) A env fun e s' => R (.error e) s') s₅) (notedBy (model prog w) A env fun e s' => R (.error e) s') s₄) (notedBy (model prog w) A env fun e s' => R (.error e) s') s₂)
          (notedBy (model prog w) A env fun e s' => R (.error e) s') s₁') (notedBy (model prog w) A env fun e s' => R (.error e) s') s₁) (notedBy (model prog w) A env fun e s' => R (.error e) s') s)
    (n : Nat) (h : I n s) : codeAny (model prog w) A (.compLoop (.DictComp kx vx [⟨.Tuple elts x1 tp, iter, [], 0⟩] scope pos) 0 it (.ref D) env) R s := by
  refine codeAny_loop rfl I (fun n s hI => ?_) n h
  show wpAny _ A ((compTurn (.DictComp kx vx [⟨.Tuple elts x1 tp, iter, [], 0⟩] scope pos) 0 it (.ref D) env).onRaise (fun x => do noteFrame x env; theTreesLotGoes x)) _ _ s
  refine wpAny_noted ?_
  rw [compTurn_dict]
  refine wpAny_bind (wpAny_standAt (wpAny_bind (wpAny_mono (turn n s hI) (fun r s₁ h₁ => ?_) fun _ _ h' => h')))
  cases r with
  | none => exact wpAny_pure h₁
  | some v =>
    refine wpAny_bind (wpAny_mono h₁ (fun _ s₁' h₁' => ?_) fun _ _ h' => h')
    refine wpAny_bind (wpAny_mono h₁' (fun _ s₂ h₂ => wpAny_bind (wpAny_mono (wpAny_tests_nil (Q := fun ok s₃ => ok = true ∧ s₃ = s₂) ⟨rfl, rfl⟩) (fun ok s₃ h₃ => ?_) fun _ _ h' => h')) fun _ _ h' => h')
    obtain ⟨rfl, rfl⟩ := h₃
    exact wpAny_bind (wpAny_bind (wpAny_mono h₂ (fun kv s₄ h₄ => wpAny_bind (wpAny_holding (wpAny_mono h₄ (fun vv s₅ h₅ => wpAny_bind (wpAny_standAt (wpAny_holding (wpAny_mono h₅ (fun _ s₆ h₆ => wpAny_pure ⟨rfl, h₆⟩) fun _ _ h' => h')))) fun _ _ h' => h'))) fun _ _ h' => h'))
end
def storedL {K K2 : Type} [DecidableEq K2] (f : K → K2) (kvs : List (K × Value)) : List (K2 × Value) := kvs.foldl (fun acc kv => stored acc (f kv.1) kv.2) []
theorem storedL_len {K K2 : Type} [DecidableEq K2] (f : K → K2) (kvs : List (K × Value)) : (storedL f kvs).length ≤ kvs.length := by
  have key : ∀ (l : List (K × Value)) (acc : List (K2 × Value)), (l.foldl (fun acc kv => stored acc (f kv.1) kv.2) acc).length ≤ acc.length + l.length := by
    intro l
    induction l with
    | nil => intro acc; simp
    | cons a r ih =>
      intro acc
      rw [List.foldl_cons]
      have h1 := ih (stored acc (f a.1) a.2)
      have h2 := stored_length_le acc (f a.1) a.2
      simp only [List.length_cons]
      omega
  simpa [storedL] using key kvs []
section
variable {prog : Program} {w : World} {K K2 : Type} [DecidableEq K] [DecidableEq K2] {knd : KeyKind prog w K} {knd2 : KeyKind prog w K2} {A : Around} {E : Value → Shared → Prop} {R : Result → Shared → Prop} {s : Shared} {h₀ : Heap} {L : Addr} {m : Str → Option Value} {env : Env}
def DSrc (knd : KeyKind prog w K) (knd2 : KeyKind prog w K2) (A : Around) (h₀ : Heap) (L : Addr) (m : Str → Option Value) (env : Env) (kx vx : Expr) (xk xv : Str) (scope : Scope) (cl : List (Str × Addr)) (Q : Value → Shared → Prop) (it : Value) (s₁ : Shared) : Prop :=
  ∃ (V d : Addr) (kvs : List (K × Value)) (ep : Nat) (news : List (Addr × Obj)) (f : K → K2), it = .ref V ∧ s₁.heap.IsItemsView V d ∧ h₀.DictAt knd d kvs ep ∧ Fr h₀ L s₁.heap m ∧ News h₀ L s₁.heap news ∧ kvs.length ≤ sizeLine ∧
    (∀ (i : Nat) (k : K) (v key : Value) (it : Addr) (oI : Obj) (C : Addr) (oC : Obj) (D : Addr) (oD : Obj) (m₂ : Str → Option Value) (h : Heap) (tk : Nat) (E' : Value → Shared → Prop), kvs[i]? = some (k, v) → knd.is k key = true → NsObj oC m₂ → m₂ xk = some key → m₂ xv = some v → Fr h₀ L h m → News h₀ L h ((it, oI) :: (C, oC) :: (D, oD) :: news) →
      wpAny (model prog w) A (eval kx (compEnvC scope cl C env)) (fun y s₃ => knd2.is (f k) y = true ∧ ∃ h' tk', s₃ = { s₁ with heap := h', toks := tk' } ∧ Fr h₀ L h' m ∧ News h₀ L h' ((it, oI) :: (C, oC) :: (D, oD) :: news)) E' { s₁ with heap := h, toks := tk }) ∧
    (∀ v C oC m₂ h tk E', NsObj oC m₂ → m₂ xv = some v → Fr h₀ L h m → News h₀ L h [(C, oC)] →
      wpAny (model prog w) A (eval vx (compEnvC scope cl C env)) (fun y s₃ => y = v ∧ ∃ tk', s₃ = { s₁ with heap := h, toks := tk' }) E' { s₁ with heap := h, toks := tk }) ∧
    (∀ D h tk, Fr h₀ L h m → News h₀ L h news → h.DictOf knd2 D (storedL f kvs) → h₀.get? D = none → @LT.lt Nat instLTNat L D → (∀ p ∈ news, @LT.lt Nat instLTNat p.1 D) → Q (.ref D) { s₁ with heap := h, toks := tk })
theorem DictComp_items {kx vx iter : Expr} {xk xv : Str} {pk pv pt : Pos} {x1} {scope : Scope} {cl : List (Str × Addr)} {pos : Pos} {Q : Value → Shared → Prop} (F₀ : Fr h₀ L s.heap m) (hh : A.handled = none)
    (hclos : closureFor scope env = pure cl) (hcell : ∀ y ∈ scope.names, y.2 ≠ .cell) (hkind : scope.kind = .function)
    (hnames : ∀ y ∈ scope.names, y.2 = .local → scope.names.lookup y.1 = some .local) (hxk : scope.names.lookup xk = some .local) (hxv : scope.names.lookup xv = some .local) (hxx : xk ≠ xv)
    (h : wpAny (model prog w) A (eval iter env) (DSrc knd knd2 A h₀ L m env kx vx xk xv scope cl Q) E s)
    (hs : ∀ x, foldedSetIterable iter env x = pure x := by intro _; rfl) :
    wpAny (model prog w) A (eval (.DictComp kx vx [⟨.Tuple [.Name xk pk, .Name xv pv] x1 pt, iter, [], 0⟩] scope pos) env) Q E s := by
  rw [arm_eval_DictComp]
  refine wpAny_comprehension_free (use := none) rfl hs hclos hkind hnames (wpAny_mono h (fun xv s₁ h₁ => ?_) fun _ _ e => e)
  refine Classical.byContradiction fun hn => ?_
  obtain ⟨V, d, kvs, ep, news, f, rfl, hv, hd, F, N, hsz, key, val, fin⟩ := h₁
  refine hn ?_
  clear hn
  have hdm : s₁.heap.DictAt knd d kvs ep := hd.keep F.keep
  refine wpAny_pyIter_items hv hdm ?_
  have up0 : ∀ b o, s₁.heap.get? b = some o → (s₁.heap.push { cls := .type "dict_itemiterator", data := .fields #[.none, .bool false, .ref d, .int 0 0, .int kvs.length 0, .int ep 0, .none, .none] }).get? b = some o := fun b o e => Heap.get?_push_of_some _ e
  have hit0 : IsItemIter (s₁.heap.push { cls := .type "dict_itemiterator", data := .fields #[.none, .bool false, .ref d, .int 0 0, .int kvs.length 0, .int ep 0, .none, .none] }) s₁.heap.objs.size d 0 kvs.length ep .none .none := Heap.get?_push_size _ rfl
  have hIL : L ≠ s₁.heap.objs.size := Nat.ne_of_lt F.ns.lt
  have hI₀ : h₀.get? s₁.heap.objs.size = none := next_is_new F
  have F1 := F.keeps up0
  have N1 := N.grown up0
  have offI : ∀ p ∈ news, p.1 ≠ s₁.heap.objs.size := fun p hp => Nat.ne_of_lt (Heap.lt_size (N p hp).1)
  have hdI : d ≠ s₁.heap.objs.size := Nat.ne_of_lt hdm.lt_size
  generalize s₁.heap.objs.size = I at hit0 hIL hI₀ offI hdI ⊢
  generalize s₁.heap.push { cls := .type "dict_itemiterator", data := .fields #[.none, .bool false, .ref d, .int 0 0, .int kvs.length 0, .int ep 0, .none, .none] } = H0 at hit0 F1 N1 ⊢
  clear up0
  refine wpAny_newObj_type (wpAny_newFunctionEnv hcell (by intro y hy; simp at hy) (fun h₁ hns₁ hsb₁ => ?_) hkind)
  dsimp only at hns₁ hsb₁ ⊢
  have hnew : (H0.push { cls := .type "dict", dict := none, data := .dict #[] }).DictOf knd2 H0.objs.size [] := Heap.DictOf.new H0
  generalize hH2 : H0.push { cls := .type "dict", dict := none, data := .dict #[] } = H2 at hns₁ hsb₁ hnew ⊢
  have hC : H2.objs.size = H0.objs.size + 1 := by rw [← hH2, Heap.size_push]
  have hDC : H0.objs.size ≠ H2.objs.size := by rw [hC]; exact Nat.ne_of_lt (Nat.lt_succ_self _)
  have below : ∀ b, b < H0.objs.size → b ≠ H2.objs.size ∧ b ≠ H0.objs.size := fun b hb => ⟨by rw [hC]; exact Nat.ne_of_lt (Nat.lt_succ_of_lt hb), Nat.ne_of_lt hb⟩
  have hIlt : I < H0.objs.size := Heap.lt_size hit0
  have old : ∀ b o, H0.get? b = some o → h₁.get? b = some o := fun b o e => hsb₁.extBut b o (below b (Heap.lt_size e)).1 (Heap.get?_push_of_some _ (hH2 ▸ Heap.get?_push_of_some _ e))
  have hacc : h₁.DictOf knd2 H0.objs.size [] := hnew.at fun o e => hsb₁.extBut _ _ hDC (Heap.get?_push_of_some _ e)
  have hit₁ : IsItemIter h₁ I d 0 kvs.length ep .none .none := old _ _ hit0
  have fresh : ∀ a, H0.objs.size ≤ a → H0.get? a = none := fun a ha => by
    cases e : H0.get? a with
    | none => rfl
    | some o' => exact absurd (Heap.lt_size e) (Nat.not_lt.mpr ha)
  have fresh₀ : ∀ a, H0.objs.size ≤ a → h₀.get? a = none := fun a ha => by
    cases e : h₀.get? a with
    | none => rfl
    | some o' => have := F1.keep a o' e; rw [fresh a ha] at this; cases this
  have hD₀ : h₀.get? H0.objs.size = none := fresh₀ _ (Nat.le_refl _)
  have hC₀ : h₀.get? H2.objs.size = none := fresh₀ _ (by rw [hC]; exact Nat.le_succ _)
  have hLlt : L < H0.objs.size := F1.ns.lt
  have hDL : H0.objs.size ≠ L := Ne.symm (below L hLlt).2
  have hCL : H2.objs.size ≠ L := Ne.symm (below L hLlt).1
  have hCI : I ≠ H2.objs.size := (below I hIlt).1
  have hDI : I ≠ H0.objs.size := (below I hIlt).2
  have off₀ : ∀ p ∈ news, p.1 ≠ I ∧ p.1 ≠ H2.objs.size ∧ p.1 ≠ H0.objs.size := fun p hp => ⟨offI p hp, (below _ (Heap.lt_size (N1 p hp).1)).1, (below _ (Heap.lt_size (N1 p hp).1)).2⟩
  have W := kti_itemsTurns (prog := prog) (w := w) (knd := knd) (elts := [.Name xk pk, .Name xv pv]) (kk := x1) (pos := pt) hh I d hdI kvs ep
  have loop : ∀ s₃ : Shared, s₃ = { s₁ with heap := h₁, toks := s₁.toks + ([] : List (Str × Value)).length } →
      codeAny (model prog w) A (.compLoop (.DictComp kx vx [⟨.Tuple [.Name xk pk, .Name xv pv] x1 pt, iter, [], 0⟩] scope pos) 0 (.ref I) (.ref H0.objs.size) (compEnvC scope cl H2.objs.size env))
        (compPost (model prog w) A E none Q (.ref H0.objs.size) H2.objs.size) s₃ := by
    rintro s₃ rfl
    refine loopD
      (fun n s' => ∃ h' tk i acc m', s' = { s₁ with heap := h', toks := tk } ∧ i ≤ kvs.length ∧ n = kvs.length + 1 - i ∧ (∃ ok ov, IsItemIter h' I d i kvs.length ep ok ov) ∧ Fr h₀ L h' m ∧ h'.Ns H2.objs.size m' ∧
        News h₀ L h' news ∧ h'.DictOf knd2 H0.objs.size acc ∧ acc = storedL f (kvs.take i)) ?_ (kvs.length + 1)
      ⟨h₁, _, 0, [], _, rfl, Nat.zero_le _, rfl, ⟨_, _, hit₁⟩, F1.keeps old, hns₁, N1.grown old, hacc, rfl⟩
    intro n s' hI
    refine Classical.byContradiction fun hn => ?_
    obtain ⟨h', tk, i, acc, m', rfl, hi, rfl, hit', F', hn', N', hacc', rfl⟩ := hI
    refine hn ?_
    clear hn
    have hD' : h'.DictAt knd d kvs ep := hd.keep F'.keep
    by_cases hlt : i < kvs.length
    · refine W.item i _ _ _ hlt ⟨hit', hD'⟩ fun v h₂ tk₂ hMd hk₂ => ?_
      refine W.go i v _ _ _ hMd fun h₃ hP hst₃ hk₃ => ?_
      refine Classical.byContradiction fun hn => ?_
      obtain ⟨T, key1, k, x, rfl, hx, hkey, hT⟩ := hP
      refine hn ?_
      clear hn
      have up₃ : ∀ c o, c ≠ I → h'.get? c = some o → h₃.get? c = some o := fun c o hc e => hk₃ c o (by simpa using hc) (hk₂ c o (by simpa using hc) e)
      refine kcp_assign (env := compEnvC scope cl H2.objs.size env) hh hT (lookup_relabel_local hxk) (lookup_relabel_local hxv) (by simp [compEnvC, relabel, hkind]) (hn'.at' fun o e => up₃ _ o (Ne.symm hCI) e) fun h₄ tk₄ hn₄ hs₄ => ?_
      have up : ∀ c o, c ≠ I → c ≠ H2.objs.size → h'.get? c = some o → h₄.get? c = some o := fun c o h1 h2 e => hs₄ c o h2 (up₃ c o h1 e)
      obtain ⟨⟨ok', ov', hI₃⟩, _⟩ := hst₃
      have hI₄ : IsItemIter h₄ I d (i + 1) kvs.length ep ok' ov' := hs₄ I _ hCI hI₃
      obtain ⟨oI, heI, hoI⟩ : ∃ oI : Obj, h₄.get? I = some oI ∧ ∀ h : Heap, h.get? I = some oI → ∃ ok ov, IsItemIter h I d (i + 1) kvs.length ep ok ov := ⟨_, hI₄, fun _ e => ⟨_, _, e⟩⟩
      obtain ⟨oC, heC, hoC⟩ := ns_obj hn₄
      obtain ⟨oD, heD, hoD⟩ := Heap.dictOf_iff.mp hacc'
      have F₄ : Fr h₀ L h₄ m := ⟨F'.ns.at' fun o e => up _ o hIL (Ne.symm hCL) e, fun c o e => up c o (fun q => by rw [q, hI₀] at e; cases e) (fun q => by rw [q, hC₀] at e; cases e) (F'.keep c o e), F'.above⟩
      have N₄ : News h₀ L h₄ ((I, oI) :: (H2.objs.size, oC) :: (H0.objs.size, oD) :: news) := fun q hq => by
        rcases List.mem_cons.mp hq with rfl | hq
        · exact ⟨heI, Ne.symm hIL, hI₀⟩
        rcases List.mem_cons.mp hq with rfl | hq
        · exact ⟨heC, hCL, hC₀⟩
        rcases List.mem_cons.mp hq with rfl | hq
        · exact ⟨up _ _ (Ne.symm hDI) hDC heD, hDL, hD₀⟩
        exact ⟨up _ _ (off₀ q hq).1 (off₀ q hq).2.1 (N' q hq).1, (N' q hq).2⟩
      refine wpAny_mono (key i k x key1 I oI H2.objs.size oC H0.objs.size oD _ h₄ _ _ hx hkey hoC (by simp [hxx]) (by simp) F₄ N₄) (fun y s₅ h₅ => ?_) fun _ _ e => e
      refine Classical.byContradiction fun hn => ?_
      obtain ⟨hy, h₅, tk₅, rfl, F₅, N₅⟩ := h₅
      refine hn ?_
      clear hn
      refine wpAny_mono (val x H2.objs.size oC _ h₅ _ _ hoC (by simp) F₅ (fun q hq => by rw [List.mem_singleton.mp hq]; exact N₅ _ (.tail _ (.head _)))) (fun y' s₆ h₆ => ?_) fun _ _ e => e
      obtain ⟨rfl, tk₆, rfl⟩ := h₆
      have hacc₅ : h₅.DictOf knd2 H0.objs.size (storedL f (kvs.take i)) := Heap.dictOf_iff.mpr ⟨oD, (N₅ _ (.tail _ (.tail _ (.head _)))).1, hoD⟩
      have hlen : (storedL f (kvs.take i)).length ≤ sizeLine := Nat.le_trans (storedL_len _ _) (by rw [List.length_take]; exact Nat.le_trans (Nat.min_le_left _ _) (Nat.le_trans hi hsz))
      refine wpAny_dictSet_pairs (hsz := hlen) hy hacc₅ fun h₇ hl₇ hs₇ => ?_
      refine ⟨kvs.length + 1 - (i + 1), by omega, h₇, _, i + 1, _, _, rfl, hlt, rfl, hoI h₇ (hs₇.extBut I oI hDI (N₅ _ (.head _)).1), F₅.change hs₇ hDL hD₀, (hoC.ns (N₅ _ (.tail _ (.head _))).1).sameBut hs₇ (Ne.symm hDC), fun q hq => ?_, hl₇, ?_⟩
      · exact ⟨hs₇.extBut _ _ (off₀ q hq).2.2 (N₅ _ (.tail _ (.tail _ (.tail _ hq)))).1, (N' q hq).2⟩
      · rw [List.take_add_one, hx]
        simp [storedL, List.foldl_append]
    · obtain rfl : i = kvs.length := Nat.le_antisymm hi (Nat.not_lt.mp hlt)
      rw [List.take_length] at hacc'
      refine W.done _ _ _ ⟨hit', hD'⟩ fun h₂ tk₂ hk₂ => ?_
      have up₂ : ∀ c o, c ≠ I → h'.get? c = some o → h₂.get? c = some o := fun c o hc e => hk₂ c o (by simpa using hc) e
      have F₂ : Fr h₀ L h₂ m := ⟨F'.ns.at' fun o e => up₂ _ o hIL e, fun c o e => up₂ c o (fun q => by rw [q, hI₀] at e; cases e) (F'.keep c o e), F'.above⟩
      refine ⟨m', hn'.at' fun o e => up₂ _ o (Ne.symm hCI) e, fun h₃ hs₃ => ?_⟩
      exact fin _ h₃ _ (F₂.change hs₃ hCL hC₀) (fun q hq => ⟨hs₃.extBut _ _ (off₀ q hq).2.1 (up₂ _ _ (off₀ q hq).1 (N' q hq).1), (N' q hq).2⟩) ((hacc'.at fun o e => up₂ _ o (Ne.symm hDI) e).extBut hs₃.extBut hDC) hD₀ hLlt (fun q hq => Heap.lt_size (N1 q hq).1)
  exact codeAny_compStart_dict (loop _ rfl) (kcp_self hit₁ (loop _ rfl))
theorem items_method {d : Addr} {kvs : List (K × Value)} {pl : Sem Bool} {Q : Value × List Value → Shared → Prop} (hD : s.heap.DictOf knd d kvs) (h : Q (.builtin "dict.items", [.ref d]) s) : wpAny (model prog w) A (getMethod (.ref d) (Str.ofString "items") pl) Q E s :=
  getMethod_builtin hD.typeIs PySem.F.plainAttrs_dict PySem.F.slot_dict_items PySem.F.type_dict_items hD.mapOf.noDict h
theorem items_call {d : Addr} {kvs : List (K × Value)} {Q : Value → Shared → Prop} (hD : s.heap.DictOf knd d kvs) (hdS : (d == sysModules) = false) (F : Fr h₀ L s.heap m) {news : List (Addr × Obj)} (N : News h₀ L s.heap news)
    (h : ∀ V h', h'.IsItemsView V d → Fr h₀ L h' m → News h₀ L h' news → Q (.ref V) { s with heap := h' }) : wpAny (model prog w) A (call (.builtin "dict.items") [.ref d]) Q E s :=
  call_meetsIn PySem.F.slot_dict_items hD.typeIs PySem.F.entry_dict_items (PySem.F.args_dict_items_1 _) (meets_dict_items knd d hdS) ⟨⟨kvs, hD⟩, h _ _ ⟨_, Heap.get?_push_size _ rfl, rfl, rfl⟩ (F.keeps fun _ _ e => Heap.get?_push_of_some _ e) (N.grown fun _ _ e => Heap.get?_push_of_some _ e)⟩
end
end Mine
end
/-! D1 -/
section
open PySem PySem.W PySem.Spec PySem.Calls PyProof.Rows PyProof.Rows.LCg
set_option maxRecDepth 100000
set_option maxHeartbeats 1000000
namespace Mine
section
variable {prog : Program} {w : World} {A : Around} {E : Value → Shared → Prop} {s : Shared} {env : Env} {h₀ : Heap} {x : Str} {body : List Stmt} {Q : Flow → Shared → Prop}
/-- a for over a list of the ledger, whose name is a cell -/
def CTurn (h₀ : Heap) (L l I c : Addr) (ol oI oc : Obj) (J : (Str → Option Value) → List (Addr × Obj) → Prop) (s₁ : Shared) (f : Flow) (s₂ : Shared) : Prop :=
  f = .next ∧ ∃ h' tk m' live', s₂ = { s₁ with heap := h', toks := tk } ∧ Fr h₀ L h' m' ∧ News h₀ L h' ((l, ol) :: (I, oI) :: (c, oc) :: live') ∧ (∀ p ∈ live', p.1 ≠ I ∧ p.1 ≠ c) ∧ J m' live'
theorem for_cell {px : Pos} {l c : Addr} {vs : List Value} {nn : Nat} {m₀ : Str → Option Value} {oc : Obj} {v₀ : Option Value} {live₀ : List (Addr × Obj)} (J : Nat → (Str → Option Value) → List (Addr × Obj) → Prop)
    (hh : A.handled = none) (hkf : env.scope.kind = .function) (hl : env.kindOf x = some .cell) (hc : env.cells.lookup x = some c)
    (F : Fr h₀ env.locals s.heap m₀) (N : News h₀ env.locals s.heap ((l, listOf vs.toArray nn) :: (c, oc) :: live₀)) (hoc : oc.data = .cell v₀) (hlc : l ≠ c) (hlive : ∀ p ∈ live₀, p.1 ≠ c) (hj : J 0 m₀ live₀)
    (turn : ∀ i v m₁ live h tk I oI oc E', vs[i]? = some v → (∀ p ∈ live, p.1 ≠ I ∧ p.1 ≠ c) → l ≠ I → c ≠ I → J i m₁ live → oc.data = .cell (some v) → Fr h₀ env.locals h m₁ → News h₀ env.locals h ((l, listOf vs.toArray nn) :: (I, oI) :: (c, oc) :: live) →
      wpAny (model prog w) A (execs body env) (CTurn h₀ env.locals l I c (listOf vs.toArray nn) oI oc (J (i + 1)) { s with heap := h, toks := tk }) E' { s with heap := h, toks := tk })
    (done : ∀ m₁ live h tk, J vs.length m₁ live → Fr h₀ env.locals h m₁ → News h₀ env.locals h live → Q .next { s with heap := h, toks := tk }) :
    wpAny (model prog w) A (pyIter (.ref l)) (fun it s₂ => codeAny (model prog w) A (.forLoop (.Name x px) it body [] env) (fun r s' => match r with | .ok f => Q f s' | .error e => cameBackBy (model prog w) A env E e s') s₂) E s := by
  have hol : s.heap.get? l = some (listOf vs.toArray nn) := (N _ (.head _)).1
  have hls : s.heap.IsList l vs.toArray := ⟨_, hol, rfl, nn, rfl⟩
  have hne : l ≠ s.heap.objs.size := Nat.ne_of_lt (Heap.lt_size hol)
  refine wpAny_pyIter_list hls ?_
  have W := walks_obj (prog := prog) (w := w) hh s.heap.objs.size l hne vs nn
  have up : ∀ b o, s.heap.get? b = some o → (s.heap.push { cls := .type "list_iterator", data := .fields #[.ref l, .int 0 0] }).get? b = some o := fun b o e => Heap.get?_push_of_some _ e
  have hIL : env.locals ≠ s.heap.objs.size := Nat.ne_of_lt F.ns.lt
  have hI₀ : h₀.get? s.heap.objs.size = none := next_is_new F
  have hcI : c ≠ s.heap.objs.size := Nat.ne_of_lt (Heap.lt_size (N _ (.tail _ (.head _))).1)
  have hcL : c ≠ env.locals := (N _ (.tail _ (.head _))).2.1
  have hc₀ : h₀.get? c = none := (N _ (.tail _ (.head _))).2.2
  refine codeAny_forLoop_any
    (fun n s' => ∃ h' tk i m' live oc v₀, s' = { s with heap := h', toks := tk } ∧ i ≤ vs.length ∧ n = vs.length + 1 - i ∧ (h'.IsListIter s.heap.objs.size l i ∧ h'.get? l = some (listOf vs.toArray nn)) ∧ Fr h₀ env.locals h' m' ∧
      News h₀ env.locals h' ((l, listOf vs.toArray nn) :: (c, oc) :: live) ∧ oc.data = .cell v₀ ∧ (∀ p ∈ live, p.1 ≠ s.heap.objs.size ∧ p.1 ≠ c) ∧ J i m' live) ?_ (vs.length + 1)
    ⟨_, s.toks, 0, m₀, live₀, oc, v₀, rfl, Nat.zero_le _, rfl, ⟨⟨_, Heap.get?_push_size _ rfl, rfl, rfl⟩, up _ _ hol⟩, F.keeps up, N.grown up, hoc, fun p hp => ⟨Nat.ne_of_lt (Heap.lt_size (N _ (.tail _ (.tail _ hp))).1), hlive p hp⟩, hj⟩
  rintro n s' ⟨h', tk, i, m', live, oc', v', rfl, hi, rfl, hst, F', N', hoc', off, hJ⟩
  have offN : ∀ p ∈ (l, listOf vs.toArray nn) :: (c, oc') :: live, p.1 ≠ s.heap.objs.size := fun p hp => by
    rcases List.mem_cons.mp hp with rfl | hp
    · exact hne
    rcases List.mem_cons.mp hp with rfl | hp
    · exact hcI
    · exact (off p hp).1
  by_cases hlt : i < vs.length
  · refine W.item i _ _ _ hlt hst fun v h₂ tk₂ hPv hst₂ hk₂ => ?_
    have F₂ : Fr h₀ env.locals h₂ m' := fr_but F' hk₂ hIL hI₀
    have N₂ := news_but N' hk₂ offN
    refine wpAny_of_eq (show letOwnedTupleGo (.Name x px) (.ref s.heap.objs.size) v = pure () from rfl) ?_
    refine wpAny_assign_Name (wpAny_storeName_cell hkf hl hc ⟨_, (N₂ _ (.tail _ (.head _))).1, hoc'⟩ fun h₃ hv₃ hs₃ => ?_)
    obtain ⟨oc₃, ec₃, dc₃⟩ := hv₃
    have hst₃ : h₃.IsListIter s.heap.objs.size l (i + 1) ∧ h₃.get? l = some (listOf vs.toArray nn) := W.frame _ _ _ hst₂ fun b hb o e => hs₃.extBut b o (fun q => by
      rcases List.mem_cons.mp hb with e1 | hb
      · exact hcI (q.symm.trans e1)
      · exact hlc ((List.mem_singleton.mp hb).symm.trans q)) e
    obtain ⟨oI, heI, hoI⟩ := hst₃.1
    have F₃ : Fr h₀ env.locals h₃ m' := F₂.change hs₃ hcL hc₀
    have N₃ : News h₀ env.locals h₃ ((l, listOf vs.toArray nn) :: (s.heap.objs.size, oI) :: (c, oc₃) :: live) := fun p hp => by
      rcases List.mem_cons.mp hp with rfl | hp
      · exact ⟨hst₃.2, (N₂ _ (.head _)).2⟩
      rcases List.mem_cons.mp hp with rfl | hp
      · exact ⟨heI, Ne.symm hIL, hI₀⟩
      rcases List.mem_cons.mp hp with rfl | hp
      · exact ⟨ec₃, hcL, hc₀⟩
      exact ⟨hs₃.extBut _ _ (off p hp).2 (N₂ _ (.tail _ (.tail _ hp))).1, (N₂ _ (.tail _ (.tail _ hp))).2⟩
    refine wpAny_mono (turn i v m' live h₃ _ _ oI oc₃ _ hPv off hne hcI hJ dc₃ F₃ N₃) (fun f s₄ h₄ => ?_) fun _ _ e => e
    obtain ⟨rfl, h₄, tk₄, m₄, live₄, rfl, F₄, N₄, off₄, hJ₄⟩ := h₄
    refine ⟨vs.length + 1 - (i + 1), by omega, h₄, tk₄, i + 1, m₄, live₄, oc₃, _, rfl, hlt, rfl, ⟨⟨oI, (N₄ _ (.tail _ (.head _))).1, hoI⟩, (N₄ _ (.head _)).1⟩, F₄, fun p hp => ?_, dc₃, off₄, hJ₄⟩
    rcases List.mem_cons.mp hp with rfl | hp
    · exact N₄ _ (.head _)
    rcases List.mem_cons.mp hp with rfl | hp
    · exact N₄ _ (.tail _ (.tail _ (.head _)))
    exact N₄ _ (.tail _ (.tail _ (.tail _ hp)))
  · obtain rfl : i = vs.length := Nat.le_antisymm hi (Nat.not_lt.mp hlt)
    refine W.done _ _ _ hst fun h₂ tk₂ hk₂ => wpAny_execs_nil ?_
    exact done m' live h₂ tk₂ hJ (fr_but F' hk₂ hIL hI₀) (fun p hp => news_but N' hk₂ offN p (.tail _ (.tail _ hp)))
end
/-- a row of lists of texts: the references, the ledger's part, what they hold -/
inductive RowsAre : List Value → List (Addr × Obj) → List (List Str) → Prop
  | nil : RowsAre [] [] []
  | cons {a : Addr} {vals : List Value} {e : Nat} {xs : List Str} {vs : List Value} {rl : List (Addr × Obj)} {ls : List (List Str)} : StrsAre vals xs → RowsAre vs rl ls → RowsAre (.ref a :: vs) ((a, listOf vals.toArray e) :: rl) (xs :: ls)
theorem RowsAre.snoc {a : Addr} {vals : List Value} {e : Nat} {xs : List Str} (hx : StrsAre vals xs) : ∀ {vs : List Value} {rl : List (Addr × Obj)} {ls : List (List Str)}, RowsAre vs rl ls → RowsAre (vs ++ [.ref a]) (rl ++ [(a, listOf vals.toArray e)]) (ls ++ [xs])
  | _, _, _, .nil => .cons hx .nil
  | _, _, _, .cons h r => .cons h (r.snoc hx)
theorem RowsAre.len : ∀ {vs : List Value} {rl : List (Addr × Obj)} {ls : List (List Str)}, RowsAre vs rl ls → vs.length = ls.length
  | _, _, _, .nil => rfl
  | _, _, _, .cons _ r => by simp [r.len]
theorem RowsAre.at_ : ∀ {vs : List Value} {rl : List (Addr × Obj)} {ls : List (List Str)} {i : Nat} {v : Value}, RowsAre vs rl ls → vs[i]? = some v → ∃ a vals e xs, v = .ref a ∧ (a, listOf vals.toArray e) ∈ rl ∧ StrsAre vals xs ∧ ls[i]? = some xs
  | _, _, _, _, _, .nil, h => by simp at h
  | _, _, _, 0, _, .cons (a := a) (vals := vals) (e := e) (xs := xs) hx _, h => by cases h; exact ⟨a, vals, e, xs, rfl, .head _, hx, rfl⟩
  | _, _, _, i + 1, _, .cons hx r, h => by
    rw [List.getElem?_cons_succ] at h
    obtain ⟨a, vals, e, xs, h1, h2, h3, h4⟩ := r.at_ h
    exact ⟨a, vals, e, xs, h1, .tail _ h2, h3, by rw [List.getElem?_cons_succ]; exact h4⟩
/-- a word at every spot of a row -/
def insAt {α : Type} (w : α) (row : List α) (i : Nat) : List α := row.take i ++ [w] ++ row.drop i
def insAll {α : Type} (w : α) (row : List α) : List (List α) := (List.range (row.length + 1)).map (insAt w row)
def rowsF {α : Type} (ws : List α) : List (List α) := ws.foldl (fun rows w => rows.flatMap (insAll w)) [[]]
end Mine
end
/-! TxtEq -/
section
open PySem PySem.W PySem.Spec PySem.Calls PyProof.Rows PyProof.V
set_option maxRecDepth 100000
set_option maxHeartbeats 400000
namespace Mine
theorem tx_canLay : ∀ ns : List Str, (∀ x ∈ ns, PyData.strOk x = true) → PyData.canLayAll0 (ns.map PyData.str) = true
  | [], _ => rfl
  | x :: r, h => by simp [PyData.canLayAll0, PyData.canLay0, tx_canLay r (fun y hy => h y (.tail _ hy)), h x (.head _)]
theorem tx_depth : ∀ ns : List Str, PyData.depthAll (ns.map PyData.str) = 0
  | [] => rfl
  | _ :: r => by simp [PyData.depthAll, PyData.depth, tx_depth r]
theorem tx_shaped (ns : List Str) (hok : ∀ x ∈ ns, PyData.strOk x = true) : SeqAt.shaped (.list (ns.map PyData.str)) = true := by
  simp [SeqAt.shaped, PyData.canLay0, PyData.depth, tx_canLay ns hok, tx_depth]
theorem tx_sameAll : ∀ ns ms : List Str, PySem.Spec.sameAll (ns.map PyData.str) (ms.map PyData.str) = decide (ns = ms)
  | [], [] => by simp [PySem.Spec.sameAll]
  | [], _ :: _ => by simp [PySem.Spec.sameAll]
  | _ :: _, [] => by simp [PySem.Spec.sameAll]
  | a :: r, b :: t => by
    simp only [List.map_cons, PySem.Spec.sameAll, PySem.Spec.same, tx_sameAll r t]
    by_cases h : a = b <;> by_cases h' : r = t <;> simp [h, h']
theorem tx_same (ns ms : List Str) : PySem.Spec.same (.list (ns.map PyData.str)) (.list (ms.map PyData.str)) = decide (ns = ms) := by
  simp only [PySem.Spec.same]; exact tx_sameAll ns ms
theorem tx_carried : ∀ {vs : List Value} {ns : List Str}, StrsAre vs ns → CarriedAll vs (ns.map PyData.str)
  | _, _, .nil => .nil
  | _, _, .cons _ t r => .cons (.str _ t) (tx_carried r)
section
variable {prog : Program} {w : World} {A : Around} {E : Value → Shared → Prop} {s : Shared} {a b : Addr} {xs ys : List Value} {ns ms : List Str} {Q : Value → Shared → Prop}
theorem tx_eq (ha : s.heap.IsList a xs.toArray) (hb : s.heap.IsList b ys.toArray) (hi : StrsAre xs ns) (hj : StrsAre ys ms) (ho1 : ∀ x ∈ ns, PyData.strOk x = true) (ho2 : ∀ x ∈ ms, PyData.strOk x = true) (hu : A.units + 64 < cLine) (h : Q (.bool (decide (ns = ms))) s) :
    wpAny (model prog w) A (compareOp .Eq (.ref a) (.ref b)) Q E s :=
  eq_dataH_same (reads_newData ha (tx_carried hi)) (reads_newData hb (tx_carried hj)) (tx_shaped _ ho1) (tx_shaped _ ho2) hu (SeqAt.noMix_of_shape (.list .str) rfl _ _ (list_map_has fun _ => rfl) (list_map_has fun _ => rfl)) (by rw [tx_same]; exact h)
theorem tx_ne (ha : s.heap.IsList a xs.toArray) (hb : s.heap.IsList b ys.toArray) (hi : StrsAre xs ns) (hj : StrsAre ys ms) (ho1 : ∀ x ∈ ns, PyData.strOk x = true) (ho2 : ∀ x ∈ ms, PyData.strOk x = true) (hu : A.units + 64 < cLine) (h : Q (.bool (!decide (ns = ms))) s) :
    wpAny (model prog w) A (compareOp .NotEq (.ref a) (.ref b)) Q E s :=
  ne_dataH_same (reads_newData ha (tx_carried hi)) (reads_newData hb (tx_carried hj)) (tx_shaped _ ho1) (tx_shaped _ ho2) hu (SeqAt.noMix_of_shape (.list .str) rfl _ _ (list_map_has fun _ => rfl) (list_map_has fun _ => rfl)) (by rw [tx_same]; exact h)
end
end Mine
end
/-! CellC -/
section
open PySem PySem.W PySem.Spec PySem.Calls PyProof.Rows PyProof.Rows.LCg
set_option maxRecDepth 100000
set_option maxHeartbeats 2000000
namespace Mine
section
variable {M : Model} {A : Around} {E : Value → Shared → Prop} {s : Shared}
theorem new_cell {scope : Scope} {globals : Addr} {cl : List (Str × Addr)} {qual : Str} {env : Env} {x n0 n2 : Str} {Q : Env → Shared → Prop} (hn : scope.names = [(n0, .local), (x, .cell), (n2, .free)])
    (h : ∀ h', h' = (s.heap.push { cls := .type "dict", data := .dict #[] }).push { cls := .type "cell", data := .cell none } → Q (newEnv scope s.heap.objs.size globals ((x, s.heap.objs.size + 1) :: cl) qual none .none (some env) builtinsNs) { s with heap := h' }) :
    wpAny M A (newFunctionEnv scope globals cl [] qual none .none (some env)) Q E s := by
  simp only [newFunctionEnv, Option.isSome_some, if_true, hn]
  refine wpAny_bind (wpAny_alloc ?_)
  simp only [List.forIn_cons, List.forIn_nil]
  have e1 : (NameKind.local == NameKind.cell) = false := by decide
  have e2 : (NameKind.cell == NameKind.cell) = true := by decide
  have e3 : (NameKind.free == NameKind.cell) = false := by decide
  simp only [e1, e2, e3, Bool.false_eq_true, if_false, if_true]
  refine wpAny_bind (wpAny_bind (wpAny_pure ?_))
  dsimp only
  refine wpAny_bind (wpAny_bind (wpAny_alloc (wpAny_pure ?_)))
  dsimp only
  refine wpAny_bind (wpAny_pure ?_)
  dsimp only
  refine wpAny_pure (wpAny_bind (wpAny_pure (wpAny_pure ?_)))
  have e4 : (s.heap.push { cls := .type "dict", data := .dict #[] }).objs.size = s.heap.objs.size + 1 := Heap.size_push ..
  have h2 := h _ rfl
  rw [← e4] at h2
  exact h2
end
def CEnd (h₀ : Heap) (L : Addr) (m : Str → Option Value) (s₁ : Shared) (I : Addr) (oI : Obj) (C : Addr) (oC : Obj) (D : Addr) (c : Addr) (oc : Obj) (ys : List Value) (J : List Value → List (Addr × Obj) → Prop) (y : Value) (s₂ : Shared) : Prop :=
  ∃ h' tk live', s₂ = { s₁ with heap := h', toks := tk } ∧ Fr h₀ L h' m ∧ News h₀ L h' ((I, oI) :: (C, oC) :: (D, lst ys) :: (c, oc) :: live') ∧ (∀ p ∈ live', p.1 ≠ I ∧ p.1 ≠ C ∧ p.1 ≠ D ∧ p.1 ≠ c) ∧ J (ys ++ [y]) live'
section
variable {prog : Program} {w : World} {A : Around} {E : Value → Shared → Prop} {R : Result → Shared → Prop} {s : Shared} {h₀ : Heap} {L : Addr} {m : Str → Option Value} {env : Env}
theorem block_cell {elt iter : Expr} {x n0 n2 : Str} {px : Pos} {scope : Scope} {cl : List (Str × Addr)} {pos : Pos} {s₂ : Shared} {I l : Addr} {its : Array Value} {k : Nat} {news : List (Addr × Obj)} {J : Nat → List Value → List (Addr × Obj) → Prop}
    {RR : Value → Addr → Result → Shared → Prop} (hh : A.handled = none) (hIl : l ≠ I) (hlit : s₂.heap.IsListIter I l 0) (hll : (l, ({ cls := .type "list", data := .seq its k } : Obj)) ∈ news)
    (hnm : scope.names = [(n0, .local), (x, .cell), (n2, .free)]) (hx0 : x ≠ n0) (hkind : scope.kind = .function) (hsz : its.size ≤ sizeLine)
    (F : Fr h₀ L s₂.heap m) (N : News h₀ L s₂.heap news) (hIL : L ≠ I) (hI₀ : h₀.get? I = none) (off : ∀ p ∈ news, p.1 ≠ I)
    (hJ0 : J 0 [] news) (hJl : ∀ i ys live, J i ys live → (l, ({ cls := .type "list", data := .seq its k } : Obj)) ∈ live ∧ ys.length ≤ sizeLine)
    (turn : ∀ i ys live v I oI C oC D c oc h tk E', its[i]? = some v → J i ys live → oc.data = .cell (some v) → Fr h₀ L h m → News h₀ L h ((I, oI) :: (C, oC) :: (D, lst ys) :: (c, oc) :: live) → (∀ p ∈ live, p.1 ≠ I ∧ p.1 ≠ C ∧ p.1 ≠ D ∧ p.1 ≠ c) →
      wpAny (model prog w) A (eval elt (compEnvC scope ((x, c) :: cl) C env)) (CEnd h₀ L m { s₂ with heap := h, toks := tk } I oI C oC D c oc ys (J (i + 1))) E' { s₂ with heap := h, toks := tk })
    (hRR : ∀ D C h tk m' ys live, Fr h₀ L h m → News h₀ L h ((D, lst ys) :: live) → (∀ p ∈ live, p.1 ≠ D) → h.Ns C m' → h₀.get? C = none → h₀.get? D = none → C ≠ L → D ≠ L → C ≠ D → (∀ p ∈ live, p.1 ≠ C) → J its.size ys live → RR (.ref D) C (.ok .next) { s₂ with heap := h, toks := tk }) :
    wpAny (model prog w) A (newList []) (fun acc s₃ => wpAny (model prog w) A (newFunctionEnv scope env.globals cl [] env.qual none .none (some env)) (fun cenv s₄ =>
      codeAny (model prog w) A (.compStart (.ListComp elt [⟨.Name x px, iter, [], 0⟩] scope pos) 0 (.ref I) acc { cenv with scope := relabel scope env }) (RR acc cenv.locals) s₄) E s₃) E s₂ := by
  refine wpAny_newObj_type (new_cell hnm fun h₁ hh₁ => ?_)
  dsimp only at hh₁ ⊢
  have hil : s₂.heap.IsList l its := ⟨_, (N _ hll).1, rfl, _, rfl⟩
  have hIlt : I < s₂.heap.objs.size := by obtain ⟨o, e, _⟩ := hlit; exact Heap.lt_size e
  have hs1 : (s₂.heap.push { cls := .type "list", dict := none, data := .seq ([] : List Value).toArray }).objs.size = s₂.heap.objs.size + 1 := Heap.size_push ..
  have hns₁ : h₁.Ns (s₂.heap.objs.size + 1) (fun _ => none) := by
    have h1 := Heap.Ns.new (s₂.heap.push { cls := .type "list", dict := none, data := .seq ([] : List Value).toArray }) (.type "dict")
    rw [hs1] at h1
    rw [hh₁]
    exact h1.keeps fun b o e => Heap.get?_push_of_some _ e
  have old : ∀ b o, s₂.heap.get? b = some o → h₁.get? b = some o := fun b o e => by
    rw [hh₁]
    exact Heap.get?_push_of_some _ (Heap.get?_push_of_some _ (Heap.get?_push_of_some _ e))
  have hacc : h₁.get? s₂.heap.objs.size = some (lst []) := by
    rw [hh₁]
    exact Heap.get?_push_of_some _ (Heap.get?_push_of_some _ (Heap.get?_push_size _ rfl))
  have hcel : h₁.get? (s₂.heap.objs.size + 1 + 1) = some { cls := .type "cell", data := .cell none } := by
    have e5 : ((s₂.heap.push { cls := .type "list", dict := none, data := .seq ([] : List Value).toArray }).push { cls := .type "dict", data := .dict #[] }).objs.size = s₂.heap.objs.size + 1 + 1 := by rw [Heap.size_push, hs1]
    rw [hh₁, ← e5]
    exact Heap.get?_push_size _ rfl
  rw [hs1]
  have lt : ∀ {b o}, s₂.heap.get? b = some o → b < s₂.heap.objs.size := fun e => Heap.lt_size e
  have neD : ∀ {b : Addr}, b < s₂.heap.objs.size → b ≠ s₂.heap.objs.size := fun h => Nat.ne_of_lt h
  have neC : ∀ {b : Addr}, b < s₂.heap.objs.size → b ≠ s₂.heap.objs.size + 1 := fun h => Nat.ne_of_lt (Nat.lt_succ_of_lt h)
  have nec : ∀ {b : Addr}, b < s₂.heap.objs.size → b ≠ s₂.heap.objs.size + 1 + 1 := fun h => Nat.ne_of_lt (Nat.lt_succ_of_lt (Nat.lt_succ_of_lt h))
  have hDC : s₂.heap.objs.size ≠ s₂.heap.objs.size + 1 := Nat.ne_of_lt (Nat.lt_succ_self _)
  have hDc : s₂.heap.objs.size ≠ s₂.heap.objs.size + 1 + 1 := Nat.ne_of_lt (Nat.lt_succ_of_lt (Nat.lt_succ_self _))
  have hCc : s₂.heap.objs.size + 1 ≠ s₂.heap.objs.size + 1 + 1 := Nat.ne_of_lt (Nat.lt_succ_self _)
  have fresh₀ : ∀ a, s₂.heap.objs.size ≤ a → h₀.get? a = none := fun a ha => by
    cases e : h₀.get? a with
    | none => rfl
    | some o' => exact absurd (Heap.lt_size (F.keep a o' e)) (Nat.not_lt.mpr ha)
  have hD₀ : h₀.get? s₂.heap.objs.size = none := fresh₀ _ (Nat.le_refl _)
  have hC₀ : h₀.get? (s₂.heap.objs.size + 1) = none := fresh₀ _ (Nat.le_succ _)
  have hc₀ : h₀.get? (s₂.heap.objs.size + 1 + 1) = none := fresh₀ _ (Nat.le_succ_of_le (Nat.le_succ _))
  have hLlt : L < s₂.heap.objs.size := F.ns.lt
  have hDL := Ne.symm (neD hLlt)
  have hCL := Ne.symm (neC hLlt)
  have hcL := Ne.symm (nec hLlt)
  have hCI : I ≠ s₂.heap.objs.size + 1 := neC hIlt
  have hDI : I ≠ s₂.heap.objs.size := neD hIlt
  have hcI : I ≠ s₂.heap.objs.size + 1 + 1 := nec hIlt
  have hlc : l ≠ s₂.heap.objs.size + 1 + 1 := nec (lt (N _ hll).1)
  have hlD : l ≠ s₂.heap.objs.size := neD (lt (N _ hll).1)
  have off₀ : ∀ p ∈ news, p.1 ≠ I ∧ p.1 ≠ s₂.heap.objs.size + 1 ∧ p.1 ≠ s₂.heap.objs.size ∧ p.1 ≠ s₂.heap.objs.size + 1 + 1 := fun p hp => ⟨off p hp, neC (lt (N p hp).1), neD (lt (N p hp).1), nec (lt (N p hp).1)⟩
  have F1 := F.keeps old
  have N1 := N.grown old
  have hst1 : h₁.IsListIter I l 0 ∧ h₁.IsList l its := by
    obtain ⟨o, e, r⟩ := hlit
    exact ⟨⟨o, old _ _ e, r⟩, ⟨_, (N1 _ hll).1, rfl, _, rfl⟩⟩
  clear hh₁ old hlit
  generalize s₂.heap.objs.size = D at *
  have hkx : (compEnvC scope ((x, D + 1 + 1) :: cl) (D + 1) env).kindOf x = some .cell := by
    show (relabel scope env).names.lookup x = some .cell
    unfold relabel
    rw [hnm]
    have e : (x == n0) = false := beq_eq_false_iff_ne.mpr hx0
    simp [List.lookup, e]
  have W := Walks.list (prog := prog) (w := w) hh I l hIl its
  have loop : ∀ s₃ : Shared, s₃ = { s₂ with heap := h₁ } →
      codeAny (model prog w) A (.compLoop (.ListComp elt [⟨.Name x px, iter, [], 0⟩] scope pos) 0 (.ref I) (.ref D) (compEnvC scope ((x, D + 1 + 1) :: cl) (D + 1) env))
        (RR (.ref D) (D + 1)) s₃ := by
    rintro s₃ rfl
    refine codeAny_compLoop_tests
      (fun kk s' => ∃ h' tk i ys m' live oc v₀, s' = { s₂ with heap := h', toks := tk } ∧ i ≤ its.size ∧ kk = its.size + 1 - i ∧ (h'.IsListIter I l i ∧ h'.IsList l its) ∧ Fr h₀ L h' m ∧ h'.Ns (D + 1) m' ∧ News h₀ L h' ((D, lst ys) :: (D + 1 + 1, oc) :: live) ∧ oc.data = .cell v₀ ∧
        (∀ p ∈ live, p.1 ≠ I ∧ p.1 ≠ D + 1 ∧ p.1 ≠ D ∧ p.1 ≠ D + 1 + 1) ∧ J i ys live) ?_ (its.size + 1)
      ⟨h₁, _, 0, [], _, news, { cls := .type "cell", data := .cell none }, none, rfl, Nat.zero_le _, rfl, hst1, F1, hns₁, fun p hp => ?_, rfl, off₀, hJ0⟩
    · rintro kk s' ⟨h', tk, i, ys, m', live, oc, v₀, rfl, hi, rfl, hst', F', hn', N', hoc, off', hJ'⟩
      have offN : ∀ p ∈ (D, lst ys) :: (D + 1 + 1, oc) :: live, p.1 ≠ I := fun p hp => by
        rcases List.mem_cons.mp hp with rfl | hp
        · exact Ne.symm hDI
        rcases List.mem_cons.mp hp with rfl | hp
        · exact Ne.symm hcI
        · exact (off' p hp).1
      by_cases hlt : i < its.size
      · refine W.item i _ _ _ hlt hst' fun v h₂ tk₂ hPv hst₂ hk₂ => ?_
        have N₂ := PyProof.Rows.LCg.news_but N' hk₂ offN
        have F₂ : Fr h₀ L h₂ m := PyProof.Rows.LCg.fr_but F' hk₂ hIL hI₀
        have hn₂ : h₂.Ns (D + 1) m' := hn'.at' fun o e => hk₂ _ o (by simpa using Ne.symm hCI) e
        refine wpAny_assign_Name (wpAny_storeName_cell hkind hkx (c := D + 1 + 1) (by simp [compEnvC, List.lookup]) ⟨_, (N₂ _ (.tail _ (.head _))).1, hoc⟩ fun h₃ hv₃ hs₃ => ?_)
        refine wpAny_tests_nil ?_
        simp only [if_true]
        obtain ⟨oc₃, ec₃, dc₃⟩ := hv₃
        have hst₃ : h₃.IsListIter I l (i + 1) ∧ h₃.IsList l its := W.frame _ _ _ hst₂ fun b hb o e => hs₃.extBut b o (fun q => by
          rcases List.mem_cons.mp hb with e1 | hb
          · exact hcI (e1.symm.trans q)
          · exact hlc ((List.mem_singleton.mp hb).symm.trans q)) e
        obtain ⟨oI, heI⟩ : ∃ o, h₃.get? I = some o := by obtain ⟨o, e, _⟩ := hst₃.1; exact ⟨o, e⟩
        have hn₃ : h₃.Ns (D + 1) m' := hn₂.at' fun o e => hs₃.extBut _ o hCc e
        obtain ⟨oC, heC, hoC⟩ := ns_obj hn₃
        have F₃ : Fr h₀ L h₃ m := F₂.change hs₃ hcL hc₀
        have N₃ : News h₀ L h₃ ((I, oI) :: (D + 1, oC) :: (D, lst ys) :: (D + 1 + 1, oc₃) :: live) := fun p hp => by
          rcases List.mem_cons.mp hp with rfl | hp
          · exact ⟨heI, Ne.symm hIL, hI₀⟩
          rcases List.mem_cons.mp hp with rfl | hp
          · exact ⟨heC, hCL, hC₀⟩
          rcases List.mem_cons.mp hp with rfl | hp
          · exact ⟨hs₃.extBut _ _ hDc (N₂ _ (.head _)).1, (N₂ _ (.head _)).2⟩
          rcases List.mem_cons.mp hp with rfl | hp
          · exact ⟨ec₃, hcL, hc₀⟩
          exact ⟨hs₃.extBut _ _ (off' p hp).2.2.2 (N₂ _ (.tail _ (.tail _ hp))).1, (N₂ _ (.tail _ (.tail _ hp))).2⟩
        refine wpAny_mono (turn i ys live v I oI (D + 1) oC D (D + 1 + 1) oc₃ h₃ _ _ hPv hJ' dc₃ F₃ N₃ off') (fun y s₄ h₄ => ?_) fun _ _ e => e
        obtain ⟨h₄, tk₄, live₄, rfl, F₄, N₄, off₄, hJ₄⟩ := h₄
        have zI := (N₄ _ (.head _)).1
        have zC := (N₄ _ (.tail _ (.head _))).1
        have zD := (N₄ _ (.tail _ (.tail _ (.head _)))).1
        have zc := N₄ _ (.tail _ (.tail _ (.tail _ (.head _))))
        have N₄' : News h₀ L h₄ live₄ := fun p hp => N₄ p (.tail _ (.tail _ (.tail _ (.tail _ hp))))
        have hst₄ : h₄.IsListIter I l (i + 1) ∧ h₄.IsList l its := by
          refine ⟨?_, ⟨_, (N₄' _ (hJl _ _ _ hJ₄).1).1, rfl, _, rfl⟩⟩
          obtain ⟨o, e, r⟩ := hst₃.1
          rw [heI] at e
          cases e
          exact ⟨_, zI, r⟩
        refine append_at (hsz := by show ys.toArray.size ≤ sizeLine; rw [List.size_toArray]; exact (hJl _ _ _ hJ').2) zD fun h₅ hs₅ hD₅ => ?_
        refine ⟨its.size + 1 - (i + 1), by omega, h₅, tk₄, i + 1, ys ++ [y], _, live₄, oc₃, _, rfl, hlt, rfl, W.frame _ _ _ hst₄ fun b hb o e => hs₅.extBut b o (fun q => ?_) e, F₄.change hs₅ hDL hD₀,
          (hoC.ns zC).sameBut hs₅ (Ne.symm hDC), fun p hp => ?_, dc₃, off₄, hJ₄⟩
        · rcases List.mem_cons.mp hb with e1 | hb
          · exact hDI (e1.symm.trans q)
          · exact hlD ((List.mem_singleton.mp hb).symm.trans q)
        rcases List.mem_cons.mp hp with rfl | hp
        · exact ⟨hD₅.trans (congrArg some (lst_snoc ys y)), hDL, hD₀⟩
        rcases List.mem_cons.mp hp with rfl | hp
        · exact ⟨hs₅.extBut _ _ (Ne.symm hDc) zc.1, zc.2⟩
        · exact ⟨hs₅.extBut _ _ (off₄ p hp).2.2.1 (N₄' p hp).1, (N₄' p hp).2⟩
      · obtain rfl : i = its.size := Nat.le_antisymm hi (Nat.not_lt.mp hlt)
        refine W.done _ _ _ hst' fun h₂ tk₂ hk₂ => ?_
        have N₂ := PyProof.Rows.LCg.news_but N' hk₂ offN
        exact hRR _ _ h₂ tk₂ _ ys live (PyProof.Rows.LCg.fr_but F' hk₂ hIL hI₀) (fun p hp => by
          rcases List.mem_cons.mp hp with rfl | hp
          · exact N₂ _ (.head _)
          · exact N₂ _ (.tail _ (.tail _ hp))) (fun p hp => (off' p hp).2.2.1) (hn'.at' fun o e => hk₂ _ o (by simpa using Ne.symm hCI) e) hC₀ hD₀ hCL hDL (Ne.symm hDC) (fun p hp => (off' p hp).2.1) hJ'
    · rcases List.mem_cons.mp hp with rfl | hp
      · exact ⟨hacc, hDL, hD₀⟩
      rcases List.mem_cons.mp hp with rfl | hp
      · exact ⟨hcel, hcL, hc₀⟩
      · exact N1 p hp
  exact codeAny_compStart_list (loop _ rfl) (W.self 0 _ _ _ hst1 (loop _ rfl))
def CellSrc (prog : Program) (w : World) (A : Around) (h₀ : Heap) (L : Addr) (m : Str → Option Value) (env : Env) (elt : PySem.Expr) (x : Str) (scope : Scope) (cl : List (Str × Addr)) (Fin : Shared → List Value → List (Addr × Obj) → Prop) (xv : Value) (s₁ : Shared) : Prop :=
  ∃ (l : Addr) (its : Array Value) (k : Nat) (news : List (Addr × Obj)) (J : Nat → List Value → List (Addr × Obj) → Prop), xv = .ref l ∧ Fr h₀ L s₁.heap m ∧ News h₀ L s₁.heap news ∧ (l, ({ cls := .type "list", data := .seq its k } : Obj)) ∈ news ∧ its.size ≤ sizeLine ∧ J 0 [] news ∧
    (∀ i ys live, J i ys live → (l, ({ cls := .type "list", data := .seq its k } : Obj)) ∈ live ∧ ys.length ≤ sizeLine) ∧
    (∀ i ys live v I oI C oC D c oc h tk E', its[i]? = some v → J i ys live → oc.data = .cell (some v) → Fr h₀ L h m → News h₀ L h ((I, oI) :: (C, oC) :: (D, lst ys) :: (c, oc) :: live) → (∀ p ∈ live, p.1 ≠ I ∧ p.1 ≠ C ∧ p.1 ≠ D ∧ p.1 ≠ c) →
      wpAny (model prog w) A (eval elt (compEnvC scope ((x, c) :: cl) C env)) (CEnd h₀ L m { s₁ with heap := h, toks := tk } I oI C oC D c oc ys (J (i + 1))) E' { s₁ with heap := h, toks := tk }) ∧
    (∀ ys live, J its.size ys live → Fin s₁ ys live)
def FinA3 (h₀ : Heap) (L : Addr) (m : Str → Option Value) (s : Shared) (y : Str) (Q : Flow → Shared → Prop) (ys : List Value) (live : List (Addr × Obj)) : Prop :=
  ∀ D h tk, Fr h₀ L h (fun z => if z = y then some (.ref D) else m z) → News h₀ L h ((D, lst ys) :: live) → (∀ p ∈ live, p.1 ≠ D) → Q .next { s with heap := h, toks := tk }
theorem Assign_cell {elt iter : Expr} {x y n0 n2 : Str} {px py : Pos} {scope : Scope} {cl : List (Str × Addr)} {pos spos : Pos} {Q : Flow → Shared → Prop} (F₀ : Fr h₀ L s.heap m) (hLe : env.locals = L) (hh : A.handled = none)
    (hsw : swapsWith (.ListComp elt [⟨.Name x px, iter, [], 0⟩] scope pos) (some (.Name y py)) spos.line env = pure true)
    (hclos : closureFor scope env = pure cl) (hnm : scope.names = [(n0, .local), (x, .cell), (n2, .free)]) (hx0 : x ≠ n0) (hkind : scope.kind = .function)
    (hnames : ∀ y ∈ scope.names, y.2 = .local → scope.names.lookup y.1 = some .local)
    (hy : env.kindOf y = some .local) (hp : (env.scope.kind == .class || (env.scope.kind == .module && env.locals != env.globals)) = false)
    (h : wpAny (model prog w) A (eval iter env) (CellSrc prog w A h₀ L m env elt x scope cl (fun s₂ => FinA3 h₀ L m s₂ y Q)) E s)
    (hs : ∀ x, foldedSetIterable iter env x = pure x := by intro _; rfl) :
    wpAny (model prog w) A (exec (.Assign [.Name y py] (.ListComp elt [⟨.Name x px, iter, [], 0⟩] scope pos) spos) env) Q E s := by
  subst hLe
  rw [exec_Assign_Name_used _ _ _ _ hsw]
  refine wpAny_bind (wpAny_standAt (wpAny_bind ?_))
  show wpAny _ A (do let _ ← comprehension (.ListComp elt [⟨.Name x px, iter, [], 0⟩] scope pos) scope env _ (newList []) false (eval iter env) (some (assign (.Name y py) env))) _ _ s
  refine wpAny_bind (wpAny_mono (wpAny_comprehension_free (use := some (assign (.Name y py) env)) (Q := fun _ s' => Q .next s') rfl hs hclos hkind hnames
    (wpAny_mono h (fun xv s₁ h₁ => ?_) fun _ _ e => e)) (fun _ s' hq => wpAny_pure (wpAny_pure hq)) fun _ _ e => e)
  obtain ⟨l, its, k, news, J, rfl, F, N, hll, hsz, hJ0, hJl, turn, fin⟩ := h₁
  have hil : s₁.heap.IsList l its := ⟨_, (N _ hll).1, rfl, _, rfl⟩
  have hlt : l < s₁.heap.objs.size := Heap.lt_size (N _ hll).1
  refine wpAny_pyIter_list hil ?_
  have up : ∀ b o, s₁.heap.get? b = some o → (s₁.heap.push { cls := .type "list_iterator", data := .fields #[.ref l, .int 0 0] }).get? b = some o := fun b o e => Heap.get?_push_of_some _ e
  refine block_cell (J := J) (RR := fun acc C => compPost (model prog w) A E (some (assign (.Name y py) env)) (fun _ s' => Q .next s') acc C) hh (Nat.ne_of_lt hlt) ⟨_, Heap.get?_push_size _ rfl, rfl, rfl⟩ hll hnm hx0 hkind hsz (F.keeps up) (N.grown up) (Nat.ne_of_lt F.ns.lt) (next_is_new F) (fun p hp => Nat.ne_of_lt (Heap.lt_size (N p hp).1)) hJ0 hJl turn ?_
  intro D C h tk m' ys live F' N' o1 hn hC₀ hD₀ hCL hDL hCD offC hj
  show wpAny _ A (assign (.Name y py) env (.ref D)) _ _ _
  refine wpAny_assign_Name (wpAny_storeName_local hy F'.ns (fun h₂ hn₂ hs₂ => ?_) hp)
  refine ⟨m', hn.sameBut hs₂ hCL, fun h₃ hs₃ => ?_⟩
  have NL : ∀ p ∈ (D, lst ys) :: live, p.1 ≠ env.locals := fun p hp => (N' p hp).2.1
  have keep : ∀ b o, b ≠ env.locals → b ≠ C → h.get? b = some o → h₃.get? b = some o := fun b o hb hc e => hs₃.extBut b o hc (hs₂.extBut b o hb e)
  refine fin ys live hj D h₃ _ ⟨hn₂.sameBut hs₃ (Ne.symm hCL), fun b o e => ?_, F'.above⟩ (fun p hp => ⟨keep _ _ (NL p hp) ?_ (N' p hp).1, (N' p hp).2⟩) o1
  · refine keep b o (Nat.ne_of_lt (Nat.lt_of_lt_of_le (Heap.lt_size e) F'.above)) (fun q => ?_) (F'.keep b o e)
    rw [q, hC₀] at e; cases e
  · rcases List.mem_cons.mp hp with rfl | hp
    · exact Ne.symm hCD
    · exact offC p hp
end
end Mine
end
/-! Sent -/
section
open PySem PySem.W PySem.Spec PySem.Calls PyProof.Rows
set_option maxRecDepth 100000
set_option maxHeartbeats 0
namespace Mine
abbrev row4 (x0 x1 x2 x3 : Str) (t0 t1 t2 t3 : Tok) (e : Nat) : Obj := W.listOf (List.toArray [.str x0 t0, .str x1 t1, .str x2 t2, .str x3 t3]) e
abbrev R4 := Str × Str × Str × Str
def swp (n : Int) (r : R4) : R4 :=
  if n = 20 then (if cmpS r.1 r.2.1 = 1 then (r.2.1, r.1, r.2.2) else r)
  else if n = 21 then (if cmpS r.1 r.2.1 = -1 then (r.2.1, r.1, r.2.2) else r)
  else if n = 33 then (if cmpS r.2.1 r.2.2.1 = 1 then (r.1, r.2.2.1, r.2.1, r.2.2.2) else r)
  else if n = 34 then (if cmpS r.2.1 r.2.2.1 = -1 then (r.1, r.2.2.1, r.2.1, r.2.2.2) else r)
  else if n = 44 then (if cmpS r.2.2.1 r.2.2.2 = 1 then (r.1, r.2.1, r.2.2.2, r.2.2.1) else r)
  else (if cmpS r.2.2.1 r.2.2.2 = -1 then (r.1, r.2.1, r.2.2.2, r.2.2.1) else r)
def sentR (ns : List Int) (r : R4) : R4 := ns.foldl (fun r n => swp n r) r

theorem sent_turn {h₀ h' : Heap} {L an I ar rr : Addr} {ol oI oa : Obj} {ns : List Int} {i : Nat} {n : Int} {r r' : R4} {m' : Str → Option Value} {news' : List (Addr × Obj)} {s₁ : Shared} {tk : Nat} {Q : Flow → Shared → Prop} {y0 y1 y2 y3 : Str} {u0 u1 u2 u3 : Tok} {e : Nat}
    (hn : ns[i]? = some n) (hJ : r = sentR (ns.take i) r')
    (F : Fr h₀ L h' m') (N : News h₀ L h' news') (hrow : m' (Str.ofString "row") = some (.ref rr)) (hl : (an, ol) ∈ news') (hI : (I, oI) ∈ news') (ha : (ar, oa) ∈ news') (haI : ar ≠ I)
    (hr : (rr, row4 y0 y1 y2 y3 u0 u1 u2 u3 e) ∈ news') (hne : rr ≠ I) (hs : (y0, y1, y2, y3) = swp n r) :
    TurnPost h₀ L an I ol oI (fun m live => ∃ rr y0 y1 y2 y3 u0 u1 u2 u3 e, m (Str.ofString "row") = some (.ref rr) ∧ live = [(rr, row4 y0 y1 y2 y3 u0 u1 u2 u3 e), (ar, oa)] ∧ (y0, y1, y2, y3) = sentR (ns.take (i + 1)) r') s₁ Q .next { s₁ with heap := h', toks := tk } := by
  refine ⟨h', tk, m', _, rfl, F, ?_, ?_, rr, y0, y1, y2, y3, u0, u1, u2, u3, e, hrow, rfl, ?_⟩
  · exact cb_drop N (sub1 hl (sub1 hI (sub1 hr (sub1 ha sub0))))
  · intro p hp
    rcases List.mem_cons.mp hp with rfl | hp
    · exact hne
    · rw [List.mem_singleton.mp hp]; exact haI
  · rw [List.take_add_one, hn, hs, hJ]
    simp [sentR, List.foldl_append]

theorem sent_ok {w : World} {loose : List Str} {p : Program} {mean : ExcName → Option Value} {mg mb : Str → Option Value}
  {dp un : Nat} {fr : Option (List Env)} {gd : Option (List Code)} {h₀ : Heap} {s : Shared} {Q E : Value → Shared → Prop}
  {ar an : Addr} {x0 x1 x2 x3 : Str} {t0 t1 t2 t3 : Tok} {e0 e1 : Nat} {vs : List Value} {ns : List Int}
  (T : Top p loose mean mg mb h₀) (E₀ : Ext h₀ s.heap) (hra : s.heap.get? ar = some (row4 x0 x1 x2 x3 t0 t1 t2 t3 e0)) (hr0 : h₀.get? ar = none)
  (hna : s.heap.get? an = some (W.listOf vs.toArray e1)) (hn0 : h₀.get? an = none) (hi : IntsAre vs ns)
  (hns : ∀ n ∈ ns, n = 20 ∨ n = 33 ∨ n = 44 ∨ n = 21 ∨ n = 34 ∨ n = 45)
  (hdp : dp + 3 < recursionLimit) (hu : un + 24 < cLine)
  (hret : ∀ rr y0 y1 y2 y3 u0 u1 u2 u3 e h' tk', (y0, y1, y2, y3) = sentR ns (x0, x1, x2, x3) → Ext s.heap h' → (h'.get? rr = some (row4 y0 y1 y2 y3 u0 u1 u2 u3 e) ∧ ∀ o', s.heap.get? rr = some o' → rr ∈ [ar, an]) → Q (.ref rr) { s with heap := h', toks := tk' }) :
   (KK w.params).In h₀ → wpAny (model (RW.row.toRowW.prog) w) (Rm dp un fr gd) (call (.ref 141) [.ref ar, .ref an]) Q E s := by
  k_fill
  intro X₀
  refine wpAny_call ?_
  refine' enter [(ar, row4 x0 x1 x2 x3 t0 t1 t2 t3 e0), (an, W.listOf vs.toArray e1)] X₀ T E₀ ?kH ?k6 ?k7 ?k8 ?k9 ?kB ?_ ?c2 ?c3 ?c4 ?c5
  case kH => simp [hra, hr0, hna, hn0]
  case k6 => k_is
  case k7 => k_is
  case k8 => ktr_room
  case k9 => exact BindsTo.of_eq rfl
  case c5 => decide
  case kB => exact locs rfl
  case c2 => exact rfl
  case c3 => exact rfl
  case c4 => exact rfl
  intro g L' h₁ G F' N' X' T'
  ((try clear mk0); have mk0 : Mark "call ref"   := ⟨trivial⟩; repeat' (first | ((with_reducible refine unhalt (x := "call ref") ?_); first | ((with_reducible show wpAny _ _ (call (Value.ref 28) _) _ _ _); (with_unfolding_all refine' strcoll_use (by (k_asm)) (by (k_asm)) (by (k_asm)) (by (k_asm)) (by (ktr_room)) (by (ktr_units)) ?_); (k_whole); (intro t9 h9 tk9 F9 N9)) | (clear mk0; walk1; all_goals (try (with_reducible refine addMark (x := "call ref") fun mk0 => ?_)))) | (k_unfold; (try dsimp only)) | (k_end; kc_close) | walk1 | (dsimp only; walk1) | (leave1; (try dsimp only)) | fail "no step"))
  rename_i tk0
  rename Fr g L' h₁ _ => F'
  refine iter_vals (vs := vs) (live₀ := [(ar, row4 x0 x1 x2 x3 t0 t1 t2 t3 e0), (ar, row4 x0 x1 x2 x3 t0 t1 t2 t3 e0)]) (fun i m live => ∃ rr y0 y1 y2 y3 u0 u1 u2 u3 e, m (Str.ofString "row") = some (.ref rr) ∧ live = [(rr, row4 y0 y1 y2 y3 u0 u1 u2 u3 e), (ar, row4 x0 x1 x2 x3 t0 t1 t2 t3 e0)] ∧ (y0, y1, y2, y3) = sentR (ns.take i) (x0, x1, x2, x3)) rfl F' N' (.tail _ (.head _)) ?_ ⟨ar, x0, x1, x2, x3, t0, t1, t2, t3, e0, rfl, rfl, rfl⟩ ?_ ?_
  · simp
  · rintro i v m₁ live h tk I oI hv hlI hne ⟨rr, y0, y1, y2, y3, u0, u1, u2, u3, e, hrow, rfl, hJ⟩ F'' N''
    clear N' F'
    obtain ⟨n, hn, t, rfl⟩ : ∃ n, ns[i]? = some n ∧ ∃ t, v = .int n t := by
      have hlt : i < ns.length := by
        rw [← hi.length]
        exact (List.getElem?_eq_some_iff.mp hv).1
      obtain ⟨t, hx⟩ := hi.get i ns[i] (by simp [hlt])
      exact ⟨ns[i], by simp [hlt], t, Option.some.inj (hv.symm.trans hx)⟩
    have F3 : Fr g L' h (fun y => if y = Str.ofString "number" then some (.int n t) else if y = Str.ofString "row" then some (.ref rr) else m₁ y) := by
      have e : (fun y => if y = Str.ofString "number" then some (Value.int n t) else if y = Str.ofString "row" then some (.ref rr) else m₁ y) = fun y => if y = Str.ofString "number" then some (Value.int n t) else m₁ y := by
        funext y
        by_cases h1 : y = Str.ofString "number"
        · simp [h1]
        · simp only [if_neg h1]
          by_cases h2 : y = Str.ofString "row"
          · rw [if_pos h2, h2, hrow]
          · rw [if_neg h2]
      rw [e]; exact F''
    clear F''
    have hrI : rr ≠ I := hlI _ (.head _)
    have haI : ar ≠ I := hlI _ (.tail _ (.head _))
    rcases hns n (List.mem_of_getElem? hn) with rfl | rfl | rfl | rfl | rfl | rfl
    all_goals (
      ((try clear mk0); have mk0 : Mark "call ref"   := ⟨trivial⟩; repeat' (first | ((with_reducible refine unhalt (x := "call ref") ?_); first | ((with_reducible show wpAny _ _ (call (Value.ref 28) _) _ _ _); (with_unfolding_all refine' strcoll_use (by (k_asm)) (by (k_asm)) (by (k_asm)) (by (k_asm)) (by (ktr_room)) (by (ktr_units)) ?_); (k_whole); (intro t9 h9 tk9 F9 N9)) | (clear mk0; walk1; all_goals (try (with_reducible refine addMark (x := "call ref") fun mk0 => ?_)))) | (k_unfold; (try dsimp only)) | (k_end; kc_close) | walk1 | (dsimp only; walk1) | (leave1; (try dsimp only)) | fail "no step"))
      all_goals (
        refine' sent_turn (n := _) hn hJ ?cF ?cN ?crow ?cl ?cI ?ca haI ?cr ?cne ?cs
        case cF => assumption
        case cN => assumption
        case crow => rfl
        case cl => k_mem
        case cI => k_mem
        case ca => k_mem
        case cr => k_mem
        case cne => first | exact hrI | exact Nat.ne_of_gt (by omega)
        case cs => ((simp only [swp]); simp [*])))
  · rintro m₁ live h tk ⟨rr, y0, y1, y2, y3, u0, u1, u2, u3, e, hrow, rfl, hJ⟩ F'' N''
    clear N' F'
    have F3 : Fr g L' h (fun y => if y = Str.ofString "row" then some (.ref rr) else m₁ y) := by
      have e : (fun y => if y = Str.ofString "row" then some (.ref rr) else m₁ y) = m₁ := by
        funext y
        by_cases h2 : y = Str.ofString "row"
        · rw [if_pos h2, h2, hrow]
        · rw [if_neg h2]
      rw [e]; exact F''
    clear F''
    have hl : ns.length = vs.length := hi.length.symm
    rw [← hl, List.take_length] at hJ
    ((try clear mk0); have mk0 : Mark "call ref"   := ⟨trivial⟩; repeat' (first | ((with_reducible refine unhalt (x := "call ref") ?_); first | ((with_reducible show wpAny _ _ (call (Value.ref 28) _) _ _ _); (with_unfolding_all refine' strcoll_use (by (k_asm)) (by (k_asm)) (by (k_asm)) (by (k_asm)) (by (ktr_room)) (by (ktr_units)) ?_); (k_whole); (intro t9 h9 tk9 F9 N9)) | (clear mk0; walk1; all_goals (try (with_reducible refine addMark (x := "call ref") fun mk0 => ?_)))) | (k_unfold; (try dsimp only)) | (k_end; kc_close) | walk1 | (dsimp only; walk1) | (leave1; (try dsimp only)) | fail "no step"))
    exact hret _ _ _ _ _ _ _ _ _ _ _ _ hJ (G.back (by assumption) (by assumption) (sub1 (by k_mem) (sub1 (by k_mem) sub0))) (G.off (by assumption) (by k_mem))
end Mine
end
/-! ZipS -/
section
open PySem PySem.W PySem.Spec PySem.Calls PyProof.Rows
set_option maxRecDepth 100000
set_option maxHeartbeats 0
namespace Mine
def gtV (v₁ v₂ : Value) : Value := .bool (ltS (strOf v₂) (strOf v₁))
theorem gt_elt {w : World} {A : Around} {s : Shared} {h₀ : Heap} {L C : Addr} {m m₂ : Str → Option Value} {oC : Obj} {env : Env} {scope : Scope} {cl : List (Str × Addr)} {p1 p2 p3 : Pos} {x x₂ : Str} {a b : Str} {ta tb : Tok} {E : Value → Shared → Prop}
    (hC : LCg.NsObj oC m₂) (h1 : m₂ x = some (.str a ta)) (h2 : m₂ x₂ = some (.str b tb)) (F : Fr h₀ L s.heap m) (N : News h₀ L s.heap [(C, oC)])
    (hk : (compEnvC scope cl C env).scope.kind = .function) (hl : (compEnvC scope cl C env).kindOf x = some .local) (hl2 : (compEnvC scope cl C env).kindOf x₂ = some .local)
    (hd : (x == ("__debug__" : Str)) = false) (hd2 : (x₂ == ("__debug__" : Str)) = false) :
    wpAny (model (RW.row.toRowW.prog) w) A (eval (.Compare (.Name x p1) [.Gt] [.Name x₂ p2] p3) (compEnvC scope cl C env)) (fun y s₃ => ∃ tk', s₃ = { s with toks := tk' } ∧ y = gtV (.str a ta) (.str b tb)) E s := by
  walk1
  refine LCgL.ld_own N (.head _) hC h1 ?_ hk hl hd
  refine LCgL.ld_own N (.head _) hC h2 ?_ hk hl2 hd2
  ((try clear mk0); have mk0 : Mark "call builtin:sorted"   := ⟨trivial⟩; repeat' (first | ((with_reducible refine unhalt (x := "call builtin:sorted") ?_); first | ((with_reducible show wpAny _ _ (call (Value.builtin _) [Value.ref _]) _ _ _); (first | ((with_unfolding_all refine' srt1 (by (k_asm)) (by (k_asm)) (by (k_mem)) ?_); (k_whole); (intro D' h' e' u1 F' N' l1)) | ((with_unfolding_all refine' srt2 (by (k_asm)) (by (k_asm)) (by (k_mem)) ?_); (k_whole); (intro D' h' e' z0 z1 u0 u1 q1 F' N' l1)) | ((with_unfolding_all refine' srt3 (by (k_asm)) (by (k_asm)) (by (k_mem)) ?_); (k_whole); (intro D' h' e' z0 z1 z2 u0 u1 u2 q1 F' N' l1)) | ((with_unfolding_all refine' srt4 (by (k_asm)) (by (k_asm)) (by (k_mem)) ?_); (k_whole); (intro D' h' e' z0 z1 z2 z3 u0 u1 u2 u3 q1 F' N' l1))); (k_lt l1); (try k_sweep)) | (clear mk0; walk1; all_goals (try (with_reducible refine addMark (x := "call builtin:sorted") fun mk0 => ?_)))) | (k_unfold; (try dsimp only)) | (k_end; kc_close) | walk1 | (dsimp only; walk1) | (leave1; (try dsimp only)) | fail "no step"))
theorem eqGives_bool (a b : Bool) : MeetsSeq.EqGives (.bool a) (.bool b) (a == b) := fun prog w A E s Q h => by
  unfold eqBool
  show wpAny _ _ (if (Value.bool a == Value.bool b) = true then _ else _) Q E s
  by_cases hab : (Value.bool a == Value.bool b) = true
  · rw [if_pos hab]
    have e : a = b := by have := eq_of_beq hab; injection this
    subst e
    exact wpAny_bind (wpAny_rule (wpAny_pure (by simpa using h)))
  · rw [if_neg hab]
    exact wpAny_bind (eq_bool (wpAny_truthy_bool h))
def anyV (vs : List Value) : Bool := vs.any fun v => v == .bool true
/-- True in a list of truth values -/
theorem in_bools {prog : Program} {w : World} {A : Around} {E : Value → Shared → Prop} {s : Shared} {h₀ : Heap} {L l : Addr} {news : List (Addr × Obj)} {Q : Value → Shared → Prop} {vs : List Value} {n : Nat}
    (N : News h₀ L s.heap news) (hm : (l, W.listOf vs.toArray n) ∈ news) (hb : ∀ v ∈ vs, ∃ b, v = .bool b) (h : Q (.bool (anyV vs)) s) :
    wpAny (model prog w) A (compareOp .In (.bool true) (.ref l)) Q E s := by
  refine SeqAt.in_listAt (fun v => v == .bool true) ⟨_, (N _ hm).1, rfl, _, rfl⟩ (fun y hy => ?_) (by simpa [anyV] using h)
  obtain ⟨b, rfl⟩ := hb y (by simpa using hy)
  have e : (Value.bool b == Value.bool true) = (b == true) := by cases b <;> rfl
  rw [e]
  exact (eqGives_bool b true).at _ _
theorem gtV_bool (xs ys : List Value) : ∀ v ∈ List.zipWith gtV xs ys, ∃ b, v = .bool b := fun v hv => by
  obtain ⟨i, hi, e⟩ := List.getElem_of_mem hv
  rw [List.getElem_zipWith] at e
  exact ⟨_, e.symm⟩
theorem zip_strs {w : World} {A : Around} {E : Value → Shared → Prop} {s : Shared} {env : Env} {h₀ : Heap} {L : Addr} {m : Str → Option Value} {Q : Value → Shared → Prop} {iter : Expr} {x x₂ : Str} {px px₂ tp p1 p2 p3 : Pos} {tk₀} {scope : Scope} {pos : Pos} {cl : List (Str × Addr)} {i1 i2 TI TO z : Addr} {o1 o2 : Obj} {l1 l2 : Addr} {xs ys : List Value} {n1 n2 : Nat} {keepl : List (Addr × Obj)} {as bs : List Str}
    (F : Fr h₀ L s.heap m) (N : News h₀ L s.heap ((z, zipObj TI TO) :: (TI, pairObj (.ref i1) (.ref i2)) :: (TO, pairObj .none .none) :: (i1, o1) :: (i2, o2) :: keepl)) (Z : ZAt i1 i2 TI TO z o1 o2 l1 l2)
    (hlt : ∀ p ∈ keepl, p.1 < i1) (hL : L < i1) (hl1 : (l1, W.listOf xs.toArray n1) ∈ keepl) (hl2 : (l2, W.listOf ys.toArray n2) ∈ keepl) (hx1 : StrsAre xs as) (hy1 : StrsAre ys bs)
    (hh : A.handled = none) (hsz : min xs.length ys.length ≤ sizeLine)
    (hkind : scope.kind = .function) (hx : scope.names.lookup x = some .local) (hx₂ : scope.names.lookup x₂ = some .local) (hxx : x ≠ x₂)
    (hk : ∀ C, (compEnvC scope cl C env).scope.kind = .function) (hl : ∀ C, (compEnvC scope cl C env).kindOf x = some .local) (hl' : ∀ C, (compEnvC scope cl C env).kindOf x₂ = some .local)
    (hd : (x == ("__debug__" : Str)) = false) (hd2 : (x₂ == ("__debug__" : Str)) = false)
    (hQ : ∀ D h tk, Fr h₀ L h m → News h₀ L h ((D, LCg.lst (List.zipWith gtV xs ys)) :: keepl) → (∀ p ∈ keepl, p.1 < D) → Q (.ref D) { s with heap := h, toks := tk }) :
    wpAny (model (RW.row.toRowW.prog) w) A (pyIter (.ref z)) (fun it s₂ => CGo (RW.row.toRowW.prog) w A E env (.Compare (.Name x p1) [.Gt] [.Name x₂ p2] p3) (.Tuple [.Name x px, .Name x₂ px₂] tk₀ tp) iter [] scope pos cl Q it s₂) E s := by
  have cg := cgo_zip (prog := RW.row.toRowW.prog) (w := w) (E := E) (iter := iter) (px := px) (px₂ := px₂) (tp := tp) (tk₀ := tk₀) (pos := pos) (cl := cl) (env := env) (elt := .Compare (.Name x p1) [.Gt] [.Name x₂ p2] p3) gtV hh F N Z hlt hL hl1 hl2 hsz hkind hx hx₂ hxx (fun i v₁ v₂ C oC m₂ h tk E' e1 e2 hC h1 h2 F' N' => by
    obtain ⟨a, ta, rfl⟩ := hx1.all _ (List.mem_of_getElem? e1)
    obtain ⟨b, tb, rfl⟩ := hy1.all _ (List.mem_of_getElem? e2)
    exact gt_elt (s := { s with heap := h, toks := tk }) hC h1 h2 F' N' (hk C) (hl C) (hl' C) hd hd2) hQ
  have W := WalksT.zip2 (prog := RW.row.toRowW.prog) (w := w) hh z TI TO i1 i2 l1 l2 Z.apart xs.toArray ys.toArray
  refine W.self 0 _ _ _ ?_ cg
  have Nk : News h₀ L s.heap keepl := fun p hp => N p (.tail _ (.tail _ (.tail _ (.tail _ (.tail _ hp)))))
  exact ⟨(N _ (.head _)).1, (N _ (.tail _ (.head _))).1, ⟨_, _, (N _ (.tail _ (.tail _ (.head _)))).1⟩, ⟨_, (N _ (.tail _ (.tail _ (.tail _ (.head _))))).1, Z.e.1, Z.e.2⟩, ⟨_, (N _ (.tail _ (.tail _ (.tail _ (.tail _ (.head _)))))).1, Z.f.1, Z.f.2⟩, ⟨_, (Nk _ hl1).1, rfl, _, rfl⟩, ⟨_, (Nk _ hl2).1, rfl, _, rfl⟩⟩
end Mine
end
/-! Below -/
section
open PySem PySem.W PySem.Spec PySem.Calls PyProof.Rows
set_option maxRecDepth 100000
set_option maxHeartbeats 0
namespace Mine
def gtAny : List Str → List Str → Bool
  | a :: as, b :: bs => ltS b a || gtAny as bs
  | _, _ => false
def belowS (x y : R4) : Bool := !gtAny [x.1] [y.1] && !gtAny (srt [x.1, x.2.1]) (srt [y.1, y.2.1]) && !gtAny (srt [x.1, x.2.1, x.2.2.1]) (srt [y.1, y.2.1, y.2.2.1])
theorem beqv (b : Bool) : (Value.bool b == Value.bool true) = b := by cases b <;> rfl
section
variable {x0 x1 x2 x3 y0 y1 y2 y3 a0 a1 b0 b1 c0 c1 c2 d0 d1 d2 : Str} {t0 t1 t2 t3 t4 t5 u0 u1 u2 u3 u4 u5 : Tok}
theorem anyV1 : anyV (List.zipWith gtV [Value.str x0 t0] [Value.str y0 u0]) = gtAny [x0] [y0] := by
  simp [anyV, gtV, strOf, gtAny, beqv]
theorem anyV2 : anyV (List.zipWith gtV [Value.str a0 t0, Value.str a1 t1] [Value.str b0 u0, Value.str b1 u1]) = gtAny [a0, a1] [b0, b1] := by
  simp [anyV, gtV, strOf, gtAny, beqv]
theorem anyV3 : anyV (List.zipWith gtV [Value.str c0 t0, Value.str c1 t1, Value.str c2 t2] [Value.str d0 u0, Value.str d1 u1, Value.str d2 u2]) = gtAny [c0, c1, c2] [d0, d1, d2] := by
  simp [anyV, gtV, strOf, gtAny, beqv]
theorem bel1 (h : anyV (List.zipWith gtV [Value.str x0 t0] [Value.str y0 u0]) = true) : belowS (x0, x1, x2, x3) (y0, y1, y2, y3) = false := by
  rw [anyV1] at h
  simp [belowS, h]
theorem bel2 (q : srt [x0, x1] = [a0, a1]) (q' : srt [y0, y1] = [b0, b1]) (h : anyV (List.zipWith gtV [Value.str a0 t0, Value.str a1 t1] [Value.str b0 u0, Value.str b1 u1]) = true) : belowS (x0, x1, x2, x3) (y0, y1, y2, y3) = false := by
  rw [anyV2] at h
  simp [belowS, q, q', h]
theorem bel3 (q : srt [x0, x1, x2] = [c0, c1, c2]) (q' : srt [y0, y1, y2] = [d0, d1, d2]) (h : anyV (List.zipWith gtV [Value.str c0 t0, Value.str c1 t1, Value.str c2 t2] [Value.str d0 u0, Value.str d1 u1, Value.str d2 u2]) = true) : belowS (x0, x1, x2, x3) (y0, y1, y2, y3) = false := by
  rw [anyV3] at h
  simp [belowS, q, q', h]
theorem bel4 (h1 : anyV (List.zipWith gtV [Value.str x0 t0] [Value.str y0 u0]) = false) (p : srt [x0, x1] = [a0, a1]) (p' : srt [y0, y1] = [b0, b1]) (h2 : anyV (List.zipWith gtV [Value.str a0 t1, Value.str a1 t2] [Value.str b0 u1, Value.str b1 u2]) = false)
    (q : srt [x0, x1, x2] = [c0, c1, c2]) (q' : srt [y0, y1, y2] = [d0, d1, d2]) (h3 : anyV (List.zipWith gtV [Value.str c0 t3, Value.str c1 t4, Value.str c2 t5] [Value.str d0 u3, Value.str d1 u4, Value.str d2 u5]) = false) : belowS (x0, x1, x2, x3) (y0, y1, y2, y3) = true := by
  rw [anyV1] at h1
  rw [anyV2] at h2
  rw [anyV3] at h3
  simp [belowS, p, p', q, q', h1, h2, h3]
end
theorem ret_b {b : Bool} {x y : R4} {Q : Value → Shared → Prop} {s : Shared} (e : belowS x y = b) (h : Q (.bool (belowS x y)) s) : Q (.bool b) s := e ▸ h

theorem below_ok {w : World} {loose : List Str} {p : Program} {mean : ExcName → Option Value} {mg mb : Str → Option Value}
  {dp un : Nat} {fr : Option (List Env)} {gd : Option (List Code)} {h₀ : Heap} {s : Shared} {Q E : Value → Shared → Prop}
  {ar an : Addr} {x0 x1 x2 x3 : Str} {t0 t1 t2 t3 : Tok} {e0 e1 : Nat} {y0 y1 y2 y3 : Str} {u0 u1 u2 u3 : Tok}
  (T : Top p loose mean mg mb h₀) (E₀ : Ext h₀ s.heap) (hra : s.heap.get? ar = some (row4 x0 x1 x2 x3 t0 t1 t2 t3 e0)) (hr0 : h₀.get? ar = none)
  (hna : s.heap.get? an = some (row4 y0 y1 y2 y3 u0 u1 u2 u3 e1)) (hn0 : h₀.get? an = none) 
  (hdp : dp + 3 < recursionLimit) (hu : un + 24 < cLine)
  (hret : ∀ h' tk', Ext s.heap h' → Q (.bool (belowS (x0, x1, x2, x3) (y0, y1, y2, y3))) { s with heap := h', toks := tk' }) :
   (KK w.params).In h₀ → wpAny (model (RW.row.toRowW.prog) w) (Rm dp un fr gd) (call (.ref 146) [.ref ar, .ref an]) Q E s := by
  k_fill
  intro X₀
  refine wpAny_call ?_
  refine' enter [(ar, row4 x0 x1 x2 x3 t0 t1 t2 t3 e0), (an, row4 y0 y1 y2 y3 u0 u1 u2 u3 e1)] X₀ T E₀ ?kH ?k6 ?k7 ?k8 ?k9 ?kB ?_ ?c2 ?c3 ?c4 ?c5
  case kH => simp [hra, hr0, hna, hn0]
  case k6 => k_is
  case k7 => k_is
  case k8 => ktr_room
  case k9 => exact BindsTo.of_eq rfl
  case c5 => decide
  case kB => exact locs rfl
  case c2 => exact rfl
  case c3 => exact rfl
  case c4 => exact rfl
  intro g L' h₁ G F' N' X' T'
  ((try clear mkF); have mkF : Mark "fold" := ⟨trivial⟩; (try clear mk0); have mk0 : Mark "compareOp In bool ref"   := ⟨trivial⟩; (try clear mk1); have mk1 : Mark "pyIter ref"   := ⟨trivial⟩; (try clear mk2); have mk2 : Mark "eval ListComp"   := ⟨trivial⟩; (try clear mk3); have mk3 : Mark "call type:zip"   := ⟨trivial⟩; (try clear mk4); have mk4 : Mark "call builtin:sorted"   := ⟨trivial⟩; repeat' (first | ((with_reducible refine unhalt (x := "compareOp In bool ref") ?_); first | ((with_reducible show wpAny _ _ (compareOp CmpOp.In (Value.bool true) (Value.ref _)) _ _ _); (refine' in_bools (by k_asm) (by k_mem) (by exact gtV_bool _ _) ?_); (k_whole)) | (clear mk0; walk1; all_goals (try (with_reducible refine addMark (x := "compareOp In bool ref") fun mk0 => ?_)))) | ((with_reducible refine unhalt (x := "pyIter ref") ?_); first | ((with_reducible show wpAny _ _ (pyIter (Value.ref _)) (fun it s₂ => CGo _ _ _ _ _ _ _ _ _ _ _ _ _ it s₂) _ _); (refine' zip_strs (by k_asm) (by k_asm) (by assumption) (by assumption) (by assumption) (by k_mem) (by k_mem) (by (first | exact .cons _ _ .nil | exact .cons _ _ (.cons _ _ .nil) | exact .cons _ _ (.cons _ _ (.cons _ _ .nil)))) (by (first | exact .cons _ _ .nil | exact .cons _ _ (.cons _ _ .nil) | exact .cons _ _ (.cons _ _ (.cons _ _ .nil)))) (by rfl) (by exact Nat.le_of_ble_eq_true rfl) (by rfl) (by rfl) (by rfl) (by decide) (by exact fun _ => rfl) (by exact fun _ => rfl) (by exact fun _ => rfl) (by decide) (by decide) ?_); (k_whole); (intro D' h' tk' F' N' l1); (k_lt l1)) | (clear mk1; walk1; all_goals (try (with_reducible refine addMark (x := "pyIter ref") fun mk1 => ?_)))) | ((with_reducible refine unhalt (x := "eval ListComp") ?_); first | ((refine' comp_gen (by rfl) (by rfl) (by decide) (by decide) ?_); (k_whole)) | (clear mk2; walk1; all_goals (try (with_reducible refine addMark (x := "eval ListComp") fun mk2 => ?_)))) | ((with_reducible refine unhalt (x := "call type:zip") ?_); first | ((with_reducible show wpAny _ _ (call (Value.type _) [Value.ref _, Value.ref _]) _ _ _); (refine' zip_N (by k_asm) (by k_asm) (by k_mem) (by k_mem) ?_); (k_whole); (intro z' TI' TO' i1' i2' o1' o2' h' Z' F' N' l1' lL')) | (clear mk3; walk1; all_goals (try (with_reducible refine addMark (x := "call type:zip") fun mk3 => ?_)))) | ((with_reducible refine unhalt (x := "call builtin:sorted") ?_); first | ((with_reducible show wpAny _ _ (call (Value.builtin _) [Value.ref _]) _ _ _); (first | ((with_unfolding_all refine' srt1 (by (k_asm)) (by (k_asm)) (by (k_mem)) ?_); (k_whole); (intro D' h' e' u1 F' N' l1)) | ((with_unfolding_all refine' srt2 (by (k_asm)) (by (k_asm)) (by (k_mem)) ?_); (k_whole); (intro D' h' e' z0 z1 u0 u1 q1 F' N' l1)) | ((with_unfolding_all refine' srt3 (by (k_asm)) (by (k_asm)) (by (k_mem)) ?_); (k_whole); (intro D' h' e' z0 z1 z2 u0 u1 u2 q1 F' N' l1)) | ((with_unfolding_all refine' srt4 (by (k_asm)) (by (k_asm)) (by (k_mem)) ?_); (k_whole); (intro D' h' e' z0 z1 z2 z3 u0 u1 u2 u3 q1 F' N' l1))); (k_lt l1); (try k_sweep)) | (clear mk4; walk1; all_goals (try (with_reducible refine addMark (x := "call builtin:sorted") fun mk4 => ?_)))) | (k_unfold; (try dsimp only)) | (k_end; kc_close) | walk1 | (dsimp only; walk1) | (leave1; (try dsimp only)) | fail "no step"))
  · exact ret_b (bel1 (by assumption)) (hret _ _ (G.back (by assumption) (by assumption) (sub1 (by k_mem) (sub1 (by k_mem) sub0))))
  · exact ret_b (bel2 (by assumption) (by assumption) (by assumption)) (hret _ _ (G.back (by assumption) (by assumption) (sub1 (by k_mem) (sub1 (by k_mem) sub0))))
  · exact ret_b (bel3 (by assumption) (by assumption) (by assumption)) (hret _ _ (G.back (by assumption) (by assumption) (sub1 (by k_mem) (sub1 (by k_mem) sub0))))
  · exact ret_b (bel4 (by assumption) (by assumption) (by assumption) (by assumption) (by assumption) (by assumption) (by assumption)) (hret _ _ (G.back (by assumption) (by assumption) (sub1 (by k_mem) (sub1 (by k_mem) sub0))))
end Mine
end
/-! Ops -/
section
open PySem PySem.W PySem.Spec PySem.Calls PyProof.Rows
set_option maxRecDepth 100000
set_option maxHeartbeats 0
namespace Mine
def Halt (p : Prop) : Prop := p
theorem halt {p : Prop} (h : Halt p) : p := h
def opS (x : Str) (n : Int) : Str := if n = 0 then x else if n = 1 then x ++ x else x ++ x ++ Str.ofString "="
theorem ops_ok {w : World} {loose : List Str} {p : Program} {mean : ExcName → Option Value} {mg mb : Str → Option Value}
  {dp un : Nat} {fr : Option (List Env)} {gd : Option (List Code)} {h₀ : Heap} {s : Shared} {Q E : Value → Shared → Prop}
  {an : Addr} {e1 : Nat} {vs : List Value} {ns : List Int} {x : Str} {tx : Tok}
  (T : Top p loose mean mg mb h₀) (E₀ : Ext h₀ s.heap)
  (hna : s.heap.get? an = some (W.listOf vs.toArray e1)) (hn0 : h₀.get? an = none) (hi : IntsAre vs ns)
  (hns : ∀ n ∈ ns, n = 0 ∨ n = 1 ∨ n = 2) (hlen : ns.length ≤ 64) (hx : x.length ≤ 64)
  (hdp : dp + 3 < recursionLimit) (hu : un + 24 < cLine)
  (hret : ∀ D ys h' tk', StrsAre ys (ns.map (opS x)) → Ext s.heap h' → (h'.get? D = some (LCg.lst ys) ∧ ∀ o', s.heap.get? D = some o' → D ∈ [an]) → Q (.ref D) { s with heap := h', toks := tk' }) :
   (KK w.params).In h₀ → wpAny (model (RW.row.toRowW.prog) w) (Rm dp un fr gd) (call (.ref 134) [.str x tx, .ref an]) Q E s := by
  k_fill
  intro X₀
  refine wpAny_call ?_
  refine' enterC [(an, W.listOf vs.toArray e1)] X₀ T E₀ ?kH ?k6 ?k7 ?k8 ?k9 ?kB ?kD ?_ ?c2 ?c3 ?c4
  case kH => simp [hna, hn0]
  case k6 => k_is
  case k7 => k_is
  case k8 => ktr_room
  case k9 => exact BindsTo.of_eq rfl
  case kB => exact rfl
  case kD => decide +kernel
  case c2 => exact rfl
  case c3 => exact rfl
  case c4 => exact rfl
  intro g L' h₁ tk' cells' G F' N' Y' X' T' l1
  k_cells Y'
  simp only [List.cons_append, List.nil_append] at N'
  dsimp only
  ((try clear mk0); have mk0 : Mark "CompSrc"   := ⟨trivial⟩; (try clear mk1); have mk1 : Mark "CompEnd"   := ⟨trivial⟩; repeat' (first | ((with_reducible refine unhalt (x := "CompSrc") ?_); first | ((refine halt ?_)) | (clear mk0; walk1; all_goals (try (with_reducible refine addMark (x := "CompSrc") fun mk0 => ?_)))) | ((with_reducible refine unhalt (x := "CompEnd") ?_); first | ((refine halt ?_)) | (clear mk1; walk1; all_goals (try (with_reducible refine addMark (x := "CompEnd") fun mk1 => ?_)))) | (k_unfold; (try dsimp only)) | (k_end; kc_close) | walk1 | (dsimp only; walk1) | (leave1; (try dsimp only)) | fail "no step"))
  unfold Halt
  rename_i o' d1'
  have hlv : vs.length = ns.length := hi.length
  have hsz : vs.toArray.size ≤ sizeLine := by rw [List.size_toArray, hlv]; exact Nat.le_trans hlen (Nat.le_of_ble_eq_true rfl)
  refine LCg.CompSrc.ledger rfl (by k_asm) N' (.tail _ (.head _)) hsz ?_
  intro g'
  refine rest_inv (n := vs.toArray.size) (fun i ys live => live = [(L' + 1, o'), (an, W.listOf vs.toArray e1)] ∧ StrsAre ys ((ns.take i).map (opS x))) ?turn ?fin _ 0 [] _ (Nat.zero_add _) ⟨rfl, .nil⟩
  case turn =>
    rintro i ys _ v I oI C oC D m₂ h tk E' hlt ⟨rfl, hys⟩ hP hC hx2 F2 N2 off ne
    obtain ⟨n, hn, t, rfl⟩ : ∃ n, ns[i]? = some n ∧ ∃ t, v = .int n t := by
      have hlt' : i < ns.length := by rw [← hlv]; simpa using hlt
      obtain ⟨t, hx⟩ := hi.get i ns[i] (by simp [hlt'])
      have hP' : vs[i]? = some v := by simpa using hP
      exact ⟨ns[i], by simp [hlt'], t, Option.some.inj (hP'.symm.trans hx)⟩
    have off0 := off
    simp only [LCg.Off3, and_true] at off
    clear N'
    rcases hns n (List.mem_of_getElem? hn) with rfl | rfl | rfl
    all_goals (
      ((try clear mk0); have mk0 : Mark "CompSrc"   := ⟨trivial⟩; (try clear mk1); have mk1 : Mark "CompEnd"   := ⟨trivial⟩; repeat' (first | ((with_reducible refine unhalt (x := "CompSrc") ?_); first | ((refine halt ?_)) | (clear mk0; walk1; all_goals (try (with_reducible refine addMark (x := "CompSrc") fun mk0 => ?_)))) | ((with_reducible refine unhalt (x := "CompEnd") ?_); first | ((refine halt ?_)) | (clear mk1; walk1; all_goals (try (with_reducible refine addMark (x := "CompEnd") fun mk1 => ?_)))) | (k_unfold; (try dsimp only)) | (k_end; kc_close) | walk1 | (dsimp only; walk1) | (leave1; (try dsimp only)) | fail "no step"))
      unfold Halt
      refine' LCg.CompEnd.intro ?cF ?cN [(L' + 1, o'), (an, W.listOf vs.toArray e1)] ?csub ?coff ?cS ⟨rfl, ?cr⟩
      case cF => assumption
      case cN => assumption
      case csub => exact sub1 (by k_mem) (sub1 (by k_mem) (sub1 (by k_mem) (sub1 (by k_mem) (sub1 (by k_mem) sub0))))
      case coff => exact off0
      case cS => exact .inr ⟨_, .tail _ (.head _), rfl, _, rfl⟩
      case cr =>
        rw [List.take_add_one, hn, List.map_append]
        exact kct_snoc hys)
  case fin =>
    rintro ys _ ⟨rfl, hys⟩ D h tk F2 N2 o1
    have e9 : vs.toArray.size = ns.length := by rw [List.size_toArray, hlv]
    rw [e9, List.take_length] at hys
    exact hret D ys _ _ hys (G.back F2 N2 (sub1 (by k_mem) sub0)) (G.off N2 (by k_mem))
end Mine
end
/-! Hand -/
section
open PySem PySem.W PySem.Spec PySem.Calls PyProof.Rows
set_option maxRecDepth 100000
set_option maxHeartbeats 2000000
namespace Mine
def handA (k : Int) : Addr := if k = 0 then 87 else if k = 1 then 94 else if k = 2 then 101 else if k = 3 then 108 else 115
def spS (k : Int) : List Str :=
  if k = 0 then [Str.ofString "&lt;", Str.ofString "&gt;", Str.ofString "\"", Str.ofString "\r", Str.ofString "\n"]
  else if k = 1 then [Str.ofString "&lt;", Str.ofString "&gt;", Str.ofString "&quot;", Str.ofString "&#13;", Str.ofString "&#10;"]
  else if k = 2 then [Str.ofString "<", Str.ofString "&gt;", Str.ofString "&quot;", Str.ofString "\r", Str.ofString "\n"]
  else if k = 3 then [Str.ofString "&lt;", Str.ofString "&gt;", Str.ofString "\"", Str.ofString "&#xD;", Str.ofString "\n"]
  else [Str.ofString "&lt;", Str.ofString ">", Str.ofString "&quot;", Str.ofString "&#xD;", Str.ofString "&#xA;"]
abbrev handObj (k : Int) (sl : Addr) : Obj := { cls := .type "tuple", data := .seq #[.ref (handA k), .ref sl] }
theorem hand_end {h₀ g h' : Heap} {s : Shared} {L' t sl a : Addr} {m' : Str → Option Value} {news' : List (Addr × Obj)} {k : Int} {vs : List Value} {Q : Value → Shared → Prop} {tk' : Nat} (G : Gr h₀ s.heap g [])
    (hret : ∀ t sl vs h' tk', StrsAre vs (spS k) → Ext s.heap h' → (h'.get? t = some (handObj k sl) ∧ s.heap.get? t = none) → (h'.get? sl = some (W.listOf vs.toArray 0) ∧ s.heap.get? sl = none) → Q (.ref t) { s with heap := h', toks := tk' })
    (F : Fr g L' h' m') (N : News g L' h' news') (ht : (t, ({ cls := .type "tuple", data := .seq #[.ref a, .ref sl] } : Obj)) ∈ news') (hsl : (sl, W.listOf vs.toArray 0) ∈ news') (ha : a = handA k) (hs : StrsAre vs (spS k)) :
    Q (.ref t) { s with heap := h', toks := tk' } := by
  subst ha
  have a1 := G.fresh F N ht (fun _ h => nomatch h)
  have a2 := G.fresh F N hsl (fun _ h => nomatch h)
  exact hret t sl vs h' tk' hs (G.back F N (fun _ h => nomatch h)) ⟨a1.2, a1.1⟩ ⟨a2.2, a2.1⟩
theorem hand_ok {w : World} {loose : List Str} {p : Program} {mean : ExcName → Option Value} {mg mb : Str → Option Value}
  {dp un : Nat} {fr : Option (List Env)} {gd : Option (List Code)} {h₀ : Heap} {s : Shared} {Q E : Value → Shared → Prop}
  {k : Int} {tx : Tok}
  (T : Top p loose mean mg mb h₀) (E₀ : Ext h₀ s.heap) (hk0 : 0 ≤ k) (hk5 : k < 5)
  (hdp : dp + 3 < recursionLimit) (hu : un + 24 < cLine)
  (hret : ∀ t sl vs h' tk', StrsAre vs (spS k) → Ext s.heap h' → (h'.get? t = some (handObj k sl) ∧ s.heap.get? t = none) → (h'.get? sl = some (W.listOf vs.toArray 0) ∧ s.heap.get? sl = none) → Q (.ref t) { s with heap := h', toks := tk' }) :
   (KK w.params).In h₀ → wpAny (model (RW.row.toRowW.prog) w) (Rm dp un fr gd) (call (.ref 129) [.int k tx]) Q E s := by
  k_fill
  intro X₀
  refine wpAny_call ?_
  refine' enter [] X₀ T E₀ ?kH ?k6 ?k7 ?k8 ?k9 ?kB ?_ ?c2 ?c3 ?c4 ?c5
  case kH => exact fun _ h => nomatch h
  case k6 => k_is
  case k7 => k_is
  case k8 => ktr_room
  case k9 => exact BindsTo.of_eq rfl
  case c5 => decide
  case kB => exact locs rfl
  case c2 => exact rfl
  case c3 => exact rfl
  case c4 => exact rfl
  intro g L' h₁ G F' N' X' T'
  k_steps
  all_goals (
    rename_i hkk hkM
    clear hk0 hk5
    subst hkk
    refine' hand_end G hret ?cF ?cN ?ct ?csl ?ca ?cs
    case cF => assumption
    case cN => assumption
    case ct => k_mem
    case csl => k_mem
    case ca => rfl
    case cs => exact .cons _ _ (.cons _ _ (.cons _ _ (.cons _ _ (.cons _ _ .nil)))))
end Mine
end
/-! EscBase -/
section
open PySem PySem.W PySem.Spec PySem.Calls PyProof.Rows
set_option maxRecDepth 100000
set_option maxHeartbeats 400000
namespace Mine
/-- a sign's place taken by a text -/
def subst1 (c : Nat) (z : List Nat) (l : List Nat) : List Nat := l.flatMap fun k => if k = c then z else [k]
theorem subst1_free (c : Nat) (z : List Nat) : ∀ l : List Nat, c ∉ l → subst1 c z l = l
  | [], _ => rfl
  | k :: r, h => by
    have h1 : ¬ k = c := fun e => h (e ▸ List.mem_cons_self ..)
    have ih := subst1_free c z r fun m => h (List.mem_cons_of_mem _ m)
    unfold subst1 at ih ⊢
    rw [List.flatMap_cons, if_neg h1, ih]; rfl
theorem subst1_join (c : Nat) (z : Str) : ∀ parts : List Str, (∀ p ∈ parts, c ∉ p.cps.toList) → subst1 c z.cps.toList (Str.join ⟨#[c]⟩ parts).cps.toList = (Str.join z parts).cps.toList
  | [], _ => rfl
  | [p], h => subst1_free c _ _ (h p (List.mem_singleton.mpr rfl))
  | p :: q :: r, h => by
    have ih := subst1_join c z (q :: r) fun a ha => h a (List.mem_cons_of_mem _ ha)
    show subst1 c z.cps.toList (p ++ ⟨#[c]⟩ ++ Str.join ⟨#[c]⟩ (q :: r)).cps.toList = (p ++ z ++ Str.join z (q :: r)).cps.toList
    simp only [Str.cps_append, Array.toList_append]
    have hp := subst1_free c z.cps.toList _ (h p (List.mem_cons_self ..))
    rw [← ih]
    unfold subst1 at hp ⊢
    rw [List.flatMap_append, List.flatMap_append, hp]
    simp
theorem replace_map (x z : Str) (c : Nat) : (Txt.replace x ⟨#[c]⟩ z).cps.toList = subst1 c z.cps.toList x.cps.toList := by
  rw [StrLaws.replace_one, ← subst1_join c z _ (StrLaws.split_free x c), StrLaws.join_split]
theorem strExt {a b : Str} (h : a.cps.toList = b.cps.toList) : a = b := by
  cases a; cases b
  simp only at h
  congr
  exact Array.ext' h
theorem replace_none {x z : Str} {c : Nat} (h : c ∉ x.cps.toList) : Txt.replace x ⟨#[c]⟩ z = x := strExt (by rw [replace_map, subst1_free c _ _ h])
open Builtin Builtin.Str in
theorem replaceM {prog : Program} {w : World} {A : Around} {E : Value → Shared → Prop} {s : Shared} {x y z : Str} {t u v : Tok} {Q : Value → Shared → Prop} (hu : u ≠ 0) (hv : v ≠ 0) (huv : u ≠ v) (hyz : (y == z) = false) (hb : x.length + (x.length + 1) * z.length ≤ 16777216)
    (hq : ∀ t' k, s.toks ≤ k → Q (.str (Txt.replace x y z) t') { s with toks := k }) : wpAny (model prog w) A (call (.builtin "str.replace") [.str x t, .str y u, .str z v]) Q E s := by
  have e : (2 : Nat) ^ 24 = 16777216 := by decide
  have hl : tooLong (x.length + (occurrences x y 0 x.length (x.length + 1)).length * z.length) = false := by
    have h1 := StrLaws.occ_length_le x y 0 x.length (x.length + 1)
    have h2 : (occurrences x y 0 x.length (x.length + 1)).length * z.length ≤ (x.length + 1) * z.length := Nat.mul_le_mul_right _ h1
    unfold tooLong sizeLine
    exact decide_eq_false (by omega)
  refine call_gives F.slot_str_replace (typeIs_str _ _ _) F.entry_str_replace (F.args_str_replace_3 _ _ _)
    (gives_str_replace x y z t u v fun _ => ⟨by simp [hu, hv], by simp [huv], hyz, hl⟩) ?_
  have hq' := hq
  unfold Txt.replace at hq'
  cases hc : ((occurrences x y 0 x.length (x.length + 1)).isEmpty || (y.length == 0 && z.length == 0))
  · rw [hc] at hq'
    simp only [Bool.false_eq_true, if_false] at hq' ⊢
    exact ⟨fits_replaced y hb, hq' _ _ (Nat.le_succ _)⟩
  · rw [hc] at hq'
    simp only [if_true] at hq' ⊢
    exact hq' t s.toks (Nat.le_refl _)
abbrev Rules := List (Nat × Str)
def chainL (rs : Rules) (l : List Nat) : List Nat := rs.foldl (fun l p => subst1 p.1 p.2.cps.toList l) l
def esc (rs : Rules) (x : Str) : Str := rs.foldl (fun x p => Txt.replace x ⟨#[p.1]⟩ p.2) x
def goodR (rs : Rules) : Bool := rs.all fun p => decide ((chainL rs [p.1]).length ≤ 6)
theorem subst1_flat (c : Nat) (z : List Nat) (f : Nat → List Nat) (l : List Nat) : subst1 c z (l.flatMap f) = l.flatMap fun k => subst1 c z (f k) := by
  unfold subst1
  rw [List.flatMap_assoc]
theorem chainL_flat (rs : Rules) : ∀ (f : Nat → List Nat) (l : List Nat), chainL rs (l.flatMap f) = l.flatMap fun k => chainL rs (f k) := by
  induction rs with
  | nil => intro f l; rfl
  | cons p r ih =>
    intro f l
    show chainL r (subst1 p.1 p.2.cps.toList (l.flatMap f)) = l.flatMap fun k => chainL r (subst1 p.1 p.2.cps.toList (f k))
    rw [subst1_flat, ih]
theorem chainL_one (rs : Rules) (l : List Nat) : chainL rs l = l.flatMap fun k => chainL rs [k] := by
  have h := chainL_flat rs (fun k => [k]) l
  have e : l.flatMap (fun k => [k]) = l := by simp
  rw [e] at h
  exact h
theorem esc_cps (rs : Rules) : ∀ x : Str, (esc rs x).cps.toList = chainL rs x.cps.toList := by
  induction rs with
  | nil => intro x; rfl
  | cons p r ih =>
    intro x
    show (esc r (Txt.replace x ⟨#[p.1]⟩ p.2)).cps.toList = chainL r (subst1 p.1 p.2.cps.toList x.cps.toList)
    rw [ih, replace_map]
theorem esc_map (rs : Rules) (x : Str) : (esc rs x).cps.toList = x.cps.toList.flatMap fun k => chainL rs [k] := by rw [esc_cps, chainL_one]
theorem chainL_off (rs : Rules) (k : Nat) (h : ∀ p ∈ rs, p.1 ≠ k) : chainL rs [k] = [k] := by
  induction rs with
  | nil => rfl
  | cons p r ih =>
    show chainL r (subst1 p.1 p.2.cps.toList [k]) = [k]
    have e : subst1 p.1 p.2.cps.toList [k] = [k] := by
      have : ¬ k = p.1 := fun e => h p (List.mem_cons_self ..) e.symm
      simp [subst1, this]
    rw [e]
    exact ih fun q hq => h q (List.mem_cons_of_mem _ hq)
theorem chainL_le {rs : Rules} (g : goodR rs = true) (k : Nat) : (chainL rs [k]).length ≤ 6 := by
  by_cases h : ∀ p ∈ rs, p.1 ≠ k
  · rw [chainL_off rs k h]; simp
  · have ⟨p, hp, e⟩ : ∃ p ∈ rs, p.1 = k := Classical.byContradiction fun q => h fun p hp e => q ⟨p, hp, e⟩
    have := List.all_eq_true.mp g p hp
    rw [← e]
    exact of_decide_eq_true this
theorem flat_len {f : Nat → List Nat} (h : ∀ k, (f k).length ≤ 6) : ∀ l : List Nat, (l.flatMap f).length ≤ 6 * l.length
  | [] => Nat.le_refl _
  | k :: r => by
    rw [List.flatMap_cons, List.length_append, List.length_cons]
    have h1 := h k
    have h2 := flat_len h r
    omega
theorem len_cps (x : Str) : x.length = x.cps.toList.length := by simp [Str.length]
theorem esc_len {rs : Rules} (g : goodR rs = true) (x : Str) : (esc rs x).length ≤ 6 * x.length := by
  rw [len_cps, len_cps, esc_map]
  exact flat_len (chainL_le g) _
theorem esc_snoc (rs : Rules) (c : Nat) (r x : Str) : esc (rs ++ [(c, r)]) x = Txt.replace (esc rs x) ⟨#[c]⟩ r := by
  unfold esc; rw [List.foldl_append]; rfl
section
variable {prog : Program} {w : World} {A : Around} {E : Value → Shared → Prop} {s : Shared} {h₀ : Heap} {L a : Addr} {m : Str → Option Value} {cn : Str} {scope : Scope} {cd : Value} {news : List (Addr × Obj)} {Q : Flow → Shared → Prop}
theorem esc_if0 {x r : Str} {c : Nat} {tx : Tok} {p1 p2 p3 p4 p5 p6 p7 p8 p9 p10 p11 : Pos} (F : Fr h₀ L s.heap m) (N : News h₀ L s.heap news) (hm : m (Str.ofString "text") = some (.str x tx)) (hyz : ((⟨#[c]⟩ : Str) == r) = false) (hx : x.length ≤ 100000) (hr : r.length ≤ 8)
    (hk : scope.kind = .function) (hl : (envOf cn scope L a cd).kindOf (Str.ofString "text") = some .local) 
    (pl : Sem Bool) (he : eval (.Call (.Attribute (.Name (Str.ofString "text") p5) (Str.ofString "replace") p6) [.Constant (.str ⟨#[c]⟩) 0 p7, .Constant (.str r) 0 p8] [] p9) (envOf cn scope L a cd) = (do
      let ov ← eval (.Name (Str.ofString "text") p5) (envOf cn scope L a cd)
      standAt p6.atName
      let (f, first) ← holding [ov] (getMethod ov (Str.ofString "replace") pl)
      callWith p9 f first (backTo p9 (starEach [.Constant (.str ⟨#[c]⟩) 0 p7, .Constant (.str r) 0 p8] (envOf cn scope L a cd))) []))
    (h : ∀ t' h' k, Fr h₀ L h' (fun y => if y = (Str.ofString "text") then some (.str (Txt.replace x ⟨#[c]⟩ r) t') else m y) → News h₀ L h' news → Q .next { s with heap := h', toks := k }) :
    wpAny (model prog w) A (exec (.If (.Compare (.Constant (.str ⟨#[c]⟩) 0 p1) [.In] [.Name (Str.ofString "text") p2] p3) [.Assign [.Name (Str.ofString "text") p4] (.Call (.Attribute (.Name (Str.ofString "text") p5) (Str.ofString "replace") p6) [.Constant (.str ⟨#[c]⟩) 0 p7, .Constant (.str r) 0 p8] [] p9) p10] [] p11) (envOf cn scope L a cd)) Q E s := by
  have hb : x.length + (x.length + 1) * r.length ≤ 16777216 := by
    have h1 : (x.length + 1) * r.length ≤ (x.length + 1) * 8 := Nat.mul_le_mul_left _ hr
    omega
  walk1
  walk1
  walk1
  refine ld F hm ?_ hk hl (by decide)
  walk1
  walk1
  rw [StrLaws.found_one]
  by_cases hc : c ∈ x.cps.toList
  · rw [if_pos (decide_eq_true hc)]
    walk1
    walk1
    refine MethodCall_ (pl := pl) ?_ he
    refine ld F hm ?_ hk hl (by decide)
    walk1
    walk1
    walk1
    walk1
    walk1
    walk1
    walk1
    refine replaceM (Nat.succ_ne_zero _) (Nat.succ_ne_zero _) (Nat.ne_of_lt (Nat.lt_succ_self _)) hyz hb fun t' k hkk => ?_
    refine stN F N (fun h' F' N' => ?_) hk hl
    refine wpAny_execs_nil ?_
    exact h t' h' (k + 1) F' N'
  · rw [if_neg (by simpa using hc)]
    walk1
    have e : (fun y => if y = (Str.ofString "text") then some (Value.str (Txt.replace x ⟨#[c]⟩ r) tx) else m y) = m := by
      funext y
      by_cases hy : y = (Str.ofString "text")
      · rw [if_pos hy, replace_none hc, hy, hm]
      · rw [if_neg hy]
    have q := h tx s.heap (s.toks + 1) (by rw [e]; exact F) N
    exact q
theorem esc_if {x r cs : Str} {rs : Rules} {c : Nat} {tx : Tok} {p1 p2 p3 p4 p5 p6 p7 p8 p9 p10 p11 : Pos} (hcs : cs = ⟨#[c]⟩) (F : Fr h₀ L s.heap m) (N : News h₀ L s.heap news) (hm : m (Str.ofString "text") = some (.str (esc rs x) tx)) (hyz : (cs == r) = false) (g : goodR rs = true) (hx : x.length ≤ 10000) (hr : r.length ≤ 8)
    (hk : scope.kind = .function) (hl : (envOf cn scope L a cd).kindOf (Str.ofString "text") = some .local)
    (pl : Sem Bool) (he : eval (.Call (.Attribute (.Name (Str.ofString "text") p5) (Str.ofString "replace") p6) [.Constant (.str cs) 0 p7, .Constant (.str r) 0 p8] [] p9) (envOf cn scope L a cd) = (do
      let ov ← eval (.Name (Str.ofString "text") p5) (envOf cn scope L a cd)
      standAt p6.atName
      let (f, first) ← holding [ov] (getMethod ov (Str.ofString "replace") pl)
      callWith p9 f first (backTo p9 (starEach [.Constant (.str cs) 0 p7, .Constant (.str r) 0 p8] (envOf cn scope L a cd))) []))
    (h : ∀ t' h' k, Fr h₀ L h' (fun y => if y = Str.ofString "text" then some (.str (esc (rs ++ [(c, r)]) x) t') else m y) → News h₀ L h' news → Q .next { s with heap := h', toks := k }) :
    wpAny (model prog w) A (exec (.If (.Compare (.Constant (.str cs) 0 p1) [.In] [.Name (Str.ofString "text") p2] p3) [.Assign [.Name (Str.ofString "text") p4] (.Call (.Attribute (.Name (Str.ofString "text") p5) (Str.ofString "replace") p6) [.Constant (.str cs) 0 p7, .Constant (.str r) 0 p8] [] p9) p10] [] p11) (envOf cn scope L a cd)) Q E s := by
  subst hcs
  refine esc_if0 F N hm hyz (Nat.le_trans (esc_len g x) (by omega)) hr hk hl pl he fun t' h' k F' N' => ?_
  rw [← esc_snoc] at F'
  exact h t' h' k F' N'
end
def rulesK (k : Int) : Rules :=
  if k = 0 then [(38, Str.ofString "&amp;"), (60, Str.ofString "&lt;"), (62, Str.ofString "&gt;")]
  else if k = 1 then [(38, Str.ofString "&amp;"), (60, Str.ofString "&lt;"), (62, Str.ofString "&gt;"), (34, Str.ofString "&quot;"), (13, Str.ofString "&#13;"), (10, Str.ofString "&#10;"), (9, Str.ofString "&#09;")]
  else if k = 2 then [(38, Str.ofString "&amp;"), (62, Str.ofString "&gt;"), (34, Str.ofString "&quot;")]
  else if k = 3 then [(38, Str.ofString "&amp;"), (60, Str.ofString "&lt;"), (62, Str.ofString "&gt;"), (13, Str.ofString "&#xD;")]
  else [(38, Str.ofString "&amp;"), (60, Str.ofString "&lt;"), (34, Str.ofString "&quot;"), (9, Str.ofString "&#x9;"), (10, Str.ofString "&#xA;"), (13, Str.ofString "&#xD;")]
def escK (k : Int) (x : Str) : Str := esc (rulesK k) x

theorem lit38 : Str.ofString "&" = ⟨#[38]⟩ := by decide
theorem lit60 : Str.ofString "<" = ⟨#[60]⟩ := by decide
theorem lit62 : Str.ofString ">" = ⟨#[62]⟩ := by decide
theorem lit34 : Str.ofString "\"" = ⟨#[34]⟩ := by decide
theorem lit13 : Str.ofString "\r" = ⟨#[13]⟩ := by decide
theorem lit10 : Str.ofString "\n" = ⟨#[10]⟩ := by decide
theorem lit9 : Str.ofString "\t" = ⟨#[9]⟩ := by decide
end Mine
end
/-! Esc -/
section
open PySem PySem.W PySem.Spec PySem.Calls PyProof.Rows
set_option maxRecDepth 100000
set_option maxHeartbeats 0
namespace Mine
theorem fr_put {h₀ h : Heap} {L : Addr} {m : Str → Option Value} {n : Str} {v : Value} (F : Fr h₀ L h m) (e : m n = some v) : Fr h₀ L h (fun y => if y = n then some v else m y) := by
  have e : (fun y => if y = n then some v else m y) = m := by
    funext y
    by_cases h2 : y = n
    · rw [if_pos h2, h2, e]
    · rw [if_neg h2]
  rw [e]; exact F
theorem esc0_ok {w : World} {loose : List Str} {p : Program} {mean : ExcName → Option Value} {mg mb : Str → Option Value}
  {dp un : Nat} {fr : Option (List Env)} {gd : Option (List Code)} {h₀ : Heap} {s : Shared} {Q E : Value → Shared → Prop}
  {x : Str} {tx : Tok}
  (T : Top p loose mean mg mb h₀) (E₀ : Ext h₀ s.heap) (hlen : x.length ≤ 10000)
  (hdp : dp + 1 < recursionLimit) (hu : un + 8 < cLine)
  (hret : ∀ t h' tk', Ext s.heap h' → Q (.str (escK 0 x) t) { s with heap := h', toks := tk' }) :
   (KK w.params).In h₀ → wpAny (model (RW.row.toRowW.prog) w) (Rm dp un fr gd) (call (.ref 87) [.str x tx]) Q E s := by
  k_fill
  intro X₀
  refine wpAny_call ?_
  refine' enter [] X₀ T E₀ ?kH ?k6 ?k7 ?k8 ?k9 ?kB ?_ ?c2 ?c3 ?c4 ?c5
  case kH => exact fun _ h => nomatch h
  case k6 => k_is
  case k7 => k_is
  case k8 => ktr_room
  case k9 => exact BindsTo.of_eq rfl
  case c5 => decide
  case kB => exact locs rfl
  case c2 => exact rfl
  case c3 => exact rfl
  case c4 => exact rfl
  intro g L' h₁ G F' N' X' T'
  have F2 := fr_put (n := Str.ofString "text") (v := .str (esc [] x) tx) F' rfl
  clear F'
  ((try clear mk0); have mk0 : Mark "exec If"   := ⟨trivial⟩; repeat' (first | ((with_reducible refine unhalt (x := "exec If") ?_); first | ((refine' esc_if (rs := _) (by (first | exact lit38 | exact lit60 | exact lit62 | exact lit34 | exact lit13 | exact lit10 | exact lit9)) (by k_asm) (by k_asm) (by exact rfl) (by decide) (by decide) (by assumption) (by decide) (by rfl) (by rfl) _ (by rfl) ?_); (intro t' h' k' F' N')) | (clear mk0; walk1; all_goals (try (with_reducible refine addMark (x := "exec If") fun mk0 => ?_)))) | (k_unfold; (try dsimp only)) | (k_end; kc_close) | walk1 | (dsimp only; walk1) | (leave1; (try dsimp only)) | fail "no step"))
  exact hret _ _ _ (G.back (by assumption) (by assumption) (fun _ h => nomatch h))
theorem esc1_ok {w : World} {loose : List Str} {p : Program} {mean : ExcName → Option Value} {mg mb : Str → Option Value}
  {dp un : Nat} {fr : Option (List Env)} {gd : Option (List Code)} {h₀ : Heap} {s : Shared} {Q E : Value → Shared → Prop}
  {x : Str} {tx : Tok}
  (T : Top p loose mean mg mb h₀) (E₀ : Ext h₀ s.heap) (hlen : x.length ≤ 10000)
  (hdp : dp + 1 < recursionLimit) (hu : un + 8 < cLine)
  (hret : ∀ t h' tk', Ext s.heap h' → Q (.str (escK 1 x) t) { s with heap := h', toks := tk' }) :
   (KK w.params).In h₀ → wpAny (model (RW.row.toRowW.prog) w) (Rm dp un fr gd) (call (.ref 94) [.str x tx]) Q E s := by
  k_fill
  intro X₀
  refine wpAny_call ?_
  refine' enter [] X₀ T E₀ ?kH ?k6 ?k7 ?k8 ?k9 ?kB ?_ ?c2 ?c3 ?c4 ?c5
  case kH => exact fun _ h => nomatch h
  case k6 => k_is
  case k7 => k_is
  case k8 => ktr_room
  case k9 => exact BindsTo.of_eq rfl
  case c5 => decide
  case kB => exact locs rfl
  case c2 => exact rfl
  case c3 => exact rfl
  case c4 => exact rfl
  intro g L' h₁ G F' N' X' T'
  have F2 := fr_put (n := Str.ofString "text") (v := .str (esc [] x) tx) F' rfl
  clear F'
  ((try clear mk0); have mk0 : Mark "exec If"   := ⟨trivial⟩; repeat' (first | ((with_reducible refine unhalt (x := "exec If") ?_); first | ((refine' esc_if (rs := _) (by (first | exact lit38 | exact lit60 | exact lit62 | exact lit34 | exact lit13 | exact lit10 | exact lit9)) (by k_asm) (by k_asm) (by exact rfl) (by decide) (by decide) (by assumption) (by decide) (by rfl) (by rfl) _ (by rfl) ?_); (intro t' h' k' F' N')) | (clear mk0; walk1; all_goals (try (with_reducible refine addMark (x := "exec If") fun mk0 => ?_)))) | (k_unfold; (try dsimp only)) | (k_end; kc_close) | walk1 | (dsimp only; walk1) | (leave1; (try dsimp only)) | fail "no step"))
  exact hret _ _ _ (G.back (by assumption) (by assumption) (fun _ h => nomatch h))
theorem esc2_ok {w : World} {loose : List Str} {p : Program} {mean : ExcName → Option Value} {mg mb : Str → Option Value}
  {dp un : Nat} {fr : Option (List Env)} {gd : Option (List Code)} {h₀ : Heap} {s : Shared} {Q E : Value → Shared → Prop}
  {x : Str} {tx : Tok}
  (T : Top p loose mean mg mb h₀) (E₀ : Ext h₀ s.heap) (hlen : x.length ≤ 10000)
  (hdp : dp + 1 < recursionLimit) (hu : un + 8 < cLine)
  (hret : ∀ t h' tk', Ext s.heap h' → Q (.str (escK 2 x) t) { s with heap := h', toks := tk' }) :
   (KK w.params).In h₀ → wpAny (model (RW.row.toRowW.prog) w) (Rm dp un fr gd) (call (.ref 101) [.str x tx]) Q E s := by
  k_fill
  intro X₀
  refine wpAny_call ?_
  refine' enter [] X₀ T E₀ ?kH ?k6 ?k7 ?k8 ?k9 ?kB ?_ ?c2 ?c3 ?c4 ?c5
  case kH => exact fun _ h => nomatch h
  case k6 => k_is
  case k7 => k_is
  case k8 => ktr_room
  case k9 => exact BindsTo.of_eq rfl
  case c5 => decide
  case kB => exact locs rfl
  case c2 => exact rfl
  case c3 => exact rfl
  case c4 => exact rfl
  intro g L' h₁ G F' N' X' T'
  have F2 := fr_put (n := Str.ofString "text") (v := .str (esc [] x) tx) F' rfl
  clear F'
  ((try clear mk0); have mk0 : Mark "exec If"   := ⟨trivial⟩; repeat' (first | ((with_reducible refine unhalt (x := "exec If") ?_); first | ((refine' esc_if (rs := _) (by (first | exact lit38 | exact lit60 | exact lit62 | exact lit34 | exact lit13 | exact lit10 | exact lit9)) (by k_asm) (by k_asm) (by exact rfl) (by decide) (by decide) (by assumption) (by decide) (by rfl) (by rfl) _ (by rfl) ?_); (intro t' h' k' F' N')) | (clear mk0; walk1; all_goals (try (with_reducible refine addMark (x := "exec If") fun mk0 => ?_)))) | (k_unfold; (try dsimp only)) | (k_end; kc_close) | walk1 | (dsimp only; walk1) | (leave1; (try dsimp only)) | fail "no step"))
  exact hret _ _ _ (G.back (by assumption) (by assumption) (fun _ h => nomatch h))
theorem esc3_ok {w : World} {loose : List Str} {p : Program} {mean : ExcName → Option Value} {mg mb : Str → Option Value}
  {dp un : Nat} {fr : Option (List Env)} {gd : Option (List Code)} {h₀ : Heap} {s : Shared} {Q E : Value → Shared → Prop}
  {x : Str} {tx : Tok}
  (T : Top p loose mean mg mb h₀) (E₀ : Ext h₀ s.heap) (hlen : x.length ≤ 10000)
  (hdp : dp + 1 < recursionLimit) (hu : un + 8 < cLine)
  (hret : ∀ t h' tk', Ext s.heap h' → Q (.str (escK 3 x) t) { s with heap := h', toks := tk' }) :
   (KK w.params).In h₀ → wpAny (model (RW.row.toRowW.prog) w) (Rm dp un fr gd) (call (.ref 108) [.str x tx]) Q E s := by
  k_fill
  intro X₀
  refine wpAny_call ?_
  refine' enter [] X₀ T E₀ ?kH ?k6 ?k7 ?k8 ?k9 ?kB ?_ ?c2 ?c3 ?c4 ?c5
  case kH => exact fun _ h => nomatch h
  case k6 => k_is
  case k7 => k_is
  case k8 => ktr_room
  case k9 => exact BindsTo.of_eq rfl
  case c5 => decide
  case kB => exact locs rfl
  case c2 => exact rfl
  case c3 => exact rfl
  case c4 => exact rfl
  intro g L' h₁ G F' N' X' T'
  have F2 := fr_put (n := Str.ofString "text") (v := .str (esc [] x) tx) F' rfl
  clear F'
  ((try clear mk0); have mk0 : Mark "exec If"   := ⟨trivial⟩; repeat' (first | ((with_reducible refine unhalt (x := "exec If") ?_); first | ((refine' esc_if (rs := _) (by (first | exact lit38 | exact lit60 | exact lit62 | exact lit34 | exact lit13 | exact lit10 | exact lit9)) (by k_asm) (by k_asm) (by exact rfl) (by decide) (by decide) (by assumption) (by decide) (by rfl) (by rfl) _ (by rfl) ?_); (intro t' h' k' F' N')) | (clear mk0; walk1; all_goals (try (with_reducible refine addMark (x := "exec If") fun mk0 => ?_)))) | (k_unfold; (try dsimp only)) | (k_end; kc_close) | walk1 | (dsimp only; walk1) | (leave1; (try dsimp only)) | fail "no step"))
  exact hret _ _ _ (G.back (by assumption) (by assumption) (fun _ h => nomatch h))
theorem esc4_ok {w : World} {loose : List Str} {p : Program} {mean : ExcName → Option Value} {mg mb : Str → Option Value}
  {dp un : Nat} {fr : Option (List Env)} {gd : Option (List Code)} {h₀ : Heap} {s : Shared} {Q E : Value → Shared → Prop}
  {x : Str} {tx : Tok}
  (T : Top p loose mean mg mb h₀) (E₀ : Ext h₀ s.heap) (hlen : x.length ≤ 10000)
  (hdp : dp + 1 < recursionLimit) (hu : un + 8 < cLine)
  (hret : ∀ t h' tk', Ext s.heap h' → Q (.str (escK 4 x) t) { s with heap := h', toks := tk' }) :
   (KK w.params).In h₀ → wpAny (model (RW.row.toRowW.prog) w) (Rm dp un fr gd) (call (.ref 115) [.str x tx]) Q E s := by
  k_fill
  intro X₀
  refine wpAny_call ?_
  refine' enter [] X₀ T E₀ ?kH ?k6 ?k7 ?k8 ?k9 ?kB ?_ ?c2 ?c3 ?c4 ?c5
  case kH => exact fun _ h => nomatch h
  case k6 => k_is
  case k7 => k_is
  case k8 => ktr_room
  case k9 => exact BindsTo.of_eq rfl
  case c5 => decide
  case kB => exact locs rfl
  case c2 => exact rfl
  case c3 => exact rfl
  case c4 => exact rfl
  intro g L' h₁ G F' N' X' T'
  have F2 := fr_put (n := Str.ofString "text") (v := .str (esc [] x) tx) F' rfl
  clear F'
  ((try clear mk0); have mk0 : Mark "exec If"   := ⟨trivial⟩; repeat' (first | ((with_reducible refine unhalt (x := "exec If") ?_); first | ((refine' esc_if (rs := _) (by (first | exact lit38 | exact lit60 | exact lit62 | exact lit34 | exact lit13 | exact lit10 | exact lit9)) (by k_asm) (by k_asm) (by exact rfl) (by decide) (by decide) (by assumption) (by decide) (by rfl) (by rfl) _ (by rfl) ?_); (intro t' h' k' F' N')) | (clear mk0; walk1; all_goals (try (with_reducible refine addMark (x := "exec If") fun mk0 => ?_)))) | (k_unfold; (try dsimp only)) | (k_end; kc_close) | walk1 | (dsimp only; walk1) | (leave1; (try dsimp only)) | fail "no step"))
  exact hret _ _ _ (G.back (by assumption) (by assumption) (fun _ h => nomatch h))
end Mine
end
/-! NewLex -/
section
open PySem PySem.W PySem.Spec PySem.Calls PyProof.Rows
set_option maxRecDepth 100000
set_option maxHeartbeats 400000
namespace Mine
theorem gr_ext {h₀ h g h' : Heap} {L' : Addr} {m' : Str → Option Value} {hid : List (Addr × Obj)} (G : Gr h₀ h g hid) (F : Fr g L' h' m') :
    ∀ b o, b ∉ hid.map (·.1) → h.get? b = some o → h'.get? b = some o := fun b o hb e => F.keep _ _ (G.keep b o e hb)
theorem fr_but {h₀ h h' : Heap} {L : Addr} {m : Str → Option Value} {S : List Addr} (F : Fr h₀ L h m) (hk : ∀ b o, b ∉ S → h.get? b = some o → h'.get? b = some o) (hS : ∀ b ∈ S, b ≠ L ∧ h₀.get? b = none) : Fr h₀ L h' m :=
  ⟨F.ns.at' fun o e => hk L o (fun hm => (hS L hm).1 rfl) e, fun b o e => hk b o (fun hm => by rw [(hS b hm).2] at e; cases e) (F.keep b o e), F.above⟩
theorem news_but {h₀ h h' : Heap} {L : Addr} {S : List Addr} {news : List (Addr × Obj)} (N : News h₀ L h news) (hk : ∀ b o, b ∉ S → h.get? b = some o → h'.get? b = some o) (hS : ∀ p ∈ news, p.1 ∉ S) : News h₀ L h' news :=
  fun p hp => ⟨hk _ _ (hS p hp) (N p hp).1, (N p hp).2⟩
/-- an object that stands behind a call, hidden ones or new ones -/
theorem gr_new {h₀ h g h' : Heap} {L L' r : Addr} {m : Str → Option Value} {o : Obj} {hid news' : List (Addr × Obj)} (F : Fr h₀ L h m) (G : Gr h₀ h g hid) (hh : ∀ q ∈ hid, q.1 ≠ L ∧ h₀.get? q.1 = none) (N : News g L' h' news') (hr : (r, o) ∈ news') :
    h'.get? r = some o ∧ r ≠ L ∧ h₀.get? r = none := by
  refine ⟨(N _ hr).1, ?_⟩
  by_cases hb : r ∈ hid.map (·.1)
  · obtain ⟨q, hq, rfl⟩ := List.mem_map.mp hb
    exact hh q hq
  · have key : ∀ o', h.get? r = some o' → False := fun o' q => by
      have := G.keep _ _ q hb
      rw [(N _ hr).2.2] at this
      cases this
    refine ⟨?_, ?_⟩
    · rintro rfl
      obtain ⟨oL, _, _, hL, _⟩ := F.ns
      exact (key _ hL)
    · cases q : h₀.get? r with
      | none => rfl
      | some o' => exact (key _ (F.keep _ _ q)).elim
theorem News.cons3 {h₀ h : Heap} {L a b c : Addr} {oa ob oc : Obj} {news : List (Addr × Obj)} (A : h.get? a = some oa ∧ a ≠ L ∧ h₀.get? a = none) (B : h.get? b = some ob ∧ b ≠ L ∧ h₀.get? b = none) (C : h.get? c = some oc ∧ c ≠ L ∧ h₀.get? c = none) (N : News h₀ L h news) :
    News h₀ L h ((a, oa) :: (b, ob) :: (c, oc) :: news) := fun q hq => by
  rcases List.mem_cons.mp hq with rfl | hq
  · exact A
  rcases List.mem_cons.mp hq with rfl | hq
  · exact B
  rcases List.mem_cons.mp hq with rfl | hq
  · exact C
  exact N q hq
abbrev lexD (P : Params) (v : Value) (pb : Addr) (n : Int) (k1 k2 k3 k4 t1 t3 : Tok) : Obj :=
  dictOf [⟨PyData.keyHash P (Str.ofString "lineno"), .str (Str.ofString "lineno") k1, .int n t1⟩, ⟨PyData.keyHash P (Str.ofString "instream"), .str (Str.ofString "instream") k2, v⟩,
    ⟨PyData.keyHash P (Str.ofString "whitespace"), .str (Str.ofString "whitespace") k3, .str (Str.ofString "\n\t\r ") t3⟩, ⟨PyData.keyHash P (Str.ofString "pushback"), .str (Str.ofString "pushback") k4, .ref pb⟩] 4
theorem newlex_ok {w : World} {loose : List Str} {p : Program} {mean : ExcName → Option Value} {mg mb : Str → Option Value}
  {dp un : Nat} {fr : Option (List Env)} {gd : Option (List Code)} {h₀ : Heap} {s : Shared} {Q E : Value → Shared → Prop} {L : Addr} {m : Str → Option Value} {news : List (Addr × Obj)}
  {v : Value}
  (T : Top p loose mean mg mb h₀) (F : Fr h₀ L s.heap m) (N : News h₀ L s.heap news)
  (hdp : dp + 4 < recursionLimit) (hu : un + 24 < cLine)
  (hret : ∀ x dx pb k1 k2 k3 k4 t1 t3 h' tk', Fr h₀ L h' m → News h₀ L h' ((x, instObj 66 dx) :: (dx, lexD w.params v pb 1 k1 k2 k3 k4 t1 t3) :: (pb, W.listOf #[] 0) :: news) → (∀ p ∈ news, p.1 < dx) → dx < x → x < pb → Q (.ref x) { s with heap := h', toks := tk' }) :
   (KK w.params).In h₀ → wpAny (model (RW.row.toRowW.prog) w) (Rm dp un fr gd) (call (.ref 66) [v]) Q E s := by
  k_fill
  intro X₀
  refine' call_cls ?k1 ?k2 ?k3 ?k4 ?k5 ?k6 ?_
  case k1 => k_asm
  case k2 => k_asm
  case k3 => k_asm
  case k4 => k_is
  case k5 => k_is
  case k6 => k_is
  intro x dx h₂ F₂ N₂ l1 l2
  k_lt2 l2
  refine' enter [(x, instObj 66 dx), (dx, dictOf [] 0)] X₀ T F₂.keep ?kH ?k6 ?k7 ?k8 ?k9 ?kB ?_ ?c2 ?c3 ?c4 ?c5
  case kH => exact fun q hq => by
               rcases List.mem_cons.mp hq with rfl | hq
               · exact ⟨(N₂ _ (.head _)).1, (N₂ _ (.head _)).2.2⟩
               · rw [List.mem_singleton.mp hq]; exact ⟨(N₂ _ (.tail _ (.head _))).1, (N₂ _ (.tail _ (.head _))).2.2⟩
  case k6 => k_is
  case k7 => k_is
  case k8 => ktr_room
  case k9 => exact BindsTo.of_eq rfl
  case c5 => decide
  case kB => exact locs rfl
  case c2 => exact rfl
  case c3 => exact rfl
  case c4 => exact rfl
  intro g L' h₁ G F' N' X' T'
  k_steps
  rename_i l' h4 lo h5 F9 N9
  refine ⟨rfl, ?_⟩
  have hh : ∀ q ∈ [(x, instObj 66 dx), (dx, dictOf [] 0)], q.1 ≠ L ∧ h₀.get? q.1 = none := fun q hq => by
    rcases List.mem_cons.mp hq with rfl | hq
    · exact (N₂ _ (.head _)).2
    · rw [List.mem_singleton.mp hq]; exact (N₂ _ (.tail _ (.head _))).2
  have hS : ∀ b ∈ [(x, instObj 66 dx), (dx, dictOf [] 0)].map (·.1), b ≠ L ∧ h₀.get? b = none := fun b hb => by
    obtain ⟨q, hq, rfl⟩ := List.mem_map.mp hb
    exact hh q hq
  have hk := gr_ext G F9
  have A1 := gr_new F₂ G hh N9 (r := x) (.tail _ (.head _))
  have A2 := gr_new F₂ G hh N9 (r := dx) (.tail _ (.tail _ (.head _)))
  have A3 := gr_new F₂ G hh N9 (r := l') (.head _)
  have A4 : News h₀ L h5 news := news_but (fun p hp => N₂ p (.tail _ (.tail _ hp))) hk (fun q hq hm => by
    have h1 : @LT.lt Nat instLTNat q.1 dx := l1 q hq
    have h2 : @LT.lt Nat instLTNat dx x := l2
    simp only [List.map_cons, List.map_nil, List.mem_cons, List.not_mem_nil, or_false] at hm
    rcases hm with hm | hm
    · exact absurd hm (Nat.ne_of_lt (by omega))
    · exact absurd hm (Nat.ne_of_lt (by omega)))
  exact hret x dx l' _ _ _ _ _ _ _ _ (fr_but F₂ hk hS) (News.cons3 A1 A2 A3 A4) l1 l2 lo.1
end Mine
end
/-! CallIt -/
section
open PySem PySem.W PySem.Spec PySem.Calls PyProof.Rows
set_option maxRecDepth 100000
set_option maxHeartbeats 400000
namespace Mine
theorem ci_owner : Manifest.owners.lookup (String.ofList ['r', 'o', 't', 'a', 'r', 'e', 't', 'i', '_', 'e', 'l', 'b', 'a', 'l', 'l', 'a', 'c'].reverse) = some Manifest.sig_callable_iterator := by kernel_rfl
theorem ci_slot_next : Slot "callable_iterator" "__next__" "callable_iterator.__next__" :=
  .of (owner := "callable_iterator") (n := "__next__") (by rw [typeLookup_type, builtinLookup_eq_fast]; kernel_rfl) (by decide +kernel) (by decide +kernel) (by decide +kernel)
    (by first | exact .inl (by decide +kernel) | exact .inr (by decide +kernel)) (by rw [isSubtype_type]; kernel_rfl)
theorem ci_slot_iter : Slot "callable_iterator" "__iter__" "callable_iterator.__iter__" :=
  .of (owner := "callable_iterator") (n := "__iter__") (by rw [typeLookup_type, builtinLookup_eq_fast]; kernel_rfl) (by decide +kernel) (by decide +kernel) (by decide +kernel)
    (by first | exact .inl (by decide +kernel) | exact .inr (by decide +kernel)) (by rw [isSubtype_type]; kernel_rfl)
theorem ci_entry_next : entryFor table "callable_iterator.__next__" = some Builtin.«callable_iterator.__next__» := entryFor_of_tree (by kernel_rfl)
theorem ci_entry_iter : entryFor table "callable_iterator.__iter__" = some Builtin.«dict_keyiterator.__iter__» :=
  entryFor_alias (id' := "dict_keyiterator.__iter__") (by kernel_rfl) rfl (by decide +kernel) (by kernel_rfl)
theorem ci_args_next (a : Value) : argsOk "callable_iterator.__next__" ⟨[a], []⟩ := by
  unfold argsOk; rw [signature?_of (id := "callable_iterator.__next__") (n := ['_', '_', 't', 'x', 'e', 'n', '_', '_']) (o := ['r', 'o', 't', 'a', 'r', 'e', 't', 'i', '_', 'e', 'l', 'b', 'a', 'l', 'l', 'a', 'c']) (by kernel_rfl) ci_owner]; kernel_rfl
theorem ci_args_iter (a : Value) : argsOk "callable_iterator.__iter__" ⟨[a], []⟩ := by
  unfold argsOk; rw [signature?_of (id := "callable_iterator.__iter__") (n := ['_', '_', 'r', 'e', 't', 'i', '_', '_']) (o := ['r', 'o', 't', 'a', 'r', 'e', 't', 'i', '_', 'e', 'l', 'b', 'a', 'l', 'l', 'a', 'c']) (by kernel_rfl) ci_owner]; kernel_rfl

abbrev ciObj (M : Addr) (ts : Tok) : Obj := { cls := .type "callable_iterator", data := .fields #[.ref M, .str (Str.ofString "") ts, .bool false] }
section
variable {prog : Program} {w : World} {A : Around} {E : Value → Shared → Prop} {s : Shared}
theorem ci_pyIter {I M : Addr} {ts : Tok} {Q : Value → Shared → Prop} (hI : s.heap.get? I = some (ciObj M ts)) (h : Q (.ref I) s) : wpAny (model prog w) A (pyIter (.ref I)) Q E s := by
  have hT : s.TypeIs (.ref I) "callable_iterator" := ⟨_, hI, rfl⟩
  refine wpAny_pyIter_slot hT ci_slot_iter (wpAny_call_entry ci_slot_iter hT ci_entry_iter ?_ (ci_args_iter _))
  show wpAny _ _ (ret (.ref I)) _ _ s
  exact wpAny_pure ⟨_, rfl, "callable_iterator", _, hT, ci_slot_next.lookup, h⟩
theorem callBorrowed_ {f : Value} {pos : List Value} {Q : Value → Shared → Prop} {M : Model}
    (hc : codeAny M A (.call f ⟨pos, []⟩) (fun r s' => match r with | .ok (.ret v) => Q v s' | .ok _ => False | .error e => E e s') s) :
    wpAny M A (callBorrowed f pos) Q E s := fun Γ p hΓ => by
  unfold callBorrowed
  rw [Sem.wp_call]
  refine wpCode_mono (fun r s' h => ?_) (hc _ p rfl (hΓ.enter _ none p (by intro x; cases x)))
  match r, h with
  | .ok (.ret v), h => exact h
  | .error e, h => exact h
theorem borrows_method {Mt F : Addr} {slf : Value} {Q : Bool → Shared → Prop} (hM : s.heap.get? Mt = some (methodObj (.ref F) slf)) (hF : FnAt F s.heap) (h : Q true s) : wpAny (model prog w) A (borrowsExactly (.ref Mt)) Q E s := by
  obtain ⟨oc, od, fd, sl, hF⟩ := hF
  unfold borrowsExactly
  refine wpAny_bind (wpAny_load hM ?_)
  show wpAny _ _ (if ((Value.type "method" : Value) == Value.type "method") = true then _ else _) Q E s
  rw [if_pos (by decide)]
  show wpAny _ _ (load F >>= _) Q E s
  refine wpAny_bind (wpAny_load hF ?_)
  exact wpAny_pure h
/-- one step of an iterator over a method of an object, that ends with the empty text -/
theorem ci_next {I Mt F : Addr} {slf : Value} {ts : Tok} {Q : Option Value → Shared → Prop} (hh : A.handled = none) (hI : s.heap.get? I = some (ciObj Mt ts)) (hM : s.heap.get? Mt = some (methodObj (.ref F) slf)) (hF : FnAt F s.heap)
    (hcall : codeAny (model prog w) A.in1 (.call (.ref F) ⟨[slf], []⟩) (fun r s' => ∃ x t, r = .ok (.ret (.str x t)) ∧ s'.heap.get? I = some (ciObj Mt ts) ∧ s'.heap.get? Mt = some (methodObj (.ref F) slf) ∧ FnAt F s'.heap ∧
      (x ≠ Str.ofString "" → Q (some (.str x t)) s') ∧ (x = Str.ofString "" → ∀ h', Heap.ExtBut I s'.heap h' → Q none { s' with heap := h' })) s) :
    wpAny (model prog w) A (pyNext (.ref I)) Q E s := by
  have hT : s.TypeIs (.ref I) "callable_iterator" := ⟨_, hI, rfl⟩
  unfold pyNext
  refine wpAny_bind (wpAny_attempt (wpAny_callSpecial?_slot (name := Str.ofString "__next__") hT ci_slot_next
    (wpAny_call_entry ci_slot_next hT ci_entry_next ?_ (ci_args_next _))))
  show wpAny _ _ (field (.ref I) 2 >>= _) _ _ s
  refine wpAny_bind (wpAny_field hI rfl (x := .bool false) rfl ?_)
  show wpAny _ _ (if (Value.bool false == Value.bool true) = true then _ else _) _ _ s
  rw [if_neg (show ¬ ((Value.bool false == Value.bool true) = true) by decide)]
  show wpAny _ _ (field (.ref I) 0 >>= _) _ _ s
  refine wpAny_bind (wpAny_field hI rfl (x := .ref Mt) rfl ?_)
  refine wpAny_bind (wpAny_attempt ?_)
  unfold callOutOfASlot
  refine wpAny_bind (borrows_method hM hF ?_)
  rw [if_pos rfl]
  refine callBorrowed_ (ks_codeAny_call_bound hM (codeAny_mono hcall fun r s' hr => ?_))
  obtain ⟨x, t, rfl, hI', hM', hF', h1, h2⟩ := hr
  show wpAny _ _ (field (.ref I) 2 >>= _) _ _ s'
  refine wpAny_bind (wpAny_field hI' rfl (x := .bool false) rfl ?_)
  show wpAny _ _ (if (Value.bool false == Value.bool true) = true then _ else _) _ _ s'
  rw [if_neg (show ¬ ((Value.bool false == Value.bool true) = true) by decide)]
  show wpAny _ _ (field (.ref I) 1 >>= _) _ _ s'
  refine wpAny_bind (wpAny_field hI' rfl (x := .str (Str.ofString "") ts) rfl (wpAny_bind (wpAny_holding (wpAny_eqBool_str ?_))))
  by_cases hx : x = Str.ofString ""
  · rw [decide_eq_true hx.symm]
    show wpAny _ _ (rule _ >>= _) _ _ s'
    refine wpAny_bind (wpAny_rule ?_)
    show wpAny _ _ ((field (.ref I) 0 >>= _) >>= _) _ _ s'
    refine wpAny_bind (wpAny_bind (wpAny_field hI' rfl (x := .ref Mt) rfl ?_))
    refine wpAny_bind ?_
    unfold slotLetsGo
    refine wpAny_bind (borrows_method hM' hF' ?_)
    rw [if_pos rfl]
    refine wpAny_pure ?_
    refine wpAny_bind (wpAny_setField hI' rfl (by simp) ?_)
    refine wpAny_bind (wpAny_setField (Heap.get?_update_self _ hI' (Obj.isFreed_of_fields (Obj.data_mapFields rfl _))) (Obj.data_mapFields rfl _) (by simp) ?_)
    refine wpAny_setField (Heap.get?_update_self _ (Heap.get?_update_self _ hI' (Obj.isFreed_of_fields (Obj.data_mapFields rfl _))) (Obj.isFreed_of_fields (Obj.data_mapFields (Obj.data_mapFields rfl _) _))) (Obj.data_mapFields (Obj.data_mapFields rfl _) _) (by simp) ?_
    show wpAny _ _ (newExc (.type "StopIteration") [] >>= _) _ _ _
    refine wpAny_bind ?_
    simp only [newExc, newTuple]
    refine wpAny_bind (wpAny_newObj_type ?_ (by size_fits))
    refine wpAny_bind (m := firstArgMember _ _) (wpAny_of_eq (a := Value.none) (by first | rfl | (simp only [firstArgMember]; rfl)) ?_)
    refine wpAny_newObj_type ?_ (by size_fits)
    simp only [raiseNew]
    refine wpAny_bind (wpAny_handled ?_)
    rw [show A.in1.handled = none from hh]
    refine wpAny_bind (wpAny_pure (wpAny_throw ?_))
    refine wpAny_bind (wpAny_isInstance (T := "StopIteration") (b := true) ⟨_, Heap.get?_push_size _ rfl, rfl⟩ isSubtype_stop ?_)
    refine wpAny_pure (h2 hx _ ?_)
    exact fun b o hb e => Heap.get?_push_of_some _ (Heap.get?_push_of_some _ ((Heap.SameBut.update ..).extBut b o hb ((Heap.SameBut.update ..).extBut b o hb ((Heap.SameBut.update ..).extBut b o hb e))))
  · rw [decide_eq_false (fun e => hx e.symm)]
    exact wpAny_pure ⟨_, rfl, wpAny_pure (h1 hx)⟩
end
theorem ci_args_iter2 (a b : Value) : argsOk "iter" ⟨[a, b], []⟩ := by unfold argsOk; kernel_rfl
theorem ci_call_method : typeLookup (.type "method") (Str.ofString "__call__") = pure (some (.builtin "method.__call__")) := by
  show typeLookup (.type "method") "__call__" = _
  rw [typeLookup_type, builtinLookup_eq_fast]; kernel_rfl
theorem iter_ci {prog : Program} {w : World} {A : Around} {E : Value → Shared → Prop} {s : Shared} {h₀ : Heap} {L q : Addr} {m : Str → Option Value} {news : List (Addr × Obj)} {f x : Value} {t : Tok} {Q : Value → Shared → Prop}
    (F : Fr h₀ L s.heap m) (N : News h₀ L s.heap news) (hm : (q, methodObj f x) ∈ news)
    (h : ∀ I h', Fr h₀ L h' m → News h₀ L h' ((I, ciObj q t) :: news) → (∀ p ∈ news, p.1 < I) → Q (.ref I) { s with heap := h' }) :
    wpAny (model prog w) A (call (.builtin "iter") [.ref q, .str (Str.ofString "") t]) Q E s := by
  refine call_function_entry (by decide +kernel) (by decide +kernel) kdk_entry_iter (ci_args_iter2 _ _) ?_
  unfold Builtin.«iter»
  refine wpAny_bind (m := someArgs "iter" 1 2 _) (wpAny_of_eq (a := [Value.ref q, .str (Str.ofString "") t]) (by first | rfl | kernel_rfl!) ?_)
  have hT : s.TypeIs (.ref q) "method" := ⟨_, (N _ hm).1, rfl⟩
  refine wpAny_bind (wpAny_specialOf hT ci_call_method ?_)
  show wpAny _ _ (rule _ >>= _) _ _ _
  refine wpAny_bind (wpAny_rule ?_)
  show wpAny _ _ (newObj _ _ _ >>= _) _ _ _
  refine wpAny_bind (wpAny_newObj_type ?_ (by size_fits))
  exact wpAny_pure ⟨_, rfl, h _ _ (F.push _) (News.push F N _ rfl) (fun q hq => Heap.lt_size (N q hq).1)⟩
theorem Gr.ext {h₀ h g : Heap} {hid : List (Addr × Obj)} (G : Gr h₀ h g hid) (E₀ : Ext h₀ h) : Ext h₀ g := fun b o e => G.keep b o (E₀ b o e) fun hm => by
  obtain ⟨q, hq, rfl⟩ := List.mem_map.mp hm
  rw [(G.at_ q hq).2] at e; cases e
end Mine
end
/-! Lexer -/
section
open PySem PySem.W PySem.Spec PySem.Calls PyProof.Rows
set_option maxRecDepth 100000
set_option maxHeartbeats 0
namespace Mine
section
variable {prog : Program} {w : World} {A : Around} {K : Frag} {p : Program} {loose : List Str} {mean : ExcName → Option Value} {mg mb : Str → Option Value} {h₀ : Heap} {s : Shared} {R : Result → Shared → Prop}
  {name qual : Str} {params : Arguments} {body : List Stmt} {scope : Scope} {cl : List (Str × Addr)} {dV kV doc pm cdv ct : Value} {an : Option Addr} {f : Addr} {args : Args} {binds : List (Str × Value)} {fo : Obj}
theorem enterX (hid : List (Addr × Obj)) (X₀ : K.In h₀) (T : Top p loose mean mg mb h₀) (E₀ : Ext h₀ s.heap) (H : ∀ q ∈ hid, s.heap.get? q.1 = some q.2 ∧ h₀.get? q.1 = none)
    (ho : s.heap.get? f = some fo) (hd : fo.data = .func (fnX name qual params body scope cl dV kV doc pm an cdv ct)) (hcd : s.heap.CodeRec cdv qual) (hroom : A.depth < recursionLimit)
    (hbind : BindsTo s (fnX name qual params body scope cl dV kV doc pm an cdv ct) args binds) (hloc : ∀ y ∈ binds, scope.names.lookup y.1 = some .local)
    (h : ∀ g L' h₁, Gr h₀ s.heap g hid → Fr g L' h₁ (fun y => binds.reverse.lookup y) → News g L' h₁ hid → K.In g → Top p loose mean mg mb g → (∀ p ∈ hid, p.1 < L') →
      wpAny (model prog w) (A.deeper (envX qual scope L' f cdv cl)) (execs body (envX qual scope L' f cdv cl)) (fun fl s' => R (.ok (.ret (match fl with | .ret v => v | _ => .none))) s') (fun _ _ => False)
        { s with heap := h₁, toks := s.toks + binds.length })
    (hco : scope.isCoroutine = false) (hgen : scope.isGenerator = false) (hk : scope.kind = .function) (hcell : ∀ x ∈ scope.names, x.2 ≠ .cell) : codeAny (model prog w) A (.call (.ref f) args) R s := by
  have st : Ext h₀ (hideAll s.heap (hid.map (·.1))) := fun b o e => hideAll_get _ (E₀ b o e) fun q => by
    obtain ⟨p, hp, rfl⟩ := List.mem_map.mp q
    rw [(H p hp).2] at e; cases e
  have K1 := X₀.keeps st
  have T1 := T.keeps st
  refine codeAny_call_def (fd := fnX name qual params body scope cl dV kV doc pm an cdv ct) (body := body) (binds := binds) hroom ho hd (T.nolimit.keeps E₀) hcd rfl hbind hcell hloc (fun h₁ hns hk₁ => ?_) hco hgen hk
  refine wpAny_mono (h _ s.heap.objs.size h₁ (hide_gr H) ⟨hns, fun b o e => hk₁ b o (of_hideAll _ e), Nat.le_of_eq (hideAll_size _ _)⟩
    (fun p hp => ⟨hk₁ _ _ (H p hp).1, Nat.ne_of_lt (Heap.lt_size (H p hp).1), hideAll_none _ (List.mem_map_of_mem hp)⟩) K1 T1 (fun p hp => Heap.lt_size (H p hp).1)) (fun _ _ e => e) fun _ _ e => e.elim
end
/-- what the stream's read does: the last sign of the list, or the empty text -/
def PieceOk (w : World) (fI c' cell : Addr) (ofn : Obj) : Prop :=
  ∀ {loose : List Str} {p : Program} {mean : ExcName → Option Value} {mg mb : Str → Option Value} {dp un : Nat} {fr : Option (List Env)} {gd : Option (List Code)} {h₀ : Heap} {s : Shared} {Q E : Value → Shared → Prop}
    {L : Addr} {m : Str → Option Value} {sl : Addr} {rest : List (Addr × Obj)} {ocl oc : Obj} {vsc : Array Value} {tq : Tok} {vs : List Value} {xs : List Str} {e : Nat} {t1 : Tok},
    Top p loose mean mg mb h₀ → (KK w.params).In h₀ → Fr h₀ L s.heap m → News h₀ L s.heap ((sl, W.listOf vs.toArray e) :: rest) → (∀ p ∈ rest, p.1 ≠ sl) → (fI, ofn) ∈ rest → (c', oc) ∈ rest → oc.data = .fields vsc →
    vsc[1]? = some (.str (Str.ofString "_law_lexer.<locals>._law_piece") tq) → (cell, ocl) ∈ rest → ocl.data = .cell (some (.ref sl)) → StrsAre vs xs → vs.length ≤ 1000000 → dp + 3 < recursionLimit → un + 24 < cLine →
    (∀ t h' tk', vs = [] → Fr h₀ L h' m → News h₀ L h' ((sl, W.listOf vs.toArray e) :: rest) → Q (.str (Str.ofString "") t) { s with heap := h', toks := tk' }) →
    (∀ init v e' h' tk', vs = init ++ [v] → Fr h₀ L h' m → News h₀ L h' ((sl, W.listOf init.toArray e') :: rest) → Q v { s with heap := h', toks := tk' }) →
    wpAny (model (RW.row.toRowW.prog) w) (Rm dp un fr gd) (call (.ref fI) [.int 1 t1]) Q E s
section
variable {α : Type} {a0 a1 a2 a3 a4 a5 a6 a7 a8 a9 a10 : α} {r : List α}
theorem p0 : a0 ∈ a0 :: r := .head _
theorem p1 : a1 ∈ a0 :: a1 :: r := .tail _ p0
theorem p2 : a2 ∈ a0 :: a1 :: a2 :: r := .tail _ p1
theorem p3 : a3 ∈ a0 :: a1 :: a2 :: a3 :: r := .tail _ p2
theorem p4 : a4 ∈ a0 :: a1 :: a2 :: a3 :: a4 :: r := .tail _ p3
theorem p5 : a5 ∈ a0 :: a1 :: a2 :: a3 :: a4 :: a5 :: r := .tail _ p4
theorem p6 : a6 ∈ a0 :: a1 :: a2 :: a3 :: a4 :: a5 :: a6 :: r := .tail _ p5
theorem p7 : a7 ∈ a0 :: a1 :: a2 :: a3 :: a4 :: a5 :: a6 :: a7 :: r := .tail _ p6
theorem p8 : a8 ∈ a0 :: a1 :: a2 :: a3 :: a4 :: a5 :: a6 :: a7 :: a8 :: r := .tail _ p7
theorem p9 : a9 ∈ a0 :: a1 :: a2 :: a3 :: a4 :: a5 :: a6 :: a7 :: a8 :: a9 :: r := .tail _ p8
theorem p10 : a10 ∈ a0 :: a1 :: a2 :: a3 :: a4 :: a5 :: a6 :: a7 :: a8 :: a9 :: a10 :: r := .tail _ p9
end
theorem newsC {h₀ h : Heap} {L a : Addr} {o : Obj} {r : List (Addr × Obj)} (A : h.get? a = some o ∧ a ≠ L ∧ h₀.get? a = none) (N : News h₀ L h r) : News h₀ L h ((a, o) :: r) := fun q hq => by
  rcases List.mem_cons.mp hq with rfl | hq
  · exact A
  · exact N q hq
abbrev strD (P : Params) (pb fI : Addr) (k1 k2 k3 k4 k5 t1 t3 : Tok) : Obj :=
  dictOf [⟨PyData.keyHash P (Str.ofString "lineno"), .str (Str.ofString "lineno") k1, .int 1 t1⟩, ⟨PyData.keyHash P (Str.ofString "instream"), .str (Str.ofString "instream") k2, .none⟩,
    ⟨PyData.keyHash P (Str.ofString "whitespace"), .str (Str.ofString "whitespace") k3, .str (Str.ofString "\n\t\r ") t3⟩, ⟨PyData.keyHash P (Str.ofString "pushback"), .str (Str.ofString "pushback") k4, .ref pb⟩,
    ⟨PyData.keyHash P (Str.ofString "read"), .str (Str.ofString "read") k5, .ref fI⟩] 5
abbrev lexL (P : Params) (lx ld lpb sx sd spb fI c' cell sl : Addr) (ofn oc ocl : Obj) (e : Nat) (vs : List Value) (n : Int) (u1 u2 u3 u4 u5 u6 v1 v2 v3 v4 v5 v6 v7 : Tok) : List (Addr × Obj) :=
  [(sl, W.listOf vs.toArray e), (ld, lexD P (.ref sx) lpb n u1 u2 u3 u4 u5 u6), (lx, instObj 66 ld), (lpb, W.listOf #[] 0), (fI, ofn), (c', oc), (sx, instObj 66 sd), (sd, strD P spb fI v1 v2 v3 v4 v5 v6 v7), (cell, ocl)]
structure LexOrd (lx ld lpb sx sd fI c' cell sl : Addr) : Prop where
  a : @LT.lt Nat instLTNat 117 cell
  b : @LT.lt Nat instLTNat cell sl
  c : @LT.lt Nat instLTNat sl sd
  d : @LT.lt Nat instLTNat sd sx
  e : @LT.lt Nat instLTNat sx c'
  f : @LT.lt Nat instLTNat c' fI
  g : @LT.lt Nat instLTNat fI ld
  h : @LT.lt Nat instLTNat ld lx
  i : @LT.lt Nat instLTNat lx lpb
theorem strs_rev : ∀ {vs : List Value} {xs : List Str}, StrsAre vs xs → StrsAre vs.reverse xs.reverse
  | _, _, .nil => .nil
  | _, _, .cons x t r => by
    rw [List.reverse_cons, List.reverse_cons]
    exact kct_snoc (strs_rev r)
def Halt2 (p : Prop) : Prop := p
theorem halt2 {p : Prop} (h : Halt2 p) : p := h
theorem lexer_ok {w : World} {loose : List Str} {p : Program} {mean : ExcName → Option Value} {mg mb : Str → Option Value}
  {dp un : Nat} {fr : Option (List Env)} {gd : Option (List Code)} {h₀ : Heap} {s : Shared} {Q E : Value → Shared → Prop}
  {x : Str} {tx : Tok}
  {L : Addr} {m : Str → Option Value} {news : List (Addr × Obj)}
  (T : Top p loose mean mg mb h₀) (F : Fr h₀ L s.heap m) (N : News h₀ L s.heap ((117, tabObj #[]) :: news)) (hlen : x.length ≤ 10000) (h117 : ∀ p ∈ news, p.1 ≠ 117) (C : CodeHd h₀ 121 117)
  (hdp : dp + 6 < recursionLimit) (hu : un + 48 < cLine)
  (hret : ∀ lx ld lpb sx sd spb fI c' cell sl ofn oc ocl vsc tq e vs ps u1 u2 u3 u4 u5 u6 v1 v2 v3 v4 v5 v6 v7 h' tk', PieceOk w fI c' cell ofn → (∃ a b c d, ofn = ⟨a, b, .func c, d⟩) → oc.data = .fields vsc → vsc[1]? = some (.str (Str.ofString "_law_lexer.<locals>._law_piece") tq) → ocl.data = .cell (some (.ref sl)) → StrsAre vs (signs x).reverse →
    Fr h₀ L h' m → News h₀ L h' (lexL w.params lx ld lpb sx sd spb fI c' cell sl ofn oc ocl e vs 1 u1 u2 u3 u4 u5 u6 v1 v2 v3 v4 v5 v6 v7 ++ (117, tabObj ps) :: news) →
    ((∀ p ∈ news, @LT.lt Nat instLTNat p.1 cell) ∧ LexOrd lx ld lpb sx sd fI c' cell sl) → Q (.ref lx) { s with heap := h', toks := tk' }) :
   (KK w.params).In h₀ → wpAny (model (RW.row.toRowW.prog) w) (Rm dp un fr gd) (call (.ref 122) [.str x tx]) Q E s := by
  k_fill
  intro X₀
  refine wpAny_call ?_
  refine' enterC [(117, tabObj #[])] X₀ T F.keep ?kH ?k6 ?k7 ?k8 ?k9 ?kB ?kD ?_ ?c2 ?c3 ?c4
  case kH => exact fun q hq => by rw [List.mem_singleton.mp hq]; exact ⟨(N _ (.head _)).1, (N _ (.head _)).2.2⟩
  case k6 => k_is
  case k7 => k_is
  case k8 => ktr_room
  case k9 => exact BindsTo.of_eq rfl
  case kB => exact rfl
  case kD => decide +kernel
  case c2 => exact rfl
  case c3 => exact rfl
  case c4 => exact rfl
  intro g L' h₁ tk' cells' G F' N' Y' X' T' l1
  k_lt l1
  have hL1 : ∃ o, h₁.get? L' = some o := by
    obtain ⟨oL, _, _, hL, _⟩ := F'.ns
    exact ⟨oL, hL⟩
  k_cells Y'
  have C' := C.keeps (G.ext F.keep)
  simp only [List.cons_append, List.nil_append] at N'
  dsimp only
  ((try clear mk0); have mk0 : Mark "call ref"   := ⟨trivial⟩; (try clear mk1); have mk1 : Mark "isTrue"   := ⟨trivial⟩; (try clear mk2); have mk2 : Mark "call builtin:list.pop"   := ⟨trivial⟩; repeat' (first | ((with_reducible refine unhalt (x := "call ref") ?_); first | ((with_reducible show wpAny _ _ (call (Value.ref 66) _) _ _ _); (try ((rename News _ _ _ _ => NN); (have hz9 := ltN (Heap.lt_size (NN (117, tabObj #[]) (by k_mem)).1)); (dsimp only at hz9))); (with_unfolding_all refine' newlex_ok (by (k_asm)) (by (k_asm)) (by (k_asm)) (by (ktr_room)) (by (ktr_units)) ?_ (by (k_asm))); (k_whole); (intro lx ld lpb u1 u2 u3 u4 u5 u6 ha tk6 Fa Na lF lG lH); (replace lF := allLt_of lF; simp only [List.cons_append, List.nil_append, AllLt, and_true] at lF); (try simp only [List.cons_append, List.nil_append] at Na); (k_lt2 lG); (k_lt2 lH)) | (clear mk0; walk1; all_goals (try (with_reducible refine addMark (x := "call ref") fun mk0 => ?_)))) | ((with_reducible refine unhalt (x := "isTrue") ?_); first | ((refine halt2 ?_)) | (clear mk1; walk1; all_goals (try (with_reducible refine addMark (x := "isTrue") fun mk1 => ?_)))) | ((with_reducible refine unhalt (x := "call builtin:list.pop") ?_); first | ((refine halt2 ?_)) | (clear mk2; walk1; all_goals (try (with_reducible refine addMark (x := "call builtin:list.pop") fun mk2 => ?_)))) | (k_unfold; (try dsimp only)) | (k_end; kc_close) | walk1 | (dsimp only; walk1) | (leave1; (try dsimp only)) | fail "no step"))
  rename_i o1 d1 h2 tkk ys hkeep hnone hlist hcar mk3 h3 h4 ocl dcl nX tk2 sx sd spb v1 v2 v3 v4 v5 v6 h5 tk3 lA lB lC h6 fI c' oc' vs' t' ct' dc' h7 tk5 d1' d2' lD lE h8 h9 F8 N8
  rw [krv_pick] at Na
  have hys := StrsAre.ofCarried hcar
  have hh : ∀ q ∈ [(117, tabObj #[])], q.1 ≠ L ∧ h₀.get? q.1 = none := fun q hq => by
    rw [List.mem_singleton.mp hq]; exact (N _ (.head _)).2
  have hS : ∀ b ∈ [((117 : Addr), tabObj #[])].map (·.1), b ≠ L ∧ h₀.get? b = none := fun b hb => by
    obtain ⟨q, hq, rfl⟩ := List.mem_map.mp hb
    exact hh q hq
  have hk := gr_ext G Fa
  have hlt : ∀ q ∈ news, @LT.lt Nat instLTNat q.1 (L' + 1) := fun q hq => by
    have h1 := Heap.lt_size (N q (.tail _ hq)).1
    have h2 := Fa.above
    rw [G.size] at h2
    exact Nat.lt_succ_of_lt (Nat.lt_of_lt_of_le h1 h2)
  have NA : News h₀ L ha _ := fun q hq => gr_new F G hh Na hq
  have NB : News h₀ L ha news := news_but (fun q hq => N q (.tail _ hq)) hk fun q hq hm => h117 q hq (List.mem_singleton.mp hm)
  have hb : @LT.lt Nat instLTNat L' h2.objs.size := by
    obtain ⟨oL, hL⟩ := hL1
    exact Heap.lt_size (hkeep _ _ hL)
  refine' hret lx ld lpb sx sd spb fI c' (L' + 1) (h2.objs.size + 1) _ oc' ocl vs' t' 0 ys.reverse _ u1 u2 u3 u4 u5 u6 _ _ _ _ _ _ _ ha tk6 ?hPO ⟨_, _, _, _, rfl⟩ d1' d2' dcl (strs_rev hys) (fr_but F hk hS)
    (newsC (NA _ p8) (newsC (NA _ p1) (newsC (NA _ p0) (newsC (NA _ p2) (newsC (NA _ p3) (newsC (NA _ p4) (newsC (NA _ p5) (newsC (NA _ p6) (newsC (NA _ p9) (newsC (NA _ p10) NB)))))))))) ⟨hlt, ?o1⟩
  case o1 => 
    constructor <;> first | assumption | omega
  case hPO =>
    clear hb NA NB hk hlt hS hh hys Na N8 Fa F8 hret
    clear F N T X₀ C G X' T' C' hkeep hlist hcar hL1 hnone
    intro loose p mean mg9 mb9 dp9 un9 fr9 gd9 h₀ s9 Q9 E9 L9 m9 sl rest ocl9 oc9 vsc9 tq9 vs9 xs9 e9 t9 T2 X2 F2 N2 hne hf hc hdc hqc hcl hdl hxs hlen9 hdp9 hu9 hE9 hC9
    refine wpAny_call ?_
    refine' enterX [(sl, W.listOf vs9.toArray e9), (L' + 1, ocl9)] X2 T2 F2.keep ?kH (N2 _ (.tail _ hf)).1 rfl ?k7 ?k8 ?k9 ?kB ?_ ?c2 ?c3 ?c4 ?c5
    case kH => exact fun q hq => by
                 rcases List.mem_cons.mp hq with rfl | hq
                 · exact ⟨(N2 _ (.head _)).1, (N2 _ (.head _)).2.2⟩
                 · rw [List.mem_singleton.mp hq]; exact ⟨(N2 _ (.tail _ hcl)).1, (N2 _ (.tail _ hcl)).2.2⟩
    case k7 => exact ⟨_, _, _, _, rfl, (N2 _ (.tail _ hc)).1, hdc, hqc⟩
    case k8 => ktr_room
    case k9 => exact BindsTo.of_eq rfl
    case c5 => decide
    case kB => exact locs rfl
    case c2 => exact rfl
    case c3 => exact rfl
    case c4 => exact rfl
    intro g L2 h₁ G F' N' X' T' l1
    k_lt l1
    dsimp only
    ((try clear mk0); have mk0 : Mark "call ref"   := ⟨trivial⟩; (try clear mk1); have mk1 : Mark "isTrue"   := ⟨trivial⟩; (try clear mk2); have mk2 : Mark "call builtin:list.pop"   := ⟨trivial⟩; repeat' (first | ((with_reducible refine unhalt (x := "call ref") ?_); first | ((with_reducible show wpAny _ _ (call (Value.ref 66) _) _ _ _); (try ((rename News _ _ _ _ => NN); (have hz9 := ltN (Heap.lt_size (NN (117, tabObj #[]) (by k_mem)).1)); (dsimp only at hz9))); (with_unfolding_all refine' newlex_ok (by (k_asm)) (by (k_asm)) (by (k_asm)) (by (ktr_room)) (by (ktr_units)) ?_ (by (k_asm))); (k_whole); (intro lx ld lpb u1 u2 u3 u4 u5 u6 ha tk6 Fa Na lF lG lH); (replace lF := allLt_of lF; simp only [List.cons_append, List.nil_append, AllLt, and_true] at lF); (try simp only [List.cons_append, List.nil_append] at Na); (k_lt2 lG); (k_lt2 lH)) | (clear mk0; walk1; all_goals (try (with_reducible refine addMark (x := "call ref") fun mk0 => ?_)))) | ((with_reducible refine unhalt (x := "isTrue") ?_); first | ((refine halt2 ?_)) | (clear mk1; walk1; all_goals (try (with_reducible refine addMark (x := "isTrue") fun mk1 => ?_)))) | ((with_reducible refine unhalt (x := "call builtin:list.pop") ?_); first | ((refine halt2 ?_)) | (clear mk2; walk1; all_goals (try (with_reducible refine addMark (x := "call builtin:list.pop") fun mk2 => ?_)))) | (k_unfold; (try dsimp only)) | (k_end; kc_close) | walk1 | (dsimp only; walk1) | (leave1; (try dsimp only)) | fail "no step"))
    unfold Halt2
    refine wpAny_isTrue_value ?_
    refine nameX_F N' (c := L' + 1) rfl (.tail _ (.head _)) hdl ?_
    refine kgr_truthy N' (.head _) rfl rfl (by omega) ?_
    rcases vs9.eq_nil_or_concat with rfl | ⟨init, v, rfl⟩
    · rw [show (!([] : List Value).isEmpty) = false from rfl]
      ((try clear mk0); have mk0 : Mark "call ref"   := ⟨trivial⟩; (try clear mk1); have mk1 : Mark "isTrue"   := ⟨trivial⟩; (try clear mk2); have mk2 : Mark "call builtin:list.pop"   := ⟨trivial⟩; repeat' (first | ((with_reducible refine unhalt (x := "call ref") ?_); first | ((with_reducible show wpAny _ _ (call (Value.ref 66) _) _ _ _); (try ((rename News _ _ _ _ => NN); (have hz9 := ltN (Heap.lt_size (NN (117, tabObj #[]) (by k_mem)).1)); (dsimp only at hz9))); (with_unfolding_all refine' newlex_ok (by (k_asm)) (by (k_asm)) (by (k_asm)) (by (ktr_room)) (by (ktr_units)) ?_ (by (k_asm))); (k_whole); (intro lx ld lpb u1 u2 u3 u4 u5 u6 ha tk6 Fa Na lF lG lH); (replace lF := allLt_of lF; simp only [List.cons_append, List.nil_append, AllLt, and_true] at lF); (try simp only [List.cons_append, List.nil_append] at Na); (k_lt2 lG); (k_lt2 lH)) | (clear mk0; walk1; all_goals (try (with_reducible refine addMark (x := "call ref") fun mk0 => ?_)))) | ((with_reducible refine unhalt (x := "isTrue") ?_); first | ((refine halt2 ?_)) | (clear mk1; walk1; all_goals (try (with_reducible refine addMark (x := "isTrue") fun mk1 => ?_)))) | ((with_reducible refine unhalt (x := "call builtin:list.pop") ?_); first | ((refine halt2 ?_)) | (clear mk2; walk1; all_goals (try (with_reducible refine addMark (x := "call builtin:list.pop") fun mk2 => ?_)))) | (k_unfold; (try dsimp only)) | (k_end; kc_close) | walk1 | (dsimp only; walk1) | (leave1; (try dsimp only)) | fail "no step"))
      have hx := G.back F' N' (sub1 (.head _) (sub1 (.tail _ (.head _)) sub0))
      exact hE9 _ _ _ rfl (fr_ext F2 hx) (news_ext N2 hx)
    · simp only [List.concat_eq_append] at G N' N2 hxs hlen9 hE9 hC9 ⊢
      rw [show (!(init ++ [v]).isEmpty) = true by simp, if_pos rfl]
      refine MethodCall_ ?_
      refine nameX_F N' (c := L' + 1) rfl (.tail _ (.head _)) hdl ?_
      refine kl_method N' (.head _) PySem.F.slot_list_pop PySem.F.type_list_pop ?_
      ((try clear mk0); have mk0 : Mark "call ref"   := ⟨trivial⟩; (try clear mk1); have mk1 : Mark "isTrue"   := ⟨trivial⟩; (try clear mk2); have mk2 : Mark "call builtin:list.pop"   := ⟨trivial⟩; repeat' (first | ((with_reducible refine unhalt (x := "call ref") ?_); first | ((with_reducible show wpAny _ _ (call (Value.ref 66) _) _ _ _); (try ((rename News _ _ _ _ => NN); (have hz9 := ltN (Heap.lt_size (NN (117, tabObj #[]) (by k_mem)).1)); (dsimp only at hz9))); (with_unfolding_all refine' newlex_ok (by (k_asm)) (by (k_asm)) (by (k_asm)) (by (ktr_room)) (by (ktr_units)) ?_ (by (k_asm))); (k_whole); (intro lx ld lpb u1 u2 u3 u4 u5 u6 ha tk6 Fa Na lF lG lH); (replace lF := allLt_of lF; simp only [List.cons_append, List.nil_append, AllLt, and_true] at lF); (try simp only [List.cons_append, List.nil_append] at Na); (k_lt2 lG); (k_lt2 lH)) | (clear mk0; walk1; all_goals (try (with_reducible refine addMark (x := "call ref") fun mk0 => ?_)))) | ((with_reducible refine unhalt (x := "isTrue") ?_); first | ((refine halt2 ?_)) | (clear mk1; walk1; all_goals (try (with_reducible refine addMark (x := "isTrue") fun mk1 => ?_)))) | ((with_reducible refine unhalt (x := "call builtin:list.pop") ?_); first | ((refine halt2 ?_)) | (clear mk2; walk1; all_goals (try (with_reducible refine addMark (x := "call builtin:list.pop") fun mk2 => ?_)))) | (k_unfold; (try dsimp only)) | (k_end; kc_close) | walk1 | (dsimp only; walk1) | (leave1; (try dsimp only)) | fail "no step"))
      unfold Halt2
      have hp : kl_last (init ++ [v]).toArray.toList = some (init, v) := kpa_last _ _
      refine kl_pop F' N' hp (.head (by rintro q hq; rw [List.mem_singleton.mp hq]; exact hne _ hcl)) (by show (init ++ [v]).length ≤ sizeLine; rw [PySem.sizeLine_eq]; omega) ?_
      intro h8 F8 N8
      ((try clear mk0); have mk0 : Mark "call ref"   := ⟨trivial⟩; (try clear mk1); have mk1 : Mark "isTrue"   := ⟨trivial⟩; (try clear mk2); have mk2 : Mark "call builtin:list.pop"   := ⟨trivial⟩; repeat' (first | ((with_reducible refine unhalt (x := "call ref") ?_); first | ((with_reducible show wpAny _ _ (call (Value.ref 66) _) _ _ _); (try ((rename News _ _ _ _ => NN); (have hz9 := ltN (Heap.lt_size (NN (117, tabObj #[]) (by k_mem)).1)); (dsimp only at hz9))); (with_unfolding_all refine' newlex_ok (by (k_asm)) (by (k_asm)) (by (k_asm)) (by (ktr_room)) (by (ktr_units)) ?_ (by (k_asm))); (k_whole); (intro lx ld lpb u1 u2 u3 u4 u5 u6 ha tk6 Fa Na lF lG lH); (replace lF := allLt_of lF; simp only [List.cons_append, List.nil_append, AllLt, and_true] at lF); (try simp only [List.cons_append, List.nil_append] at Na); (k_lt2 lG); (k_lt2 lH)) | (clear mk0; walk1; all_goals (try (with_reducible refine addMark (x := "call ref") fun mk0 => ?_)))) | ((with_reducible refine unhalt (x := "isTrue") ?_); first | ((refine halt2 ?_)) | (clear mk1; walk1; all_goals (try (with_reducible refine addMark (x := "isTrue") fun mk1 => ?_)))) | ((with_reducible refine unhalt (x := "call builtin:list.pop") ?_); first | ((refine halt2 ?_)) | (clear mk2; walk1; all_goals (try (with_reducible refine addMark (x := "call builtin:list.pop") fun mk2 => ?_)))) | (k_unfold; (try dsimp only)) | (k_end; kc_close) | walk1 | (dsimp only; walk1) | (leave1; (try dsimp only)) | fail "no step"))
      have hk := gr_ext G F8
      have hh : ∀ q ∈ [(sl, W.listOf (init ++ [v]).toArray e9), (L' + 1, ocl9)], q.1 ≠ L9 ∧ h₀.get? q.1 = none := fun q hq => by
        rcases List.mem_cons.mp hq with rfl | hq
        · exact (N2 _ (.head _)).2
        · rw [List.mem_singleton.mp hq]; exact (N2 _ (.tail _ hcl)).2
      refine hC9 init v _ _ _ rfl (fr_but F2 hk ?_) (newsC (gr_new F2 G hh N8 (.head _)) fun q hq => ?_)
      · intro b hb
        obtain ⟨q, hq, rfl⟩ := List.mem_map.mp hb
        exact hh q hq
      · by_cases hq2 : q.1 = L' + 1
        · have e1 := (N2 _ (.tail _ hq)).1
          have e2 := (N2 _ (.tail _ hcl)).1
          rw [hq2] at e1
          have : q = (L' + 1, ocl9) := Prod.ext hq2 (Option.some.inj (e1.symm.trans e2))
          rw [this]
          exact gr_new F2 G hh N8 (.tail _ (.head _))
        · exact ⟨hk _ _ (by
            intro hm
            simp only [List.map_cons, List.map_nil, List.mem_cons, List.not_mem_nil, or_false] at hm
            rcases hm with hm | hm
            · exact hne _ hq hm
            · exact hq2 hm) (N2 _ (.tail _ hq)).1, (N2 _ (.tail _ hq)).2⟩
end Mine
end
/-! RC -/
section
open PySem PySem.W PySem.Spec PySem.Calls PyProof.Rows
set_option maxRecDepth 100000
set_option maxHeartbeats 0
namespace Mine
def rcS : List Str → Int → Str × List Str × Int
  | [], n => (Str.ofString "", [], n)
  | c :: r, n => (c, r, if c = Str.ofString "\n" then n + 1 else n)
/-- the fixed part of a lexer's place -/
structure LexK (w : World) (lx ld lpb sx sd fI c' cell sl : Addr) (ofn oc ocl : Obj) : Prop where
  ord : LexOrd lx ld lpb sx sd fI c' cell sl
  pc : PieceOk w fI c' cell ofn
  fn : ∃ a b c d, ofn = ⟨a, b, .func c, d⟩
  cd : ∃ vsc tq, oc.data = .fields vsc ∧ vsc[1]? = some (.str (Str.ofString "_law_lexer.<locals>._law_piece") tq)
  cl : ocl.data = .cell (some (.ref sl))
theorem LexK.fnAt {w : World} {h₀ h : Heap} {L lx ld lpb sx sd fI c' cell sl : Addr} {ofn oc ocl : Obj} {news : List (Addr × Obj)} (K : LexK w lx ld lpb sx sd fI c' cell sl ofn oc ocl) (N : News h₀ L h news) (hm : (fI, ofn) ∈ news) : FnAt fI h := by
  obtain ⟨a, b, c, d, e⟩ := K.fn
  exact ⟨a, b, c, d, by rw [← e]; exact (N _ hm).1⟩
theorem cw1 {M : Model} {A : Around} {E : Value → Shared → Prop} {s : Shared} {env : Env} {pos p2 : Pos} {Q : Value → Shared → Prop} {q : Addr} (X : FnAt q s.heap) (h : ∀ t tk, wpAny M A (call (.ref q) [.int 1 t]) Q E { s with toks := tk }) :
    wpAny M A (callWith pos (.ref q) [] (backTo pos (starEach [.Constant (.int 1) 0 p2] env)) []) Q E s := by
  refine callWith_F X ?_
  walk1
  walk1
  walk1
  exact ⟨X, h _ _⟩
theorem strs_snoc {vs init : List Value} {v : Value} {xs : List Str} (h : StrsAre vs xs.reverse) (e : vs = init ++ [v]) : ∃ c r t, xs = c :: r ∧ v = .str c t ∧ StrsAre init r.reverse := by
  have h2 := strs_rev h
  rw [e, List.reverse_reverse] at h2
  have e2 : (init ++ [v]).reverse = v :: init.reverse := by simp
  rw [e2] at h2
  cases h2 with
  | cons x t r =>
    refine ⟨_, _, t, rfl, rfl, ?_⟩
    have := strs_rev r
    rwa [List.reverse_reverse] at this
theorem lex_back {h₀ h g h' : Heap} {L L' : Addr} {m m' : Str → Option Value} {hid hid' rest : List (Addr × Obj)} (F : Fr h₀ L h m) (NL : ∀ q ∈ hid, h.get? q.1 = some q.2 ∧ q.1 ≠ L ∧ h₀.get? q.1 = none) (NR : News h₀ L h rest)
    (G : Gr h₀ h g hid) (F' : Fr g L' h' m') (N' : News g L' h' hid') (hrest : ∀ p ∈ rest, p.1 ∉ hid.map (·.1)) : Fr h₀ L h' m ∧ News h₀ L h' (hid' ++ rest) := by
  have hh : ∀ q ∈ hid, q.1 ≠ L ∧ h₀.get? q.1 = none := fun q hq => (NL q hq).2
  have hS : ∀ b ∈ hid.map (·.1), b ≠ L ∧ h₀.get? b = none := fun b hb => by
    obtain ⟨q, hq, rfl⟩ := List.mem_map.mp hb
    exact hh q hq
  have hk := gr_ext G F'
  refine ⟨fr_but F hk hS, fun q hq => ?_⟩
  rcases List.mem_append.mp hq with hq | hq
  · exact gr_new F G hh N' hq
  · exact ⟨hk _ _ (hrest q hq) (NR q hq).1, (NR q hq).2⟩
theorem rc_ok {w : World} {loose : List Str} {p : Program} {mean : ExcName → Option Value} {mg mb : Str → Option Value}
  {dp un : Nat} {fr : Option (List Env)} {gd : Option (List Code)} {h₀ : Heap} {s : Shared} {R : Result → Shared → Prop} {L : Addr} {m : Str → Option Value} {rest : List (Addr × Obj)}
  {lx ld lpb sx sd spb fI c' cell sl : Addr} {ofn oc ocl : Obj} {e : Nat} {vs : List Value} {n : Int} {u1 u2 u3 u4 u5 u6 v1 v2 v3 v4 v5 v6 v7 : Tok} {xs : List Str}
  (T : Top p loose mean mg mb h₀) (F : Fr h₀ L s.heap m) (N : News h₀ L s.heap (lexL w.params lx ld lpb sx sd spb fI c' cell sl ofn oc ocl e vs n u1 u2 u3 u4 u5 u6 v1 v2 v3 v4 v5 v6 v7 ++ rest))
  (LK : LexK w lx ld lpb sx sd fI c' cell sl ofn oc ocl) (hrest : ∀ p ∈ rest, p.1 ∉ [sl, ld, lx, lpb, fI, c', sx, sd, cell]) (hxs : StrsAre vs xs.reverse) (hlen : vs.length ≤ 1000000)
  (hdp : dp + 6 < recursionLimit) (hu : un + 48 < cLine)
  (hret : ∀ e' vs' u5' u1' t h' tk', StrsAre vs' (rcS xs n).2.1.reverse → Fr h₀ L h' m → News h₀ L h' (lexL w.params lx ld lpb sx sd spb fI c' cell sl ofn oc ocl e' vs' (rcS xs n).2.2 u1' u2 u3 u4 u5' u6 v1 v2 v3 v4 v5 v6 v7 ++ rest) → R (.ok (.ret (.str (rcS xs n).1 t))) { s with heap := h', toks := tk' }) :
   (KK w.params).In h₀ → codeAny (model (RW.row.toRowW.prog) w) (Rm dp un fr gd) (.call (.ref 49) ⟨[.ref lx], []⟩) R s := by
  k_fill
  intro X₀
  have NL : ∀ q ∈ lexL w.params lx ld lpb sx sd spb fI c' cell sl ofn oc ocl e vs n u1 u2 u3 u4 u5 u6 v1 v2 v3 v4 v5 v6 v7, s.heap.get? q.1 = some q.2 ∧ q.1 ≠ L ∧ h₀.get? q.1 = none := fun q hq => N q (List.mem_append_left _ hq)
  have NR : News h₀ L s.heap rest := fun q hq => N q (List.mem_append_right _ hq)
  obtain ⟨vsc, tq, hcd1, hcd2⟩ := LK.cd
  have hcl := LK.cl
  have hord := LK.ord
  obtain ⟨oa, ob, oc1, od, oe, of1, og, oh, oi⟩ := hord
  refine' enter (lexL w.params lx ld lpb sx sd spb fI c' cell sl ofn oc ocl e vs n u1 u2 u3 u4 u5 u6 v1 v2 v3 v4 v5 v6 v7) X₀ T F.keep ?kH ?k6 ?k7 ?k8 ?k9 ?kB ?_ ?c2 ?c3 ?c4 ?c5
  case kH => exact fun q hq => ⟨(NL q hq).1, (NL q hq).2.2⟩
  case k6 => k_is
  case k7 => k_is
  case k8 => ktr_room
  case k9 => exact BindsTo.of_eq rfl
  case c5 => decide
  case kB => exact locs rfl
  case c2 => exact rfl
  case c3 => exact rfl
  case c4 => exact rfl
  intro g L' h₁ G F' N' X' T'
  have F₀ := F
  clear N F T X₀
  ((try clear mk0); have mk0 : Mark "call ref"   := ⟨trivial⟩; (try clear mk1); have mk1 : Mark "callWith"   := ⟨trivial⟩; repeat' (first | ((with_reducible refine unhalt (x := "call ref") ?_); first | ((with_reducible show wpAny _ _ (call (Value.ref _) [Value.int 1 _]) _ _ _); (refine' LexK.pc (by assumption) (by k_asm) (by k_asm) (by k_asm) (by k_asm) (by k_all) (by k_mem) (by k_mem) (by assumption) (by assumption) (by k_mem) (by assumption) (by assumption) (by assumption) (by ktr_room) (by ktr_units) ?_ ?_); (all_goals (first | (intro i8 v8 e8 h8 tk8 hv8 F8 N8; obtain ⟨c8, r8, t8, hx8, hv7, hs8⟩ := strs_snoc (by assumption) hv8; subst hv7) | (intro t8 h8 tk8 hv8 F8 N8)))) | (clear mk0; walk1; all_goals (try (with_reducible refine addMark (x := "call ref") fun mk0 => ?_)))) | ((with_reducible refine unhalt (x := "callWith") ?_); first | ((dsimp only); (refine' cw1 (LexK.fnAt (by assumption) (by assumption) (by k_mem)) ?_); (intro t9 tk9)) | (clear mk1; walk1; all_goals (try (with_reducible refine addMark (x := "callWith") fun mk1 => ?_)))) | (k_unfold; (try dsimp only)) | (k_end; kc_close) | walk1 | (dsimp only; walk1) | (leave1; (try dsimp only)) | fail "no step"))
  · rename vs = [] => hv8
    rename Fr _ _ _ _ => F8
    rename News _ _ _ _ => N8
    have hx : xs = [] := by
      have h1 := hxs.len_eq
      rw [hv8] at h1
      simpa using h1.symm
    subst hx
    obtain ⟨F9, N9⟩ := lex_back F₀ NL NR G F8 N8 hrest
    exact hret _ _ _ _ _ _ _ hxs F9 N9
  · rename Fr _ _ _ _ => F8
    rename News _ _ _ _ => N8
    rename StrsAre _ (List.reverse _) => hs8
    rename (_ == _) = true => heq
    rename xs = _ :: _ => hx8
    subst hx8
    obtain ⟨F9, N9⟩ := lex_back F₀ NL NR G F8 N8 hrest
    have hc := eq_of_beq heq
    simp only [rcS, hc, if_true] at hret
    rw [hc]
    exact hret _ _ _ _ _ _ _ hs8 F9 N9
  · rename Fr _ _ _ _ => F8
    rename News _ _ _ _ => N8
    rename StrsAre _ (List.reverse _) => hs8
    rename xs = _ :: _ => hx8
    subst hx8
    obtain ⟨F9, N9⟩ := lex_back F₀ NL NR G F8 N8 hrest
    rename (_ == _) = false => heq
    have hc := ne_of_beq_false heq
    simp only [rcS, hc, if_false] at hret
    exact hret _ _ _ _ _ _ _ hs8 F9 N9
abbrev sg (k : Nat) : Str := ⟨#[k]⟩
abbrev tokL (P : Params) (I q : Addr) (ts : Tok) (lx ld lpb sx sd spb fI c' cell sl : Addr) (ofn oc ocl : Obj) (e : Nat) (vs : List Value) (n : Int) (u1 u2 u3 u4 u5 u6 v1 v2 v3 v4 v5 v6 v7 : Tok) : List (Addr × Obj) :=
  (I, ciObj q ts) :: (q, methodObj (.ref 49) (.ref lx)) :: lexL P lx ld lpb sx sd spb fI c' cell sl ofn oc ocl e vs n u1 u2 u3 u4 u5 u6 v1 v2 v3 v4 v5 v6 v7
def rcN (k : Nat) (n : Int) : Int := if k = 10 then n + 1 else n
theorem sg_nl (k : Nat) : (sg k = Str.ofString "\n") ↔ k = 10 := by
  constructor
  · intro h
    have h2 := congrArg (fun x : Str => x.cps) h
    have h3 : (#[k] : Array Nat) = #[10] := h2
    simpa using h3
  · rintro rfl; rfl
theorem sg_ne (k : Nat) : sg k ≠ Str.ofString "" := fun h => by
  have h2 := congrArg (fun x : Str => x.cps) h
  have h3 : (#[k] : Array Nat) = #[] := h2
  simp at h3
theorem rcS_sg (k : Nat) (r : List Nat) (n : Int) : rcS ((k :: r).map sg) n = (sg k, r.map sg, rcN k n) := by
  simp only [List.map_cons, rcS, rcN, sg_nl]
section
variable {w : World} {loose : List Str} {p : Program} {mean : ExcName → Option Value} {mg mb : Str → Option Value}
  {dp un : Nat} {fr : Option (List Env)} {gd : Option (List Code)} {h₀ : Heap} {s : Shared} {L : Addr} {m : Str → Option Value}
  {I q lx ld lpb sx sd spb fI c' cell sl : Addr} {ofn oc ocl : Obj} {e : Nat} {vs : List Value} {n : Int} {ts u1 u2 u3 u4 u5 u6 v1 v2 v3 v4 v5 v6 v7 : Tok} {ks : List Nat}
theorem tokL_in {h : Heap} (N : News h₀ L h (tokL w.params I q ts lx ld lpb sx sd spb fI c' cell sl ofn oc ocl e vs n u1 u2 u3 u4 u5 u6 v1 v2 v3 v4 v5 v6 v7)) :
    News h₀ L h (lexL w.params lx ld lpb sx sd spb fI c' cell sl ofn oc ocl e vs n u1 u2 u3 u4 u5 u6 v1 v2 v3 v4 v5 v6 v7 ++ [(I, ciObj q ts), (q, methodObj (.ref 49) (.ref lx))]) := fun x hx => by
  rcases List.mem_append.mp hx with hx | hx
  · exact N x (.tail _ (.tail _ hx))
  · rcases List.mem_cons.mp hx with rfl | hx
    · exact N _ (.head _)
    · rw [List.mem_singleton.mp hx]; exact N _ (.tail _ (.head _))
theorem tokL_out {h : Heap} (N : News h₀ L h (lexL w.params lx ld lpb sx sd spb fI c' cell sl ofn oc ocl e vs n u1 u2 u3 u4 u5 u6 v1 v2 v3 v4 v5 v6 v7 ++ [(I, ciObj q ts), (q, methodObj (.ref 49) (.ref lx))])) :
    News h₀ L h (tokL w.params I q ts lx ld lpb sx sd spb fI c' cell sl ofn oc ocl e vs n u1 u2 u3 u4 u5 u6 v1 v2 v3 v4 v5 v6 v7) := fun x hx => by
  rcases List.mem_cons.mp hx with rfl | hx
  · exact N _ (List.mem_append_right _ (.head _))
  rcases List.mem_cons.mp hx with rfl | hx
  · exact N _ (List.mem_append_right _ (.tail _ (.head _)))
  exact N x (List.mem_append_left _ hx)
theorem rc_use {Q E : Value → Shared → Prop}
  (T : Top p loose mean mg mb h₀) (F : Fr h₀ L s.heap m) (N : News h₀ L s.heap (tokL w.params I q ts lx ld lpb sx sd spb fI c' cell sl ofn oc ocl e vs n u1 u2 u3 u4 u5 u6 v1 v2 v3 v4 v5 v6 v7))
  (LK : LexK w lx ld lpb sx sd fI c' cell sl ofn oc ocl) (hI : I ∉ [sl, ld, lx, lpb, fI, c', sx, sd, cell]) (hq : q ∉ [sl, ld, lx, lpb, fI, c', sx, sd, cell]) (hxs : StrsAre vs (ks.map sg).reverse) (hlen : vs.length ≤ 1000000)
  (hdp : dp + 6 < recursionLimit) (hu : un + 48 < cLine) (X₀ : (KK w.params).In h₀) (hne : ks ≠ [])
  (hcons : ∀ k r, ks = k :: r → ∀ e' vs' u5' u1' t h' tk', StrsAre vs' (r.map sg).reverse → vs'.length ≤ 1000000 → Fr h₀ L h' m → News h₀ L h' (tokL w.params I q ts lx ld lpb sx sd spb fI c' cell sl ofn oc ocl e' vs' (rcN k n) u1' u2 u3 u4 u5' u6 v1 v2 v3 v4 v5 v6 v7) → Q (.str (sg k) t) { s with heap := h', toks := tk' }) :
   wpAny (model (RW.row.toRowW.prog) w) (Rm dp un fr gd) (call (.ref 49) [.ref lx]) Q E s := by
  cases ks with
  | nil => exact absurd rfl hne
  | cons k r =>
    refine wpAny_call (rc_ok T F (tokL_in N) LK ?_ hxs hlen hdp hu ?_ X₀)
    · intro x hx
      rcases List.mem_cons.mp hx with rfl | hx
      · exact hI
      · rw [List.mem_singleton.mp hx]; exact hq
    · intro e' vs' u5' u1' t h' tk' hs F' N'
      rw [rcS_sg] at hs N' ⊢
      have hl : vs'.length ≤ 1000000 := by
        have h1 := hs.len_eq
        have h2 := hxs.len_eq
        simp at h1 h2
        omega
      exact hcons k r rfl e' vs' u5' u1' t h' tk' hs hl F' (tokL_out N')
theorem ci_step {Q : Option Value → Shared → Prop} {E : Value → Shared → Prop}
  (T : Top p loose mean mg mb h₀) (F : Fr h₀ L s.heap m) (N : News h₀ L s.heap (tokL w.params I q ts lx ld lpb sx sd spb fI c' cell sl ofn oc ocl e vs n u1 u2 u3 u4 u5 u6 v1 v2 v3 v4 v5 v6 v7))
  (LK : LexK w lx ld lpb sx sd fI c' cell sl ofn oc ocl) (hI : I ∉ [sl, ld, lx, lpb, fI, c', sx, sd, cell]) (hq : q ∉ [sl, ld, lx, lpb, fI, c', sx, sd, cell]) (hIq : q ≠ I) (hxs : StrsAre vs (ks.map sg).reverse) (hlen : vs.length ≤ 1000000)
  (hdp : dp + 6 < recursionLimit) (hu : un + 49 < cLine) (X₀ : (KK w.params).In h₀) (h49 : FnAt 49 h₀)
  (hnil : ks = [] → ∀ e' vs' u5' u1' h' tk', StrsAre vs' [] → Fr h₀ L h' m → News h₀ L h' ((q, methodObj (.ref 49) (.ref lx)) :: lexL w.params lx ld lpb sx sd spb fI c' cell sl ofn oc ocl e' vs' n u1' u2 u3 u4 u5' u6 v1 v2 v3 v4 v5 v6 v7) → Q none { s with heap := h', toks := tk' })
  (hcons : ∀ k r, ks = k :: r → ∀ e' vs' u5' u1' t h' tk', StrsAre vs' (r.map sg).reverse → vs'.length ≤ 1000000 → Fr h₀ L h' m → News h₀ L h' (tokL w.params I q ts lx ld lpb sx sd spb fI c' cell sl ofn oc ocl e' vs' (rcN k n) u1' u2 u3 u4 u5' u6 v1 v2 v3 v4 v5 v6 v7) → Q (some (.str (sg k) t)) { s with heap := h', toks := tk' }) :
   wpAny (model (RW.row.toRowW.prog) w) (Rm dp un fr gd) (pyNext (.ref I)) Q E s := by
  have fk : ∀ {h : Heap} {m : Str → Option Value}, Fr h₀ L h m → FnAt 49 h := fun {h m} F => by
    obtain ⟨a, b, c, d, e⟩ := h49
    exact ⟨a, b, c, d, F.keep _ _ e⟩
  refine ci_next rfl (N _ (.head _)).1 (N _ (.tail _ (.head _))).1 (fk F) ?_
  show codeAny _ (Rm dp (un + 1) fr gd) _ _ _
  refine rc_ok T F (tokL_in N) LK ?_ hxs hlen hdp (by omega) ?_ X₀
  · intro x hx
    rcases List.mem_cons.mp hx with rfl | hx
    · exact hI
    · rw [List.mem_singleton.mp hx]; exact hq
  · intro e' vs' u5' u1' t h' tk' hs F' N'
    have N2 := tokL_out N'
    refine ⟨_, t, rfl, (N2 _ (.head _)).1, (N2 _ (.tail _ (.head _))).1, fk F', ?_, ?_⟩
    · intro hx
      cases ks with
      | nil => exact absurd rfl hx
      | cons k r =>
        rw [rcS_sg] at hs N2 ⊢
        have hl : vs'.length ≤ 1000000 := by
          have h1 := hs.len_eq
          have h2 := hxs.len_eq
          simp at h1 h2
          omega
        exact hcons k r rfl e' vs' u5' u1' t h' tk' hs hl F' N2
    · intro hx h2 hb
      cases ks with
      | cons k r => rw [rcS_sg] at hx; exact absurd hx (sg_ne k)
      | nil =>
        have hk : ∀ b o, b ∉ [I] → h'.get? b = some o → h2.get? b = some o := fun b o hn e => hb b o (fun x => hn (List.mem_singleton.mpr x)) e
        refine hnil rfl e' vs' u5' u1' h2 tk' hs (fr_but F' hk fun b hm => by rw [List.mem_singleton.mp hm]; exact (N2 _ (.head _)).2) (news_but (fun x hx => N2 x (.tail _ hx)) hk fun x hx hm => ?_)
        have hm := List.mem_singleton.mp hm
        rcases List.mem_cons.mp hx with rfl | hx
        · exact hIq hm
        · apply hI
          rw [← hm]
          exact List.mem_map_of_mem (f := fun x : Addr × Obj => x.1) hx
end
end Mine
end
/-! Tok -/
section
open PySem PySem.W PySem.Spec PySem.Calls PyProof.Rows
set_option maxRecDepth 100000
set_option maxHeartbeats 0
namespace Mine
abbrev txt (l : List Nat) : Str := ⟨l.toArray⟩
theorem txt_snoc (l : List Nat) (k : Nat) : txt l ++ sg k = txt (l ++ [k]) := strExt (by rw [Str.cps_append, Array.toList_append])
theorem txt_len (l : List Nat) : (txt l).length = l.length := by simp [Str.length]
theorem no_ws {k : Nat} (hk : k ∉ [10, 9, 13, 32]) (h : (Builtin.Str.occurrences (Str.ofString "\n\t\r ") (sg k) 0 (Str.ofString "\n\t\r ").length 1).isEmpty = false) : False := by
  have e := StrLaws.found_one (Str.ofString "\n\t\r ") k
  rw [h] at e
  exact hk (of_decide_eq_true e.symm)
theorem is_ws (h : (Builtin.Str.occurrences (Str.ofString "\n\t\r ") (sg 32) 0 (Str.ofString "\n\t\r ").length 1).isEmpty = true) : False := by
  have e := StrLaws.found_one (Str.ofString "\n\t\r ") 32
  rw [h] at e
  exact absurd e (by decide)
theorem sg_inj {k c : Nat} (h : sg k = sg c) : k = c := by
  have h2 := congrArg (fun x : Str => x.cps) h
  have h3 : (#[k] : Array Nat) = #[c] := h2
  simpa using h3
theorem no_q {k : Nat} (hk : k ≠ 34) (h : (sg k == Str.ofString "\"") = true) : False := hk (sg_inj (c := 34) (eq_of_beq h))
theorem no_b {k : Nat} (hk : k ≠ 92) (h : (sg k == Str.ofString "\\") = true) : False := hk (sg_inj (c := 92) (eq_of_beq h))
theorem is_b (h : (sg 92 == Str.ofString "\\") = false) : False := absurd h (by decide)
theorem fr_two {h₀ h : Heap} {L : Addr} {mm : Str → Option Value} {x z : Str} {a b : Value} (F : Fr h₀ L h mm) (ha : mm x = some a) (hb : mm z = some b) : Fr h₀ L h (fun y => if y = x then some a else if y = z then some b else mm y) := by
  have e : (fun y => if y = x then some a else if y = z then some b else mm y) = mm := by
    funext y
    by_cases h1 : y = x
    · rw [if_pos h1, h1, ha]
    · rw [if_neg h1]
      by_cases h2 : y = z
      · rw [if_pos h2, h2, hb]
      · rw [if_neg h2]
  rw [e]; exact F
section
variable {prog : Program} {w : World} {A : Around} {E : Value → Shared → Prop} {s : Shared} {h₀ : Heap} {L a : Addr} {m : Str → Option Value} {cn : Str} {scope : Scope} {cd : Value} {Q : Flow → Shared → Prop}
def Again (J : Nat → Shared → Prop) (k : Nat) (s : Shared) : Prop := ∃ m, m < k ∧ J m s
theorem for_ci {x y : Str} {px py pos : Pos} {body : List Stmt} {I q : Addr} {ts : Tok} (J : Nat → Shared → Prop) (F : Fr h₀ L s.heap m) (hm : m y = some (.ref I)) (hI : s.heap.get? I = some (ciObj q ts))
    (hk : scope.kind = .function) (hl : (envOf cn scope L a cd).kindOf y = some .local) (hb : (y == ("__debug__" : Str)) = false)
    (n : Nat) (h : J n s)
    (turn : ∀ k s, J k s → wpAny (model prog w) A (pyNext (.ref I)) (fun r s₁ => match r with
      | none => Q .next s₁
      | some v => wpAny (model prog w) A (assign (.Name x px) (envOf cn scope L a cd) v) (fun _ s₂ => wpAny (model prog w) A (execs body (envOf cn scope L a cd)) (fun f s₃ => match f with
          | .next | .cont => Again J k s₃
          | .brk => Q .next s₃
          | .ret v => Q (.ret v) s₃) (fun _ _ => False) s₂) (fun _ _ => False) s₁) (fun _ _ => False) s) :
    wpAny (model prog w) A (exec (.For (.Name x px) (.Name y py) body [] pos) (envOf cn scope L a cd)) Q E s := by
  refine wpAny_For ?_
  refine PyProof.Rows.ld F hm ?_ hk hl hb
  refine ci_pyIter hI ?_
  refine codeAny_forLoop J (fun k s' hj => wpAny_mono (turn k s' hj) (fun r s₁ h₁ => ?_) fun _ _ e => e.elim) n h
  cases r with
  | none => exact wpAny_execs_nil h₁
  | some v =>
    refine wpAny_mono h₁ (fun _ s₂ h₂ => wpAny_mono h₂ (fun f s₃ h₃ => ?_) fun _ _ e => e.elim) fun _ _ e => e.elim
    cases f <;> exact h₃
end
theorem tok_ok {w : World} {loose : List Str} {p : Program} {mean : ExcName → Option Value} {mg mb : Str → Option Value}
  {dp un : Nat} {fr : Option (List Env)} {gd : Option (List Code)} {h₀ : Heap} {s : Shared} {R : Result → Shared → Prop} {L : Addr} {m : Str → Option Value} {rest : List (Addr × Obj)}
  {lx ld lpb sx sd spb fI c' cell sl : Addr} {ofn oc ocl : Obj} {e : Nat} {vs : List Value} {n : Int} {u1 u2 u3 u4 u5 u6 v1 v2 v3 v4 v5 v6 v7 : Tok} {ks : List Nat}
  (T : Top p loose mean mg mb h₀) (F : Fr h₀ L s.heap m) (N : News h₀ L s.heap (lexL w.params lx ld lpb sx sd spb fI c' cell sl ofn oc ocl e vs n u1 u2 u3 u4 u5 u6 v1 v2 v3 v4 v5 v6 v7 ++ rest))
  (LK : LexK w lx ld lpb sx sd fI c' cell sl ofn oc ocl) (hrest : ∀ p ∈ rest, p.1 ∉ [sl, ld, lx, lpb, fI, c', sx, sd, cell]) (hxs : StrsAre vs (ks.map sg).reverse) (hlen : vs.length ≤ 1000000)
  (hdp : dp + 8 < recursionLimit) (hu : un + 64 < cLine)
  {P : Nat → List Nat → List Nat → Prop} (hks : ks = [] ∨ ∃ k r r', P k r r' ∧ (∀ x ∈ r, x ∉ [10, 9, 13, 32] ∧ x ≠ 92) ∧ r.length ≤ 1000 ∧ ((ks = k :: (r ++ 32 :: r') ∧ k ∉ [10, 9, 13, 32] ∧ k ≠ 34 ∧ k ≠ 92) ∨ ks = 92 :: k :: (r ++ 32 :: r')))
  (hnil : ks = [] → ∀ e' vs' z1 z5 t h' tk', StrsAre vs' [] → Fr h₀ L h' m → News h₀ L h' (lexL w.params lx ld lpb sx sd spb fI c' cell sl ofn oc ocl e' vs' n z1 u2 u3 u4 z5 u6 v1 v2 v3 v4 v5 v6 v7 ++ rest) → R (.ok (.ret (.str (Str.ofString "") t))) { s with heap := h', toks := tk' })
  (htok : ∀ k r r', P k r r' → ∀ e' vs' z1 z5 t h' tk', StrsAre vs' (r'.map sg).reverse → vs'.length ≤ 1000000 → Fr h₀ L h' m →
    News h₀ L h' (lexL w.params lx ld lpb sx sd spb fI c' cell sl ofn oc ocl e' vs' (rcN k n) z1 u2 u3 u4 z5 u6 v1 v2 v3 v4 v5 v6 v7 ++ rest) → R (.ok (.ret (.str (txt (k :: r)) t))) { s with heap := h', toks := tk' }) :
   (KK w.params).In h₀ → codeAny (model (RW.row.toRowW.prog) w) (Rm dp un fr gd) (.call (.ref 56) ⟨[.ref lx], []⟩) R s := by
  k_fill
  intro X₀
  have NL : ∀ q ∈ lexL w.params lx ld lpb sx sd spb fI c' cell sl ofn oc ocl e vs n u1 u2 u3 u4 u5 u6 v1 v2 v3 v4 v5 v6 v7, s.heap.get? q.1 = some q.2 ∧ q.1 ≠ L ∧ h₀.get? q.1 = none := fun q hq => N q (List.mem_append_left _ hq)
  have NR : News h₀ L s.heap rest := fun q hq => N q (List.mem_append_right _ hq)
  have hord := LK.ord
  obtain ⟨oa, ob, oc1, od, oe, of1, og, oh, oi⟩ := hord
  refine' enter (lexL w.params lx ld lpb sx sd spb fI c' cell sl ofn oc ocl e vs n u1 u2 u3 u4 u5 u6 v1 v2 v3 v4 v5 v6 v7) X₀ T F.keep ?kH ?k6 ?k7 ?k8 ?k9 ?kB ?_ ?c2 ?c3 ?c4 ?c5
  case kH => exact fun q hq => ⟨(NL q hq).1, (NL q hq).2.2⟩
  case k6 => k_is
  case k7 => k_is
  case k8 => ktr_room
  case k9 => exact BindsTo.of_eq rfl
  case c5 => decide
  case kB => exact locs rfl
  case c2 => exact rfl
  case c3 => exact rfl
  case c4 => exact rfl
  intro g L' h₁ G F' N' X' T'
  have F₀ := F
  clear N F T X₀
  have X49 : FnAt 49 g := ⟨_, _, _, _, X' _ _ (by k_is)⟩
  ((try clear mkF); have mkF : Mark "fold" := ⟨trivial⟩; (try clear mk0); have mk0 : Mark "exec For Name Name cons nil"   := ⟨trivial⟩; (try clear mk1); have mk1 : Mark "call builtin:iter"   := ⟨trivial⟩; (try clear mk2); have mk2 : Mark "inplaceOp Add str str"   := ⟨trivial⟩; repeat' (first | ((with_reducible refine unhalt (x := "exec For Name Name cons nil") ?_); first | ((refine halt2 ?_)) | (clear mk0; walk1; all_goals (try (with_reducible refine addMark (x := "exec For Name Name cons nil") fun mk0 => ?_)))) | ((with_reducible refine unhalt (x := "call builtin:iter") ?_); first | ((with_reducible show wpAny _ _ (call (Value.builtin "iter") [Value.ref _, Value.str _ _]) _ _ _); (refine' iter_ci (by k_asm) (by k_asm) (by k_mem) ?_); (k_whole); (intro I9 hc F9 N9 lI); (replace lI := allLt_of lI; simp only [List.cons_append, List.nil_append, AllLt, and_true] at lI)) | (clear mk1; walk1; all_goals (try (with_reducible refine addMark (x := "call builtin:iter") fun mk1 => ?_)))) | ((with_reducible refine unhalt (x := "inplaceOp Add str str") ?_); first | ((refine PyProof.Rows.iadd_str (hsz := (by (show _ + 1 ≤ sizeLine; rw [PySem.sizeLine_eq]; first | exact Nat.le_of_ble_eq_true rfl | omega))) ?_); (intro t8 tk8)) | (clear mk2; walk1; all_goals (try (with_reducible refine addMark (x := "inplaceOp Add str str") fun mk2 => ?_)))) | (k_unfold; (try dsimp only)) | (k_end; kc_close) | walk1 | (dsimp only; walk1) | (leave1; (try dsimp only)) | fail "no step"))
  unfold Halt2
  rename Fr _ _ _ _ => F1
  rename News _ _ _ _ => N1
  rename_i tka ha q9 hb lq hd9
  have hIn : I9 ∉ [sl, ld, lx, lpb, fI, c', sx, sd, cell] := by
    simp only [List.mem_cons, List.not_mem_nil, or_false, not_or]; refine ⟨?_, ?_, ?_, ?_, ?_, ?_, ?_, ?_, ?_⟩ <;> exact Nat.ne_of_gt (by omega)
  have hqn : q9 ∉ [sl, ld, lx, lpb, fI, c', sx, sd, cell] := by
    simp only [List.mem_cons, List.not_mem_nil, or_false, not_or]; refine ⟨?_, ?_, ?_, ?_, ?_, ?_, ?_, ?_, ?_⟩ <;> exact Nat.ne_of_gt (by omega)
  have hIqn : q9 ≠ I9 := Nat.ne_of_lt (by omega)
  refine for_ci (fun k s' => k = 1 ∧ s' = _) F1 rfl (N1 _ (.head _)).1 rfl rfl (by decide) 1 ⟨rfl, rfl⟩ ?_
  rintro k9 _ ⟨rfl, rfl⟩
  refine' ci_step (ks := ks) T' F1 N1 LK hIn hqn hIqn hxs hlen ?hd ?hu X' X49 ?hnil ?hcons
  case hd => ktr_room
  case hu => ktr_units
  case hnil =>
    intro h0 e1 vs1 z5 z1 h1 tk1 hs1 F2 N2
    clear F1 N1
    dsimp only
    ((try clear mkF); have mkF : Mark "fold" := ⟨trivial⟩; (try clear mk0); have mk0 : Mark "exec For Name Name cons nil"   := ⟨trivial⟩; (try clear mk1); have mk1 : Mark "call builtin:iter"   := ⟨trivial⟩; (try clear mk2); have mk2 : Mark "inplaceOp Add str str"   := ⟨trivial⟩; repeat' (first | ((with_reducible refine unhalt (x := "exec For Name Name cons nil") ?_); first | ((refine halt2 ?_)) | (clear mk0; walk1; all_goals (try (with_reducible refine addMark (x := "exec For Name Name cons nil") fun mk0 => ?_)))) | ((with_reducible refine unhalt (x := "call builtin:iter") ?_); first | ((with_reducible show wpAny _ _ (call (Value.builtin "iter") [Value.ref _, Value.str _ _]) _ _ _); (refine' iter_ci (by k_asm) (by k_asm) (by k_mem) ?_); (k_whole); (intro I9 hc F9 N9 lI); (replace lI := allLt_of lI; simp only [List.cons_append, List.nil_append, AllLt, and_true] at lI)) | (clear mk1; walk1; all_goals (try (with_reducible refine addMark (x := "call builtin:iter") fun mk1 => ?_)))) | ((with_reducible refine unhalt (x := "inplaceOp Add str str") ?_); first | ((refine PyProof.Rows.iadd_str (hsz := (by (show _ + 1 ≤ sizeLine; rw [PySem.sizeLine_eq]; first | exact Nat.le_of_ble_eq_true rfl | omega))) ?_); (intro t8 tk8)) | (clear mk2; walk1; all_goals (try (with_reducible refine addMark (x := "inplaceOp Add str str") fun mk2 => ?_)))) | (k_unfold; (try dsimp only)) | (k_end; kc_close) | walk1 | (dsimp only; walk1) | (leave1; (try dsimp only)) | fail "no step"))
    obtain ⟨F9, N9⟩ := lex_back F₀ NL NR G F2 (fun x hx => N2 x (.tail _ hx)) hrest
    exact hnil h0 _ _ _ _ _ _ _ hs1 F9 N9
  case hcons =>
    intro k r hkr e1 vs1 z5 z1 t1 h1 tk1 hs1 hl1 F2 N2
    clear F1 N1
    dsimp only
    rcases hks with h0 | ⟨k0, r0, r1, hform, hok, hlen0, hBC⟩
    · rw [h0] at hkr; cases hkr
    rcases hBC with ⟨hB, hB0, hB1, hB2⟩ | hC
    · rw [hB] at hkr
      cases hkr
      ((try clear mkF); have mkF : Mark "fold" := ⟨trivial⟩; (try clear mk0); have mk0 : Mark "exec For Name Name cons nil"   := ⟨trivial⟩; (try clear mk1); have mk1 : Mark "call builtin:iter"   := ⟨trivial⟩; (try clear mk2); have mk2 : Mark "inplaceOp Add str str"   := ⟨trivial⟩; repeat' (first | ((with_reducible refine unhalt (x := "exec For Name Name cons nil") ?_); first | ((refine halt2 ?_)) | (clear mk0; walk1; all_goals (try (with_reducible refine addMark (x := "exec For Name Name cons nil") fun mk0 => ?_)))) | ((with_reducible refine unhalt (x := "call builtin:iter") ?_); first | ((with_reducible show wpAny _ _ (call (Value.builtin "iter") [Value.ref _, Value.str _ _]) _ _ _); (refine' iter_ci (by k_asm) (by k_asm) (by k_mem) ?_); (k_whole); (intro I9 hc F9 N9 lI); (replace lI := allLt_of lI; simp only [List.cons_append, List.nil_append, AllLt, and_true] at lI)) | (clear mk1; walk1; all_goals (try (with_reducible refine addMark (x := "call builtin:iter") fun mk1 => ?_)))) | ((with_reducible refine unhalt (x := "inplaceOp Add str str") ?_); first | ((refine PyProof.Rows.iadd_str (hsz := (by (show _ + 1 ≤ sizeLine; rw [PySem.sizeLine_eq]; first | exact Nat.le_of_ble_eq_true rfl | omega))) ?_); (intro t8 tk8)) | (clear mk2; walk1; all_goals (try (with_reducible refine addMark (x := "inplaceOp Add str str") fun mk2 => ?_)))) | (k_unfold; (try dsimp only)) | (k_end; kc_close) | walk1 | (dsimp only; walk1) | (leave1; (try dsimp only)) | fail "no step"))
      all_goals try (first | exact (no_ws hB0 (by assumption)).elim | exact (no_q hB1 (by assumption)).elim | exact (no_b hB2 (by assumption)).elim)
      have hs3 := hs1
      have hl3 := hl1
      unfold Halt2
      rename Fr _ _ _ _ => F3
      rename News _ _ _ _ => N3
      rw [show Str.ofString "" ++ sg k = txt [k] from txt_snoc [] k] at F3
      have F4 := fr_two (x := Str.ofString "token") (z := Str.ofString "self") F3 rfl rfl
      refine for_ci (fun j s' => ∃ (l r' : List Nat) (e4 : Nat) (vs4 : List Value) (z14 z54 t4 : Tok) (h4 : Heap) (tk4 : Nat) (mm : Str → Option Value), j = r'.length + 1 ∧ l ++ r' = k :: r0 ∧ (∀ x ∈ r', x ∈ r0) ∧ StrsAre vs4 ((r' ++ 32 :: r1).map sg).reverse ∧ vs4.length ≤ 1000000 ∧ s' = { s with heap := h4, toks := tk4 } ∧
        Fr g L' h4 (fun y => if y = Str.ofString "token" then some (.str (txt l) t4) else if y = Str.ofString "self" then some (.ref lx) else mm y) ∧
        News g L' h4 (tokL w.params I9 q9 _ lx ld lpb sx sd spb fI c' cell sl ofn oc ocl e4 vs4 (rcN k n) z14 u2 u3 u4 z54 u6 v1 v2 v3 v4 v5 v6 v7)) F3 rfl (N3 _ (.head _)).1 rfl rfl (by decide) _
        ⟨[k], r0, _, _, _, _, _, _, _, _, rfl, rfl, (fun _ h => h), hs3, hl3, rfl, F4, N3⟩ ?_
      rintro j s' ⟨l, r', e4, vs4, z14, z54, t4, h4, tk4, mm, rfl, hlr, hrr, hs4, hl4, rfl, F5, N5⟩
      refine' ci_step (ks := r' ++ 32 :: r1) T' F5 N5 LK hIn hqn hIqn hs4 hl4 ?hd ?hu X' X49 ?hnil ?hcons
      case hd => ktr_room
      case hu => ktr_units
      case hnil => intro h0; exact absurd h0 (by simp)
      case hcons =>
        intro k2 r2 hkr e5 vs5 z55 z15 t5 h5 tk5 hs5 hl5 F6 N6
        clear F3 N3 F4 F5 N5
        dsimp only
        cases r' with
        | nil =>
          rw [List.nil_append] at hkr
          cases hkr
          rw [List.append_nil] at hlr
          subst hlr
          ((try clear mkF); have mkF : Mark "fold" := ⟨trivial⟩; (try clear mk0); have mk0 : Mark "exec For Name Name cons nil"   := ⟨trivial⟩; (try clear mk1); have mk1 : Mark "call builtin:iter"   := ⟨trivial⟩; (try clear mk2); have mk2 : Mark "inplaceOp Add str str"   := ⟨trivial⟩; repeat' (first | ((with_reducible refine unhalt (x := "exec For Name Name cons nil") ?_); first | ((refine halt2 ?_)) | (clear mk0; walk1; all_goals (try (with_reducible refine addMark (x := "exec For Name Name cons nil") fun mk0 => ?_)))) | ((with_reducible refine unhalt (x := "call builtin:iter") ?_); first | ((with_reducible show wpAny _ _ (call (Value.builtin "iter") [Value.ref _, Value.str _ _]) _ _ _); (refine' iter_ci (by k_asm) (by k_asm) (by k_mem) ?_); (k_whole); (intro I9 hc F9 N9 lI); (replace lI := allLt_of lI; simp only [List.cons_append, List.nil_append, AllLt, and_true] at lI)) | (clear mk1; walk1; all_goals (try (with_reducible refine addMark (x := "call builtin:iter") fun mk1 => ?_)))) | ((with_reducible refine unhalt (x := "inplaceOp Add str str") ?_); first | ((refine PyProof.Rows.iadd_str (hsz := (by (show _ + 1 ≤ sizeLine; rw [PySem.sizeLine_eq]; first | exact Nat.le_of_ble_eq_true rfl | omega))) ?_); (intro t8 tk8)) | (clear mk2; walk1; all_goals (try (with_reducible refine addMark (x := "inplaceOp Add str str") fun mk2 => ?_)))) | (k_unfold; (try dsimp only)) | (k_end; kc_close) | walk1 | (dsimp only; walk1) | (leave1; (try dsimp only)) | fail "no step"))
          all_goals try exact (is_ws (by assumption)).elim
          rename Fr _ _ _ _ => F8
          rename News _ _ _ _ => N8
          obtain ⟨F9, N9⟩ := lex_back F₀ NL NR G F8 (fun x hx => N8 x (.tail _ (.tail _ hx))) hrest
          exact htok k r0 r1 hform _ _ _ _ _ _ _ hs5 hl5 F9 N9
        | cons c r2' =>
          rw [List.cons_append] at hkr
          cases hkr
          have hc0 := hok k2 (hrr k2 (.head _))
          have hl9 : (txt l).length ≤ 2000 := by
            rw [txt_len]
            have h9 := congrArg List.length hlr
            simp at h9
            omega
          ((try clear mkF); have mkF : Mark "fold" := ⟨trivial⟩; (try clear mk0); have mk0 : Mark "exec For Name Name cons nil"   := ⟨trivial⟩; (try clear mk1); have mk1 : Mark "call builtin:iter"   := ⟨trivial⟩; (try clear mk2); have mk2 : Mark "inplaceOp Add str str"   := ⟨trivial⟩; repeat' (first | ((with_reducible refine unhalt (x := "exec For Name Name cons nil") ?_); first | ((refine halt2 ?_)) | (clear mk0; walk1; all_goals (try (with_reducible refine addMark (x := "exec For Name Name cons nil") fun mk0 => ?_)))) | ((with_reducible refine unhalt (x := "call builtin:iter") ?_); first | ((with_reducible show wpAny _ _ (call (Value.builtin "iter") [Value.ref _, Value.str _ _]) _ _ _); (refine' iter_ci (by k_asm) (by k_asm) (by k_mem) ?_); (k_whole); (intro I9 hc F9 N9 lI); (replace lI := allLt_of lI; simp only [List.cons_append, List.nil_append, AllLt, and_true] at lI)) | (clear mk1; walk1; all_goals (try (with_reducible refine addMark (x := "call builtin:iter") fun mk1 => ?_)))) | ((with_reducible refine unhalt (x := "inplaceOp Add str str") ?_); first | ((refine PyProof.Rows.iadd_str (hsz := (by (show _ + 1 ≤ sizeLine; rw [PySem.sizeLine_eq]; first | exact Nat.le_of_ble_eq_true rfl | omega))) ?_); (intro t8 tk8)) | (clear mk2; walk1; all_goals (try (with_reducible refine addMark (x := "inplaceOp Add str str") fun mk2 => ?_)))) | (k_unfold; (try dsimp only)) | (k_end; kc_close) | walk1 | (dsimp only; walk1) | (leave1; (try dsimp only)) | fail "no step"))
          all_goals try (first | exact (no_ws hc0.1 (by assumption)).elim | exact (no_b hc0.2 (by assumption)).elim)
          rename Fr _ _ _ _ => F8
          rename News _ _ _ _ => N8
          rw [txt_snoc l k2] at F8
          rw [show rcN k2 (rcN k n) = rcN k n from if_neg (fun e => hc0.1 (by rw [e]; decide))] at N8
          have F9 := fr_two (x := Str.ofString "token") (z := Str.ofString "self") F8 rfl rfl
          exact ⟨_, Nat.lt_succ_self _, l ++ [k2], r2', _, _, _, _, _, _, _, _, rfl, by rw [← hlr]; simp, fun x hx => hrr x (.tail _ hx), hs5, hl5, rfl, F9, N8⟩
    · rw [hC] at hkr
      cases hkr
      ((try clear mkF); have mkF : Mark "fold" := ⟨trivial⟩; (try clear mk0); have mk0 : Mark "exec For Name Name cons nil"   := ⟨trivial⟩; (try clear mk1); have mk1 : Mark "call builtin:iter"   := ⟨trivial⟩; (try clear mk2); have mk2 : Mark "inplaceOp Add str str"   := ⟨trivial⟩; repeat' (first | ((with_reducible refine unhalt (x := "exec For Name Name cons nil") ?_); first | ((refine halt2 ?_)) | (clear mk0; walk1; all_goals (try (with_reducible refine addMark (x := "exec For Name Name cons nil") fun mk0 => ?_)))) | ((with_reducible refine unhalt (x := "call builtin:iter") ?_); first | ((with_reducible show wpAny _ _ (call (Value.builtin "iter") [Value.ref _, Value.str _ _]) _ _ _); (refine' iter_ci (by k_asm) (by k_asm) (by k_mem) ?_); (k_whole); (intro I9 hc F9 N9 lI); (replace lI := allLt_of lI; simp only [List.cons_append, List.nil_append, AllLt, and_true] at lI)) | (clear mk1; walk1; all_goals (try (with_reducible refine addMark (x := "call builtin:iter") fun mk1 => ?_)))) | ((with_reducible refine unhalt (x := "inplaceOp Add str str") ?_); first | ((refine PyProof.Rows.iadd_str (hsz := (by (show _ + 1 ≤ sizeLine; rw [PySem.sizeLine_eq]; first | exact Nat.le_of_ble_eq_true rfl | omega))) ?_); (intro t8 tk8)) | (clear mk2; walk1; all_goals (try (with_reducible refine addMark (x := "inplaceOp Add str str") fun mk2 => ?_)))) | (k_unfold; (try dsimp only)) | (k_end; kc_close) | walk1 | (dsimp only; walk1) | (leave1; (try dsimp only)) | fail "no step"))
      all_goals try (first | exact (no_ws (k := 92) (by decide) (by assumption)).elim | exact (no_q (k := 92) (by decide) (by assumption)).elim | exact (is_b (by assumption)).elim)
      dsimp only [List.cons_append, List.nil_append]
      rename Fr _ _ _ _ => F5
      rename News _ _ _ _ => N5
      refine' rc_use (ks := k0 :: (r0 ++ 32 :: r1)) T' F5 N5 LK hIn hqn hs1 hl1 ?hd ?hu X' (by simp) ?hcons2
      case hd => ktr_room
      case hu => ktr_units
      intro ka ra hkr2 e6 vs6 z56 z16 t6 h6 tk6 hs3 hl3 F6 N6
      cases hkr2
      clear F5 N5
      dsimp only
      ((try clear mkF); have mkF : Mark "fold" := ⟨trivial⟩; (try clear mk0); have mk0 : Mark "exec For Name Name cons nil"   := ⟨trivial⟩; (try clear mk1); have mk1 : Mark "call builtin:iter"   := ⟨trivial⟩; (try clear mk2); have mk2 : Mark "inplaceOp Add str str"   := ⟨trivial⟩; repeat' (first | ((with_reducible refine unhalt (x := "exec For Name Name cons nil") ?_); first | ((refine halt2 ?_)) | (clear mk0; walk1; all_goals (try (with_reducible refine addMark (x := "exec For Name Name cons nil") fun mk0 => ?_)))) | ((with_reducible refine unhalt (x := "call builtin:iter") ?_); first | ((with_reducible show wpAny _ _ (call (Value.builtin "iter") [Value.ref _, Value.str _ _]) _ _ _); (refine' iter_ci (by k_asm) (by k_asm) (by k_mem) ?_); (k_whole); (intro I9 hc F9 N9 lI); (replace lI := allLt_of lI; simp only [List.cons_append, List.nil_append, AllLt, and_true] at lI)) | (clear mk1; walk1; all_goals (try (with_reducible refine addMark (x := "call builtin:iter") fun mk1 => ?_)))) | ((with_reducible refine unhalt (x := "inplaceOp Add str str") ?_); first | ((refine PyProof.Rows.iadd_str (hsz := (by (show _ + 1 ≤ sizeLine; rw [PySem.sizeLine_eq]; first | exact Nat.le_of_ble_eq_true rfl | omega))) ?_); (intro t8 tk8)) | (clear mk2; walk1; all_goals (try (with_reducible refine addMark (x := "inplaceOp Add str str") fun mk2 => ?_)))) | (k_unfold; (try dsimp only)) | (k_end; kc_close) | walk1 | (dsimp only; walk1) | (leave1; (try dsimp only)) | fail "no step"))
      unfold Halt2
      rename Fr _ _ _ _ => F3
      rename News _ _ _ _ => N3
      rw [show Str.ofString "" ++ sg k0 = txt [k0] from txt_snoc [] k0] at F3
      have F4 := fr_two (x := Str.ofString "token") (z := Str.ofString "self") F3 rfl rfl
      refine for_ci (fun j s' => ∃ (l r' : List Nat) (e4 : Nat) (vs4 : List Value) (z14 z54 t4 : Tok) (h4 : Heap) (tk4 : Nat) (mm : Str → Option Value), j = r'.length + 1 ∧ l ++ r' = k0 :: r0 ∧ (∀ x ∈ r', x ∈ r0) ∧ StrsAre vs4 ((r' ++ 32 :: r1).map sg).reverse ∧ vs4.length ≤ 1000000 ∧ s' = { s with heap := h4, toks := tk4 } ∧
        Fr g L' h4 (fun y => if y = Str.ofString "token" then some (.str (txt l) t4) else if y = Str.ofString "self" then some (.ref lx) else mm y) ∧
        News g L' h4 (tokL w.params I9 q9 _ lx ld lpb sx sd spb fI c' cell sl ofn oc ocl e4 vs4 (rcN k0 n) z14 u2 u3 u4 z54 u6 v1 v2 v3 v4 v5 v6 v7)) F3 rfl (N3 _ (.head _)).1 rfl rfl (by decide) _
        ⟨[k0], r0, _, _, _, _, _, _, _, _, rfl, rfl, (fun _ h => h), hs3, hl3, rfl, F4, N3⟩ ?_
      rintro j s' ⟨l, r', e4, vs4, z14, z54, t4, h4, tk4, mm, rfl, hlr, hrr, hs4, hl4, rfl, F5, N5⟩
      refine' ci_step (ks := r' ++ 32 :: r1) T' F5 N5 LK hIn hqn hIqn hs4 hl4 ?hd ?hu X' X49 ?hnil ?hcons
      case hd => ktr_room
      case hu => ktr_units
      case hnil => intro h0; exact absurd h0 (by simp)
      case hcons =>
        intro k2 r2 hkr e5 vs5 z55 z15 t5 h5 tk5 hs5 hl5 F6 N6
        clear F3 N3 F4 F5 N5
        dsimp only
        cases r' with
        | nil =>
          rw [List.nil_append] at hkr
          cases hkr
          rw [List.append_nil] at hlr
          subst hlr
          ((try clear mkF); have mkF : Mark "fold" := ⟨trivial⟩; (try clear mk0); have mk0 : Mark "exec For Name Name cons nil"   := ⟨trivial⟩; (try clear mk1); have mk1 : Mark "call builtin:iter"   := ⟨trivial⟩; (try clear mk2); have mk2 : Mark "inplaceOp Add str str"   := ⟨trivial⟩; repeat' (first | ((with_reducible refine unhalt (x := "exec For Name Name cons nil") ?_); first | ((refine halt2 ?_)) | (clear mk0; walk1; all_goals (try (with_reducible refine addMark (x := "exec For Name Name cons nil") fun mk0 => ?_)))) | ((with_reducible refine unhalt (x := "call builtin:iter") ?_); first | ((with_reducible show wpAny _ _ (call (Value.builtin "iter") [Value.ref _, Value.str _ _]) _ _ _); (refine' iter_ci (by k_asm) (by k_asm) (by k_mem) ?_); (k_whole); (intro I9 hc F9 N9 lI); (replace lI := allLt_of lI; simp only [List.cons_append, List.nil_append, AllLt, and_true] at lI)) | (clear mk1; walk1; all_goals (try (with_reducible refine addMark (x := "call builtin:iter") fun mk1 => ?_)))) | ((with_reducible refine unhalt (x := "inplaceOp Add str str") ?_); first | ((refine PyProof.Rows.iadd_str (hsz := (by (show _ + 1 ≤ sizeLine; rw [PySem.sizeLine_eq]; first | exact Nat.le_of_ble_eq_true rfl | omega))) ?_); (intro t8 tk8)) | (clear mk2; walk1; all_goals (try (with_reducible refine addMark (x := "inplaceOp Add str str") fun mk2 => ?_)))) | (k_unfold; (try dsimp only)) | (k_end; kc_close) | walk1 | (dsimp only; walk1) | (leave1; (try dsimp only)) | fail "no step"))
          all_goals try exact (is_ws (by assumption)).elim
          rename Fr _ _ _ _ => F8
          rename News _ _ _ _ => N8
          obtain ⟨F9, N9⟩ := lex_back F₀ NL NR G F8 (fun x hx => N8 x (.tail _ (.tail _ hx))) hrest
          exact htok k0 r0 r1 hform _ _ _ _ _ _ _ hs5 hl5 F9 N9
        | cons c r2' =>
          rw [List.cons_append] at hkr
          cases hkr
          have hc0 := hok k2 (hrr k2 (.head _))
          have hl9 : (txt l).length ≤ 2000 := by
            rw [txt_len]
            have h9 := congrArg List.length hlr
            simp at h9
            omega
          ((try clear mkF); have mkF : Mark "fold" := ⟨trivial⟩; (try clear mk0); have mk0 : Mark "exec For Name Name cons nil"   := ⟨trivial⟩; (try clear mk1); have mk1 : Mark "call builtin:iter"   := ⟨trivial⟩; (try clear mk2); have mk2 : Mark "inplaceOp Add str str"   := ⟨trivial⟩; repeat' (first | ((with_reducible refine unhalt (x := "exec For Name Name cons nil") ?_); first | ((refine halt2 ?_)) | (clear mk0; walk1; all_goals (try (with_reducible refine addMark (x := "exec For Name Name cons nil") fun mk0 => ?_)))) | ((with_reducible refine unhalt (x := "call builtin:iter") ?_); first | ((with_reducible show wpAny _ _ (call (Value.builtin "iter") [Value.ref _, Value.str _ _]) _ _ _); (refine' iter_ci (by k_asm) (by k_asm) (by k_mem) ?_); (k_whole); (intro I9 hc F9 N9 lI); (replace lI := allLt_of lI; simp only [List.cons_append, List.nil_append, AllLt, and_true] at lI)) | (clear mk1; walk1; all_goals (try (with_reducible refine addMark (x := "call builtin:iter") fun mk1 => ?_)))) | ((with_reducible refine unhalt (x := "inplaceOp Add str str") ?_); first | ((refine PyProof.Rows.iadd_str (hsz := (by (show _ + 1 ≤ sizeLine; rw [PySem.sizeLine_eq]; first | exact Nat.le_of_ble_eq_true rfl | omega))) ?_); (intro t8 tk8)) | (clear mk2; walk1; all_goals (try (with_reducible refine addMark (x := "inplaceOp Add str str") fun mk2 => ?_)))) | (k_unfold; (try dsimp only)) | (k_end; kc_close) | walk1 | (dsimp only; walk1) | (leave1; (try dsimp only)) | fail "no step"))
          all_goals try (first | exact (no_ws hc0.1 (by assumption)).elim | exact (no_b hc0.2 (by assumption)).elim)
          rename Fr _ _ _ _ => F8
          rename News _ _ _ _ => N8
          rw [txt_snoc l k2] at F8
          rw [show rcN k2 (rcN k0 n) = rcN k0 n from if_neg (fun e => hc0.1 (by rw [e]; decide))] at N8
          have F9 := fr_two (x := Str.ofString "token") (z := Str.ofString "self") F8 rfl rfl
          exact ⟨_, Nat.lt_succ_self _, l ++ [k2], r2', _, _, _, _, _, _, _, _, rfl, by rw [← hlr]; simp, fun x hx => hrr x (.tail _ hx), hs5, hl5, rfl, F9, N8⟩
end Mine
end
/-! HandCall -/
section
open PySem PySem.W PySem.Spec PySem.Calls PyProof.Rows
set_option maxRecDepth 100000
set_option maxHeartbeats 400000
namespace Mine
theorem handcall_ok {w : World} {loose : List Str} {p : Program} {mean : ExcName → Option Value} {mg mb : Str → Option Value}
  {dp un : Nat} {fr : Option (List Env)} {gd : Option (List Code)} {h₀ : Heap} {s : Shared} {Q E : Value → Shared → Prop}
  {x : Str} {tx : Tok} {k : Int}
  (T : Top p loose mean mg mb h₀) (E₀ : Ext h₀ s.heap) (hlen : x.length ≤ 10000) (hk0 : 0 ≤ k) (hk5 : k < 5)
  (hdp : dp + 1 < recursionLimit) (hu : un + 8 < cLine)
  (hret : ∀ t h' tk', Ext s.heap h' → Q (.str (escK k x) t) { s with heap := h', toks := tk' }) (X₀ : (KK w.params).In h₀) :
   wpAny (model (RW.row.toRowW.prog) w) (Rm dp un fr gd) (call (.ref (handA k)) [.str x tx]) Q E s := by
  have hc : k = 0 ∨ k = 1 ∨ k = 2 ∨ k = 3 ∨ k = 4 := by omega
  rcases hc with rfl | rfl | rfl | rfl | rfl
  · exact esc0_ok T E₀ hlen hdp hu hret X₀
  · exact esc1_ok T E₀ hlen hdp hu hret X₀
  · exact esc2_ok T E₀ hlen hdp hu hret X₀
  · exact esc3_ok T E₀ hlen hdp hu hret X₀
  · exact esc4_ok T E₀ hlen hdp hu hret X₀
section
variable {w : World} {loose : List Str} {p : Program} {mean : ExcName → Option Value} {mg mb : Str → Option Value}
  {dp un : Nat} {fr : Option (List Env)} {gd : Option (List Code)} {h₀ : Heap} {s : Shared} {Q E : Value → Shared → Prop} {L : Addr} {m : Str → Option Value} {news : List (Addr × Obj)}
theorem handcall_use {x : Str} {tx : Tok} {k : Int}
  (T : Top p loose mean mg mb h₀) (F : Fr h₀ L s.heap m) (N : News h₀ L s.heap news) (X₀ : (KK w.params).In h₀) (hlen : x.length ≤ 10000) (hk : 0 ≤ k ∧ k < 5)
  (hdp : dp + 1 < recursionLimit) (hu : un + 8 < cLine)
  (hret : ∀ t h' tk', Fr h₀ L h' m → News h₀ L h' news → Q (.str (escK k x) t) { s with heap := h', toks := tk' }) :
   wpAny (model (RW.row.toRowW.prog) w) (Rm dp un fr gd) (call (.ref (handA k)) [.str x tx]) Q E s :=
  handcall_ok T F.keep hlen hk.1 hk.2 hdp hu (fun t h' tk' x => hret t h' tk' (fr_ext F x) (news_ext N x)) X₀
theorem ops_use {an : Addr} {e1 : Nat} {vs : List Value} {ns : List Int} {x : Str} {tx : Tok}
  (T : Top p loose mean mg mb h₀) (F : Fr h₀ L s.heap m) (N : News h₀ L s.heap news) (X₀ : (KK w.params).In h₀)
  (hna : (an, W.listOf vs.toArray e1) ∈ news) (hi : IntsAre vs ns)
  (hns : ∀ n ∈ ns, n = 0 ∨ n = 1 ∨ n = 2) (hlen : ns.length ≤ 64) (hx : x.length ≤ 64)
  (hdp : dp + 3 < recursionLimit) (hu : un + 24 < cLine)
  (hret : ∀ D ys h' tk', StrsAre ys (ns.map (opS x)) → Fr h₀ L h' m → News h₀ L h' ((D, LCg.lst ys) :: news) → (∀ p ∈ news, p.1 ≠ an → p.1 ≠ D) → Q (.ref D) { s with heap := h', toks := tk' }) :
   wpAny (model (RW.row.toRowW.prog) w) (Rm dp un fr gd) (call (.ref 134) [.str x tx, .ref an]) Q E s :=
  ops_ok T F.keep (N _ hna).1 (N _ hna).2.2 hi hns hlen hx hdp hu (fun D ys h' tk' hys xt ho => hret D ys h' tk' hys (fr_ext F xt)
    (news_back (hid := [(an, W.listOf vs.toArray e1)]) F N (fun q hq => by rw [List.mem_singleton.mp hq]; exact hna) xt ho)
    (fun q hq hne e => hne (List.mem_singleton.mp (e ▸ ho.2 _ (e ▸ (N q hq).1))))) X₀
theorem hand_use {k : Int} {tx : Tok}
  (T : Top p loose mean mg mb h₀) (F : Fr h₀ L s.heap m) (N : News h₀ L s.heap news) (X₀ : (KK w.params).In h₀) (hk : 0 ≤ k ∧ k < 5)
  (hdp : dp + 3 < recursionLimit) (hu : un + 24 < cLine)
  (hret : ∀ t sl vs h' tk', StrsAre vs (spS k) → Fr h₀ L h' m → News h₀ L h' ((t, handObj k sl) :: (sl, W.listOf vs.toArray 0) :: news) → (∀ p ∈ news, p.1 ≠ t ∧ p.1 ≠ sl) → Q (.ref t) { s with heap := h', toks := tk' }) :
   wpAny (model (RW.row.toRowW.prog) w) (Rm dp un fr gd) (call (.ref 129) [.int k tx]) Q E s :=
  hand_ok T F.keep hk.1 hk.2 hdp hu (fun t sl vs h' tk' hs xt h1 h2 => hret t sl vs h' tk' hs (fr_ext F xt)
    (newsC (news_new F N xt h1.2 h1.1 _ (.head _)) (news_new F N xt h2.2 h2.1))
    (fun q hq => And.intro
      (fun e => by
        have h3 := (N q hq).1
        rw [e, h1.2] at h3
        cases h3)
      (fun e => by
        have h3 := (N q hq).1
        rw [e, h2.2] at h3
        cases h3))) X₀
end
end Mine
end
/-! StrSrc -/
section
open PySem PySem.W PySem.Spec PySem.Calls PyProof.Rows
set_option maxRecDepth 100000
set_option maxHeartbeats 400000
namespace Mine
/-- what a turn over a text's sign makes: a text of the sign's code point -/
def SgMade (g : Nat → Str) (v r : Value) : Prop := ∃ c u t, v = .str ⟨#[c]⟩ u ∧ r = .str (g c) t
theorem paired_cons {F : Value → Value → Prop} {v : Value} {vs ys : List Value} (h : Paired F (v :: vs) ys) : ∃ y r, ys = y :: r ∧ F v y ∧ Paired F vs r := by
  cases h with
  | cons h1 h2 => exact ⟨_, _, rfl, h1, h2⟩
theorem paired_nil {F : Value → Value → Prop} {ys : List Value} (h : Paired F [] ys) : ys = [] := by cases h; rfl
theorem sgMade_all (g : Nat → Str) (cs : List Nat) : ∀ {vs ys : List Value}, Paired (SgMade g) vs ys → vs.length = cs.length → (∀ (j : Nat) (v : Value), vs[j]? = some v → ∃ c u, cs[j]? = some c ∧ v = .str ⟨#[c]⟩ u) → StrsAre ys (cs.map g) := by
  induction cs with
  | nil =>
    intro vs ys hp hl _
    obtain rfl := List.eq_nil_of_length_eq_zero hl
    obtain rfl := paired_nil hp
    exact .nil
  | cons c cs ih =>
    intro vs ys hp hl hv
    cases vs with
    | nil => cases hl
    | cons v vs =>
      obtain ⟨y, r, rfl, hr, hp⟩ := paired_cons hp
      obtain ⟨c', u, h1, h2⟩ := hv 0 v rfl
      obtain ⟨c2, u2, t, h3, h4⟩ := hr
      cases h1
      rw [h2] at h3
      cases h3
      rw [h4]
      exact .cons _ _ (ih hp (Nat.succ.inj hl) fun j w hw => hv (j + 1) w hw)
section
variable {prog : Program} {w : World} {A : Around} {E : Value → Shared → Prop} {s : Shared} {h₀ : Heap} {L : Addr} {m : Str → Option Value} {news : List (Addr × Obj)}
theorem src_text {env : Env} {elt : Expr} {x : Str} {scope : Scope} {Q : Value → Shared → Prop} {y : Str} {t : Tok} (g : Nat → Str)
    (hh : A.handled = none) (F : Fr h₀ L s.heap m) (N : News h₀ L s.heap news) (hsz : y.length ≤ 1000)
    (he : ∀ C c u s₂ m₂ E', s₂.heap.Ns (compEnv scope C env).locals m₂ → m₂ x = some (.str ⟨#[c]⟩ u) → wpAny (model prog w) A (eval elt (compEnv scope C env)) (fun r s₃ => (∃ t, r = .str (g c) t) ∧ Keeps s₂ s₃) E' s₂)
    (hq : ∀ D ys n h' tk, Fr h₀ L h' m → News h₀ L h' ((D, W.listOf (List.toArray ys) n) :: news) → (∀ p ∈ news, p.1 ≠ D) → StrsAre ys (y.cps.toList.map g) → Q (.ref D) { s with heap := h', toks := tk }) :
    wpAny (model prog w) A (pyIter (.str y t)) (CompPost prog w A env scope x [] elt Q) E s := by
  refine wpAny_pyIter_str fun o St W hst => ?_
  have live : ∀ {h' : Heap}, (∀ b o', b ∉ [s.heap.objs.size] → (s.heap.push o).get? b = some o' → h'.get? b = some o') → Ext s.heap h' := fun {h'} hk b o' e =>
    hk b o' (fun hm => absurd (Heap.lt_size e) ((List.mem_singleton.mp hm) ▸ Nat.lt_irrefl _)) (Heap.get?_push_of_some _ e)
  refine ⟨fun _ => true, SgMade g, _, _, _, _, SignAt y, St, rfl, W A hh, ?_, hst, ?_, ⟨?_, ?_⟩, ?_⟩
  · rw [PySem.sizeLine_eq]
    have : y.cps.size = y.length := rfl
    omega
  · intro b hb
    rw [List.mem_singleton.mp hb]
    show _ < (s.heap.push o).objs.size
    rw [Heap.size_push]
    exact Nat.lt_succ_self _
  · intro C i v s₃ m₃ E' _ _ _ _ _
    exact wpAny_pure ⟨rfl, _, _, rfl, fun _ _ e => e⟩
  · rintro C i v s₃ m₃ E' ⟨c, u, _, rfl⟩ _ hn hm _ _
    refine wpAny_mono (he C c u s₃ m₃ E' hn hm) (fun r s₄ h4 => ?_) fun _ _ e => e
    obtain ⟨⟨t4, rfl⟩, k4⟩ := h4
    exact ⟨⟨c, u, t4, rfl, rfl⟩, k4⟩
  · intro D h' tk ys vs hnew _ hpl hlen hP hF hk
    obtain ⟨n, hD⟩ := hpl
    have xt := live hk
    have hF2 : Paired (SgMade g) vs ys.toList := by
      rw [show vs.filter (fun _ => true) = vs from List.filter_eq_self.mpr fun _ _ => rfl] at hF
      exact hF
    have none0 : s.heap.get? D = none := by
      cases e : s.heap.get? D with
      | none => rfl
      | some o' => rw [Heap.get?_push_of_some _ e] at hnew; cases hnew
    refine hq D ys.toList n h' tk (fr_ext F xt) (news_new F N xt none0 (by simpa using hD)) (fun p hp e => by
      have h3 := (N p hp).1
      rw [e, none0] at h3
      cases h3) ?_
    refine sgMade_all g y.cps.toList (vs := vs) hF2 (by simpa using hlen) fun j v hv => ?_
    obtain ⟨c, u, hc, hv2⟩ := hP j v hv
    exact ⟨c, u, by simpa using hc, hv2⟩
end
end Mine
end
/-! Page -/
section
open PySem PySem.W PySem.Spec PySem.Calls PyProof.Rows
set_option maxRecDepth 100000
set_option maxHeartbeats 400000
namespace Mine
/-- a token on the page: is it behind a backslash; its first sign; the others -/
abbrev Chunk := Bool × Nat × List Nat
def render (c : Chunk) : List Nat := (if c.1 then [92] else []) ++ c.2.1 :: (c.2.2 ++ [32])
def chunkOf (b : Bool) (l : List Nat) : Chunk := (b, l.headD 0, l.tail)
def okChunk (c : Chunk) : Bool := c.2.2.all (fun x => decide (x ∉ [10, 9, 13, 32] ∧ x ≠ 92)) && decide (c.2.2.length ≤ 1000) && (c.1 || decide (c.2.1 ∉ [10, 9, 13, 32] ∧ c.2.1 ≠ 34 ∧ c.2.1 ≠ 92))
def spAt (k : Int) (i : Nat) : Str := (spS k).getD i (Str.ofString "")
def opC (k : Int) (i : Nat) (n : Int) : Chunk := chunkOf false (opS (spAt k i) n).cps.toList
def endC (k : Int) : List Chunk := [chunkOf true (spAt k 0).cps.toList, chunkOf true (spAt k 2).cps.toList, chunkOf true (spAt k 3).cps.toList, chunkOf true (spAt k 4).cps.toList]
def chunks (k : Int) (pl : List Int) : List Chunk := pl.map (opC k 0) ++ pl.reverse.map (opC k 1) ++ endC k
/-- what the escape makes of a row of code points -/
def escL (k : Int) (l : List Nat) : List Nat := l.flatMap fun c => chainL (rulesK k) [c]
theorem five {k : Int} (h : 0 ≤ k ∧ k < 5) : k = 0 ∨ k = 1 ∨ k = 2 ∨ k = 3 ∨ k = 4 := by omega
theorem op_chunk (k : Int) (h : 0 ≤ k ∧ k < 5) (n : Int) (hn : n = 0 ∨ n = 1 ∨ n = 2) :
    (escL k ((opS (Str.ofString "<") n).cps.toList ++ [32]) = render (opC k 0 n) ∧ okChunk (opC k 0 n) = true) ∧ (escL k ((opS (Str.ofString ">") n).cps.toList ++ [32]) = render (opC k 1 n) ∧ okChunk (opC k 1 n) = true) := by
  rcases five h with rfl | rfl | rfl | rfl | rfl <;> rcases hn with rfl | rfl | rfl <;> decide +kernel
def ends : List Str := [Str.ofString "\\" ++ ⟨#[60]⟩, Str.ofString "\\" ++ ⟨#[34]⟩, Str.ofString "\\" ++ ⟨#[13]⟩, Str.ofString "\\" ++ ⟨#[10]⟩]
theorem end_chunk (k : Int) (h : 0 ≤ k ∧ k < 5) : (ends.map fun x => escL k (x.cps.toList ++ [32])) = (endC k).map render ∧ (endC k).all okChunk = true := by
  rcases five h with rfl | rfl | rfl | rfl | rfl <;> decide +kernel
theorem escL_append (k : Int) (a b : List Nat) : escL k (a ++ b) = escL k a ++ escL k b := List.flatMap_append
theorem join_blank : ∀ l : List Str, l ≠ [] → (Str.join (Str.ofString " ") l).cps.toList ++ [32] = l.flatMap fun x => x.cps.toList ++ [32]
  | [], h => absurd rfl h
  | [x], _ => by simp [Str.join]
  | x :: y :: r, _ => by
    have ih := join_blank (y :: r) (by simp)
    rw [List.flatMap_cons, ← ih]
    show (x ++ Str.ofString " " ++ Str.join (Str.ofString " ") (y :: r)).cps.toList ++ [32] = _
    have e : (Str.ofString " ").cps.toList = [32] := by decide
    simp only [Str.cps_append, Array.toList_append, e, List.append_assoc]
theorem escL_flat (k : Int) (g : Str → List Nat) (l : List Str) : escL k (l.flatMap g) = l.flatMap fun x => escL k (g x) := by
  unfold escL
  rw [List.flatMap_assoc]
theorem flat0 {k : Int} (h : 0 ≤ k ∧ k < 5) : ∀ pl : List Int, (∀ n ∈ pl, n = 0 ∨ n = 1 ∨ n = 2) → (pl.map (opS (Str.ofString "<"))).flatMap (fun x => escL k (x.cps.toList ++ [32])) = (pl.map (opC k 0)).flatMap render
  | [], _ => rfl
  | n :: r, hn => by
    have h1 := (op_chunk k h n (hn n (.head _))).1.1
    have ih := flat0 h r fun x hx => hn x (.tail _ hx)
    simp only [List.map_cons, List.flatMap_cons] at ih ⊢
    rw [h1, ih]
theorem flat1 {k : Int} (h : 0 ≤ k ∧ k < 5) : ∀ pl : List Int, (∀ n ∈ pl, n = 0 ∨ n = 1 ∨ n = 2) → (pl.map (opS (Str.ofString ">"))).flatMap (fun x => escL k (x.cps.toList ++ [32])) = (pl.map (opC k 1)).flatMap render
  | [], _ => rfl
  | n :: r, hn => by
    have h1 := (op_chunk k h n (hn n (.head _))).2.1
    have ih := flat1 h r fun x hx => hn x (.tail _ hx)
    simp only [List.map_cons, List.flatMap_cons] at ih ⊢
    rw [h1, ih]
theorem flat2 {k : Int} (h : 0 ≤ k ∧ k < 5) : ends.flatMap (fun x => escL k (x.cps.toList ++ [32])) = (endC k).flatMap render := by
  have h1 := congrArg List.flatten (end_chunk k h).1
  rw [← List.flatMap_def, ← List.flatMap_def] at h1
  exact h1
theorem page_chunks {k : Int} (h : 0 ≤ k ∧ k < 5) (pl : List Int) (hn : ∀ n ∈ pl, n = 0 ∨ n = 1 ∨ n = 2) :
    (escK k (Txt.join (Str.ofString " ") (pl.map (opS (Str.ofString "<")) ++ pl.reverse.map (opS (Str.ofString ">")) ++ ends) ++ Str.ofString " ")).cps.toList = (chunks k pl).flatMap render := by
  have e : (Str.ofString " ").cps.toList = [32] := by decide
  have e2 : ∀ l : List Str, Txt.join (Str.ofString " ") l = Str.join (Str.ofString " ") l := fun l => StrLaws.glued_eq_join _ l
  unfold escK
  rw [esc_map, Str.cps_append, Array.toList_append, e, e2, join_blank _ (by simp [ends])]
  show escL k _ = _
  rw [escL_flat]
  unfold chunks
  rw [List.flatMap_append, List.flatMap_append, List.flatMap_append, List.flatMap_append, flat0 h pl hn, flat1 h pl.reverse (fun n hm => hn n (List.mem_reverse.mp hm)), flat2 h]
theorem chunks_ok {k : Int} (h : 0 ≤ k ∧ k < 5) (pl : List Int) (hn : ∀ n ∈ pl, n = 0 ∨ n = 1 ∨ n = 2) : ∀ c ∈ chunks k pl, okChunk c = true := fun c hc => by
  rcases List.mem_append.mp hc with hc | hc
  · rcases List.mem_append.mp hc with hc | hc
    · obtain ⟨n, hm, rfl⟩ := List.mem_map.mp hc
      exact (op_chunk k h n (hn n hm)).1.2
    · obtain ⟨n, hm, rfl⟩ := List.mem_map.mp hc
      exact (op_chunk k h n (hn n (List.mem_reverse.mp hm))).2.2
  · exact List.all_eq_true.mp (end_chunk k h).2 c hc
def wordC (c : Chunk) : Str := ⟨(c.2.1 :: c.2.2).toArray⟩
theorem op_word (k : Int) (h : 0 ≤ k ∧ k < 5) (n : Int) (hn : n = 0 ∨ n = 1 ∨ n = 2) : wordC (opC k 0 n) = opS (spAt k 0) n ∧ wordC (opC k 1 n) = opS (spAt k 1) n := by
  rcases five h with rfl | rfl | rfl | rfl | rfl <;> rcases hn with rfl | rfl | rfl <;> decide +kernel
theorem end_word (k : Int) (h : 0 ≤ k ∧ k < 5) : (endC k).map wordC = [spAt k 0, spAt k 2, spAt k 3, spAt k 4] := by
  rcases five h with rfl | rfl | rfl | rfl | rfl <;> decide +kernel
theorem chunk_words {k : Int} (h : 0 ≤ k ∧ k < 5) (pl : List Int) (hn : ∀ n ∈ pl, n = 0 ∨ n = 1 ∨ n = 2) :
    (chunks k pl).map wordC = pl.map (opS (spAt k 0)) ++ pl.reverse.map (opS (spAt k 1)) ++ [spAt k 0, spAt k 2, spAt k 3, spAt k 4] := by
  unfold chunks
  rw [List.map_append, List.map_append, List.map_map, List.map_map, end_word k h]
  congr 1
  congr 1
  · exact List.map_congr_left fun n hm => (op_word k h n (hn n hm)).1
  · exact List.map_congr_left fun n hm => (op_word k h n (hn n (List.mem_reverse.mp hm))).2
def remC (k : Int) (pl : List Int) (i : Nat) : List Nat := ((chunks k pl).drop i).flatMap render
def wordsD (k : Int) (pl : List Int) : List Str := (chunks k pl).map wordC ++ [Str.ofString ""]
theorem chunks_n (k : Int) (pl : List Int) : (chunks k pl).length = 2 * pl.length + 4 := by
  simp [chunks, endC]
  omega
theorem rem_cases {k : Int} (h : 0 ≤ k ∧ k < 5) (pl : List Int) (hn : ∀ n ∈ pl, n = 0 ∨ n = 1 ∨ n = 2) (i : Nat) :
    (remC k pl i = [] ∧ (chunks k pl).length ≤ i) ∨ ∃ c, (chunks k pl)[i]? = some c ∧ okChunk c = true ∧ remC k pl i = render c ++ remC k pl (i + 1) := by
  rcases Nat.lt_or_ge i (chunks k pl).length with hi | hi
  · refine .inr ⟨(chunks k pl)[i], List.getElem?_eq_getElem hi, chunks_ok h pl hn _ (List.getElem_mem hi), ?_⟩
    unfold remC
    rw [List.drop_eq_getElem_cons hi, List.flatMap_cons]
  · exact .inl ⟨by unfold remC; rw [List.drop_eq_nil_of_le hi]; rfl, hi⟩
theorem okChunk_facts {b : Bool} {c : Nat} {r : List Nat} (h : okChunk (b, c, r) = true) : (∀ x ∈ r, x ∉ [10, 9, 13, 32] ∧ x ≠ 92) ∧ r.length ≤ 1000 ∧ (b = false → c ∉ [10, 9, 13, 32] ∧ c ≠ 34 ∧ c ≠ 92) := by
  unfold okChunk at h
  rw [Bool.and_eq_true, Bool.and_eq_true] at h
  refine ⟨fun x hx => of_decide_eq_true (List.all_eq_true.mp h.1.1 x hx), of_decide_eq_true h.1.2, fun hb => ?_⟩
  subst hb
  exact of_decide_eq_true h.2
/-- the row of code points that get_token meets: the i-th word's, and what is left -/
theorem rem_form {k : Int} (h : 0 ≤ k ∧ k < 5) (pl : List Int) (hn : ∀ n ∈ pl, n = 0 ∨ n = 1 ∨ n = 2) (i : Nat) :
    remC k pl i = [] ∨ ∃ c r r', ((∃ b, (chunks k pl)[i]? = some (b, c, r)) ∧ r' = remC k pl (i + 1)) ∧ (∀ x ∈ r, x ∉ [10, 9, 13, 32] ∧ x ≠ 92) ∧ r.length ≤ 1000 ∧ ((remC k pl i = c :: (r ++ 32 :: r') ∧ c ∉ [10, 9, 13, 32] ∧ c ≠ 34 ∧ c ≠ 92) ∨ remC k pl i = 92 :: c :: (r ++ 32 :: r')) := by
  rcases rem_cases h pl hn i with ⟨e, _⟩ | ⟨⟨b, c, r⟩, hc, hok, e⟩
  · exact .inl e
  · obtain ⟨h1, h2, h3⟩ := okChunk_facts hok
    refine .inr ⟨c, r, remC k pl (i + 1), ⟨⟨b, hc⟩, rfl⟩, h1, h2, ?_⟩
    cases b with
    | false => exact .inl ⟨by rw [e]; simp [render], h3 rfl⟩
    | true => exact .inr (by rw [e]; simp [render])
theorem rem_nil {k : Int} (h : 0 ≤ k ∧ k < 5) (pl : List Int) (hn : ∀ n ∈ pl, n = 0 ∨ n = 1 ∨ n = 2) (i : Nat) (e : remC k pl i = []) : (chunks k pl).length ≤ i := by
  rcases rem_cases h pl hn i with ⟨_, h1⟩ | ⟨⟨b, c, r⟩, _, _, e2⟩
  · exact h1
  · rw [e2] at e
    simp [render] at e
end Mine
end
/-! S1 -/
section
open PySem PySem.W PySem.Spec PySem.Calls PyProof.Rows
namespace Mine
theorem signs_page {k : Int} (h : 0 ≤ k ∧ k < 5) (pl : List Int) (hn : ∀ n ∈ pl, n = 0 ∨ n = 1 ∨ n = 2) :
    signs (escK k (Txt.join (Str.ofString " ") (pl.map (opS (Str.ofString "<")) ++ pl.reverse.map (opS (Str.ofString ">")) ++ ends) ++ Str.ofString " ")) = (remC k pl 0).map sg := by
  unfold remC
  rw [List.drop_zero, ← page_chunks h pl hn]
  simp [signs]
end Mine
end
/-! LawR -/
section
open PySem PySem.W PySem.Spec PySem.Calls PyProof.Rows
set_option maxRecDepth 100000
set_option maxHeartbeats 1000000
namespace Mine
theorem FnAt.fr {h₀ h : Heap} {L q : Addr} {m : Str → Option Value} (X : FnAt q h₀) (F : Fr h₀ L h m) : FnAt q h := let ⟨a, b, c, d, e⟩ := X; ⟨a, b, c, d, F.keep _ _ e⟩
theorem add_strs {prog : Program} {w : World} {A : Around} {E : Value → Shared → Prop} {s : Shared} {h₀ : Heap} {L a b : Addr} {m : Str → Option Value} {news : List (Addr × Obj)} {vs ws : List Value} {n1 n2 : Nat} {xs ys : List Str} {Q : Value → Shared → Prop}
    (F : Fr h₀ L s.heap m) (N : News h₀ L s.heap news) (ha : (a, W.listOf vs.toArray n1) ∈ news) (hb : (b, W.listOf ws.toArray n2) ∈ news) (hi : StrsAre vs xs) (hj : StrsAre ws ys) (hz : xs.length + ys.length ≤ 100000)
    (h : ∀ D us h', Fr h₀ L h' m → News h₀ L h' ((D, W.listOf (List.toArray us) 0) :: news) → (∀ p ∈ news, p.1 < D) → StrsAre us (xs ++ ys) → Q (.ref D) { s with heap := h' }) : wpAny (model prog w) A (binaryOp .Add (.ref a) (.ref b)) Q E s := by
  refine kmk_add_lit F N (its := vs.toArray) (its2 := ws.toArray) ⟨_, (N _ ha).1, rfl, _, rfl⟩ ⟨_, (N _ hb).1, rfl, _, rfl⟩ (zs := vs ++ ws) rfl (fun D h' F' N' l => h D _ h' F' N' l (StrsAre.append' hi hj)) ?_
  show vs.length + ws.length ≤ sizeLine
  rw [PySem.sizeLine_eq, hi.len_eq, hj.len_eq]
  omega
theorem spAt_len {k : Int} (h : 0 ≤ k ∧ k < 5) (i : Nat) : (spAt k i).length ≤ 64 := by
  have key : ∀ l : List Str, l.all (fun x => decide (x.length ≤ 64)) = true → (l.getD i (Str.ofString "")).length ≤ 64 := fun l hl => by
    rw [List.getD_eq_getElem?_getD]
    cases e : l[i]? with
    | none => decide +kernel
    | some x => exact of_decide_eq_true (List.all_eq_true.mp hl x (List.mem_of_getElem? e))
  rcases five h with rfl | rfl | rfl | rfl | rfl <;> exact key _ (by decide +kernel)
theorem spAt_ok {k : Int} (h : 0 ≤ k ∧ k < 5) (i : Nat) : PyData.strOk (spAt k i) = true := by
  have key : ∀ l : List Str, l.all PyData.strOk = true → PyData.strOk (l.getD i (Str.ofString "")) = true := fun l hl => by
    rw [List.getD_eq_getElem?_getD]
    cases e : l[i]? with
    | none => decide +kernel
    | some x => exact List.all_eq_true.mp hl x (List.mem_of_getElem? e)
  rcases five h with rfl | rfl | rfl | rfl | rfl <;> exact key _ (by decide +kernel)
theorem strOk_append {x y : Str} (hx : PyData.strOk x = true) (hy : PyData.strOk y = true) : PyData.strOk (x ++ y) = true := by
  unfold PyData.strOk at *
  rw [Str.cps_append, Array.all_append, hx, hy]; rfl
theorem opS_ok {x : Str} (hx : PyData.strOk x = true) (n : Int) : PyData.strOk (opS x n) = true := by
  unfold opS
  split
  · exact hx
  split
  · exact strOk_append hx hx
  · exact strOk_append (strOk_append hx hx) (by decide +kernel)
/-- the words that are read, by the table -/
def dueS (k : Int) (pl : List Int) : List Str := pl.map (opS (spAt k 0)) ++ pl.reverse.map (opS (spAt k 1)) ++ [spAt k 0, spAt k 2, spAt k 3, spAt k 4] ++ [Str.ofString ""]
theorem words_due {k : Int} (h : 0 ≤ k ∧ k < 5) (pl : List Int) (hn : ∀ n ∈ pl, n = 0 ∨ n = 1 ∨ n = 2) : wordsD k pl = dueS k pl := by
  unfold wordsD dueS
  rw [chunk_words h pl hn]
theorem due_ok {k : Int} (h : 0 ≤ k ∧ k < 5) (pl : List Int) : ∀ x ∈ dueS k pl, PyData.strOk x = true := fun x hx => by
  unfold dueS at hx
  simp only [List.mem_append, List.mem_map, List.mem_cons, List.not_mem_nil, or_false] at hx
  rcases hx with ((⟨n, _, rfl⟩ | ⟨n, _, rfl⟩) | rfl | rfl | rfl | rfl) | rfl
  · exact opS_ok (spAt_ok h 0) n
  · exact opS_ok (spAt_ok h 1) n
  · exact spAt_ok h 0
  · exact spAt_ok h 2
  · exact spAt_ok h 3
  · exact spAt_ok h 4
  · decide +kernel
end Mine
end
/-! C0 -/
section
open PySem PySem.W PySem.Spec PySem.Calls PyProof.Rows PyProof.Rows.LCg
set_option maxRecDepth 100000
set_option maxHeartbeats 1000000
namespace Mine
def entStr (e : DictEntry) : Str := match e.key with | .str x _ => x | _ => Str.ofString ""
def entOk (e : DictEntry) : Bool := match e.key, e.val with | .str _ _, .int _ _ => true | _, _ => false
noncomputable def tokEs (P : Params) : List DictEntry := match (KK P).lookup 71 with | some o => (match o.data with | .dict es _ => es.toList | _ => []) | none => []
noncomputable def tokKV (P : Params) : List (Str × Value) := (tokEs P).map fun e => (entStr e, e.val)
noncomputable def tokEp (P : Params) : Nat := match (KK P).lookup 71 with | some o => (match o.data with | .dict _ ep => ep | _ => 0) | none => 0
theorem tt_obj (P : Params) : (KK P).lookup 71 = some { cls := .type "dict", dict := none, data := .dict (tokEs P).toArray (tokEp P), slots := #[] } := by kernel_rfl
theorem tt_hash (w : World) : ∀ e ∈ tokEs w.params, e.hash = hashStr w (entStr e) := by
  intro e he
  have key : (tokEs w.params).map (·.hash) = (tokEs w.params).map fun e => hashStr w (entStr e) := by kernel_rfl
  obtain ⟨i, hi, rfl⟩ := List.mem_iff_getElem.mp he
  have := congrArg (·[i]?) key
  simpa [hi] using this
theorem tt_ok (P : Params) : (tokEs P).all entOk = true := by kernel_rfl
theorem tt_nodup (P : Params) : ((tokKV P).map (·.1)).Nodup := by
  have h : decide ((tokKV P).map (·.1)).Nodup = true := by kernel_rfl
  exact of_decide_eq_true h
theorem tt_len (P : Params) : (tokKV P).length = 48 := by kernel_rfl
theorem pairs_of {prog : Program} {w : World} : ∀ es : List DictEntry, es.all entOk = true → Pairs (PySem.strKind prog w) es (es.map fun e => (entStr e, e.val))
  | [], _ => .nil
  | e :: r, h => by
    rw [List.all_cons, Bool.and_eq_true] at h
    refine .cons ?_ rfl (pairs_of r h.2)
    obtain ⟨hs, k, v⟩ := e
    have h1 := h.1
    cases k <;> first | (cases h1; done) | skip
    simp [PySem.strKind, entStr, Value.isStrOf]
theorem tt_at {prog : Program} {w : World} {h₀ : Heap} (X₀ : (KK w.params).In h₀) : h₀.DictAt (PySem.strKind prog w) 71 (tokKV w.params) (tokEp w.params) := by
  refine ⟨_, _, X₀ 71 _ (tt_obj w.params), ⟨rfl, rfl, rfl⟩, rfl, ?_, ?_, tt_nodup w.params⟩
  · intro e he
    have he' : e ∈ tokEs w.params := by simpa using he
    refine ⟨entStr e, ?_, tt_hash w e he'⟩
    have h1 := List.all_eq_true.mp (tt_ok w.params) e he'
    obtain ⟨hs, k, v⟩ := e
    cases k <;> first | (cases h1; done) | skip
    simp [PySem.strKind, entStr, Value.isStrOf]
  · exact pairs_of _ (tt_ok w.params)
/-- what a dict holds, into which a row of pairs was laid one after the other -/
theorem val_stored {K : Type} [DecidableEq K] (acc : List (K × Value)) (k y : K) (v : Value) : valueAt (stored acc k v) y = if k = y then some v else valueAt acc y := by
  unfold stored
  split
  · rename_i hany
    induction acc with
    | nil => simp at hany
    | cons a r ih =>
      simp only [List.map_cons, valueAt, List.find?_cons] at ih ⊢
      by_cases ha : a.1 = k
      · subst ha
        by_cases hy : a.1 = y
        · simp [hy]
        · simp only [if_true, decide_eq_false hy, if_neg hy]
          have : ∀ l : List (K × Value), (List.find? (fun kv => decide (kv.1 = y)) (l.map fun kv => if kv.1 = a.1 then (kv.1, v) else kv)) = List.find? (fun kv => decide (kv.1 = y)) l := by
            intro l
            induction l with
            | nil => rfl
            | cons b l ihl =>
              rw [List.map_cons, List.find?_cons, List.find?_cons]
              by_cases hb : b.1 = a.1
              · have hby : ¬ b.1 = y := fun e => hy (hb ▸ e)
                simp only [if_pos hb, decide_eq_false hby]
                exact ihl
              · simp only [if_neg hb]
                rw [ihl]
          rw [this]
      · simp only [if_neg ha]
        have hr : (r.any fun kv => decide (kv.1 = k)) = true := by simpa [ha] using hany
        by_cases hy : a.1 = y
        · have hk : ¬ k = y := fun e => ha (hy.trans e.symm)
          simp only [decide_eq_true hy, if_neg hk]
        · simp only [decide_eq_false hy]
          exact ih hr
  · rename_i hany
    simp only [valueAt, List.find?_append]
    by_cases hk : k = y
    · subst hk
      have : List.find? (fun kv => decide (kv.1 = k)) acc = none := by
        rw [List.find?_eq_none]
        intro x hx hx2
        apply hany
        rw [List.any_eq_true]
        exact ⟨x, hx, hx2⟩
      rw [this]
      simp
    · simp [hk]
def lookL {K K2 : Type} [DecidableEq K2] (f : K → K2) (kvs : List (K × Value)) (y : K2) : Option Value := (kvs.reverse.find? fun kv => f kv.1 = y).map (·.2)
theorem val_storedL {K K2 : Type} [DecidableEq K2] (f : K → K2) (y : K2) (kvs : List (K × Value)) : valueAt (storedL f kvs) y = lookL f kvs y := by
  have key : ∀ (l : List (K × Value)) (acc : List (K2 × Value)), valueAt (l.foldl (fun acc kv => stored acc (f kv.1) kv.2) acc) y = ((l.reverse.find? fun kv => f kv.1 = y).map (·.2)).or (valueAt acc y) := by
    intro l
    induction l with
    | nil => intro acc; rfl
    | cons a r ih =>
      intro acc
      rw [List.foldl_cons, ih, val_stored, List.reverse_cons, List.find?_append]
      by_cases h : f a.1 = y
      · cases e : List.find? (fun kv => decide (f kv.1 = y)) r.reverse <;> simp [h]
      · cases e : List.find? (fun kv => decide (f kv.1 = y)) r.reverse <;> simp [h]
  rw [storedL, key]
  simp [lookL, valueAt]
def numA (n : Int) : Int := if n = 0 then 20 else if n = 1 then 33 else 44
def numB (n : Int) : Int := if n = 0 then 21 else if n = 1 then 34 else 45
def isInt (v : Option Value) (n : Int) : Bool := match v with | some (.int m _) => m == n | _ => false
theorem isInt_shape {v : Option Value} {n : Int} (h : isInt v n = true) : ∃ t, v = some (.int n t) := by
  unfold isInt at h
  split at h
  · rename_i m t
    have := eq_of_beq h
    subst this
    exact ⟨t, rfl⟩
  · cases h
theorem lookA (P : Params) (k : Int) (h : 0 ≤ k ∧ k < 5) (n : Int) (hn : n = 0 ∨ n = 1 ∨ n = 2) : isInt (lookL (escK k) (tokKV P) (opS (spAt k 0) n)) (numA n) = true ∧ isInt (lookL (escK k) (tokKV P) (opS (spAt k 1) n)) (numB n) = true := by
  rcases five h with rfl | rfl | rfl | rfl | rfl <;> rcases hn with rfl | rfl | rfl <;> exact ⟨by kernel_rfl, by kernel_rfl⟩
theorem tt_short (P : Params) : (tokKV P).all (fun kv => decide (kv.1.length ≤ 10000)) = true := by kernel_rfl
theorem tt_shortAt {P : Params} {i : Nat} {x : Str} {v : Value} (h : (tokKV P)[i]? = some (x, v)) : x.length ≤ 10000 :=
  of_decide_eq_true (List.all_eq_true.mp (tt_short P) (x, v) (List.mem_of_getElem? h))
/-- a comprehension's turns that leave the ledger as it is -/
theorem rest_same {prog : Program} {w : World} {A : Around} {h₀ : Heap} {L : Addr} {m : Str → Option Value} {env : Env} {elt : PySem.Expr} {x : Str} {scope : Scope} {cl : List (Str × Addr)} {s : Shared} {S : List (Addr × Obj) → Prop} {P : Nat → Value → Prop}
    {Fin : List Value → List (Addr × Obj) → Prop} {n : Nat} {live₀ : List (Addr × Obj)} (J : Nat → List Value → Prop) (h0 : J 0 [])
    (turn : ∀ (i : Nat) (ys : List Value) (v : Value) (I : Addr) (oI : Obj) (C : Addr) (oC : Obj) (D : Addr) (m₂ : Str → Option Value) (h : Heap) (tk : Nat) (E' : Value → Shared → Prop), i < n → J i ys → P i v → NsObj oC m₂ → m₂ x = some v →
      Fr h₀ L h m → News h₀ L h ((I, oI) :: (C, oC) :: (D, LCg.lst ys) :: live₀) → LCg.Off3 I C D live₀ → ((@Ne Nat I C) ∧ (@Ne Nat I D) ∧ (@Ne Nat C D)) →
      wpAny (model prog w) A (eval elt (compEnvC scope cl C env)) (LCg.CompEnd h₀ L m { s with heap := h, toks := tk } I oI C oC D (LCg.lst ys) S (fun y live' => live' = live₀ ∧ J (i + 1) (ys ++ [y]))) E' { s with heap := h, toks := tk })
    (fin : ∀ ys, J n ys → Fin ys live₀) : LCg.CompRest prog w A h₀ L m env elt x scope cl s S P Fin n 0 [] live₀ :=
  rest_inv (fun i ys live => live = live₀ ∧ J i ys) (by
    rintro i ys live v I oI C oC D m₂ h tk E' hi ⟨rfl, hj⟩ hP hC hx F N off ne
    exact turn i ys v I oI C oC D m₂ h tk E' hi hj hP hC hx F N off ne) (by rintro ys live ⟨rfl, hj⟩; exact fin ys hj) n 0 [] live₀ (Nat.zero_add _) ⟨rfl, h0⟩
def numsL (pl : List Int) : List Int := pl.map numA ++ pl.reverse.map numB
structure NumAt (P : Params) (k : Int) (pl : List Int) (i : Nat) (x : Str) (n : Int) (t : Tok) : Prop where
  a : (numsL pl)[i]? = some n
  b : valueAt (storedL (escK k) (tokKV P)) x = some (.int n t)
theorem num_at {P : Params} {k : Int} (hk : 0 ≤ k ∧ k < 5) {pl : List Int} (hn : ∀ n ∈ pl, n = 0 ∨ n = 1 ∨ n = 2) {i : Nat} {x : Str} (h : ((dueS k pl).take (2 * pl.length))[i]? = some x) :
    ∃ n t, NumAt P k pl i x n t := by
  suffices hh : ∃ n t, (numsL pl)[i]? = some n ∧ valueAt (storedL (escK k) (tokKV P)) x = some (.int n t) by
    obtain ⟨n, t, h1, h2⟩ := hh
    exact ⟨n, t, h1, h2⟩
  have e : (dueS k pl).take (2 * pl.length) = pl.map (opS (spAt k 0)) ++ pl.reverse.map (opS (spAt k 1)) := by
    unfold dueS
    rw [List.append_assoc, List.take_append_of_le_length (by simp; omega), List.take_of_length_le (by simp; omega)]
  rw [e] at h
  unfold numsL
  rw [val_storedL]
  rcases Nat.lt_or_ge i pl.length with hi | hi
  · rw [List.getElem?_append_left (by simpa using hi), List.getElem?_map] at h
    rw [List.getElem?_append_left (by simpa using hi), List.getElem?_map]
    rw [List.getElem?_eq_getElem hi] at h ⊢
    cases h
    obtain ⟨t, ht⟩ := isInt_shape (lookA P k hk pl[i] (hn _ (List.getElem_mem hi))).1
    exact ⟨_, t, rfl, ht⟩
  · rw [List.getElem?_append_right (by simpa using hi), List.getElem?_map] at h
    rw [List.getElem?_append_right (by simpa using hi), List.getElem?_map]
    simp only [List.length_map] at h ⊢
    cases hr : pl.reverse[i - pl.length]? with
    | none => rw [hr] at h; cases h
    | some n =>
      rw [hr] at h
      cases h
      obtain ⟨t, ht⟩ := isInt_shape (lookA P k hk n (hn _ (List.mem_reverse.mp (List.mem_of_getElem? hr)))).2
      exact ⟨_, t, rfl, ht⟩
theorem strs_take : ∀ {vs : List Value} {xs : List Str} (n : Nat), StrsAre vs xs → StrsAre (vs.take n) (xs.take n)
  | _, _, 0, _ => .nil
  | _, _, _ + 1, .nil => .nil
  | _, _, n + 1, .cons x t r => .cons x t (strs_take n r)
theorem strs_at : ∀ {vs : List Value} {xs : List Str} {i : Nat} {v : Value}, StrsAre vs xs → vs[i]? = some v → ∃ x t, v = .str x t ∧ xs[i]? = some x
  | _, _, _, _, .nil, h => by simp at h
  | _, _, 0, _, .cons x t _, h => by cases h; exact ⟨x, t, rfl, rfl⟩
  | _, _, i + 1, _, .cons _ _ r, h => by rw [List.getElem?_cons_succ] at h ⊢; exact strs_at r h
theorem ints_at : ∀ {vs : List Value} {xs : List Int} {i : Nat} {v : Value}, IntsAre vs xs → vs[i]? = some v → ∃ x t, v = .int x t ∧ xs[i]? = some x
  | _, _, _, _, .nil, h => by simp at h
  | _, _, 0, _, .cons x t _, h => by cases h; exact ⟨x, t, rfl, rfl⟩
  | _, _, i + 1, _, .cons _ _ r, h => by rw [List.getElem?_cons_succ] at h ⊢; exact ints_at r h
theorem ints_snoc {vs : List Value} {xs : List Int} {n : Int} {t : Tok} : ∀ {vs : List Value} {xs : List Int}, IntsAre vs xs → IntsAre (vs ++ [.int n t]) (xs ++ [n])
  | _, _, .nil => .cons n t .nil
  | _, _, .cons x u r => .cons x u (ints_snoc (vs := vs) (xs := xs) r)
theorem ints_next {vs : List Value} {xs : List Int} {i : Nat} {n : Int} {t : Tok} (h : IntsAre vs (xs.take i)) (hn : xs[i]? = some n) : IntsAre (vs ++ [.int n t]) (xs.take (i + 1)) := by
  rw [List.take_add_one, hn]
  exact ints_snoc (vs := vs) (xs := xs) h
theorem map_at {f : Int → Int} {xs : List Int} {i : Nat} {n : Int} (h : xs[i]? = some n) : (xs.map f)[i]? = some (f n) := by rw [List.getElem?_map, h]; rfl
theorem ne_nums {prog : Program} {w : World} {A : Around} {E : Value → Shared → Prop} {s : Shared} {a b : Addr} {xs ys : List Value} {pl : List Int} {Q : Value → Shared → Prop} (ha : s.heap.IsList a xs.toArray) (hb : s.heap.IsList b ys.toArray) (hi : IntsAre xs (numsL pl))
    (hj : IntsAre ys (pl.map numA ++ pl.reverse.map numB)) (hu : A.units + 64 < cLine) (h : Q (.bool false) s) : wpAny (model prog w) A (compareOp .NotEq (.ref a) (.ref b)) Q E s :=
  ke_ne_ints (ns := numsL pl) (ms := numsL pl) ha hb hi hj hu (by rw [decide_eq_true (Eq.refl (numsL pl))]; exact h)
structure AtI (xs : List Int) (i : Nat) (n : Int) : Prop where
  h : xs[i]? = some n
end Mine
end
/-! SF0 -/
section
open PySem PySem.W PySem.Spec PySem.Calls PyProof.Rows
set_option maxRecDepth 100000
set_option maxHeartbeats 1000000
namespace Mine
/-- a row of lists of ints: the references, the ledger's part, what they hold -/
inductive RowsI : List Value → List (Addr × Obj) → List (List Int) → Prop
  | nil : RowsI [] [] []
  | cons {a : Addr} {vals : List Value} {e : Nat} {xs : List Int} {vs : List Value} {rl : List (Addr × Obj)} {ls : List (List Int)} : IntsAre vals xs → RowsI vs rl ls → RowsI (.ref a :: vs) ((a, W.listOf vals.toArray e) :: rl) (xs :: ls)
theorem RowsI.snoc {a : Addr} {vals : List Value} {e : Nat} {xs : List Int} (hx : IntsAre vals xs) : ∀ {vs : List Value} {rl : List (Addr × Obj)} {ls : List (List Int)}, RowsI vs rl ls → RowsI (vs ++ [.ref a]) (rl ++ [(a, W.listOf vals.toArray e)]) (ls ++ [xs])
  | _, _, _, .nil => .cons hx .nil
  | _, _, _, .cons h r => .cons h (r.snoc hx)
theorem RowsI.len : ∀ {vs : List Value} {rl : List (Addr × Obj)} {ls : List (List Int)}, RowsI vs rl ls → vs.length = ls.length
  | _, _, _, .nil => rfl
  | _, _, _, .cons _ r => by simp [r.len]
theorem RowsI.at_ : ∀ {vs : List Value} {rl : List (Addr × Obj)} {ls : List (List Int)} {i : Nat} {v : Value}, RowsI vs rl ls → vs[i]? = some v → ∃ a vals e xs, v = .ref a ∧ (a, W.listOf vals.toArray e) ∈ rl ∧ IntsAre vals xs ∧ ls[i]? = some xs
  | _, _, _, _, _, .nil, h => by simp at h
  | _, _, _, 0, _, .cons (a := a) (vals := vals) (e := e) (xs := xs) hx _, h => by cases h; exact ⟨a, vals, e, xs, rfl, .head _, hx, rfl⟩
  | _, _, _, i + 1, _, .cons hx r, h => by
    rw [List.getElem?_cons_succ] at h
    obtain ⟨a, vals, e, xs, h1, h2, h3, h4⟩ := r.at_ h
    exact ⟨a, vals, e, xs, h1, .tail _ h2, h3, by rw [List.getElem?_cons_succ]; exact h4⟩
def six (c0 c1 c2 c3 : Str) : List Str := [Str.ofString "", c0, c1, c2, c3, Txt.mul c3 2]
def rowT (xs : List Str) (i : Nat) : List Int := xs.map fun y => cmpS (xs.getD i (Str.ofString "")) y
def toldT (xs : List Str) : List (List Int) := (List.range xs.length).map (rowT xs)
theorem told_next {xs : List Str} {i : Nat} (h : i < xs.length) : (toldT xs).take (i + 1) = (toldT xs).take i ++ [rowT xs i] := by
  unfold toldT
  rw [List.take_add_one]
  simp [h]
theorem row_next {xs : List Str} {i j : Nat} {y : Str} (h : xs[j]? = some y) : (rowT xs i).take (j + 1) = (rowT xs i).take j ++ [cmpS (xs.getD i (Str.ofString "")) y] := by
  unfold rowT
  rw [List.take_add_one, List.getElem?_map, h]
  rfl
theorem getD_at {xs : List Str} {i : Nat} {y : Str} (h : xs[i]? = some y) : xs.getD i (Str.ofString "") = y := by
  rw [List.getD_eq_getElem?_getD, h]; rfl
structure AtS (xs : List Str) (i : Nat) (y : Str) : Prop where
  h : xs[i]? = some y
theorem rowT_at {xs : List Str} {i j : Nat} {x y : Str} (hy : xs[j]? = some y) (hx : xs.getD i (Str.ofString "") = x) : (rowT xs i)[j]? = some (cmpS x y) := by
  unfold rowT
  rw [List.getElem?_map, hy, ← hx]
  rfl
theorem off1_mem {D : Addr} : ∀ {l : List (Addr × Obj)}, LCg.Off1 D l → ∀ p ∈ l, p.1 ≠ D
  | [], _, _, hp => nomatch hp
  | _ :: _, h, p, hp => by
    rcases List.mem_cons.mp hp with rfl | hp
    · exact h.1
    · exact off1_mem h.2 p hp
end Mine
end
/-! PL -/
section
open PySem PySem.W PySem.Spec PySem.Calls PyProof.Rows
set_option maxRecDepth 100000
set_option maxHeartbeats 1000000
namespace Mine
abbrev F4 := Fin 4 × Fin 4 × Fin 4 × Fin 4
def insF (a : Fin 4) : List (Fin 4) → List (Fin 4)
  | [] => [a]
  | b :: r => if b < a then b :: insF a r else a :: b :: r
def srtF : List (Fin 4) → List (Fin 4)
  | [] => []
  | a :: r => insF a (srtF r)
def gtF : List (Fin 4) → List (Fin 4) → Bool
  | a :: as, b :: bs => decide (b < a) || gtF as bs
  | _, _ => false
def belowF (x y : F4) : Bool := !gtF [x.1] [y.1] && !gtF (srtF [x.1, x.2.1]) (srtF [y.1, y.2.1]) && !gtF (srtF [x.1, x.2.1, x.2.2.1]) (srtF [y.1, y.2.1, y.2.2.1])
def swpF (n : Int) (r : F4) : F4 :=
  if n = 20 then (if r.2.1 < r.1 then (r.2.1, r.1, r.2.2) else r)
  else if n = 21 then (if r.1 < r.2.1 then (r.2.1, r.1, r.2.2) else r)
  else if n = 33 then (if r.2.2.1 < r.2.1 then (r.1, r.2.2.1, r.2.1, r.2.2.2) else r)
  else if n = 34 then (if r.2.1 < r.2.2.1 then (r.1, r.2.2.1, r.2.1, r.2.2.2) else r)
  else if n = 44 then (if r.2.2.2 < r.2.2.1 then (r.1, r.2.1, r.2.2.2, r.2.2.1) else r)
  else (if r.2.2.1 < r.2.2.2 then (r.1, r.2.1, r.2.2.2, r.2.2.1) else r)
def sentF (ns : List Int) (r : F4) : F4 := ns.foldl (fun r n => swpF n r) r
def perms : List F4 := [(0,1,2,3),(0,1,3,2),(0,2,1,3),(0,2,3,1),(0,3,1,2),(0,3,2,1),(1,0,2,3),(1,0,3,2),(1,2,0,3),(1,2,3,0),(1,3,0,2),(1,3,2,0),(2,0,1,3),(2,0,3,1),(2,1,0,3),(2,1,3,0),(2,3,0,1),(2,3,1,0),(3,0,1,2),(3,0,2,1),(3,1,0,2),(3,1,2,0),(3,2,0,1),(3,2,1,0)]
theorem swp_permsB : (perms.all fun x => [20, 33, 44, 21, 34, 45].all fun n => perms.any fun y => decide (y = swpF n x)) = true := by decide +kernel
theorem swp_perms1 {x : F4} (hx : x ∈ perms) {n : Int} (hn : n ∈ ([20, 33, 44, 21, 34, 45] : List Int)) : swpF n x ∈ perms := by
  have h1 := List.all_eq_true.mp (List.all_eq_true.mp swp_permsB x hx) n hn
  obtain ⟨y, hy, e⟩ := List.any_eq_true.mp h1
  rw [← of_decide_eq_true e]
  exact hy
theorem swp_perms0 (x : F4) (hx : x ∈ perms) : (swpF 20 x ∈ perms ∧ swpF 33 x ∈ perms ∧ swpF 44 x ∈ perms) ∧ (swpF 21 x ∈ perms ∧ swpF 34 x ∈ perms ∧ swpF 45 x ∈ perms) :=
  ⟨⟨swp_perms1 hx (by decide), swp_perms1 hx (by decide), swp_perms1 hx (by decide)⟩, swp_perms1 hx (by decide), swp_perms1 hx (by decide), swp_perms1 hx (by decide)⟩
theorem adj0 : ∀ x ∈ perms, ∀ y ∈ perms, belowF (swpF 20 x) y = belowF x (swpF 21 y) ∧ belowF (swpF 33 x) y = belowF x (swpF 34 y) ∧ belowF (swpF 44 x) y = belowF x (swpF 45 y) := by decide +kernel
theorem least0 : ∀ x ∈ perms, belowF x (0, 1, 2, 3) = decide (x = (0, 1, 2, 3)) := by decide +kernel
theorem swpA_in {x : F4} (hx : x ∈ perms) {p : Int} (hp : p = 0 ∨ p = 1 ∨ p = 2) : swpF (numA p) x ∈ perms := by
  obtain ⟨⟨a, b, c⟩, _⟩ := swp_perms0 x hx
  rcases hp with rfl | rfl | rfl
  · exact a
  · exact b
  · exact c
theorem swpB_in {x : F4} (hx : x ∈ perms) {p : Int} (hp : p = 0 ∨ p = 1 ∨ p = 2) : swpF (numB p) x ∈ perms := by
  obtain ⟨_, a, b, c⟩ := swp_perms0 x hx
  rcases hp with rfl | rfl | rfl
  · exact a
  · exact b
  · exact c
theorem adj1 {x y : F4} (hx : x ∈ perms) (hy : y ∈ perms) {p : Int} (hp : p = 0 ∨ p = 1 ∨ p = 2) : belowF (swpF (numA p) x) y = belowF x (swpF (numB p) y) := by
  obtain ⟨a, b, c⟩ := adj0 x hx y hy
  rcases hp with rfl | rfl | rfl
  · exact a
  · exact b
  · exact c
theorem sentA_in : ∀ (ps : List Int), (∀ p ∈ ps, p = 0 ∨ p = 1 ∨ p = 2) → ∀ x ∈ perms, sentF (ps.map numA) x ∈ perms
  | [], _, _, hx => hx
  | p :: r, h, x, hx => sentA_in r (fun q hq => h q (.tail _ hq)) _ (swpA_in hx (h p (.head _)))
theorem sentB_in : ∀ (ps : List Int), (∀ p ∈ ps, p = 0 ∨ p = 1 ∨ p = 2) → ∀ x ∈ perms, sentF (ps.map numB) x ∈ perms
  | [], _, _, hx => hx
  | p :: r, h, x, hx => sentB_in r (fun q hq => h q (.tail _ hq)) _ (swpB_in hx (h p (.head _)))
/-- what is sent ahead is below, if and only if it is below what is sent back -/
theorem adj : ∀ (ps : List Int), (∀ p ∈ ps, p = 0 ∨ p = 1 ∨ p = 2) → ∀ x ∈ perms, ∀ y ∈ perms, belowF (sentF (ps.map numA) x) y = belowF x (sentF (ps.reverse.map numB) y)
  | [], _, _, _, _, _ => rfl
  | p :: r, h, x, hx, y, hy => by
    have hr : ∀ q ∈ r, q = 0 ∨ q = 1 ∨ q = 2 := fun q hq => h q (.tail _ hq)
    have hp := h p (.head _)
    have hy2 : sentF (r.reverse.map numB) y ∈ perms := sentB_in r.reverse (fun q hq => hr q (List.mem_reverse.mp hq)) y hy
    have e1 : sentF ((p :: r).map numA) x = sentF (r.map numA) (swpF (numA p) x) := rfl
    have e2 : sentF ((p :: r).reverse.map numB) y = swpF (numB p) (sentF (r.reverse.map numB) y) := by
      rw [List.reverse_cons, List.map_append]
      unfold sentF
      rw [List.foldl_append]
      rfl
    rw [e1, e2, adj r hr _ (swpA_in hx hp) y hy]
    exact adj1 hx hy2 hp
section
variable {f : Fin 4 → Str} (hf : ∀ i j, ltS (f i) (f j) = decide (i < j))
include hf
theorem insS_map (a : Fin 4) : ∀ l : List (Fin 4), insS (f a) (l.map f) = (insF a l).map f
  | [] => rfl
  | b :: r => by
    rw [List.map_cons]
    unfold insS insF
    rw [hf]
    by_cases h : b < a
    · simp [h, insS_map a r]
    · simp [h]
theorem srt_map : ∀ l : List (Fin 4), srt (l.map f) = (srtF l).map f
  | [] => rfl
  | a :: r => by
    rw [List.map_cons]
    unfold srt srtF
    rw [srt_map r, insS_map hf]
theorem gt_map : ∀ l l' : List (Fin 4), gtAny (l.map f) (l'.map f) = gtF l l'
  | [], [] => rfl
  | [], _ :: _ => rfl
  | _ :: _, [] => rfl
  | a :: r, b :: q => by
    simp only [List.map_cons, gtAny, gtF, hf, gt_map r q]
abbrev map4 (f : Fin 4 → Str) (x : F4) : R4 := (f x.1, f x.2.1, f x.2.2.1, f x.2.2.2)
theorem below_map (x y : F4) : belowS (map4 f x) (map4 f y) = belowF x y := by
  have s1 := srt_map hf
  have g := gt_map hf
  have a1 := g [x.1] [y.1]
  have a2 := g (srtF [x.1, x.2.1]) (srtF [y.1, y.2.1])
  have a3 := g (srtF [x.1, x.2.1, x.2.2.1]) (srtF [y.1, y.2.1, y.2.2.1])
  rw [← s1, ← s1] at a2 a3
  simp only [List.map_cons, List.map_nil] at a1 a2 a3
  unfold belowS belowF
  rw [a1, a2, a3]
theorem cmp_one (i j : Fin 4) : (cmpS (f i) (f j) = 1) ↔ j < i := by
  have h1 := hf i j
  have h2 := hf j i
  unfold ltS at h1 h2
  unfold cmpS
  rw [h1, h2]
  by_cases a : j < i
  · have b : ¬ i < j := fun h => absurd (Nat.lt_trans a h) (Nat.lt_irrefl _)
    simp [a, b, b2i]
  · by_cases b : i < j <;> simp [a, b, b2i]
theorem cmp_neg (i j : Fin 4) : (cmpS (f i) (f j) = -1) ↔ i < j := by
  have h1 := hf i j
  have h2 := hf j i
  unfold ltS at h1 h2
  unfold cmpS
  rw [h1, h2]
  by_cases a : i < j
  · have b : ¬ j < i := fun h => absurd (Nat.lt_trans a h) (Nat.lt_irrefl _)
    simp [a, b, b2i]
  · by_cases b : j < i <;> simp [a, b, b2i]
theorem swp_map (n : Int) (x : F4) : swp n (map4 f x) = map4 f (swpF n x) := by
  unfold swp swpF
  simp only [cmp_one hf, cmp_neg hf]
  split
  · split <;> rfl
  split
  · split <;> rfl
  split
  · split <;> rfl
  split
  · split <;> rfl
  split
  · split <;> rfl
  · split <;> rfl
theorem sent_map : ∀ (ns : List Int) (x : F4), sentR ns (map4 f x) = map4 f (sentF ns x)
  | [], _ => rfl
  | n :: r, x => by
    show sentR r (swp n (map4 f x)) = _
    rw [swp_map hf]
    exact sent_map r _
theorem f_inj {i j : Fin 4} (e : f i = f j) : i = j := by
  have h1 := hf i j
  have h2 := hf j i
  rw [e, ltS_irrefl] at h1
  rw [e, ltS_irrefl] at h2
  have h1' : ¬ i < j := of_decide_eq_false h1.symm
  have h2' : ¬ j < i := of_decide_eq_false h2.symm
  exact Fin.ext (Nat.le_antisymm (Nat.not_lt.mp h2') (Nat.not_lt.mp h1'))
end
theorem insAll_map {α β : Type} (f : α → β) (w : α) (l : List α) : insAll (f w) (l.map f) = (insAll w l).map (List.map f) := by
  unfold insAll insAt
  rw [List.length_map, List.map_map]
  refine List.map_congr_left fun i _ => ?_
  simp [List.map_take, List.map_drop]
theorem rowsF_map {α β : Type} (f : α → β) (ws : List α) : rowsF (ws.map f) = (rowsF ws).map (List.map f) := by
  have key : ∀ (ws : List α) (rows : List (List α)), (ws.map f).foldl (fun rows w => rows.flatMap (insAll w)) (rows.map (List.map f)) = (ws.foldl (fun rows w => rows.flatMap (insAll w)) rows).map (List.map f) := by
    intro ws
    induction ws with
    | nil => intro rows; rfl
    | cons w r ih =>
      intro rows
      rw [List.map_cons, List.foldl_cons, List.foldl_cons, ← ih]
      congr 1
      rw [List.map_flatMap, List.flatMap_map]
      congr 1
      funext l
      exact insAll_map f w l
  exact key ws [[]]
def fK (k : Int) (i : Fin 4) : Str := (srt [spAt k 0, spAt k 2, spAt k 3, spAt k 4]).getD i.val (Str.ofString "")
def sgK (k : Int) : F4 := if k = 0 then (3, 2, 1, 0) else if k = 1 then (2, 3, 1, 0) else if k = 2 then (3, 2, 1, 0) else if k = 3 then (3, 1, 2, 0) else (2, 3, 1, 0)
theorem fK_lt {k : Int} (h : 0 ≤ k ∧ k < 5) : ∀ i j, ltS (fK k i) (fK k j) = decide (i < j) := by
  rcases five h with rfl | rfl | rfl | rfl | rfl <;> decide +kernel
theorem fK_things {k : Int} (h : 0 ≤ k ∧ k < 5) : [spAt k 0, spAt k 2, spAt k 3, spAt k 4] = [(sgK k).1, (sgK k).2.1, (sgK k).2.2.1, (sgK k).2.2.2].map (fK k) := by
  rcases five h with rfl | rfl | rfl | rfl | rfl <;> decide +kernel
theorem fK_calm {k : Int} (h : 0 ≤ k ∧ k < 5) : srt [spAt k 0, spAt k 2, spAt k 3, spAt k 4] = [fK k 0, fK k 1, fK k 2, fK k 3] := by
  rcases five h with rfl | rfl | rfl | rfl | rfl <;> decide +kernel
def l4 (x : F4) : List (Fin 4) := [x.1, x.2.1, x.2.2.1, x.2.2.2]
theorem sg_rows {k : Int} (h : 0 ≤ k ∧ k < 5) : (rowsF (l4 (sgK k))).length = 24 ∧ ∀ xs ∈ rowsF (l4 (sgK k)), xs ∈ perms.map l4 := by
  rcases five h with rfl | rfl | rfl | rfl | rfl <;> decide +kernel
/-- each of the 24 orders is one of the ranks' orders -/
theorem rows_at {k : Int} (h : 0 ≤ k ∧ k < 5) {i : Nat} {xs : List Str} (hx : (rowsF [spAt k 0, spAt k 2, spAt k 3, spAt k 4])[i]? = some xs) : ∃ x ∈ perms, xs = [fK k x.1, fK k x.2.1, fK k x.2.2.1, fK k x.2.2.2] := by
  rw [fK_things h, rowsF_map, List.getElem?_map] at hx
  obtain ⟨ys, hy, rfl⟩ := Option.map_eq_some_iff.mp hx
  obtain ⟨x, hp, rfl⟩ := List.mem_map.mp ((sg_rows h).2 ys (List.mem_of_getElem? hy))
  exact ⟨x, hp, rfl⟩
theorem rows_n {k : Int} (h : 0 ≤ k ∧ k < 5) : (rowsF [spAt k 0, spAt k 2, spAt k 3, spAt k 4]).length = 24 := by
  rw [fK_things h, rowsF_map, List.length_map]
  exact (sg_rows h).1
/-- the line of six texts, and what _strcoll tells of each with each -/
def lineT (k : Int) : List Str := [Str.ofString ""] ++ srt [spAt k 0, spAt k 2, spAt k 3, spAt k 4] ++ [Txt.mul (fK k 3) 2]
theorem line_cmp {k : Int} (h : 0 ≤ k ∧ k < 5) : ∀ i : Fin 6, ∀ j : Fin 6, cmpS ((lineT k).getD i.val (Str.ofString "")) ((lineT k).getD j.val (Str.ofString "")) = if j < i then 1 else if j = i then 0 else -1 := by
  rcases five h with rfl | rfl | rfl | rfl | rfl <;> decide +kernel
theorem fK_len {k : Int} (h : 0 ≤ k ∧ k < 5) : (fK k 3).length ≤ 64 := by
  rcases five h with rfl | rfl | rfl | rfl | rfl <;> decide +kernel
end Mine
end
/-! SB -/
section
open PySem PySem.W PySem.Spec PySem.Calls PyProof.Rows
set_option maxRecDepth 100000
set_option maxHeartbeats 0
namespace Mine
def lineN (k : Int) (pl : List Int) (i : Nat) : Int := (((chunks k pl).take i).map (·.2.1)).foldl (fun n c => rcN c n) 1
theorem due_ne {prog : Program} {w : World} {A : Around} {E : Value → Shared → Prop} {s : Shared} {a b : Addr} {xs ys : List Value} {k : Int} {pl : List Int} {Q : Value → Shared → Prop} (ha : s.heap.IsList a xs.toArray) (hb : s.heap.IsList b ys.toArray) (hi : StrsAre xs (dueS k pl))
    (hj : StrsAre ys (pl.map (opS (spAt k 0)) ++ pl.reverse.map (opS (spAt k 1)) ++ [spAt k 0, spAt k 2, spAt k 3, spAt k 4] ++ [Str.ofString ""])) (hk : 0 ≤ k ∧ k < 5) (hu : A.units + 64 < cLine) (h : Q (.bool false) s) :
    wpAny (model prog w) A (compareOp .NotEq (.ref a) (.ref b)) Q E s :=
  tx_ne (ns := dueS k pl) (ms := dueS k pl) ha hb hi hj (due_ok hk pl) (due_ok hk pl) hu (by rw [decide_eq_true (Eq.refl (dueS k pl))]; exact h)
theorem foldl_no {c : Int} : ∀ l : List Nat, (∀ x ∈ l, x ≠ 10) → l.foldl (fun n c => rcN c n) c = c
  | [], _ => rfl
  | x :: r, h => by
    rw [List.foldl_cons, show rcN x c = c by unfold rcN; rw [if_neg (h x (.head _))]]
    exact foldl_no r fun y hy => h y (.tail _ hy)
theorem op_first (k : Int) (h : 0 ≤ k ∧ k < 5) (n : Int) (hn : n = 0 ∨ n = 1 ∨ n = 2) : (opC k 0 n).2.1 ≠ 10 ∧ (opC k 1 n).2.1 ≠ 10 := by
  rcases five h with rfl | rfl | rfl | rfl | rfl <;> rcases hn with rfl | rfl | rfl <;> decide +kernel
theorem end_lines (k : Int) (h : 0 ≤ k ∧ k < 5) : ((endC k).map (·.2.1)).foldl (fun n c => rcN c n) 1 = 1 + (Spec.countIn (PyData.str (Str.ofString "\n")) (List.map PyData.str [spAt k 0, spAt k 1, spAt k 2, spAt k 3, spAt k 4]) : Int) := by
  rcases five h with rfl | rfl | rfl | rfl | rfl <;> decide +kernel
theorem line_pure {k : Int} (h : 0 ≤ k ∧ k < 5) (pl : List Int) (hn : ∀ n ∈ pl, n = 0 ∨ n = 1 ∨ n = 2) :
    lineN k pl (2 * pl.length + 5) = 1 + (Spec.countIn (PyData.str (Str.ofString "\n")) (List.map PyData.str [spAt k 0, spAt k 1, spAt k 2, spAt k 3, spAt k 4]) : Int) := by
  unfold lineN
  rw [List.take_of_length_le (by rw [chunks_n]; omega)]
  unfold chunks
  rw [List.map_append, List.foldl_append]
  have e : ((pl.map (opC k 0) ++ pl.reverse.map (opC k 1)).map (·.2.1)).foldl (fun n c => rcN c n) 1 = 1 := foldl_no _ ?_
  · rw [e, end_lines k h]
  intro x hx
  simp only [List.map_append, List.map_map, List.mem_append, List.mem_map, Function.comp] at hx
  rcases hx with ⟨n, hm, rfl⟩ | ⟨n, hm, rfl⟩
  · exact (op_first k h n (hn n hm)).1
  · exact (op_first k h n (hn n (List.mem_reverse.mp hm))).2
theorem stageB {w : World} {loose : List Str} {p : Program} {mean : ExcName → Option Value} {mg mb : Str → Option Value}
  {dp un : Nat} {fr : Option (List Env)} {gd : Option (List Code)} {h₀ : Heap} {s : Shared} {Q : Flow → Shared → Prop} {E : Value → Shared → Prop} {L fa : Addr} {cd : Value} {m : Str → Option Value}
  {k tot : Int} {pa ba sl D D9 lx ld sx lpb : Addr} {vp vb ys : List Value} {e1 e2 e3 : Nat} {pl : List Int} {t1 t2 s0 s1 s2 s3 s4 u1 u2 u3 u4 u5 u6 : Tok} {o1 oLex o3 o4 o5 : Obj} {ps : Array Value}
  (T : Top p loose mean mg mb h₀)
  (F : Fr h₀ L s.heap (fun y => if y = Str.ofString "words" then some (.ref D) else if y = Str.ofString "signs" then some (.ref D9) else if y = Str.ofString "spelled" then some (.ref sl) else if y = Str.ofString "total" then some (.int tot t1) else if y = Str.ofString "half" then some (.int pl.length t2) else if y = Str.ofString "back" then some (.ref ba) else if y = Str.ofString "places" then some (.ref pa) else m y))
  (N : News h₀ L s.heap [(D, LCg.lst ys), (ld, lexD w.params (.ref sx) lpb (lineN k pl (2 * pl.length + 5)) u1 u2 u3 u4 u5 u6), (lx, instObj 66 ld), (117, tabObj ps), (sl, W.listOf (List.toArray [.str (spAt k 0) s0, .str (spAt k 1) s1, .str (spAt k 2) s2, .str (spAt k 3) s3, .str (spAt k 4) s4]) e3), (ba, W.listOf vb.toArray e2), (pa, W.listOf vp.toArray e1), (L + 1 + 1 + 1 + 1 + 1, o5), (L + 1 + 1 + 1 + 1, o4), (L + 1 + 1 + 1, o3), (L + 1 + 1, oLex), (L + 1, o1)])
  (d2 : oLex.data = .cell (some (.ref lx)))
  (hk : 0 ≤ k ∧ k < 5) (hpl : ∀ n ∈ pl, n = 0 ∨ n = 1 ∨ n = 2) (hplr : ∀ n ∈ pl.reverse, n = 0 ∨ n = 1 ∨ n = 2) (hlen : pl.length ≤ 9) (hlenr : pl.reverse.length ≤ 9) (hvp : IntsAre vp pl) (hvb : IntsAre vb pl.reverse) (hys : StrsAre ys (dueS k pl))
  (hdp : dp + 12 < recursionLimit) (hu : un + 100 < cLine)
  (hnext : ∀ D8 D7 e h' tk, Fr h₀ L h' (fun y => if y = Str.ofString "due" then some (.ref D8) else if y = Str.ofString "things" then some (.ref D7) else if y = Str.ofString "words" then some (.ref D) else if y = Str.ofString "signs" then some (.ref D9) else if y = Str.ofString "spelled" then some (.ref sl) else if y = Str.ofString "total" then some (.int tot t1) else if y = Str.ofString "half" then some (.int pl.length t2) else if y = Str.ofString "back" then some (.ref ba) else if y = Str.ofString "places" then some (.ref pa) else m y) →
    News h₀ L h' [(D7, W.listOf (List.toArray [.str (spAt k 0) s0, .str (spAt k 2) s2, .str (spAt k 3) s3, .str (spAt k 4) s4]) e), (D, LCg.lst ys), (117, tabObj ps), (ba, W.listOf vb.toArray e2), (pa, W.listOf vp.toArray e1), (L + 1 + 1 + 1 + 1 + 1, o5), (L + 1 + 1 + 1 + 1, o4), (L + 1 + 1 + 1, o3), (L + 1 + 1, oLex), (L + 1, o1)] → @LT.lt Nat instLTNat (L + 1 + 1 + 1 + 1 + 1) D7 →
    wpAny (model (RW.row.toRowW.prog) w) (Rm dp un fr gd) (execs (lawRec.body.drop 11) (envOfC (Str.ofString "law") lawRec.scope L fa cd)) Q E { s with heap := h', toks := tk }) :
   (KK w.params).In h₀ → wpAny (model (RW.row.toRowW.prog) w) (Rm dp un fr gd) (execs (lawRec.body.drop 8) (envOfC (Str.ofString "law") lawRec.scope L fa cd)) Q E s := by
  k_fill
  intro X₀
  have hn := hnext
  clear hnext
  repeat (conv at hn in lawRec.scope => whnf)
  conv at hn in lawRec.body.drop 11 => whnf
  repeat (conv in lawRec.scope => whnf)
  conv in lawRec.body.drop 8 => whnf
  have hl := line_pure hk pl hpl
  ((try clear mk0); have mk0 : Mark "execs cons"   := ⟨trivial⟩; (try clear mk1); have mk1 : Mark "call ref"   := ⟨trivial⟩; (try clear mk2); have mk2 : Mark "binaryOp Add ref ref"   := ⟨trivial⟩; (try clear mk3); have mk3 : Mark "compareOp NotEq ref ref"   := ⟨trivial⟩; repeat' (first | ((with_reducible refine unhalt (x := "execs cons") ?_); first | ((with_reducible show wpAny _ _ (execs (Stmt.Assign [Expr.Name (Str.ofString "dress") _] _ _ :: _) _) _ _ _); (refine halt2 ?_)) | (clear mk0; walk1; all_goals (try (with_reducible refine addMark (x := "execs cons") fun mk0 => ?_)))) | ((with_reducible refine unhalt (x := "call ref") ?_); first | ((first | ((with_reducible show wpAny _ _ (call (Value.ref 134) _) _ _ _); (refine' ops_use (by k_asm) (by k_asm) (by k_asm) (by k_asm) (by k_mem) (by assumption) (by assumption) (by (first | assumption | omega)) (by exact spAt_len (by assumption) _) (by ktr_room) (by ktr_units) ?_); (k_whole); (intro D9 ys9 h9 tk9 S9 F9 N9 d9)) | ((refine halt2 ?_)))) | (clear mk1; walk1; all_goals (try (with_reducible refine addMark (x := "call ref") fun mk1 => ?_)))) | ((with_reducible refine unhalt (x := "binaryOp Add ref ref") ?_); first | ((with_reducible show wpAny _ _ (binaryOp _ (Value.ref _) (Value.ref _)) _ _ _); (refine' add_strs (by k_asm) (by k_asm) (by k_mem) (by k_mem) (by assumption) (by (first | assumption | exact .cons _ _ (.cons _ _ (.cons _ _ (.cons _ _ .nil))) | exact .cons _ _ .nil)) (by (simp only [List.length_map, List.length_append, List.length_cons, List.length_nil]; omega)) ?_); (k_whole); (intro D9 us9 h9 F9 N9 l9 S9); (k_lt l9)) | (clear mk2; walk1; all_goals (try (with_reducible refine addMark (x := "binaryOp Add ref ref") fun mk2 => ?_)))) | ((with_reducible refine unhalt (x := "compareOp NotEq ref ref") ?_); first | ((refine' due_ne (by exact News.isList (by k_asm) (by k_mem)) (by exact News.isList (by k_asm) (by k_mem)) (by assumption) (by assumption) (by assumption) (by ktr_units) ?_); (k_whole)) | (clear mk3; walk1; all_goals (try (with_reducible refine addMark (x := "compareOp NotEq ref ref") fun mk3 => ?_)))) | (k_unfold; (try dsimp only)) | (k_end; kc_close) | walk1 | (dsimp only; walk1) | (leave1; (try dsimp only)) | fail "no step"))
  · rename_i hne
    exact absurd hl hne
  · unfold Halt2
    refine' hn _ _ _ _ _ ?F ?N ?l
    case F => k_asm
    case N => exact cb_drop (by k_asm) (sub1 (by k_mem) (sub1 (by k_mem) (sub1 (by k_mem) (sub1 (by k_mem) (sub1 (by k_mem) (sub1 (by k_mem) (sub1 (by k_mem) (sub1 (by k_mem) (sub1 (by k_mem) (sub1 (by k_mem) sub0))))))))))
    case l => omega
end Mine
end
/-! SC -/
section
open PySem PySem.W PySem.Spec PySem.Calls PyProof.Rows
set_option maxRecDepth 100000
set_option maxHeartbeats 0
namespace Mine
theorem pick_up {ys : List Value} {n : Nat} : kms_pick ys.toArray.toList none (some (2 * (n : Int))) = ys.take (2 * n) := by
  have h1 : (2 * (n : Int)).toNat = 2 * n := by omega
  have h2 : ¬ (2 * (n : Int) < 0) := by omega
  simp only [kms_pick, kms_lo, kms_hi, h1, h2, if_false, List.drop_zero, Nat.sub_zero]
  show List.take (min (2 * n) ys.length) ys = _
  rw [kmk_take_min]
local macro_rules | `(tactic| walk_at "subscriptTail Name Slice ref ref") => `(tactic| (
  k_here
  k_dflt (refine' kms_slice_lit ?F ?N ?l ?p ?q ?e ?_ ?s ?t ?z; (case F => k_asm); (case N => k_asm); (case l => kmk_list); (case p => kmk_part); (case q => kmk_part); (case e => exact pick_up); (case s => with_unfolding_all rfl); (case t => kmk_pure); (case z => assumption); k_whole)
  intro D' h' F' N' l1
  k_lt l1))
theorem stageC {w : World} {loose : List Str} {p : Program} {mean : ExcName → Option Value} {mg mb : Str → Option Value}
  {dp un : Nat} {fr : Option (List Env)} {gd : Option (List Code)} {h₀ : Heap} {s : Shared} {Q : Flow → Shared → Prop} {E : Value → Shared → Prop} {L fa : Addr} {cd : Value} {m : Str → Option Value}
  {k tot : Int} {pa ba D8 D7 D D9 sl : Addr} {vp vb ys : List Value} {e e1 e2 : Nat} {pl : List Int} {t1 t2 s0 s2 s3 s4 : Tok} {o1 oLex o3 o4 o5 : Obj} {ps : Array Value}
  (T : Top p loose mean mg mb h₀)
  (F : Fr h₀ L s.heap (fun y => if y = Str.ofString "due" then some (.ref D8) else if y = Str.ofString "things" then some (.ref D7) else if y = Str.ofString "words" then some (.ref D) else if y = Str.ofString "signs" then some (.ref D9) else if y = Str.ofString "spelled" then some (.ref sl) else if y = Str.ofString "total" then some (.int tot t1) else if y = Str.ofString "half" then some (.int pl.length t2) else if y = Str.ofString "back" then some (.ref ba) else if y = Str.ofString "places" then some (.ref pa) else m y))
  (N : News h₀ L s.heap [(D7, W.listOf (List.toArray [.str (spAt k 0) s0, .str (spAt k 2) s2, .str (spAt k 3) s3, .str (spAt k 4) s4]) e), (D, LCg.lst ys), (117, tabObj ps), (ba, W.listOf vb.toArray e2), (pa, W.listOf vp.toArray e1), (L + 1 + 1 + 1 + 1 + 1, o5), (L + 1 + 1 + 1 + 1, o4), (L + 1 + 1 + 1, o3), (L + 1 + 1, oLex), (L + 1, o1)])
  (d3 : o3.data = .cell none) (d1 : o1.data = .cell (some (.ref (handA k))))
  (lc : @LT.lt Nat instLTNat (L + 1 + 1 + 1 + 1 + 1) pa ∧ @LT.lt Nat instLTNat pa ba ∧ @LT.lt Nat instLTNat (L + 1 + 1 + 1 + 1 + 1) D7) (lD : @Ne Nat (L + 1 + 1 + 1) D) (l117 : @LT.lt Nat instLTNat 117 L)
  (hk : 0 ≤ k ∧ k < 5) (hpl : ∀ n ∈ pl, n = 0 ∨ n = 1 ∨ n = 2) (hplr : ∀ n ∈ pl.reverse, n = 0 ∨ n = 1 ∨ n = 2) (hlenr : pl.reverse.length ≤ 9) (hlen : pl.length ≤ 9) (hvp : IntsAre vp pl) (hvb : IntsAre vb pl.reverse) (hys : StrsAre ys (dueS k pl))
  (hdp : dp + 12 < recursionLimit) (hu : un + 100 < cLine)
  (hnext : ∀ Dn zs h' tk, Fr h₀ L h' (fun y => if y = Str.ofString "numbers" then some (.ref Dn) else if y = Str.ofString "due" then some (.ref D8) else if y = Str.ofString "things" then some (.ref D7) else if y = Str.ofString "words" then some (.ref D) else if y = Str.ofString "signs" then some (.ref D9) else if y = Str.ofString "spelled" then some (.ref sl) else if y = Str.ofString "total" then some (.int tot t1) else if y = Str.ofString "half" then some (.int pl.length t2) else if y = Str.ofString "back" then some (.ref ba) else if y = Str.ofString "places" then some (.ref pa) else m y) →
    News h₀ L h' [(Dn, LCg.lst zs), (D7, W.listOf (List.toArray [.str (spAt k 0) s0, .str (spAt k 2) s2, .str (spAt k 3) s3, .str (spAt k 4) s4]) e), (D, LCg.lst ys), (117, tabObj ps), (L + 1 + 1 + 1 + 1 + 1, o5), (L + 1 + 1 + 1 + 1, o4)] → IntsAre zs (numsL pl) → (@Ne Nat (L + 1 + 1 + 1 + 1) Dn ∧ @Ne Nat (L + 1 + 1 + 1 + 1 + 1) Dn) →
    wpAny (model (RW.row.toRowW.prog) w) (Rm dp un fr gd) (execs (lawRec.body.drop 14) (envOfC (Str.ofString "law") lawRec.scope L fa cd)) Q E { s with heap := h', toks := tk }) :
   (KK w.params).In h₀ → wpAny (model (RW.row.toRowW.prog) w) (Rm dp un fr gd) (execs (lawRec.body.drop 11) (envOfC (Str.ofString "law") lawRec.scope L fa cd)) Q E s := by
  k_fill
  intro X₀
  have hH : FnAt (handA k) h₀ := by
    rcases five hk with rfl | rfl | rfl | rfl | rfl
    · exact ⟨_, _, _, _, X₀ 87 _ (by k_is)⟩
    · exact ⟨_, _, _, _, X₀ 94 _ (by k_is)⟩
    · exact ⟨_, _, _, _, X₀ 101 _ (by k_is)⟩
    · exact ⟨_, _, _, _, X₀ 108 _ (by k_is)⟩
    · exact ⟨_, _, _, _, X₀ 115 _ (by k_is)⟩
  have hn9 := hnext
  clear hnext
  repeat (conv at hn9 in lawRec.scope => whnf)
  conv at hn9 in lawRec.body.drop 14 => whnf
  repeat (conv in lawRec.scope => whnf)
  conv in lawRec.body.drop 11 => whnf
  ((try clear mk0); have mk0 : Mark "execs cons"   := ⟨trivial⟩; (try clear mk1); have mk1 : Mark "call builtin:dict.items"   := ⟨trivial⟩; (try clear mk2); have mk2 : Mark "getMethod ref"   := ⟨trivial⟩; (try clear mk3); have mk3 : Mark "call builtin:dict.get"   := ⟨trivial⟩; (try clear mk4); have mk4 : Mark "compareOp NotEq ref ref"   := ⟨trivial⟩; (try clear mk5); have mk5 : Mark "CompEnd"   := ⟨trivial⟩; (try clear mk6); have mk6 : Mark "eval DictComp"   := ⟨trivial⟩; (try clear mk7); have mk7 : Mark "CompSrc"   := ⟨trivial⟩; (try clear mk8); have mk8 : Mark "DSrc"   := ⟨trivial⟩; (try clear mk9); have mk9 : Mark "eval ListComp"   := ⟨trivial⟩; (try clear mk10); have mk10 : Mark "call ref"   := ⟨trivial⟩; (try clear mk11); have mk11 : Mark "FnAt"   := ⟨trivial⟩; (try clear mk12); have mk12 : Mark "callWith ref"   := ⟨trivial⟩; repeat' (first | ((with_reducible refine unhalt (x := "execs cons") ?_); first | ((with_reducible show wpAny _ _ (execs (Stmt.Assign [Expr.Name (Str.ofString "rows") _] _ _ :: _) _) _ _ _); (refine halt2 ?_)) | (clear mk0; walk1; all_goals (try (with_reducible refine addMark (x := "execs cons") fun mk0 => ?_)))) | ((with_reducible refine unhalt (x := "call builtin:dict.items") ?_); first | ((refine' items_call (knd := PySem.strKind _ _) ((Heap.DictAt.dictOf (tt_at (by assumption))).at fun o e => Fr.keep (by k_asm) _ _ e) (by rfl) (by k_asm) (by k_asm) ?_); (k_whole); (intro V9 h9 iv9 F9 N9)) | (clear mk1; walk1; all_goals (try (with_reducible refine addMark (x := "call builtin:dict.items") fun mk1 => ?_)))) | ((with_reducible refine unhalt (x := "getMethod ref") ?_); first | ((with_reducible show wpAny _ _ (getMethod (Value.ref 71) _ _) _ _ _); (refine items_method (knd := PySem.strKind _ _) ((Heap.DictAt.dictOf (tt_at (by assumption))).at fun o e => Fr.keep (by k_asm) _ _ e) ?_)) | (clear mk2; walk1; all_goals (try (with_reducible refine addMark (x := "getMethod ref") fun mk2 => ?_)))) | ((with_reducible refine unhalt (x := "call builtin:dict.get") ?_); first | ((refine' kdg_get1 (knd := PySem.strKind _ _) (by k_asm) (by k_mem) (by assumption) (by assumption) (by exact strKind_is _ _ _ _) (some _) (by exact NumAt.b (by assumption)) ?_); (k_whole); (dsimp only [Option.getD])) | (clear mk3; walk1; all_goals (try (with_reducible refine addMark (x := "call builtin:dict.get") fun mk3 => ?_)))) | ((with_reducible refine unhalt (x := "compareOp NotEq ref ref") ?_); first | ((refine' ne_nums (by exact News.isList (by k_asm) (by k_mem)) (by exact News.isList (by k_asm) (by k_mem)) (by assumption) (by assumption) (by ktr_units) ?_); (k_whole)) | (clear mk4; walk1; all_goals (try (with_reducible refine addMark (x := "compareOp NotEq ref ref") fun mk4 => ?_)))) | ((with_reducible refine unhalt (x := "CompEnd") ?_); first | ((refine halt2 ?_)) | (clear mk5; walk1; all_goals (try (with_reducible refine addMark (x := "CompEnd") fun mk5 => ?_)))) | ((with_reducible refine unhalt (x := "eval DictComp") ?_); first | ((refine' DictComp_items (knd := PySem.strKind _ _) (knd2 := PySem.strKind _ _) (by k_asm) (by rfl) (by rfl) (by decide) (by rfl) (by decide) (by rfl) (by rfl) (by decide) ?_); (k_whole)) | (clear mk6; walk1; all_goals (try (with_reducible refine addMark (x := "eval DictComp") fun mk6 => ?_)))) | ((with_reducible refine unhalt (x := "CompSrc") ?_); first | ((refine halt2 ?_)) | (clear mk7; walk1; all_goals (try (with_reducible refine addMark (x := "CompSrc") fun mk7 => ?_)))) | ((with_reducible refine unhalt (x := "DSrc") ?_); first | ((refine halt2 ?_)) | (clear mk8; walk1; all_goals (try (with_reducible refine addMark (x := "DSrc") fun mk8 => ?_)))) | ((with_reducible refine unhalt (x := "eval ListComp") ?_); first | ((refine' LCg.ListComp_U (by k_asm) (by rfl) (by decide) (by rfl) (by decide) (by rfl) ?_); (k_whole)) | (clear mk9; walk1; all_goals (try (with_reducible refine addMark (x := "eval ListComp") fun mk9 => ?_)))) | ((with_reducible refine unhalt (x := "call ref") ?_); first | ((with_reducible show wpAny _ _ (call (Value.ref (handA _)) _) _ _ _); (refine' handcall_use (by k_asm) (by k_asm) (by k_asm) (by k_asm) (by assumption) (by assumption) (by ktr_room) (by ktr_units) ?_); (k_whole); (intro t9 h9 tk9 F9 N9); (refine halt2 ?_)) | (clear mk10; walk1; all_goals (try (with_reducible refine addMark (x := "call ref") fun mk10 => ?_)))) | ((with_reducible refine unhalt (x := "FnAt") ?_); first | ((exact FnAt.fr (by assumption) (by k_asm))) | (clear mk11; walk1; all_goals (try (with_reducible refine addMark (x := "FnAt") fun mk11 => ?_)))) | ((with_reducible refine unhalt (x := "callWith ref") ?_); first | ((with_reducible show wpAny _ _ (callWith _ (Value.ref (handA _)) _ _ _) _ _ _); (refine callWith_F (FnAt.fr (by assumption) (by k_asm)) ?_)) | (clear mk12; walk1; all_goals (try (with_reducible refine addMark (x := "callWith ref") fun mk12 => ?_)))) | (k_unfold; (try dsimp only)) | (k_end; kc_close) | walk1 | (dsimp only; walk1) | (leave1; (try dsimp only)) | fail "no step"))
  unfold Halt2
  rename Fr _ _ _ _ => F1
  rename News _ _ _ _ => N1
  rename Heap.IsItemsView _ _ _ => hV
  refine ⟨_, 71, tokKV w.params, tokEp w.params, _, escK k, rfl, hV, tt_at X₀, F1, N1, ?len, ?key, ?val, ?fin⟩
  case len => rw [tt_len, PySem.sizeLine_eq]; omega
  case key =>
    intro i kk v key it oI C oC D' oD m₂ h tk E' hx hkey hC hm hm2 F5 N5
    obtain ⟨t, rfl⟩ := Value.isStrOf_shape hkey
    have hsh := tt_shortAt hx
    clear N1 F1
    ((try clear mk0); have mk0 : Mark "execs cons"   := ⟨trivial⟩; (try clear mk1); have mk1 : Mark "call builtin:dict.items"   := ⟨trivial⟩; (try clear mk2); have mk2 : Mark "getMethod ref"   := ⟨trivial⟩; (try clear mk3); have mk3 : Mark "call builtin:dict.get"   := ⟨trivial⟩; (try clear mk4); have mk4 : Mark "compareOp NotEq ref ref"   := ⟨trivial⟩; (try clear mk5); have mk5 : Mark "CompEnd"   := ⟨trivial⟩; (try clear mk6); have mk6 : Mark "eval DictComp"   := ⟨trivial⟩; (try clear mk7); have mk7 : Mark "CompSrc"   := ⟨trivial⟩; (try clear mk8); have mk8 : Mark "DSrc"   := ⟨trivial⟩; (try clear mk9); have mk9 : Mark "eval ListComp"   := ⟨trivial⟩; (try clear mk10); have mk10 : Mark "call ref"   := ⟨trivial⟩; (try clear mk11); have mk11 : Mark "FnAt"   := ⟨trivial⟩; (try clear mk12); have mk12 : Mark "callWith ref"   := ⟨trivial⟩; repeat' (first | ((with_reducible refine unhalt (x := "execs cons") ?_); first | ((with_reducible show wpAny _ _ (execs (Stmt.Assign [Expr.Name (Str.ofString "rows") _] _ _ :: _) _) _ _ _); (refine halt2 ?_)) | (clear mk0; walk1; all_goals (try (with_reducible refine addMark (x := "execs cons") fun mk0 => ?_)))) | ((with_reducible refine unhalt (x := "call builtin:dict.items") ?_); first | ((refine' items_call (knd := PySem.strKind _ _) ((Heap.DictAt.dictOf (tt_at (by assumption))).at fun o e => Fr.keep (by k_asm) _ _ e) (by rfl) (by k_asm) (by k_asm) ?_); (k_whole); (intro V9 h9 iv9 F9 N9)) | (clear mk1; walk1; all_goals (try (with_reducible refine addMark (x := "call builtin:dict.items") fun mk1 => ?_)))) | ((with_reducible refine unhalt (x := "getMethod ref") ?_); first | ((with_reducible show wpAny _ _ (getMethod (Value.ref 71) _ _) _ _ _); (refine items_method (knd := PySem.strKind _ _) ((Heap.DictAt.dictOf (tt_at (by assumption))).at fun o e => Fr.keep (by k_asm) _ _ e) ?_)) | (clear mk2; walk1; all_goals (try (with_reducible refine addMark (x := "getMethod ref") fun mk2 => ?_)))) | ((with_reducible refine unhalt (x := "call builtin:dict.get") ?_); first | ((refine' kdg_get1 (knd := PySem.strKind _ _) (by k_asm) (by k_mem) (by assumption) (by assumption) (by exact strKind_is _ _ _ _) (some _) (by exact NumAt.b (by assumption)) ?_); (k_whole); (dsimp only [Option.getD])) | (clear mk3; walk1; all_goals (try (with_reducible refine addMark (x := "call builtin:dict.get") fun mk3 => ?_)))) | ((with_reducible refine unhalt (x := "compareOp NotEq ref ref") ?_); first | ((refine' ne_nums (by exact News.isList (by k_asm) (by k_mem)) (by exact News.isList (by k_asm) (by k_mem)) (by assumption) (by assumption) (by ktr_units) ?_); (k_whole)) | (clear mk4; walk1; all_goals (try (with_reducible refine addMark (x := "compareOp NotEq ref ref") fun mk4 => ?_)))) | ((with_reducible refine unhalt (x := "CompEnd") ?_); first | ((refine halt2 ?_)) | (clear mk5; walk1; all_goals (try (with_reducible refine addMark (x := "CompEnd") fun mk5 => ?_)))) | ((with_reducible refine unhalt (x := "eval DictComp") ?_); first | ((refine' DictComp_items (knd := PySem.strKind _ _) (knd2 := PySem.strKind _ _) (by k_asm) (by rfl) (by rfl) (by decide) (by rfl) (by decide) (by rfl) (by rfl) (by decide) ?_); (k_whole)) | (clear mk6; walk1; all_goals (try (with_reducible refine addMark (x := "eval DictComp") fun mk6 => ?_)))) | ((with_reducible refine unhalt (x := "CompSrc") ?_); first | ((refine halt2 ?_)) | (clear mk7; walk1; all_goals (try (with_reducible refine addMark (x := "CompSrc") fun mk7 => ?_)))) | ((with_reducible refine unhalt (x := "DSrc") ?_); first | ((refine halt2 ?_)) | (clear mk8; walk1; all_goals (try (with_reducible refine addMark (x := "DSrc") fun mk8 => ?_)))) | ((with_reducible refine unhalt (x := "eval ListComp") ?_); first | ((refine' LCg.ListComp_U (by k_asm) (by rfl) (by decide) (by rfl) (by decide) (by rfl) ?_); (k_whole)) | (clear mk9; walk1; all_goals (try (with_reducible refine addMark (x := "eval ListComp") fun mk9 => ?_)))) | ((with_reducible refine unhalt (x := "call ref") ?_); first | ((with_reducible show wpAny _ _ (call (Value.ref (handA _)) _) _ _ _); (refine' handcall_use (by k_asm) (by k_asm) (by k_asm) (by k_asm) (by assumption) (by assumption) (by ktr_room) (by ktr_units) ?_); (k_whole); (intro t9 h9 tk9 F9 N9); (refine halt2 ?_)) | (clear mk10; walk1; all_goals (try (with_reducible refine addMark (x := "call ref") fun mk10 => ?_)))) | ((with_reducible refine unhalt (x := "FnAt") ?_); first | ((exact FnAt.fr (by assumption) (by k_asm))) | (clear mk11; walk1; all_goals (try (with_reducible refine addMark (x := "FnAt") fun mk11 => ?_)))) | ((with_reducible refine unhalt (x := "callWith ref") ?_); first | ((with_reducible show wpAny _ _ (callWith _ (Value.ref (handA _)) _ _ _) _ _ _); (refine callWith_F (FnAt.fr (by assumption) (by k_asm)) ?_)) | (clear mk12; walk1; all_goals (try (with_reducible refine addMark (x := "callWith ref") fun mk12 => ?_)))) | (k_unfold; (try dsimp only)) | (k_end; kc_close) | walk1 | (dsimp only; walk1) | (leave1; (try dsimp only)) | fail "no step"))
    unfold Halt2
    exact ⟨strKind_is _ _ _ _, _, _, rfl, by assumption, by assumption⟩
  case val =>
    intro v C oC m₂ h tk E' hC hm F5 N5
    clear N1 F1
    ((try clear mk0); have mk0 : Mark "execs cons"   := ⟨trivial⟩; (try clear mk1); have mk1 : Mark "call builtin:dict.items"   := ⟨trivial⟩; (try clear mk2); have mk2 : Mark "getMethod ref"   := ⟨trivial⟩; (try clear mk3); have mk3 : Mark "call builtin:dict.get"   := ⟨trivial⟩; (try clear mk4); have mk4 : Mark "compareOp NotEq ref ref"   := ⟨trivial⟩; (try clear mk5); have mk5 : Mark "CompEnd"   := ⟨trivial⟩; (try clear mk6); have mk6 : Mark "eval DictComp"   := ⟨trivial⟩; (try clear mk7); have mk7 : Mark "CompSrc"   := ⟨trivial⟩; (try clear mk8); have mk8 : Mark "DSrc"   := ⟨trivial⟩; (try clear mk9); have mk9 : Mark "eval ListComp"   := ⟨trivial⟩; (try clear mk10); have mk10 : Mark "call ref"   := ⟨trivial⟩; (try clear mk11); have mk11 : Mark "FnAt"   := ⟨trivial⟩; (try clear mk12); have mk12 : Mark "callWith ref"   := ⟨trivial⟩; repeat' (first | ((with_reducible refine unhalt (x := "execs cons") ?_); first | ((with_reducible show wpAny _ _ (execs (Stmt.Assign [Expr.Name (Str.ofString "rows") _] _ _ :: _) _) _ _ _); (refine halt2 ?_)) | (clear mk0; walk1; all_goals (try (with_reducible refine addMark (x := "execs cons") fun mk0 => ?_)))) | ((with_reducible refine unhalt (x := "call builtin:dict.items") ?_); first | ((refine' items_call (knd := PySem.strKind _ _) ((Heap.DictAt.dictOf (tt_at (by assumption))).at fun o e => Fr.keep (by k_asm) _ _ e) (by rfl) (by k_asm) (by k_asm) ?_); (k_whole); (intro V9 h9 iv9 F9 N9)) | (clear mk1; walk1; all_goals (try (with_reducible refine addMark (x := "call builtin:dict.items") fun mk1 => ?_)))) | ((with_reducible refine unhalt (x := "getMethod ref") ?_); first | ((with_reducible show wpAny _ _ (getMethod (Value.ref 71) _ _) _ _ _); (refine items_method (knd := PySem.strKind _ _) ((Heap.DictAt.dictOf (tt_at (by assumption))).at fun o e => Fr.keep (by k_asm) _ _ e) ?_)) | (clear mk2; walk1; all_goals (try (with_reducible refine addMark (x := "getMethod ref") fun mk2 => ?_)))) | ((with_reducible refine unhalt (x := "call builtin:dict.get") ?_); first | ((refine' kdg_get1 (knd := PySem.strKind _ _) (by k_asm) (by k_mem) (by assumption) (by assumption) (by exact strKind_is _ _ _ _) (some _) (by exact NumAt.b (by assumption)) ?_); (k_whole); (dsimp only [Option.getD])) | (clear mk3; walk1; all_goals (try (with_reducible refine addMark (x := "call builtin:dict.get") fun mk3 => ?_)))) | ((with_reducible refine unhalt (x := "compareOp NotEq ref ref") ?_); first | ((refine' ne_nums (by exact News.isList (by k_asm) (by k_mem)) (by exact News.isList (by k_asm) (by k_mem)) (by assumption) (by assumption) (by ktr_units) ?_); (k_whole)) | (clear mk4; walk1; all_goals (try (with_reducible refine addMark (x := "compareOp NotEq ref ref") fun mk4 => ?_)))) | ((with_reducible refine unhalt (x := "CompEnd") ?_); first | ((refine halt2 ?_)) | (clear mk5; walk1; all_goals (try (with_reducible refine addMark (x := "CompEnd") fun mk5 => ?_)))) | ((with_reducible refine unhalt (x := "eval DictComp") ?_); first | ((refine' DictComp_items (knd := PySem.strKind _ _) (knd2 := PySem.strKind _ _) (by k_asm) (by rfl) (by rfl) (by decide) (by rfl) (by decide) (by rfl) (by rfl) (by decide) ?_); (k_whole)) | (clear mk6; walk1; all_goals (try (with_reducible refine addMark (x := "eval DictComp") fun mk6 => ?_)))) | ((with_reducible refine unhalt (x := "CompSrc") ?_); first | ((refine halt2 ?_)) | (clear mk7; walk1; all_goals (try (with_reducible refine addMark (x := "CompSrc") fun mk7 => ?_)))) | ((with_reducible refine unhalt (x := "DSrc") ?_); first | ((refine halt2 ?_)) | (clear mk8; walk1; all_goals (try (with_reducible refine addMark (x := "DSrc") fun mk8 => ?_)))) | ((with_reducible refine unhalt (x := "eval ListComp") ?_); first | ((refine' LCg.ListComp_U (by k_asm) (by rfl) (by decide) (by rfl) (by decide) (by rfl) ?_); (k_whole)) | (clear mk9; walk1; all_goals (try (with_reducible refine addMark (x := "eval ListComp") fun mk9 => ?_)))) | ((with_reducible refine unhalt (x := "call ref") ?_); first | ((with_reducible show wpAny _ _ (call (Value.ref (handA _)) _) _ _ _); (refine' handcall_use (by k_asm) (by k_asm) (by k_asm) (by k_asm) (by assumption) (by assumption) (by ktr_room) (by ktr_units) ?_); (k_whole); (intro t9 h9 tk9 F9 N9); (refine halt2 ?_)) | (clear mk10; walk1; all_goals (try (with_reducible refine addMark (x := "call ref") fun mk10 => ?_)))) | ((with_reducible refine unhalt (x := "FnAt") ?_); first | ((exact FnAt.fr (by assumption) (by k_asm))) | (clear mk11; walk1; all_goals (try (with_reducible refine addMark (x := "FnAt") fun mk11 => ?_)))) | ((with_reducible refine unhalt (x := "callWith ref") ?_); first | ((with_reducible show wpAny _ _ (callWith _ (Value.ref (handA _)) _ _ _) _ _ _); (refine callWith_F (FnAt.fr (by assumption) (by k_asm)) ?_)) | (clear mk12; walk1; all_goals (try (with_reducible refine addMark (x := "callWith ref") fun mk12 => ?_)))) | (k_unfold; (try dsimp only)) | (k_end; kc_close) | walk1 | (dsimp only; walk1) | (leave1; (try dsimp only)) | fail "no step"))
    all_goals exact ⟨rfl, _, rfl⟩
  case fin =>
    intro Dd hh tk F5 N5 hD hD0 hLD hlt
    clear N1 F1
    obtain ⟨oD, heD, hoD⟩ := Heap.dictOf_iff.mp hD
    have N6 := newsC (show _ ∧ _ ∧ _ from ⟨heD, Nat.ne_of_gt hLD, hD0⟩) N5
    have hsys : (Dd == sysModules) = false := by
      refine beq_eq_false_iff_ne.mpr (Nat.ne_of_gt ?_)
      show @LT.lt Nat instLTNat 1 Dd
      omega
    clear N5
    replace hlt := allLt_of hlt
    simp only [AllLt, and_true] at hlt
    have hysz : ys.toArray.size ≤ sizeLine := by
      rw [List.size_toArray, hys.len_eq, PySem.sizeLine_eq]
      simp only [dueS, List.length_append, List.length_map, List.length_reverse, List.length_cons, List.length_nil]
      omega
    ((try clear mk0); have mk0 : Mark "execs cons"   := ⟨trivial⟩; (try clear mk1); have mk1 : Mark "call builtin:dict.items"   := ⟨trivial⟩; (try clear mk2); have mk2 : Mark "getMethod ref"   := ⟨trivial⟩; (try clear mk3); have mk3 : Mark "call builtin:dict.get"   := ⟨trivial⟩; (try clear mk4); have mk4 : Mark "compareOp NotEq ref ref"   := ⟨trivial⟩; (try clear mk5); have mk5 : Mark "CompEnd"   := ⟨trivial⟩; (try clear mk6); have mk6 : Mark "eval DictComp"   := ⟨trivial⟩; (try clear mk7); have mk7 : Mark "CompSrc"   := ⟨trivial⟩; (try clear mk8); have mk8 : Mark "DSrc"   := ⟨trivial⟩; (try clear mk9); have mk9 : Mark "eval ListComp"   := ⟨trivial⟩; (try clear mk10); have mk10 : Mark "call ref"   := ⟨trivial⟩; (try clear mk11); have mk11 : Mark "FnAt"   := ⟨trivial⟩; (try clear mk12); have mk12 : Mark "callWith ref"   := ⟨trivial⟩; repeat' (first | ((with_reducible refine unhalt (x := "execs cons") ?_); first | ((with_reducible show wpAny _ _ (execs (Stmt.Assign [Expr.Name (Str.ofString "rows") _] _ _ :: _) _) _ _ _); (refine halt2 ?_)) | (clear mk0; walk1; all_goals (try (with_reducible refine addMark (x := "execs cons") fun mk0 => ?_)))) | ((with_reducible refine unhalt (x := "call builtin:dict.items") ?_); first | ((refine' items_call (knd := PySem.strKind _ _) ((Heap.DictAt.dictOf (tt_at (by assumption))).at fun o e => Fr.keep (by k_asm) _ _ e) (by rfl) (by k_asm) (by k_asm) ?_); (k_whole); (intro V9 h9 iv9 F9 N9)) | (clear mk1; walk1; all_goals (try (with_reducible refine addMark (x := "call builtin:dict.items") fun mk1 => ?_)))) | ((with_reducible refine unhalt (x := "getMethod ref") ?_); first | ((with_reducible show wpAny _ _ (getMethod (Value.ref 71) _ _) _ _ _); (refine items_method (knd := PySem.strKind _ _) ((Heap.DictAt.dictOf (tt_at (by assumption))).at fun o e => Fr.keep (by k_asm) _ _ e) ?_)) | (clear mk2; walk1; all_goals (try (with_reducible refine addMark (x := "getMethod ref") fun mk2 => ?_)))) | ((with_reducible refine unhalt (x := "call builtin:dict.get") ?_); first | ((refine' kdg_get1 (knd := PySem.strKind _ _) (by k_asm) (by k_mem) (by assumption) (by assumption) (by exact strKind_is _ _ _ _) (some _) (by exact NumAt.b (by assumption)) ?_); (k_whole); (dsimp only [Option.getD])) | (clear mk3; walk1; all_goals (try (with_reducible refine addMark (x := "call builtin:dict.get") fun mk3 => ?_)))) | ((with_reducible refine unhalt (x := "compareOp NotEq ref ref") ?_); first | ((refine' ne_nums (by exact News.isList (by k_asm) (by k_mem)) (by exact News.isList (by k_asm) (by k_mem)) (by assumption) (by assumption) (by ktr_units) ?_); (k_whole)) | (clear mk4; walk1; all_goals (try (with_reducible refine addMark (x := "compareOp NotEq ref ref") fun mk4 => ?_)))) | ((with_reducible refine unhalt (x := "CompEnd") ?_); first | ((refine halt2 ?_)) | (clear mk5; walk1; all_goals (try (with_reducible refine addMark (x := "CompEnd") fun mk5 => ?_)))) | ((with_reducible refine unhalt (x := "eval DictComp") ?_); first | ((refine' DictComp_items (knd := PySem.strKind _ _) (knd2 := PySem.strKind _ _) (by k_asm) (by rfl) (by rfl) (by decide) (by rfl) (by decide) (by rfl) (by rfl) (by decide) ?_); (k_whole)) | (clear mk6; walk1; all_goals (try (with_reducible refine addMark (x := "eval DictComp") fun mk6 => ?_)))) | ((with_reducible refine unhalt (x := "CompSrc") ?_); first | ((refine halt2 ?_)) | (clear mk7; walk1; all_goals (try (with_reducible refine addMark (x := "CompSrc") fun mk7 => ?_)))) | ((with_reducible refine unhalt (x := "DSrc") ?_); first | ((refine halt2 ?_)) | (clear mk8; walk1; all_goals (try (with_reducible refine addMark (x := "DSrc") fun mk8 => ?_)))) | ((with_reducible refine unhalt (x := "eval ListComp") ?_); first | ((refine' LCg.ListComp_U (by k_asm) (by rfl) (by decide) (by rfl) (by decide) (by rfl) ?_); (k_whole)) | (clear mk9; walk1; all_goals (try (with_reducible refine addMark (x := "eval ListComp") fun mk9 => ?_)))) | ((with_reducible refine unhalt (x := "call ref") ?_); first | ((with_reducible show wpAny _ _ (call (Value.ref (handA _)) _) _ _ _); (refine' handcall_use (by k_asm) (by k_asm) (by k_asm) (by k_asm) (by assumption) (by assumption) (by ktr_room) (by ktr_units) ?_); (k_whole); (intro t9 h9 tk9 F9 N9); (refine halt2 ?_)) | (clear mk10; walk1; all_goals (try (with_reducible refine addMark (x := "call ref") fun mk10 => ?_)))) | ((with_reducible refine unhalt (x := "FnAt") ?_); first | ((exact FnAt.fr (by assumption) (by k_asm))) | (clear mk11; walk1; all_goals (try (with_reducible refine addMark (x := "FnAt") fun mk11 => ?_)))) | ((with_reducible refine unhalt (x := "callWith ref") ?_); first | ((with_reducible show wpAny _ _ (callWith _ (Value.ref (handA _)) _ _ _) _ _ _); (refine callWith_F (FnAt.fr (by assumption) (by k_asm)) ?_)) | (clear mk12; walk1; all_goals (try (with_reducible refine addMark (x := "callWith ref") fun mk12 => ?_)))) | (k_unfold; (try dsimp only)) | (k_end; kc_close) | walk1 | (dsimp only; walk1) | (leave1; (try dsimp only)) | fail "no step"))
    unfold Halt2
    rename Fr _ _ _ _ => F7
    rename News _ _ _ _ => N7
    have hms : (numsL pl).length = 2 * pl.length := by simp [numsL]; omega
    have hdl : (dueS k pl).length = 2 * pl.length + 5 := by simp [dueS]; omega
    have hy2 := strs_take (2 * pl.length) hys
    have hyl : (ys.take (2 * pl.length)).length = 2 * pl.length := by rw [hy2.len_eq, List.length_take, hdl]; omega
    refine LCg.CompSrc.ledger rfl F7 N7 (.head _) (by rw [List.size_toArray, hyl, PySem.sizeLine_eq]; omega) ?_
    intro g'
    refine rest_same (fun i zs => IntsAre zs ((numsL pl).take i)) .nil ?turn1 ?fin1
    case turn1 =>
      intro i zs v I oI C oC D' m₂ h tk E' hi hj hP hC hx F8 N8 off ne
      obtain ⟨x, t, rfl, hxx⟩ := strs_at hy2 (show (ys.take (2 * pl.length))[i]? = some v by simpa using hP)
      obtain ⟨n, t', hn⟩ := num_at (P := w.params) hk hpl hxx
      clear F7 N7 hP hxx
      have off0 := off
      simp only [LCg.Off3, and_true] at off
      ((try clear mk0); have mk0 : Mark "execs cons"   := ⟨trivial⟩; (try clear mk1); have mk1 : Mark "call builtin:dict.items"   := ⟨trivial⟩; (try clear mk2); have mk2 : Mark "getMethod ref"   := ⟨trivial⟩; (try clear mk3); have mk3 : Mark "call builtin:dict.get"   := ⟨trivial⟩; (try clear mk4); have mk4 : Mark "compareOp NotEq ref ref"   := ⟨trivial⟩; (try clear mk5); have mk5 : Mark "CompEnd"   := ⟨trivial⟩; (try clear mk6); have mk6 : Mark "eval DictComp"   := ⟨trivial⟩; (try clear mk7); have mk7 : Mark "CompSrc"   := ⟨trivial⟩; (try clear mk8); have mk8 : Mark "DSrc"   := ⟨trivial⟩; (try clear mk9); have mk9 : Mark "eval ListComp"   := ⟨trivial⟩; (try clear mk10); have mk10 : Mark "call ref"   := ⟨trivial⟩; (try clear mk11); have mk11 : Mark "FnAt"   := ⟨trivial⟩; (try clear mk12); have mk12 : Mark "callWith ref"   := ⟨trivial⟩; repeat' (first | ((with_reducible refine unhalt (x := "execs cons") ?_); first | ((with_reducible show wpAny _ _ (execs (Stmt.Assign [Expr.Name (Str.ofString "rows") _] _ _ :: _) _) _ _ _); (refine halt2 ?_)) | (clear mk0; walk1; all_goals (try (with_reducible refine addMark (x := "execs cons") fun mk0 => ?_)))) | ((with_reducible refine unhalt (x := "call builtin:dict.items") ?_); first | ((refine' items_call (knd := PySem.strKind _ _) ((Heap.DictAt.dictOf (tt_at (by assumption))).at fun o e => Fr.keep (by k_asm) _ _ e) (by rfl) (by k_asm) (by k_asm) ?_); (k_whole); (intro V9 h9 iv9 F9 N9)) | (clear mk1; walk1; all_goals (try (with_reducible refine addMark (x := "call builtin:dict.items") fun mk1 => ?_)))) | ((with_reducible refine unhalt (x := "getMethod ref") ?_); first | ((with_reducible show wpAny _ _ (getMethod (Value.ref 71) _ _) _ _ _); (refine items_method (knd := PySem.strKind _ _) ((Heap.DictAt.dictOf (tt_at (by assumption))).at fun o e => Fr.keep (by k_asm) _ _ e) ?_)) | (clear mk2; walk1; all_goals (try (with_reducible refine addMark (x := "getMethod ref") fun mk2 => ?_)))) | ((with_reducible refine unhalt (x := "call builtin:dict.get") ?_); first | ((refine' kdg_get1 (knd := PySem.strKind _ _) (by k_asm) (by k_mem) (by assumption) (by assumption) (by exact strKind_is _ _ _ _) (some _) (by exact NumAt.b (by assumption)) ?_); (k_whole); (dsimp only [Option.getD])) | (clear mk3; walk1; all_goals (try (with_reducible refine addMark (x := "call builtin:dict.get") fun mk3 => ?_)))) | ((with_reducible refine unhalt (x := "compareOp NotEq ref ref") ?_); first | ((refine' ne_nums (by exact News.isList (by k_asm) (by k_mem)) (by exact News.isList (by k_asm) (by k_mem)) (by assumption) (by assumption) (by ktr_units) ?_); (k_whole)) | (clear mk4; walk1; all_goals (try (with_reducible refine addMark (x := "compareOp NotEq ref ref") fun mk4 => ?_)))) | ((with_reducible refine unhalt (x := "CompEnd") ?_); first | ((refine halt2 ?_)) | (clear mk5; walk1; all_goals (try (with_reducible refine addMark (x := "CompEnd") fun mk5 => ?_)))) | ((with_reducible refine unhalt (x := "eval DictComp") ?_); first | ((refine' DictComp_items (knd := PySem.strKind _ _) (knd2 := PySem.strKind _ _) (by k_asm) (by rfl) (by rfl) (by decide) (by rfl) (by decide) (by rfl) (by rfl) (by decide) ?_); (k_whole)) | (clear mk6; walk1; all_goals (try (with_reducible refine addMark (x := "eval DictComp") fun mk6 => ?_)))) | ((with_reducible refine unhalt (x := "CompSrc") ?_); first | ((refine halt2 ?_)) | (clear mk7; walk1; all_goals (try (with_reducible refine addMark (x := "CompSrc") fun mk7 => ?_)))) | ((with_reducible refine unhalt (x := "DSrc") ?_); first | ((refine halt2 ?_)) | (clear mk8; walk1; all_goals (try (with_reducible refine addMark (x := "DSrc") fun mk8 => ?_)))) | ((with_reducible refine unhalt (x := "eval ListComp") ?_); first | ((refine' LCg.ListComp_U (by k_asm) (by rfl) (by decide) (by rfl) (by decide) (by rfl) ?_); (k_whole)) | (clear mk9; walk1; all_goals (try (with_reducible refine addMark (x := "eval ListComp") fun mk9 => ?_)))) | ((with_reducible refine unhalt (x := "call ref") ?_); first | ((with_reducible show wpAny _ _ (call (Value.ref (handA _)) _) _ _ _); (refine' handcall_use (by k_asm) (by k_asm) (by k_asm) (by k_asm) (by assumption) (by assumption) (by ktr_room) (by ktr_units) ?_); (k_whole); (intro t9 h9 tk9 F9 N9); (refine halt2 ?_)) | (clear mk10; walk1; all_goals (try (with_reducible refine addMark (x := "call ref") fun mk10 => ?_)))) | ((with_reducible refine unhalt (x := "FnAt") ?_); first | ((exact FnAt.fr (by assumption) (by k_asm))) | (clear mk11; walk1; all_goals (try (with_reducible refine addMark (x := "FnAt") fun mk11 => ?_)))) | ((with_reducible refine unhalt (x := "callWith ref") ?_); first | ((with_reducible show wpAny _ _ (callWith _ (Value.ref (handA _)) _ _ _) _ _ _); (refine callWith_F (FnAt.fr (by assumption) (by k_asm)) ?_)) | (clear mk12; walk1; all_goals (try (with_reducible refine addMark (x := "callWith ref") fun mk12 => ?_)))) | (k_unfold; (try dsimp only)) | (k_end; kc_close) | walk1 | (dsimp only; walk1) | (leave1; (try dsimp only)) | fail "no step"))
      unfold Halt2
      refine LCg.CompEnd.intro (by assumption) (by assumption) _ (fun _ h => h) off0 (.inr ⟨_, .head _, rfl, _, rfl⟩) ⟨rfl, ints_next hj hn.a⟩
    case fin1 =>
      intro zs hz
      rw [show (ys.take (2 * pl.length)).toArray.size = 2 * pl.length by rw [List.size_toArray, hyl], List.take_of_length_le (Nat.le_of_eq hms)] at hz
      clear F7 N7
      intro Dn h tk F8 N8 off8
      have hq4 : @Ne Nat (L + 1 + 1 + 1 + 1) Dn := off1_mem off8 (L + 1 + 1 + 1 + 1, o4) (by k_mem)
      have hq5 : @Ne Nat (L + 1 + 1 + 1 + 1 + 1) Dn := off1_mem off8 (L + 1 + 1 + 1 + 1 + 1, o5) (by k_mem)
      simp only [LCg.Off1, and_true] at off8
      ((try clear mk0); have mk0 : Mark "execs cons"   := ⟨trivial⟩; (try clear mk1); have mk1 : Mark "call builtin:dict.items"   := ⟨trivial⟩; (try clear mk2); have mk2 : Mark "getMethod ref"   := ⟨trivial⟩; (try clear mk3); have mk3 : Mark "call builtin:dict.get"   := ⟨trivial⟩; (try clear mk4); have mk4 : Mark "compareOp NotEq ref ref"   := ⟨trivial⟩; (try clear mk5); have mk5 : Mark "CompEnd"   := ⟨trivial⟩; (try clear mk6); have mk6 : Mark "eval DictComp"   := ⟨trivial⟩; (try clear mk7); have mk7 : Mark "CompSrc"   := ⟨trivial⟩; (try clear mk8); have mk8 : Mark "DSrc"   := ⟨trivial⟩; (try clear mk9); have mk9 : Mark "eval ListComp"   := ⟨trivial⟩; (try clear mk10); have mk10 : Mark "call ref"   := ⟨trivial⟩; (try clear mk11); have mk11 : Mark "FnAt"   := ⟨trivial⟩; (try clear mk12); have mk12 : Mark "callWith ref"   := ⟨trivial⟩; repeat' (first | ((with_reducible refine unhalt (x := "execs cons") ?_); first | ((with_reducible show wpAny _ _ (execs (Stmt.Assign [Expr.Name (Str.ofString "rows") _] _ _ :: _) _) _ _ _); (refine halt2 ?_)) | (clear mk0; walk1; all_goals (try (with_reducible refine addMark (x := "execs cons") fun mk0 => ?_)))) | ((with_reducible refine unhalt (x := "call builtin:dict.items") ?_); first | ((refine' items_call (knd := PySem.strKind _ _) ((Heap.DictAt.dictOf (tt_at (by assumption))).at fun o e => Fr.keep (by k_asm) _ _ e) (by rfl) (by k_asm) (by k_asm) ?_); (k_whole); (intro V9 h9 iv9 F9 N9)) | (clear mk1; walk1; all_goals (try (with_reducible refine addMark (x := "call builtin:dict.items") fun mk1 => ?_)))) | ((with_reducible refine unhalt (x := "getMethod ref") ?_); first | ((with_reducible show wpAny _ _ (getMethod (Value.ref 71) _ _) _ _ _); (refine items_method (knd := PySem.strKind _ _) ((Heap.DictAt.dictOf (tt_at (by assumption))).at fun o e => Fr.keep (by k_asm) _ _ e) ?_)) | (clear mk2; walk1; all_goals (try (with_reducible refine addMark (x := "getMethod ref") fun mk2 => ?_)))) | ((with_reducible refine unhalt (x := "call builtin:dict.get") ?_); first | ((refine' kdg_get1 (knd := PySem.strKind _ _) (by k_asm) (by k_mem) (by assumption) (by assumption) (by exact strKind_is _ _ _ _) (some _) (by exact NumAt.b (by assumption)) ?_); (k_whole); (dsimp only [Option.getD])) | (clear mk3; walk1; all_goals (try (with_reducible refine addMark (x := "call builtin:dict.get") fun mk3 => ?_)))) | ((with_reducible refine unhalt (x := "compareOp NotEq ref ref") ?_); first | ((refine' ne_nums (by exact News.isList (by k_asm) (by k_mem)) (by exact News.isList (by k_asm) (by k_mem)) (by assumption) (by assumption) (by ktr_units) ?_); (k_whole)) | (clear mk4; walk1; all_goals (try (with_reducible refine addMark (x := "compareOp NotEq ref ref") fun mk4 => ?_)))) | ((with_reducible refine unhalt (x := "CompEnd") ?_); first | ((refine halt2 ?_)) | (clear mk5; walk1; all_goals (try (with_reducible refine addMark (x := "CompEnd") fun mk5 => ?_)))) | ((with_reducible refine unhalt (x := "eval DictComp") ?_); first | ((refine' DictComp_items (knd := PySem.strKind _ _) (knd2 := PySem.strKind _ _) (by k_asm) (by rfl) (by rfl) (by decide) (by rfl) (by decide) (by rfl) (by rfl) (by decide) ?_); (k_whole)) | (clear mk6; walk1; all_goals (try (with_reducible refine addMark (x := "eval DictComp") fun mk6 => ?_)))) | ((with_reducible refine unhalt (x := "CompSrc") ?_); first | ((refine halt2 ?_)) | (clear mk7; walk1; all_goals (try (with_reducible refine addMark (x := "CompSrc") fun mk7 => ?_)))) | ((with_reducible refine unhalt (x := "DSrc") ?_); first | ((refine halt2 ?_)) | (clear mk8; walk1; all_goals (try (with_reducible refine addMark (x := "DSrc") fun mk8 => ?_)))) | ((with_reducible refine unhalt (x := "eval ListComp") ?_); first | ((refine' LCg.ListComp_U (by k_asm) (by rfl) (by decide) (by rfl) (by decide) (by rfl) ?_); (k_whole)) | (clear mk9; walk1; all_goals (try (with_reducible refine addMark (x := "eval ListComp") fun mk9 => ?_)))) | ((with_reducible refine unhalt (x := "call ref") ?_); first | ((with_reducible show wpAny _ _ (call (Value.ref (handA _)) _) _ _ _); (refine' handcall_use (by k_asm) (by k_asm) (by k_asm) (by k_asm) (by assumption) (by assumption) (by ktr_room) (by ktr_units) ?_); (k_whole); (intro t9 h9 tk9 F9 N9); (refine halt2 ?_)) | (clear mk10; walk1; all_goals (try (with_reducible refine addMark (x := "call ref") fun mk10 => ?_)))) | ((with_reducible refine unhalt (x := "FnAt") ?_); first | ((exact FnAt.fr (by assumption) (by k_asm))) | (clear mk11; walk1; all_goals (try (with_reducible refine addMark (x := "FnAt") fun mk11 => ?_)))) | ((with_reducible refine unhalt (x := "callWith ref") ?_); first | ((with_reducible show wpAny _ _ (callWith _ (Value.ref (handA _)) _ _ _) _ _ _); (refine callWith_F (FnAt.fr (by assumption) (by k_asm)) ?_)) | (clear mk12; walk1; all_goals (try (with_reducible refine addMark (x := "callWith ref") fun mk12 => ?_)))) | (k_unfold; (try dsimp only)) | (k_end; kc_close) | walk1 | (dsimp only; walk1) | (leave1; (try dsimp only)) | fail "no step"))
      unfold Halt2
      rename Fr _ _ _ _ => F9
      rename News _ _ _ _ => N9
      have hvl2 : vp.toArray.size = pl.length := by rw [List.size_toArray, hvp.length]
      refine LCg.CompSrc.ledger rfl F9 N9 (show (pa, W.listOf vp.toArray e1) ∈ _ by k_mem) (by rw [hvl2, PySem.sizeLine_eq]; omega) ?_
      intro g'
      refine rest_same (fun i zs => IntsAre zs ((pl.map numA).take i)) .nil ?turn2 ?fin2
      case turn2 =>
        intro i zs v I oI C oC D' m₂ h tk E' hi hj hP hC hx F8 N8 off ne
        obtain ⟨n, t, rfl, hn0⟩ := ints_at hvp (show vp[i]? = some v by simpa using hP)
        have h3 := hpl n (List.mem_of_getElem? hn0)
        have hn : AtI pl i n := ⟨hn0⟩
        clear F9 N9 hP hn0 hvl2
        have off0 := off
        simp only [LCg.Off3, and_true] at off
        rcases h3 with rfl | rfl | rfl
        all_goals (
          ((try clear mk0); have mk0 : Mark "execs cons"   := ⟨trivial⟩; (try clear mk1); have mk1 : Mark "call builtin:dict.items"   := ⟨trivial⟩; (try clear mk2); have mk2 : Mark "getMethod ref"   := ⟨trivial⟩; (try clear mk3); have mk3 : Mark "call builtin:dict.get"   := ⟨trivial⟩; (try clear mk4); have mk4 : Mark "compareOp NotEq ref ref"   := ⟨trivial⟩; (try clear mk5); have mk5 : Mark "CompEnd"   := ⟨trivial⟩; (try clear mk6); have mk6 : Mark "eval DictComp"   := ⟨trivial⟩; (try clear mk7); have mk7 : Mark "CompSrc"   := ⟨trivial⟩; (try clear mk8); have mk8 : Mark "DSrc"   := ⟨trivial⟩; (try clear mk9); have mk9 : Mark "eval ListComp"   := ⟨trivial⟩; (try clear mk10); have mk10 : Mark "call ref"   := ⟨trivial⟩; (try clear mk11); have mk11 : Mark "FnAt"   := ⟨trivial⟩; (try clear mk12); have mk12 : Mark "callWith ref"   := ⟨trivial⟩; repeat' (first | ((with_reducible refine unhalt (x := "execs cons") ?_); first | ((with_reducible show wpAny _ _ (execs (Stmt.Assign [Expr.Name (Str.ofString "rows") _] _ _ :: _) _) _ _ _); (refine halt2 ?_)) | (clear mk0; walk1; all_goals (try (with_reducible refine addMark (x := "execs cons") fun mk0 => ?_)))) | ((with_reducible refine unhalt (x := "call builtin:dict.items") ?_); first | ((refine' items_call (knd := PySem.strKind _ _) ((Heap.DictAt.dictOf (tt_at (by assumption))).at fun o e => Fr.keep (by k_asm) _ _ e) (by rfl) (by k_asm) (by k_asm) ?_); (k_whole); (intro V9 h9 iv9 F9 N9)) | (clear mk1; walk1; all_goals (try (with_reducible refine addMark (x := "call builtin:dict.items") fun mk1 => ?_)))) | ((with_reducible refine unhalt (x := "getMethod ref") ?_); first | ((with_reducible show wpAny _ _ (getMethod (Value.ref 71) _ _) _ _ _); (refine items_method (knd := PySem.strKind _ _) ((Heap.DictAt.dictOf (tt_at (by assumption))).at fun o e => Fr.keep (by k_asm) _ _ e) ?_)) | (clear mk2; walk1; all_goals (try (with_reducible refine addMark (x := "getMethod ref") fun mk2 => ?_)))) | ((with_reducible refine unhalt (x := "call builtin:dict.get") ?_); first | ((refine' kdg_get1 (knd := PySem.strKind _ _) (by k_asm) (by k_mem) (by assumption) (by assumption) (by exact strKind_is _ _ _ _) (some _) (by exact NumAt.b (by assumption)) ?_); (k_whole); (dsimp only [Option.getD])) | (clear mk3; walk1; all_goals (try (with_reducible refine addMark (x := "call builtin:dict.get") fun mk3 => ?_)))) | ((with_reducible refine unhalt (x := "compareOp NotEq ref ref") ?_); first | ((refine' ne_nums (by exact News.isList (by k_asm) (by k_mem)) (by exact News.isList (by k_asm) (by k_mem)) (by assumption) (by assumption) (by ktr_units) ?_); (k_whole)) | (clear mk4; walk1; all_goals (try (with_reducible refine addMark (x := "compareOp NotEq ref ref") fun mk4 => ?_)))) | ((with_reducible refine unhalt (x := "CompEnd") ?_); first | ((refine halt2 ?_)) | (clear mk5; walk1; all_goals (try (with_reducible refine addMark (x := "CompEnd") fun mk5 => ?_)))) | ((with_reducible refine unhalt (x := "eval DictComp") ?_); first | ((refine' DictComp_items (knd := PySem.strKind _ _) (knd2 := PySem.strKind _ _) (by k_asm) (by rfl) (by rfl) (by decide) (by rfl) (by decide) (by rfl) (by rfl) (by decide) ?_); (k_whole)) | (clear mk6; walk1; all_goals (try (with_reducible refine addMark (x := "eval DictComp") fun mk6 => ?_)))) | ((with_reducible refine unhalt (x := "CompSrc") ?_); first | ((refine halt2 ?_)) | (clear mk7; walk1; all_goals (try (with_reducible refine addMark (x := "CompSrc") fun mk7 => ?_)))) | ((with_reducible refine unhalt (x := "DSrc") ?_); first | ((refine halt2 ?_)) | (clear mk8; walk1; all_goals (try (with_reducible refine addMark (x := "DSrc") fun mk8 => ?_)))) | ((with_reducible refine unhalt (x := "eval ListComp") ?_); first | ((refine' LCg.ListComp_U (by k_asm) (by rfl) (by decide) (by rfl) (by decide) (by rfl) ?_); (k_whole)) | (clear mk9; walk1; all_goals (try (with_reducible refine addMark (x := "eval ListComp") fun mk9 => ?_)))) | ((with_reducible refine unhalt (x := "call ref") ?_); first | ((with_reducible show wpAny _ _ (call (Value.ref (handA _)) _) _ _ _); (refine' handcall_use (by k_asm) (by k_asm) (by k_asm) (by k_asm) (by assumption) (by assumption) (by ktr_room) (by ktr_units) ?_); (k_whole); (intro t9 h9 tk9 F9 N9); (refine halt2 ?_)) | (clear mk10; walk1; all_goals (try (with_reducible refine addMark (x := "call ref") fun mk10 => ?_)))) | ((with_reducible refine unhalt (x := "FnAt") ?_); first | ((exact FnAt.fr (by assumption) (by k_asm))) | (clear mk11; walk1; all_goals (try (with_reducible refine addMark (x := "FnAt") fun mk11 => ?_)))) | ((with_reducible refine unhalt (x := "callWith ref") ?_); first | ((with_reducible show wpAny _ _ (callWith _ (Value.ref (handA _)) _ _ _) _ _ _); (refine callWith_F (FnAt.fr (by assumption) (by k_asm)) ?_)) | (clear mk12; walk1; all_goals (try (with_reducible refine addMark (x := "callWith ref") fun mk12 => ?_)))) | (k_unfold; (try dsimp only)) | (k_end; kc_close) | walk1 | (dsimp only; walk1) | (leave1; (try dsimp only)) | fail "no step"))
          unfold Halt2
          refine LCg.CompEnd.intro (by assumption) (by assumption) _ (by first | exact fun _ h => h | exact fun _ h => .tail _ h) off0 (.inr ⟨_, (show (pa, W.listOf vp.toArray e1) ∈ _ by k_mem), rfl, _, rfl⟩) ⟨rfl, ints_next hj (map_at hn.h)⟩)
      case fin2 =>
        intro zs2 hz2
        rw [hvl2, List.take_of_length_le (by rw [List.length_map]; exact Nat.le_refl _)] at hz2
        clear F9 N9 hvl2
        intro Dn2 h tk F8 N8 off2
        simp only [LCg.Off1, and_true] at off2
        ((try clear mk0); have mk0 : Mark "execs cons"   := ⟨trivial⟩; (try clear mk1); have mk1 : Mark "call builtin:dict.items"   := ⟨trivial⟩; (try clear mk2); have mk2 : Mark "getMethod ref"   := ⟨trivial⟩; (try clear mk3); have mk3 : Mark "call builtin:dict.get"   := ⟨trivial⟩; (try clear mk4); have mk4 : Mark "compareOp NotEq ref ref"   := ⟨trivial⟩; (try clear mk5); have mk5 : Mark "CompEnd"   := ⟨trivial⟩; (try clear mk6); have mk6 : Mark "eval DictComp"   := ⟨trivial⟩; (try clear mk7); have mk7 : Mark "CompSrc"   := ⟨trivial⟩; (try clear mk8); have mk8 : Mark "DSrc"   := ⟨trivial⟩; (try clear mk9); have mk9 : Mark "eval ListComp"   := ⟨trivial⟩; (try clear mk10); have mk10 : Mark "call ref"   := ⟨trivial⟩; (try clear mk11); have mk11 : Mark "FnAt"   := ⟨trivial⟩; (try clear mk12); have mk12 : Mark "callWith ref"   := ⟨trivial⟩; repeat' (first | ((with_reducible refine unhalt (x := "execs cons") ?_); first | ((with_reducible show wpAny _ _ (execs (Stmt.Assign [Expr.Name (Str.ofString "rows") _] _ _ :: _) _) _ _ _); (refine halt2 ?_)) | (clear mk0; walk1; all_goals (try (with_reducible refine addMark (x := "execs cons") fun mk0 => ?_)))) | ((with_reducible refine unhalt (x := "call builtin:dict.items") ?_); first | ((refine' items_call (knd := PySem.strKind _ _) ((Heap.DictAt.dictOf (tt_at (by assumption))).at fun o e => Fr.keep (by k_asm) _ _ e) (by rfl) (by k_asm) (by k_asm) ?_); (k_whole); (intro V9 h9 iv9 F9 N9)) | (clear mk1; walk1; all_goals (try (with_reducible refine addMark (x := "call builtin:dict.items") fun mk1 => ?_)))) | ((with_reducible refine unhalt (x := "getMethod ref") ?_); first | ((with_reducible show wpAny _ _ (getMethod (Value.ref 71) _ _) _ _ _); (refine items_method (knd := PySem.strKind _ _) ((Heap.DictAt.dictOf (tt_at (by assumption))).at fun o e => Fr.keep (by k_asm) _ _ e) ?_)) | (clear mk2; walk1; all_goals (try (with_reducible refine addMark (x := "getMethod ref") fun mk2 => ?_)))) | ((with_reducible refine unhalt (x := "call builtin:dict.get") ?_); first | ((refine' kdg_get1 (knd := PySem.strKind _ _) (by k_asm) (by k_mem) (by assumption) (by assumption) (by exact strKind_is _ _ _ _) (some _) (by exact NumAt.b (by assumption)) ?_); (k_whole); (dsimp only [Option.getD])) | (clear mk3; walk1; all_goals (try (with_reducible refine addMark (x := "call builtin:dict.get") fun mk3 => ?_)))) | ((with_reducible refine unhalt (x := "compareOp NotEq ref ref") ?_); first | ((refine' ne_nums (by exact News.isList (by k_asm) (by k_mem)) (by exact News.isList (by k_asm) (by k_mem)) (by assumption) (by assumption) (by ktr_units) ?_); (k_whole)) | (clear mk4; walk1; all_goals (try (with_reducible refine addMark (x := "compareOp NotEq ref ref") fun mk4 => ?_)))) | ((with_reducible refine unhalt (x := "CompEnd") ?_); first | ((refine halt2 ?_)) | (clear mk5; walk1; all_goals (try (with_reducible refine addMark (x := "CompEnd") fun mk5 => ?_)))) | ((with_reducible refine unhalt (x := "eval DictComp") ?_); first | ((refine' DictComp_items (knd := PySem.strKind _ _) (knd2 := PySem.strKind _ _) (by k_asm) (by rfl) (by rfl) (by decide) (by rfl) (by decide) (by rfl) (by rfl) (by decide) ?_); (k_whole)) | (clear mk6; walk1; all_goals (try (with_reducible refine addMark (x := "eval DictComp") fun mk6 => ?_)))) | ((with_reducible refine unhalt (x := "CompSrc") ?_); first | ((refine halt2 ?_)) | (clear mk7; walk1; all_goals (try (with_reducible refine addMark (x := "CompSrc") fun mk7 => ?_)))) | ((with_reducible refine unhalt (x := "DSrc") ?_); first | ((refine halt2 ?_)) | (clear mk8; walk1; all_goals (try (with_reducible refine addMark (x := "DSrc") fun mk8 => ?_)))) | ((with_reducible refine unhalt (x := "eval ListComp") ?_); first | ((refine' LCg.ListComp_U (by k_asm) (by rfl) (by decide) (by rfl) (by decide) (by rfl) ?_); (k_whole)) | (clear mk9; walk1; all_goals (try (with_reducible refine addMark (x := "eval ListComp") fun mk9 => ?_)))) | ((with_reducible refine unhalt (x := "call ref") ?_); first | ((with_reducible show wpAny _ _ (call (Value.ref (handA _)) _) _ _ _); (refine' handcall_use (by k_asm) (by k_asm) (by k_asm) (by k_asm) (by assumption) (by assumption) (by ktr_room) (by ktr_units) ?_); (k_whole); (intro t9 h9 tk9 F9 N9); (refine halt2 ?_)) | (clear mk10; walk1; all_goals (try (with_reducible refine addMark (x := "call ref") fun mk10 => ?_)))) | ((with_reducible refine unhalt (x := "FnAt") ?_); first | ((exact FnAt.fr (by assumption) (by k_asm))) | (clear mk11; walk1; all_goals (try (with_reducible refine addMark (x := "FnAt") fun mk11 => ?_)))) | ((with_reducible refine unhalt (x := "callWith ref") ?_); first | ((with_reducible show wpAny _ _ (callWith _ (Value.ref (handA _)) _ _ _) _ _ _); (refine callWith_F (FnAt.fr (by assumption) (by k_asm)) ?_)) | (clear mk12; walk1; all_goals (try (with_reducible refine addMark (x := "callWith ref") fun mk12 => ?_)))) | (k_unfold; (try dsimp only)) | (k_end; kc_close) | walk1 | (dsimp only; walk1) | (leave1; (try dsimp only)) | fail "no step"))
        unfold Halt2
        rename Fr _ _ _ _ => F9
        rename News _ _ _ _ => N9
        have hvl3 : vb.toArray.size = pl.reverse.length := by rw [List.size_toArray, hvb.length]
        refine LCg.CompSrc.ledger rfl F9 N9 (show (ba, W.listOf vb.toArray e2) ∈ _ by k_mem) (by rw [hvl3, PySem.sizeLine_eq]; omega) ?_
        intro g'
        refine rest_same (fun i zs => IntsAre zs ((pl.reverse.map numB).take i)) .nil ?turn3 ?fin3
        case turn3 =>
          intro i zs v I oI C oC D' m₂ h tk E' hi hj hP hC hx F8 N8 off ne
          obtain ⟨n, t, rfl, hn0⟩ := ints_at hvb (show vb[i]? = some v by simpa using hP)
          have h3 := hplr n (List.mem_of_getElem? hn0)
          have hn : AtI pl.reverse i n := ⟨hn0⟩
          clear F9 N9 hP hn0 hvl3
          have off0 := off
          simp only [LCg.Off3, and_true] at off
          rcases h3 with rfl | rfl | rfl
          all_goals (
            ((try clear mk0); have mk0 : Mark "execs cons"   := ⟨trivial⟩; (try clear mk1); have mk1 : Mark "call builtin:dict.items"   := ⟨trivial⟩; (try clear mk2); have mk2 : Mark "getMethod ref"   := ⟨trivial⟩; (try clear mk3); have mk3 : Mark "call builtin:dict.get"   := ⟨trivial⟩; (try clear mk4); have mk4 : Mark "compareOp NotEq ref ref"   := ⟨trivial⟩; (try clear mk5); have mk5 : Mark "CompEnd"   := ⟨trivial⟩; (try clear mk6); have mk6 : Mark "eval DictComp"   := ⟨trivial⟩; (try clear mk7); have mk7 : Mark "CompSrc"   := ⟨trivial⟩; (try clear mk8); have mk8 : Mark "DSrc"   := ⟨trivial⟩; (try clear mk9); have mk9 : Mark "eval ListComp"   := ⟨trivial⟩; (try clear mk10); have mk10 : Mark "call ref"   := ⟨trivial⟩; (try clear mk11); have mk11 : Mark "FnAt"   := ⟨trivial⟩; (try clear mk12); have mk12 : Mark "callWith ref"   := ⟨trivial⟩; repeat' (first | ((with_reducible refine unhalt (x := "execs cons") ?_); first | ((with_reducible show wpAny _ _ (execs (Stmt.Assign [Expr.Name (Str.ofString "rows") _] _ _ :: _) _) _ _ _); (refine halt2 ?_)) | (clear mk0; walk1; all_goals (try (with_reducible refine addMark (x := "execs cons") fun mk0 => ?_)))) | ((with_reducible refine unhalt (x := "call builtin:dict.items") ?_); first | ((refine' items_call (knd := PySem.strKind _ _) ((Heap.DictAt.dictOf (tt_at (by assumption))).at fun o e => Fr.keep (by k_asm) _ _ e) (by rfl) (by k_asm) (by k_asm) ?_); (k_whole); (intro V9 h9 iv9 F9 N9)) | (clear mk1; walk1; all_goals (try (with_reducible refine addMark (x := "call builtin:dict.items") fun mk1 => ?_)))) | ((with_reducible refine unhalt (x := "getMethod ref") ?_); first | ((with_reducible show wpAny _ _ (getMethod (Value.ref 71) _ _) _ _ _); (refine items_method (knd := PySem.strKind _ _) ((Heap.DictAt.dictOf (tt_at (by assumption))).at fun o e => Fr.keep (by k_asm) _ _ e) ?_)) | (clear mk2; walk1; all_goals (try (with_reducible refine addMark (x := "getMethod ref") fun mk2 => ?_)))) | ((with_reducible refine unhalt (x := "call builtin:dict.get") ?_); first | ((refine' kdg_get1 (knd := PySem.strKind _ _) (by k_asm) (by k_mem) (by assumption) (by assumption) (by exact strKind_is _ _ _ _) (some _) (by exact NumAt.b (by assumption)) ?_); (k_whole); (dsimp only [Option.getD])) | (clear mk3; walk1; all_goals (try (with_reducible refine addMark (x := "call builtin:dict.get") fun mk3 => ?_)))) | ((with_reducible refine unhalt (x := "compareOp NotEq ref ref") ?_); first | ((refine' ne_nums (by exact News.isList (by k_asm) (by k_mem)) (by exact News.isList (by k_asm) (by k_mem)) (by assumption) (by assumption) (by ktr_units) ?_); (k_whole)) | (clear mk4; walk1; all_goals (try (with_reducible refine addMark (x := "compareOp NotEq ref ref") fun mk4 => ?_)))) | ((with_reducible refine unhalt (x := "CompEnd") ?_); first | ((refine halt2 ?_)) | (clear mk5; walk1; all_goals (try (with_reducible refine addMark (x := "CompEnd") fun mk5 => ?_)))) | ((with_reducible refine unhalt (x := "eval DictComp") ?_); first | ((refine' DictComp_items (knd := PySem.strKind _ _) (knd2 := PySem.strKind _ _) (by k_asm) (by rfl) (by rfl) (by decide) (by rfl) (by decide) (by rfl) (by rfl) (by decide) ?_); (k_whole)) | (clear mk6; walk1; all_goals (try (with_reducible refine addMark (x := "eval DictComp") fun mk6 => ?_)))) | ((with_reducible refine unhalt (x := "CompSrc") ?_); first | ((refine halt2 ?_)) | (clear mk7; walk1; all_goals (try (with_reducible refine addMark (x := "CompSrc") fun mk7 => ?_)))) | ((with_reducible refine unhalt (x := "DSrc") ?_); first | ((refine halt2 ?_)) | (clear mk8; walk1; all_goals (try (with_reducible refine addMark (x := "DSrc") fun mk8 => ?_)))) | ((with_reducible refine unhalt (x := "eval ListComp") ?_); first | ((refine' LCg.ListComp_U (by k_asm) (by rfl) (by decide) (by rfl) (by decide) (by rfl) ?_); (k_whole)) | (clear mk9; walk1; all_goals (try (with_reducible refine addMark (x := "eval ListComp") fun mk9 => ?_)))) | ((with_reducible refine unhalt (x := "call ref") ?_); first | ((with_reducible show wpAny _ _ (call (Value.ref (handA _)) _) _ _ _); (refine' handcall_use (by k_asm) (by k_asm) (by k_asm) (by k_asm) (by assumption) (by assumption) (by ktr_room) (by ktr_units) ?_); (k_whole); (intro t9 h9 tk9 F9 N9); (refine halt2 ?_)) | (clear mk10; walk1; all_goals (try (with_reducible refine addMark (x := "call ref") fun mk10 => ?_)))) | ((with_reducible refine unhalt (x := "FnAt") ?_); first | ((exact FnAt.fr (by assumption) (by k_asm))) | (clear mk11; walk1; all_goals (try (with_reducible refine addMark (x := "FnAt") fun mk11 => ?_)))) | ((with_reducible refine unhalt (x := "callWith ref") ?_); first | ((with_reducible show wpAny _ _ (callWith _ (Value.ref (handA _)) _ _ _) _ _ _); (refine callWith_F (FnAt.fr (by assumption) (by k_asm)) ?_)) | (clear mk12; walk1; all_goals (try (with_reducible refine addMark (x := "callWith ref") fun mk12 => ?_)))) | (k_unfold; (try dsimp only)) | (k_end; kc_close) | walk1 | (dsimp only; walk1) | (leave1; (try dsimp only)) | fail "no step"))
            unfold Halt2
            refine LCg.CompEnd.intro (by assumption) (by assumption) _ (by first | exact fun _ h => h | exact fun _ h => .tail _ h) off0 (.inr ⟨_, (show (ba, W.listOf vb.toArray e2) ∈ _ by k_mem), rfl, _, rfl⟩) ⟨rfl, ints_next hj (map_at hn.h)⟩)
        case fin3 =>
          intro zs3 hz3
          rw [hvl3, List.take_of_length_le (by rw [List.length_map]; exact Nat.le_refl _)] at hz3
          clear F9 N9 hvl3
          intro Dn3 h tk F8 N8 off3
          simp only [LCg.Off1, and_true] at off3
          ((try clear mk0); have mk0 : Mark "execs cons"   := ⟨trivial⟩; (try clear mk1); have mk1 : Mark "call builtin:dict.items"   := ⟨trivial⟩; (try clear mk2); have mk2 : Mark "getMethod ref"   := ⟨trivial⟩; (try clear mk3); have mk3 : Mark "call builtin:dict.get"   := ⟨trivial⟩; (try clear mk4); have mk4 : Mark "compareOp NotEq ref ref"   := ⟨trivial⟩; (try clear mk5); have mk5 : Mark "CompEnd"   := ⟨trivial⟩; (try clear mk6); have mk6 : Mark "eval DictComp"   := ⟨trivial⟩; (try clear mk7); have mk7 : Mark "CompSrc"   := ⟨trivial⟩; (try clear mk8); have mk8 : Mark "DSrc"   := ⟨trivial⟩; (try clear mk9); have mk9 : Mark "eval ListComp"   := ⟨trivial⟩; (try clear mk10); have mk10 : Mark "call ref"   := ⟨trivial⟩; (try clear mk11); have mk11 : Mark "FnAt"   := ⟨trivial⟩; (try clear mk12); have mk12 : Mark "callWith ref"   := ⟨trivial⟩; repeat' (first | ((with_reducible refine unhalt (x := "execs cons") ?_); first | ((with_reducible show wpAny _ _ (execs (Stmt.Assign [Expr.Name (Str.ofString "rows") _] _ _ :: _) _) _ _ _); (refine halt2 ?_)) | (clear mk0; walk1; all_goals (try (with_reducible refine addMark (x := "execs cons") fun mk0 => ?_)))) | ((with_reducible refine unhalt (x := "call builtin:dict.items") ?_); first | ((refine' items_call (knd := PySem.strKind _ _) ((Heap.DictAt.dictOf (tt_at (by assumption))).at fun o e => Fr.keep (by k_asm) _ _ e) (by rfl) (by k_asm) (by k_asm) ?_); (k_whole); (intro V9 h9 iv9 F9 N9)) | (clear mk1; walk1; all_goals (try (with_reducible refine addMark (x := "call builtin:dict.items") fun mk1 => ?_)))) | ((with_reducible refine unhalt (x := "getMethod ref") ?_); first | ((with_reducible show wpAny _ _ (getMethod (Value.ref 71) _ _) _ _ _); (refine items_method (knd := PySem.strKind _ _) ((Heap.DictAt.dictOf (tt_at (by assumption))).at fun o e => Fr.keep (by k_asm) _ _ e) ?_)) | (clear mk2; walk1; all_goals (try (with_reducible refine addMark (x := "getMethod ref") fun mk2 => ?_)))) | ((with_reducible refine unhalt (x := "call builtin:dict.get") ?_); first | ((refine' kdg_get1 (knd := PySem.strKind _ _) (by k_asm) (by k_mem) (by assumption) (by assumption) (by exact strKind_is _ _ _ _) (some _) (by exact NumAt.b (by assumption)) ?_); (k_whole); (dsimp only [Option.getD])) | (clear mk3; walk1; all_goals (try (with_reducible refine addMark (x := "call builtin:dict.get") fun mk3 => ?_)))) | ((with_reducible refine unhalt (x := "compareOp NotEq ref ref") ?_); first | ((refine' ne_nums (by exact News.isList (by k_asm) (by k_mem)) (by exact News.isList (by k_asm) (by k_mem)) (by assumption) (by assumption) (by ktr_units) ?_); (k_whole)) | (clear mk4; walk1; all_goals (try (with_reducible refine addMark (x := "compareOp NotEq ref ref") fun mk4 => ?_)))) | ((with_reducible refine unhalt (x := "CompEnd") ?_); first | ((refine halt2 ?_)) | (clear mk5; walk1; all_goals (try (with_reducible refine addMark (x := "CompEnd") fun mk5 => ?_)))) | ((with_reducible refine unhalt (x := "eval DictComp") ?_); first | ((refine' DictComp_items (knd := PySem.strKind _ _) (knd2 := PySem.strKind _ _) (by k_asm) (by rfl) (by rfl) (by decide) (by rfl) (by decide) (by rfl) (by rfl) (by decide) ?_); (k_whole)) | (clear mk6; walk1; all_goals (try (with_reducible refine addMark (x := "eval DictComp") fun mk6 => ?_)))) | ((with_reducible refine unhalt (x := "CompSrc") ?_); first | ((refine halt2 ?_)) | (clear mk7; walk1; all_goals (try (with_reducible refine addMark (x := "CompSrc") fun mk7 => ?_)))) | ((with_reducible refine unhalt (x := "DSrc") ?_); first | ((refine halt2 ?_)) | (clear mk8; walk1; all_goals (try (with_reducible refine addMark (x := "DSrc") fun mk8 => ?_)))) | ((with_reducible refine unhalt (x := "eval ListComp") ?_); first | ((refine' LCg.ListComp_U (by k_asm) (by rfl) (by decide) (by rfl) (by decide) (by rfl) ?_); (k_whole)) | (clear mk9; walk1; all_goals (try (with_reducible refine addMark (x := "eval ListComp") fun mk9 => ?_)))) | ((with_reducible refine unhalt (x := "call ref") ?_); first | ((with_reducible show wpAny _ _ (call (Value.ref (handA _)) _) _ _ _); (refine' handcall_use (by k_asm) (by k_asm) (by k_asm) (by k_asm) (by assumption) (by assumption) (by ktr_room) (by ktr_units) ?_); (k_whole); (intro t9 h9 tk9 F9 N9); (refine halt2 ?_)) | (clear mk10; walk1; all_goals (try (with_reducible refine addMark (x := "call ref") fun mk10 => ?_)))) | ((with_reducible refine unhalt (x := "FnAt") ?_); first | ((exact FnAt.fr (by assumption) (by k_asm))) | (clear mk11; walk1; all_goals (try (with_reducible refine addMark (x := "FnAt") fun mk11 => ?_)))) | ((with_reducible refine unhalt (x := "callWith ref") ?_); first | ((with_reducible show wpAny _ _ (callWith _ (Value.ref (handA _)) _ _ _) _ _ _); (refine callWith_F (FnAt.fr (by assumption) (by k_asm)) ?_)) | (clear mk12; walk1; all_goals (try (with_reducible refine addMark (x := "callWith ref") fun mk12 => ?_)))) | (k_unfold; (try dsimp only)) | (k_end; kc_close) | walk1 | (dsimp only; walk1) | (leave1; (try dsimp only)) | fail "no step"))
          unfold Halt2
          refine' hn9 _ _ _ _ ?F9 ?N9 hz ?off9
          case F9 => k_asm
          case N9 => exact cb_drop (by k_asm) (sub1 (by k_mem) (sub1 (by k_mem) (sub1 (by k_mem) (sub1 (by k_mem) (sub1 (by k_mem) (sub1 (by k_mem) sub0))))))
          case off9 => exact ⟨hq4, hq5⟩
end Mine
end
/-! D2 -/
section
open PySem PySem.W PySem.Spec PySem.Calls PyProof.Rows PyProof.Rows.LCg
set_option maxRecDepth 100000
set_option maxHeartbeats 0
namespace Mine
noncomputable def rowsBody : List Stmt := match (lawRec.body.drop 15 : List Stmt) with | Stmt.For _ _ b _ _ :: _ => b | _ => []
noncomputable def rowsComp : PySem.Expr := match rowsBody with | [Stmt.Assign _ e _] => e | _ => .Name (Str.ofString "") ⟨0, 0, 0, 0⟩
noncomputable def rowsElt : PySem.Expr := match rowsComp with | .ListComp e _ _ _ => e | e => e
noncomputable def rowsI2 : PySem.Expr := match rowsComp with | .ListComp _ [_, g] _ _ => g.iter | e => e
noncomputable def rowsSc : Scope := match rowsComp with | .ListComp _ _ s _ => s | _ => { kind := .function, names := [], isGenerator := false, isCoroutine := false }
theorem pick_upN {vs : List Value} {n : Nat} : kms_pick vs.toArray.toList none (some (n : Int)) = vs.take n := by
  have h1 : ((n : Int)).toNat = n := by omega
  have h2 : ¬ ((n : Int) < 0) := by omega
  simp only [kms_pick, kms_lo, kms_hi, h1, h2, if_false, List.drop_zero, Nat.sub_zero]
  show List.take (min n vs.length) vs = _
  rw [kmk_take_min]
theorem pick_dnN {vs : List Value} {n : Nat} : kms_pick vs.toArray.toList (some (n : Int)) none = vs.drop n := by
  have h1 : ((n : Int)).toNat = n := by omega
  have h2 : ¬ ((n : Int) < 0) := by omega
  simp only [kms_pick, kms_lo, kms_hi, h1, h2, if_false]
  show List.take (vs.length - min n vs.length) (List.drop (min n vs.length) vs) = _
  rw [kmk_drop_min, List.take_of_length_le (by rw [List.length_drop]; omega)]
theorem strs_drop : ∀ {vs : List Value} {xs : List Str} (n : Nat), StrsAre vs xs → StrsAre (vs.drop n) (xs.drop n)
  | _, _, 0, h => h
  | _, _, _ + 1, .nil => .nil
  | _, _, n + 1, .cons _ _ r => strs_drop n r
def EltR (P : Prop) : Prop := P
theorem row_elt {w : World} {loose : List Str} {p : Program} {mean : ExcName → Option Value} {mg mb : Str → Option Value}
  {dp un : Nat} {fr : Option (List Env)} {gd : Option (List Code)} {h₀ : Heap} {s : Shared} {Q E : Value → Shared → Prop} {L fa r C : Addr} {cd : Value} {m m₂ : Str → Option Value}
  {vals : List Value} {xs : List Str} {wd : Str} {tw t : Tok} {e j : Nat} {oc oC : Obj} {tail : List (Addr × Obj)}
  (T : Top p loose mean mg mb h₀) (F : Fr h₀ L s.heap m) (N : News h₀ L s.heap ((r, W.listOf vals.toArray e) :: (L + 1 + 1 + 1 + 1, oc) :: (C, oC) :: tail))
  (hoc : oc.data = .cell (some (.str wd tw))) (hoC : NsObj oC m₂) (h1 : m₂ (Str.ofString "row") = some (.ref r)) (h2 : m₂ (Str.ofString "spot") = some (.int (j : Int) t)) (hx : StrsAre vals xs) (hl : xs.length ≤ 10)
  (hdp : dp + 12 < recursionLimit) (hu : un + 100 < cLine)
  (hret : ∀ D9 vals' h' tk', Fr h₀ L h' m → News h₀ L h' ((D9, W.listOf vals'.toArray 0) :: (r, W.listOf vals.toArray e) :: (L + 1 + 1 + 1 + 1, oc) :: (C, oC) :: tail) → (∀ p ∈ (r, W.listOf vals.toArray e) :: (L + 1 + 1 + 1 + 1, oc) :: (C, oC) :: tail, p.1 < D9) → StrsAre vals' (insAt wd xs j) → Q (.ref D9) { s with heap := h', toks := tk' }) :
   (KK w.params).In h₀ → wpAny (model (RW.row.toRowW.prog) w) (Rm dp un fr gd) (eval rowsElt (compEnvC rowsSc [(Str.ofString "word", L + 1 + 1 + 1 + 1)] C (envOfC (Str.ofString "law") lawRec.scope L fa cd))) Q E s := by
  k_fill
  intro X₀
  have hvsz : vals.toArray.size ≤ sizeLine := by
    rw [List.size_toArray, hx.len_eq, PySem.sizeLine_eq]
    omega
  repeat (conv in lawRec.scope => whnf)
  repeat (conv in rowsSc => whnf)
  conv in rowsElt => whnf
  ((try clear mk0); have mk0 : Mark "binaryOp Add ref ref"   := ⟨trivial⟩; (try clear mk1); have mk1 : Mark "subscriptTail Name Slice ref ref"   := ⟨trivial⟩; repeat' (first | ((with_reducible refine unhalt (x := "binaryOp Add ref ref") ?_); first | ((with_reducible show wpAny _ _ (binaryOp _ (Value.ref _) (Value.ref _)) _ _ _); (refine' add_strs (by k_asm) (by k_asm) (by k_mem) (by k_mem) (by (first | assumption | exact strs_take _ (by assumption) | exact strs_drop _ (by assumption))) (by (first | assumption | exact strs_take _ (by assumption) | exact strs_drop _ (by assumption) | exact .cons _ _ .nil)) (by (simp only [List.length_take, List.length_drop, List.length_append, List.length_cons, List.length_nil]; omega)) ?_); (k_whole); (intro D9 us9 h9 F9 N9 l1 S9)) | (clear mk0; walk1; all_goals (try (with_reducible refine addMark (x := "binaryOp Add ref ref") fun mk0 => ?_)))) | ((with_reducible refine unhalt (x := "subscriptTail Name Slice ref ref") ?_); first | ((refine' kms_slice_lit (by k_asm) (by k_asm) (by kmk_list) (by kmk_part) (by kmk_part) (by (first | exact pick_upN | exact pick_dnN)) ?_ (by with_unfolding_all rfl) (by (kmk_pure)) (by (assumption))); (k_whole); (intro D' h' F' N' l1)) | (clear mk1; walk1; all_goals (try (with_reducible refine addMark (x := "subscriptTail Name Slice ref ref") fun mk1 => ?_)))) | (k_unfold; (try dsimp only)) | (k_end; kc_close) | walk1 | (dsimp only; walk1) | (leave1; (try dsimp only)) | fail "no step"))
  refine hret _ _ _ _ F9 (fun p hp => N9 p ?_) (fun p hp => l1 p ?_) S9
  · rcases List.mem_cons.mp hp with rfl | hp
    · exact .head _
    · repeat (first | exact hp | apply List.Mem.tail)
  · repeat (first | exact hp | apply List.Mem.tail)
theorem row_i2 {w : World} {loose : List Str} {p : Program} {mean : ExcName → Option Value} {mg mb : Str → Option Value}
  {dp un : Nat} {fr : Option (List Env)} {gd : Option (List Code)} {h₀ : Heap} {s : Shared} {Q E : Value → Shared → Prop} {L fa r C : Addr} {cd : Value} {m m₂ : Str → Option Value}
  {vals : List Value} {e : Nat} {oC : Obj} {tail : List (Addr × Obj)}
  (T : Top p loose mean mg mb h₀) (F : Fr h₀ L s.heap m) (N : News h₀ L s.heap ((r, W.listOf vals.toArray e) :: (C, oC) :: tail))
  (hoC : NsObj oC m₂) (h1 : m₂ (Str.ofString "row") = some (.ref r)) (hl : vals.length ≤ 10)
  (hdp : dp + 12 < recursionLimit) (hu : un + 100 < cLine)
  (hret : ∀ D9 h' tk', Fr h₀ L h' m → News h₀ L h' ((r, W.listOf vals.toArray e) :: (C, oC) :: tail) → (∃ t u v, IsRange h' D9 0 ((vals.toArray.size : Int) + 1) 1 t u v) → Q (.ref D9) { s with heap := h', toks := tk' }) :
   (KK w.params).In h₀ → wpAny (model (RW.row.toRowW.prog) w) (Rm dp un fr gd) (eval rowsI2 (compEnvC rowsSc [(Str.ofString "word", L + 1 + 1 + 1 + 1)] C (envOfC (Str.ofString "law") lawRec.scope L fa cd))) Q E s := by
  k_fill
  intro X₀
  repeat (conv in lawRec.scope => whnf)
  repeat (conv in rowsSc => whnf)
  conv in rowsI2 => whnf
  have hfit : (vals.toArray.size : Int) < 2 ^ 63 := by
    rw [List.size_toArray]
    omega
  ((try clear mk0); have mk0 : Mark "call builtin:len"   := ⟨trivial⟩; (try clear mk1); have mk1 : Mark "binaryOp Add ref ref"   := ⟨trivial⟩; (try clear mk2); have mk2 : Mark "subscriptTail Name Slice ref ref"   := ⟨trivial⟩; repeat' (first | ((with_reducible refine unhalt (x := "call builtin:len") ?_); first | ((refine call_len_list (News.isList (by k_asm) (by k_mem)) (by assumption) ?_)) | (clear mk0; walk1; all_goals (try (with_reducible refine addMark (x := "call builtin:len") fun mk0 => ?_)))) | ((with_reducible refine unhalt (x := "binaryOp Add ref ref") ?_); first | ((with_reducible show wpAny _ _ (binaryOp _ (Value.ref _) (Value.ref _)) _ _ _); (refine' add_strs (by k_asm) (by k_asm) (by k_mem) (by k_mem) (by (first | assumption | exact strs_take _ (by assumption) | exact strs_drop _ (by assumption))) (by (first | assumption | exact strs_take _ (by assumption) | exact strs_drop _ (by assumption) | exact .cons _ _ .nil)) (by (simp only [List.length_take, List.length_drop, List.length_append, List.length_cons, List.length_nil]; omega)) ?_); (k_whole); (intro D9 us9 h9 F9 N9 l1 S9)) | (clear mk1; walk1; all_goals (try (with_reducible refine addMark (x := "binaryOp Add ref ref") fun mk1 => ?_)))) | ((with_reducible refine unhalt (x := "subscriptTail Name Slice ref ref") ?_); first | ((refine' kms_slice_lit (by k_asm) (by k_asm) (by kmk_list) (by kmk_part) (by kmk_part) (by (first | exact pick_upN | exact pick_dnN)) ?_ (by with_unfolding_all rfl) (by (kmk_pure)) (by (assumption))); (k_whole); (intro D' h' F' N' l1)) | (clear mk2; walk1; all_goals (try (with_reducible refine addMark (x := "subscriptTail Name Slice ref ref") fun mk2 => ?_)))) | (k_unfold; (try dsimp only)) | (k_end; kc_close) | walk1 | (dsimp only; walk1) | (leave1; (try dsimp only)) | fail "no step"))
  rename Fr _ _ _ _ => F1
  rename News _ _ _ _ => N1
  rename IsRange _ _ _ _ _ _ _ _ => hR9
  exact hret _ _ _ F1 (fun p hp => N1 p (by first | exact hp | exact .tail _ hp)) ⟨_, _, _, hR9⟩
/-- one turn: every word's spot in every row -/
theorem fr_again {h₀ h : Heap} {L : Addr} {y : Str} {a b : Option Value} {m : Str → Option Value} (F : Fr h₀ L h (fun z => if z = y then a else (fun x => if x = y then b else m x) z)) : Fr h₀ L h (fun z => if z = y then a else m z) := by
  have e : (fun z => if z = y then a else (fun x => if x = y then b else m x) z) = (fun z => if z = y then a else m z) := by
    funext z
    by_cases h : z = y <;> simp [h]
  rw [← e]; exact F
theorem flat_take {α β : Type} (f : α → List β) : ∀ (l : List α) (i : Nat) (x : α), l[i]? = some x → (l.take (i + 1)).flatMap f = (l.take i).flatMap f ++ f x := fun l i x h => by
  rw [List.take_add_one, h]
  simp
theorem map_range_take {β : Type} (f : Nat → β) (n j : Nat) (h : j < n) : ((List.range n).map f).take (j + 1) = ((List.range n).map f).take j ++ [f j] := by
  rw [List.take_add_one]
  simp [h]
theorem ins_len {α : Type} (wd : α) : ∀ l : List (List α), (∀ xs ∈ l, xs.length ≤ 10) → (l.flatMap (insAll wd)).length ≤ 11 * l.length
  | [], _ => Nat.zero_le _
  | x :: r, h => by
    have h1 := h x (.head _)
    have h2 := ins_len wd r fun y hy => h y (.tail _ hy)
    rw [List.flatMap_cons, List.length_append, List.length_cons]
    have h3 : (insAll wd x).length = x.length + 1 := by simp [insAll]
    omega
theorem rows_turn {w : World} {loose : List Str} {p : Program} {mean : ExcName → Option Value} {mg mb : Str → Option Value}
  {dp un : Nat} {fr : Option (List Env)} {gd : Option (List Code)} {h₀ : Heap} {s : Shared} {Q : Flow → Shared → Prop} {E : Value → Shared → Prop} {L fa R : Addr} {cd : Value} {m : Str → Option Value}
  {refs : List Value} {ls : List (List Str)} {wd : Str} {tw : Tok} {e : Nat} {oc : Obj} {rl led : List (Addr × Obj)}
  (T : Top p loose mean mg mb h₀) (F : Fr h₀ L s.heap (fun y => if y = Str.ofString "rows" then some (.ref R) else m y)) (N : News h₀ L s.heap led)
  (hR : (R, W.listOf refs.toArray e) ∈ led) (hcl : (L + 1 + 1 + 1 + 1, oc) ∈ led) (hrl : ∀ p ∈ rl, p ∈ led) (hrows : RowsAre refs rl ls)
  (hoc : oc.data = .cell (some (.str wd tw))) (hl : ∀ xs ∈ ls, xs.length ≤ 10) (hl2 : ls.length ≤ 100)
  (hdp : dp + 12 < recursionLimit) (hu : un + 100 < cLine)
  (hret : ∀ R' refs' rl' h' tk', Fr h₀ L h' (fun y => if y = Str.ofString "rows" then some (.ref R') else m y) → News h₀ L h' ((R', LCg.lst refs') :: (rl' ++ led)) → RowsAre refs' rl' (ls.flatMap (insAll wd)) → (∀ p ∈ (R', LCg.lst refs') :: rl', ∀ q ∈ led, p.1 ≠ q.1) → Q .next { s with heap := h', toks := tk' }) :
   (KK w.params).In h₀ → wpAny (model (RW.row.toRowW.prog) w) (Rm dp un fr gd) (execs rowsBody (envOfC (Str.ofString "law") lawRec.scope L fa cd)) Q E s := by
  intro X₀
  obtain ⟨p1, p2, p3, p4, p5, p6, eb, esw⟩ : ∃ p1 p2 p3 p4 p5 p6, rowsBody = [Stmt.Assign [.Name (Str.ofString "rows") p1] (two rowsElt (.Name (Str.ofString "row") p2) (.Name (Str.ofString "rows") p3) (.Name (Str.ofString "spot") p4) rowsI2 rowsSc p5) p6] ∧
    ∀ L fa cd, swapsWith (two rowsElt (.Name (Str.ofString "row") p2) (.Name (Str.ofString "rows") p3) (.Name (Str.ofString "spot") p4) rowsI2 rowsSc p5) (some (.Name (Str.ofString "rows") p1)) p6.line (envOfC (Str.ofString "law") lawRec.scope L fa cd) = pure true := ⟨_, _, _, _, _, _, rfl, fun _ _ _ => rfl⟩
  rw [eb]
  refine wpAny_execs_cons ?_
  refine Assign_two (cl := [(Str.ofString "word", L + 1 + 1 + 1 + 1)]) F rfl rfl ?c1 ?c2 ?c3 ?c4 ?c5 ?c6 ?c7 ?c8 ?c9 ?c10 ?_
  case c1 => exact esw _ _ _
  case c2 => kernel_rfl
  case c3 => exact of_decide_eq_true (by kernel_rfl)
  case c4 => kernel_rfl
  case c5 => exact of_decide_eq_true (by kernel_rfl)
  case c6 => kernel_rfl
  case c7 => kernel_rfl
  case c8 => decide
  case c9 => kernel_rfl
  case c10 => kernel_rfl
  refine wpAny_Name (wpAny_loadName_local (by kernel_rfl) (by kernel_rfl) F.ns (if_pos rfl) ?_)
  refine ⟨R, refs.toArray, e, led, fun i ys live => ∃ rl', live = rl' ++ led ∧ RowsAre ys rl' ((ls.take i).flatMap (insAll wd)) ∧ ∀ p ∈ rl', ∀ q ∈ led, p.1 ≠ q.1, rfl, F, N, hR, ⟨[], rfl, .nil, fun _ h => nomatch h⟩, ?_, ?_, ?_⟩
  · rintro i ys live ⟨rl', rfl, _, _⟩
    exact List.mem_append_right _ hR
  · rintro i ys live v I oI C oC D m₂ h tk E' hv ⟨rl', rfl, hrw, hoff⟩ hC hx F2 N2 off ne
    obtain ⟨r, vals, e9, xs, rfl, hmem, hxs, hls⟩ := hrows.at_ (show refs[i]? = some v by simpa using hv)
    have hxl := hl xs (List.mem_of_getElem? hls)
    have hvl : vals.length = xs.length := hxs.len_eq
    have hrled := hrl _ hmem
    have N2' : News h₀ L h ((r, W.listOf vals.toArray e9) :: (C, oC) :: ((I, oI) :: (C, oC) :: (D, LCg.lst ys) :: (rl' ++ led))) := fun p hp => by
      rcases List.mem_cons.mp hp with rfl | hp
      · exact N2 _ (.tail _ (.tail _ (.tail _ (List.mem_append_right _ hrled))))
      rcases List.mem_cons.mp hp with rfl | hp
      · exact N2 _ (.tail _ (.head _))
      exact N2 p hp
    refine row_i2 T F2 N2' hC hx (by omega) hdp hu ?_ X₀
    rintro D9 h' tk' F3 N3 ⟨t0, u0, v0, hr⟩
    refine ⟨h', tk', xs.length + 1, fun j v => ∃ t, v = .int (j : Int) t, fun j ys live => ∃ rl', live = rl' ++ led ∧ RowsAre ys rl' ((ls.take i).flatMap (insAll wd) ++ (insAll wd xs).take j) ∧ ∀ p ∈ rl', ∀ q ∈ led, p.1 ≠ q.1, ys, rl' ++ led, rfl, F3,
      fun p hp => N3 p (.tail _ (.tail _ hp)), off, ⟨rl', rfl, by simpa using hrw, hoff⟩, by rw [PySem.sizeLine_eq]; omega, ?_, ?_, .inr ⟨D9, 0, _, t0, u0, v0, rfl, hr, ?_, ?_, fun j t => ⟨t, by simp⟩⟩, ?_⟩
    · rintro j ys live ⟨rl', rfl, hrw, _⟩
      have h1 := ins_len wd (ls.take i) fun xs hx => hl xs (List.mem_of_mem_take hx)
      have h2 : (ls.take i).length ≤ 100 := Nat.le_trans (by rw [List.length_take]; exact Nat.min_le_right _ _) hl2
      have h3 : ((insAll wd xs).take j).length ≤ xs.length + 1 := by
        rw [List.length_take]
        exact Nat.le_trans (Nat.min_le_right _ _) (by simp [insAll])
      rw [hrw.len, PySem.sizeLine_eq, List.length_append]
      omega
    · rintro ys live ⟨rl', rfl, hrw, hoff⟩
      refine ⟨rl', rfl, ?_, hoff⟩
      rw [flat_take _ _ _ _ hls]
      have e2 : (insAll wd xs).take (xs.length + 1) = insAll wd xs := List.take_of_length_le (by simp [insAll])
      rw [e2] at hrw
      exact hrw
    · rw [List.size_toArray, hvl]
      exact small_one (by omega) (by omega) (by omega) (by omega)
    · rw [List.size_toArray, hvl, show ((xs.length : Int) + 1) = ((xs.length + 1 : Nat) : Int) by omega, rangeSize_nat]
      simp
    · rintro j ys2 _ _ J oJ oC2 m3 h3 tk3 E3 hj ⟨rl2, rfl, hrw2, hoff2⟩ ⟨t3, rfl⟩ hC3 hrow hspot F4 N4 off4 ne4
      have N4' : News h₀ L h3 ((r, W.listOf vals.toArray e9) :: (L + 1 + 1 + 1 + 1, oc) :: (C, oC2) :: ((J, oJ) :: (I, oI) :: (C, oC2) :: (D, LCg.lst ys2) :: (rl2 ++ led))) := fun p hp => by
        rcases List.mem_cons.mp hp with rfl | hp
        · exact N4 _ (.tail _ (.tail _ (.tail _ (.tail _ (List.mem_append_right _ hrled)))))
        rcases List.mem_cons.mp hp with rfl | hp
        · exact N4 _ (.tail _ (.tail _ (.tail _ (.tail _ (List.mem_append_right _ hcl)))))
        rcases List.mem_cons.mp hp with rfl | hp
        · exact N4 _ (.tail _ (.tail _ (.head _)))
        exact N4 p hp
      refine row_elt (j := j) T F4 N4' hoc hC3 hrow hspot hxs hxl hdp hu ?_ X₀
      intro D9 vals' h5 tk5 F5 N5 hlt hS
      have up : ∀ p ∈ (J, oJ) :: (I, oI) :: (C, oC2) :: (D, LCg.lst ys2) :: (rl2 ++ led), p ∈ (D9, W.listOf vals'.toArray 0) :: (r, W.listOf vals.toArray e9) :: (L + 1 + 1 + 1 + 1, oc) :: (C, oC2) :: ((J, oJ) :: (I, oI) :: (C, oC2) :: (D, LCg.lst ys2) :: (rl2 ++ led)) := fun p hp => .tail _ (.tail _ (.tail _ (.tail _ hp)))
      have up2 : ∀ p ∈ (J, oJ) :: (I, oI) :: (C, oC2) :: (D, LCg.lst ys2) :: (rl2 ++ led), p.1 < D9 := fun p hp => hlt p (.tail _ (.tail _ (.tail _ hp)))
      have gne : ∀ p ∈ (J, oJ) :: (I, oI) :: (C, oC2) :: (D, LCg.lst ys2) :: (rl2 ++ led), D9 ≠ p.1 := fun p hp => Nat.ne_of_gt (up2 p hp)
      refine ⟨h5, tk5, (rl2 ++ [(D9, W.listOf vals'.toArray 0)]) ++ led, rfl, F5, fun p hp => ?_, fun p hp => ?_, rl2 ++ [(D9, W.listOf vals'.toArray 0)], rfl, ?_, ?_⟩
      · rcases List.mem_cons.mp hp with rfl | hp
        · exact N5 _ (up _ (.head _))
        rcases List.mem_cons.mp hp with rfl | hp
        · exact N5 _ (up _ (.tail _ (.head _)))
        rcases List.mem_cons.mp hp with rfl | hp
        · exact N5 _ (up _ (.tail _ (.tail _ (.head _))))
        rcases List.mem_cons.mp hp with rfl | hp
        · exact N5 _ (up _ (.tail _ (.tail _ (.tail _ (.head _)))))
        rcases List.mem_append.mp hp with hp | hp
        · rcases List.mem_append.mp hp with hp | hp
          · exact N5 _ (up _ (.tail _ (.tail _ (.tail _ (.tail _ (List.mem_append_left _ hp))))))
          · rw [List.mem_singleton.mp hp]; exact N5 _ (.head _)
        · exact N5 _ (up _ (.tail _ (.tail _ (.tail _ (.tail _ (List.mem_append_right _ hp))))))
      · rcases List.mem_append.mp hp with hp | hp
        · rcases List.mem_append.mp hp with hp | hp
          · exact off4 p (List.mem_append_left _ hp)
          · rw [List.mem_singleton.mp hp]
            exact ⟨gne _ (.head _), gne _ (.tail _ (.head _)), gne _ (.tail _ (.tail _ (.head _))), gne _ (.tail _ (.tail _ (.tail _ (.head _))))⟩
        · exact off4 p (List.mem_append_right _ hp)
      · have e1 : (insAll wd xs).take (j + 1) = (insAll wd xs).take j ++ [insAt wd xs j] := map_range_take _ _ _ hj
        rw [e1, ← List.append_assoc]
        exact hrw2.snoc hS
      · intro p hp q hq
        rcases List.mem_append.mp hp with hp | hp
        · exact hoff2 p hp q hq
        · rw [List.mem_singleton.mp hp]
          exact gne _ (.tail _ (.tail _ (.tail _ (.tail _ (List.mem_append_right _ hq)))))
  · rintro ys live ⟨rl', rfl, hrw, hoff⟩ D h tk F2 N2 off2
    refine wpAny_execs_nil ?_
    rw [List.size_toArray, hrows.len, List.take_length] at hrw
    exact hret D ys rl' h tk (fr_again F2) N2 hrw (fun p hp q hq => by
      rcases List.mem_cons.mp hp with rfl | hp
      · exact Ne.symm (off2 q (List.mem_append_right _ hq))
      · exact hoff p hp q hq)
end Mine
end
/-! SD -/
section
open PySem PySem.W PySem.Spec PySem.Calls PyProof.Rows PyProof.Rows.LCg
set_option maxRecDepth 100000
set_option maxHeartbeats 0
namespace Mine
theorem pick_end {ys : List Value} {n : Nat} {a b c d z : Value} (h : ys.drop (2 * n) = [a, b, c, d, z]) (hl : ys.length = 2 * n + 5) : kms_pick ys.toArray.toList (some (2 * (n : Int))) (some (-1)) = [a, b, c, d] := by
  have h1 : (2 * (n : Int)).toNat = 2 * n := by omega
  have h2 : ¬ (2 * (n : Int) < 0) := by omega
  have h3 : ((-(-1 : Int)).toNat) = 1 := by decide
  simp only [kms_pick, kms_lo, kms_hi, h1, h2, if_false, h3, show ((-1 : Int) < 0) by decide, if_true]
  show List.take (ys.length - 1 - min (2 * n) ys.length) (List.drop (min (2 * n) ys.length) ys) = _
  rw [kmk_drop_min, h, hl, show 2 * n + 5 - 1 - min (2 * n) (2 * n + 5) = 4 by omega]
  rfl
theorem rows_small (a b c d : Str) : ∀ i, (rowsF ([a, b, c, d].take i)).length ≤ 100 ∧ ∀ xs ∈ rowsF ([a, b, c, d].take i), xs.length ≤ 10 := by
  have key : ∀ ws : List Str, ((rowsF ws).length ≤ 100 ∧ (rowsF ws).all (fun xs => decide (xs.length ≤ 10)) = true) → (rowsF ws).length ≤ 100 ∧ ∀ xs ∈ rowsF ws, xs.length ≤ 10 := fun ws h => ⟨h.1, fun xs hx => of_decide_eq_true (List.all_eq_true.mp h.2 xs hx)⟩
  intro i
  refine key _ ?_
  match i with
  | 0 => exact ⟨Nat.le_of_ble_eq_true (by kernel_rfl), by kernel_rfl⟩
  | 1 => exact ⟨Nat.le_of_ble_eq_true (by kernel_rfl), by kernel_rfl⟩
  | 2 => exact ⟨Nat.le_of_ble_eq_true (by kernel_rfl), by kernel_rfl⟩
  | 3 => exact ⟨Nat.le_of_ble_eq_true (by kernel_rfl), by kernel_rfl⟩
  | i + 4 =>
    rw [List.take_of_length_le (by simp)]
    exact ⟨Nat.le_of_ble_eq_true (by kernel_rfl), by kernel_rfl⟩
theorem rows_next {α : Type} {ws : List α} {i : Nat} {x : α} (h : ws[i]? = some x) : rowsF (ws.take (i + 1)) = (rowsF (ws.take i)).flatMap (insAll x) := by
  rw [List.take_add_one, h]
  simp [rowsF, List.foldl_append]
theorem stageD {w : World} {loose : List Str} {p : Program} {mean : ExcName → Option Value} {mg mb : Str → Option Value}
  {dp un : Nat} {fr : Option (List Env)} {gd : Option (List Code)} {h₀ : Heap} {s : Shared} {Q : Flow → Shared → Prop} {E : Value → Shared → Prop} {L fa : Addr} {cd : Value} {m : Str → Option Value}
  {k tot : Int} {D7 D8 D D9 Dn sl pa ba : Addr} {ys zs : List Value} {e n : Nat} {t1 t2 s0 s2 s3 s4 r0 r1 r2 r3 r4 : Tok} {o4 o5 : Obj} {ps : Array Value}
  (T : Top p loose mean mg mb h₀)
  (F : Fr h₀ L s.heap (fun y => if y = Str.ofString "numbers" then some (.ref Dn) else if y = Str.ofString "due" then some (.ref D8) else if y = Str.ofString "things" then some (.ref D7) else if y = Str.ofString "words" then some (.ref D) else if y = Str.ofString "signs" then some (.ref D9) else if y = Str.ofString "spelled" then some (.ref sl) else if y = Str.ofString "total" then some (.int tot t1) else if y = Str.ofString "half" then some (.int n t2) else if y = Str.ofString "back" then some (.ref ba) else if y = Str.ofString "places" then some (.ref pa) else m y))
  (N : News h₀ L s.heap [(Dn, LCg.lst zs), (D7, W.listOf (List.toArray [.str (spAt k 0) s0, .str (spAt k 2) s2, .str (spAt k 3) s3, .str (spAt k 4) s4]) e), (D, LCg.lst ys), (117, tabObj ps), (L + 1 + 1 + 1 + 1 + 1, o5), (L + 1 + 1 + 1 + 1, o4)])
  (d4 : o4.data = .cell none)
  (hne : @Ne Nat (L + 1 + 1 + 1 + 1) Dn ∧ @Ne Nat (L + 1 + 1 + 1 + 1 + 1) Dn) (hlD7 : @LT.lt Nat instLTNat (L + 1 + 1 + 1 + 1 + 1) D7) (l117 : @LT.lt Nat instLTNat 117 L)
  (hk : 0 ≤ k ∧ k < 5) (hlen : n ≤ 9) (hyl : ys.length = 2 * n + 5) (hyd : ys.drop (2 * n) = [.str (spAt k 0) r0, .str (spAt k 2) r1, .str (spAt k 3) r2, .str (spAt k 4) r3, .str (Str.ofString "") r4])
  (hdp : dp + 12 < recursionLimit) (hu : un + 100 < cLine)
  (hnext : ∀ R refs rl e9 h' tk, Fr h₀ L h' (fun x => if x = Str.ofString "rows" then some (.ref R) else (fun y => if y = Str.ofString "numbers" then some (.ref Dn) else if y = Str.ofString "due" then some (.ref D8) else if y = Str.ofString "things" then some (.ref D7) else if y = Str.ofString "words" then some (.ref D) else if y = Str.ofString "signs" then some (.ref D9) else if y = Str.ofString "spelled" then some (.ref sl) else if y = Str.ofString "total" then some (.int tot t1) else if y = Str.ofString "half" then some (.int n t2) else if y = Str.ofString "back" then some (.ref ba) else if y = Str.ofString "places" then some (.ref pa) else m y) x) →
    News h₀ L h' ((R, W.listOf refs.toArray e9) :: (rl ++ [(Dn, LCg.lst zs), (D7, W.listOf (List.toArray [.str (spAt k 0) s0, .str (spAt k 2) s2, .str (spAt k 3) s3, .str (spAt k 4) s4]) e), (117, tabObj ps), (L + 1 + 1 + 1 + 1 + 1, o5)])) → RowsAre refs rl (rowsF [spAt k 0, spAt k 2, spAt k 3, spAt k 4]) →
    wpAny (model (RW.row.toRowW.prog) w) (Rm dp un fr gd) (execs (lawRec.body.drop 16) (envOfC (Str.ofString "law") lawRec.scope L fa cd)) Q E { s with heap := h', toks := tk }) :
   (KK w.params).In h₀ → wpAny (model (RW.row.toRowW.prog) w) (Rm dp un fr gd) (execs (lawRec.body.drop 14) (envOfC (Str.ofString "law") lawRec.scope L fa cd)) Q E s := by
  k_fill
  intro X₀
  have hysz : ys.toArray.size ≤ sizeLine := by
    rw [List.size_toArray, hyl, PySem.sizeLine_eq]
    omega
  have hn9 := hnext
  clear hnext
  repeat (conv at hn9 in lawRec.scope => whnf)
  conv at hn9 in lawRec.body.drop 16 => whnf
  have hturn := @rows_turn w loose p mean mg mb dp un fr gd h₀
  conv at hturn in rowsBody => whnf
  repeat (conv at hturn in lawRec.scope => whnf)
  repeat (conv in lawRec.scope => whnf)
  conv in lawRec.body.drop 14 => whnf
  ((try clear mk0); have mk0 : Mark "exec For"   := ⟨trivial⟩; (try clear mk1); have mk1 : Mark "pyIter ref"   := ⟨trivial⟩; (try clear mk2); have mk2 : Mark "subscriptTail Name Slice ref ref"   := ⟨trivial⟩; repeat' (first | ((with_reducible refine unhalt (x := "exec For") ?_); first | ((refine wpAny_For ?_)) | (clear mk0; walk1; all_goals (try (with_reducible refine addMark (x := "exec For") fun mk0 => ?_)))) | ((with_reducible refine unhalt (x := "pyIter ref") ?_); first | ((refine halt2 ?_)) | (clear mk1; walk1; all_goals (try (with_reducible refine addMark (x := "pyIter ref") fun mk1 => ?_)))) | ((with_reducible refine unhalt (x := "subscriptTail Name Slice ref ref") ?_); first | ((refine' kms_slice_lit (by k_asm) (by k_asm) (by kmk_list) (by kmk_part) (by kmk_part) (by exact pick_end (by assumption) (by assumption)) ?_ (by with_unfolding_all rfl) (by (kmk_pure)) (by (assumption))); (k_whole); (intro DW g4 F5 N5 lC); (k_lt lC)) | (clear mk2; walk1; all_goals (try (with_reducible refine addMark (x := "subscriptTail Name Slice ref ref") fun mk2 => ?_)))) | (k_unfold; (try dsimp only)) | (k_end; kc_close) | walk1 | (dsimp only; walk1) | (leave1; (try dsimp only)) | fail "no step"))
  unfold Halt2
  rename_i I0 g1 lA R0 g2 lB g3 F4 N4
  have hws : StrsAre [.str (spAt k 0) r0, .str (spAt k 2) r1, .str (spAt k 3) r2, .str (spAt k 4) r3] [spAt k 0, spAt k 2, spAt k 3, spAt k 4] := .cons _ _ (.cons _ _ (.cons _ _ (.cons _ _ .nil)))
  refine for_cell (x := Str.ofString "word") (c := L + 1 + 1 + 1 + 1) (vs := [.str (spAt k 0) r0, .str (spAt k 2) r1, .str (spAt k 3) r2, .str (spAt k 4) r3]) (nn := 0) (oc := o4) (live₀ := (R0, W.listOf (List.toArray [.ref I0]) 0) :: ([(I0, W.listOf (List.toArray ([] : List Value)) 0)] ++ [(Dn, LCg.lst zs), (D7, W.listOf (List.toArray [.str (spAt k 0) s0, .str (spAt k 2) s2, .str (spAt k 3) s3, .str (spAt k 4) s4]) e), (117, tabObj ps), (L + 1 + 1 + 1 + 1 + 1, o5)]))
    (fun i m₁ live => ∃ R refs rl e9, m₁ = (fun x => if x = Str.ofString "rows" then some (.ref R) else (fun y => if y = Str.ofString "numbers" then some (.ref Dn) else if y = Str.ofString "due" then some (.ref D8) else if y = Str.ofString "things" then some (.ref D7) else if y = Str.ofString "words" then some (.ref D) else if y = Str.ofString "signs" then some (.ref D9) else if y = Str.ofString "spelled" then some (.ref sl) else if y = Str.ofString "total" then some (.int tot t1) else if y = Str.ofString "half" then some (.int n t2) else if y = Str.ofString "back" then some (.ref ba) else if y = Str.ofString "places" then some (.ref pa) else m y) x) ∧ live = (R, W.listOf refs.toArray e9) :: (rl ++ [(Dn, LCg.lst zs), (D7, W.listOf (List.toArray [.str (spAt k 0) s0, .str (spAt k 2) s2, .str (spAt k 3) s3, .str (spAt k 4) s4]) e), (117, tabObj ps), (L + 1 + 1 + 1 + 1 + 1, o5)]) ∧ RowsAre refs rl (rowsF ([spAt k 0, spAt k 2, spAt k 3, spAt k 4].take i)))
    rfl rfl rfl rfl F5 ?N5 d4 ?hlc ?hlive ⟨R0, [.ref I0], [(I0, W.listOf (List.toArray ([] : List Value)) 0)], 0, rfl, rfl, .cons .nil .nil⟩ ?turn ?done
  case N5 => exact cb_drop N5 (sub1 (by k_mem) (sub1 (by k_mem) (sub1 (by k_mem) (sub1 (by k_mem) (sub1 (by k_mem) (sub1 (by k_mem) (sub1 (by k_mem) (sub1 (by k_mem) sub0))))))))
  case hlc => exact Nat.ne_of_gt (by omega)
  case hlive =>
    intro q hq
    simp only [List.cons_append, List.nil_append, List.mem_cons, List.not_mem_nil, or_false] at hq
    rcases hq with rfl | rfl | rfl | rfl | rfl | rfl
    · exact Nat.ne_of_gt (by dsimp only; omega)
    · exact Nat.ne_of_gt (by dsimp only; omega)
    · exact fun e => hne.1 (Eq.symm e)
    · exact Nat.ne_of_gt (by dsimp only; omega)
    · exact Nat.ne_of_lt (by dsimp only; omega)
    · exact Nat.ne_of_gt (by dsimp only; omega)
  case turn =>
    rintro i v m₁ live h tk I oI oc E' hv hoff hlI hcI ⟨R, refs, rl, e9, rfl, rfl, hrw⟩ hoc F6 N6
    clear F4 N4 F5 N5
    obtain ⟨x, t, rfl, hx⟩ := strs_at hws hv
    have hb := rows_small (spAt k 0) (spAt k 2) (spAt k 3) (spAt k 4) i
    refine hturn (e := e9) (rl := rl) T F6 N6 (.tail _ (.tail _ (.tail _ (.head _)))) (.tail _ (.tail _ (.head _))) (fun p hp => .tail _ (.tail _ (.tail _ (.tail _ (List.mem_append_left _ hp))))) hrw hoc hb.2 hb.1 hdp hu ?_ X₀
    intro R' refs' rl' h' tk' F7 N7 hrw' hoff'
    have hold : ∀ p ∈ (R', LCg.lst refs') :: (rl' ++ [(Dn, LCg.lst zs), (D7, W.listOf (List.toArray [.str (spAt k 0) s0, .str (spAt k 2) s2, .str (spAt k 3) s3, .str (spAt k 4) s4]) e), (117, tabObj ps), (L + 1 + 1 + 1 + 1 + 1, o5)]), p ∈ (R', LCg.lst refs') :: rl' ∨ p ∈ (R, W.listOf refs.toArray e9) :: (rl ++ [(Dn, LCg.lst zs), (D7, W.listOf (List.toArray [.str (spAt k 0) s0, .str (spAt k 2) s2, .str (spAt k 3) s3, .str (spAt k 4) s4]) e), (117, tabObj ps), (L + 1 + 1 + 1 + 1 + 1, o5)]) := fun p hp => by
      rcases List.mem_cons.mp hp with rfl | hp
      · exact .inl (.head _)
      rcases List.mem_append.mp hp with hp | hp
      · exact .inl (.tail _ hp)
      · exact .inr (.tail _ (List.mem_append_right _ hp))
    refine ⟨rfl, h', tk', _, (R', LCg.lst refs') :: (rl' ++ [(Dn, LCg.lst zs), (D7, W.listOf (List.toArray [.str (spAt k 0) s0, .str (spAt k 2) s2, .str (spAt k 3) s3, .str (spAt k 4) s4]) e), (117, tabObj ps), (L + 1 + 1 + 1 + 1 + 1, o5)]), rfl, F7, fun p hp => ?_, fun p hp => ?_, R', refs', rl', _, rfl, rfl, by rw [rows_next hx]; exact hrw'⟩
    · rcases List.mem_cons.mp hp with rfl | hp
      · exact N7 _ (.tail _ (List.mem_append_right _ (.head _)))
      rcases List.mem_cons.mp hp with rfl | hp
      · exact N7 _ (.tail _ (List.mem_append_right _ (.tail _ (.head _))))
      rcases List.mem_cons.mp hp with rfl | hp
      · exact N7 _ (.tail _ (List.mem_append_right _ (.tail _ (.tail _ (.head _)))))
      rcases hold p hp with hp | hp
      · rcases List.mem_cons.mp hp with rfl | hp
        · exact N7 _ (.head _)
        · exact N7 _ (.tail _ (List.mem_append_left _ hp))
      · exact N7 _ (.tail _ (List.mem_append_right _ (.tail _ (.tail _ (.tail _ hp)))))
    · rcases hold p hp with hp | hp
      · exact ⟨hoff' p hp _ (.tail _ (.head _)), hoff' p hp _ (.tail _ (.tail _ (.head _)))⟩
      · exact hoff p hp
  case done =>
    rintro m₁ live h tk ⟨R, refs, rl, e9, rfl, rfl, hrw⟩ F6 N6
    exact hn9 R refs rl e9 h tk F6 N6 hrw
end Mine
end
/-! SE0 -/
section
open PySem PySem.W PySem.Spec PySem.Calls PyProof.Rows
set_option maxRecDepth 100000
set_option maxHeartbeats 1000000
namespace Mine
abbrev Toks4 := Tok × Tok × Tok × Tok
/-- a row of the four words, by their ranks -/
def rowK (k : Int) (x : F4) (ts : Toks4) (e : Nat) : Obj := row4 (fK k x.1) (fK k x.2.1) (fK k x.2.2.1) (fK k x.2.2.2) ts.1 ts.2.1 ts.2.2.1 ts.2.2.2 e
section
variable {w : World} {loose : List Str} {p : Program} {mean : ExcName → Option Value} {mg mb : Str → Option Value}
  {dp un : Nat} {fr : Option (List Env)} {gd : Option (List Code)} {h₀ : Heap} {s : Shared} {Q E : Value → Shared → Prop} {L : Addr} {m : Str → Option Value} {news : List (Addr × Obj)}
theorem sentK_use {k : Int} {x : F4} {ts : Toks4} {ar an : Addr} {e0 e1 : Nat} {vs : List Value} {ns : List Int}
  (T : Top p loose mean mg mb h₀) (F : Fr h₀ L s.heap m) (N : News h₀ L s.heap news) (X₀ : (KK w.params).In h₀)
  (hr : (ar, rowK k x ts e0) ∈ news) (hn : (an, W.listOf vs.toArray e1) ∈ news) (hk : 0 ≤ k ∧ k < 5) (hi : IntsAre vs ns) (hns : ∀ n ∈ ns, n = 20 ∨ n = 33 ∨ n = 44 ∨ n = 21 ∨ n = 34 ∨ n = 45)
  (hdp : dp + 3 < recursionLimit) (hu : un + 24 < cLine)
  (hret : ∀ rr ts' e' h' tk', Fr h₀ L h' m → News h₀ L h' ((rr, rowK k (sentF ns x) ts' e') :: news) → Q (.ref rr) { s with heap := h', toks := tk' }) :
   wpAny (model (RW.row.toRowW.prog) w) (Rm dp un fr gd) (call (.ref 141) [.ref ar, .ref an]) Q E s := by
  refine sent_ok (e0 := e0) (e1 := e1) T F.keep (N _ hr).1 (N _ hr).2.2 (N _ hn).1 (N _ hn).2.2 hi hns hdp hu ?_ X₀
  intro rr y0 y1 y2 y3 u0 u1 u2 u3 e h' tk' hy xt ho
  have hy2 : (y0, y1, y2, y3) = map4 (fK k) (sentF ns x) := hy.trans (sent_map (fK_lt hk) ns x)
  obtain ⟨rfl, h2⟩ := Prod.mk.inj hy2
  obtain ⟨rfl, h3⟩ := Prod.mk.inj h2
  obtain ⟨rfl, rfl⟩ := Prod.mk.inj h3
  refine hret rr (u0, u1, u2, u3) e h' tk' (fr_ext F xt) (news_back (hid := [(ar, rowK k x ts e0), (an, W.listOf vs.toArray e1)]) F N ?_ xt ho)
  intro q hq
  rcases List.mem_cons.mp hq with rfl | hq
  · exact hr
  · rw [List.mem_singleton.mp hq]; exact hn
theorem belowK_use {k : Int} {x y : F4} {ts us : Toks4} {ar an : Addr} {e0 e1 : Nat} {b : Bool}
  (T : Top p loose mean mg mb h₀) (F : Fr h₀ L s.heap m) (N : News h₀ L s.heap news) (X₀ : (KK w.params).In h₀)
  (hr : (ar, rowK k x ts e0) ∈ news) (hn : (an, rowK k y us e1) ∈ news) (hk : 0 ≤ k ∧ k < 5) (hb : belowF x y = b)
  (hdp : dp + 3 < recursionLimit) (hu : un + 24 < cLine)
  (hret : ∀ h' tk', Fr h₀ L h' m → News h₀ L h' news → Q (.bool b) { s with heap := h', toks := tk' }) :
   wpAny (model (RW.row.toRowW.prog) w) (Rm dp un fr gd) (call (.ref 146) [.ref ar, .ref an]) Q E s := by
  refine below_ok (e0 := e0) (e1 := e1) T F.keep (N _ hr).1 (N _ hr).2.2 (N _ hn).1 (N _ hn).2.2 hdp hu ?_ X₀
  intro h' tk' xt
  have e := (below_map (fK_lt hk) x y).trans hb
  rw [e]
  exact hret h' tk' (fr_ext F xt) (news_ext N xt)
end
section
variable {prog : Program} {w : World} {A : Around} {E : Value → Shared → Prop} {s : Shared} {Q : Value → Shared → Prop}
theorem fK_ok {k : Int} (h : 0 ≤ k ∧ k < 5) (i : Fin 4) : PyData.strOk (fK k i) = true := by
  have e : ∀ k : Int, (∀ i : Fin 4, PyData.strOk (fK k i) = true) → PyData.strOk (fK k i) = true := fun k h => h i
  rcases five h with rfl | rfl | rfl | rfl | rfl <;> exact e _ (by decide +kernel)
theorem eqK {h₀ : Heap} {L a c : Addr} {news : List (Addr × Obj)} {k : Int} {x y : F4} {ts us : Toks4} {e0 e1 : Nat} {b : Bool} (N : News h₀ L s.heap news) (ha : (a, rowK k x ts e0) ∈ news) (hc : (c, rowK k y us e1) ∈ news) (hk : 0 ≤ k ∧ k < 5) (hb : decide (x = y) = b) (hu : A.units + 64 < cLine)
    (h : Q (.bool b) s) : wpAny (model prog w) A (compareOp .Eq (.ref a) (.ref c)) Q E s := by
  refine tx_eq (xs := [.str (fK k x.1) ts.1, .str (fK k x.2.1) ts.2.1, .str (fK k x.2.2.1) ts.2.2.1, .str (fK k x.2.2.2) ts.2.2.2]) (ys := [.str (fK k y.1) us.1, .str (fK k y.2.1) us.2.1, .str (fK k y.2.2.1) us.2.2.1, .str (fK k y.2.2.2) us.2.2.2])
    ⟨_, (N _ ha).1, rfl, _, rfl⟩ ⟨_, (N _ hc).1, rfl, _, rfl⟩ (.cons _ _ (.cons _ _ (.cons _ _ (.cons _ _ .nil)))) (.cons _ _ (.cons _ _ (.cons _ _ (.cons _ _ .nil)))) ?_ ?_ hu ?_
  · intro z hz
    simp only [List.mem_cons, List.not_mem_nil, or_false] at hz
    rcases hz with rfl | rfl | rfl | rfl <;> exact fK_ok hk _
  · intro z hz
    simp only [List.mem_cons, List.not_mem_nil, or_false] at hz
    rcases hz with rfl | rfl | rfl | rfl <;> exact fK_ok hk _
  · have e : decide ([fK k x.1, fK k x.2.1, fK k x.2.2.1, fK k x.2.2.2] = [fK k y.1, fK k y.2.1, fK k y.2.2.1, fK k y.2.2.2]) = b := by
      rw [← hb]
      have i : ∀ {i j}, fK k i = fK k j → i = j := fun e => f_inj (fK_lt hk) e
      by_cases hxy : x = y
      · subst hxy; simp
      · rw [decide_eq_false hxy]
        refine decide_eq_false fun e => hxy ?_
        injection e with e1 e
        injection e with e2 e
        injection e with e3 e
        injection e with e4 _
        exact Prod.ext (i e1) (Prod.ext (i e2) (Prod.ext (i e3) (i e4)))
    rw [e]; exact h
theorem ne_same {b : Bool} (h : Q (.bool false) s) : wpAny (model prog w) A (compareOp .NotEq (.bool b) (.bool b)) Q E s :=
  SeqAt.RcNeAt.bool_bool b b prog w E Q (by simpa using h)
theorem item_refs {value slice : PySem.Expr} {l : Addr} {vs : List Value} {i : Int} {u : Tok} {v : Value} (hl : s.heap.IsList l vs.toArray) (h0 : 0 ≤ i) (hfit : i < 2 ^ 63) (hv : vs[i.toNat]? = some v) (h : Q v s)
    (hs : subscripted slice false (.ref l) (.int i u) = operate [.ref l, .int i u] (getItem (.ref l) (.int i u)) := by with_unfolding_all rfl) : wpAny (model prog w) A (subscriptTail value slice (.ref l) (.int i u)) Q E s :=
  tail_any hl.typeIs slot_list_getitem.lookup (wpAny_getItem_list hl h0 hfit (x := v) (by simpa using hv) h) hs
end
theorem sortK {prog : Program} {w : World} {A : Around} {E : Value → Shared → Prop} {s : Shared} {h₀ : Heap} {L : Addr} {m : Str → Option Value} {news : List (Addr × Obj)} {l : Addr} {Q : Value → Shared → Prop} {e : Nat} {k : Int} {ta tb tc td : Tok}
    (F : Fr h₀ L s.heap m) (N : News h₀ L s.heap news) (hm : (l, W.listOf (List.toArray [.str (spAt k 0) ta, .str (spAt k 2) tb, .str (spAt k 3) tc, .str (spAt k 4) td]) e) ∈ news) (hk : 0 ≤ k ∧ k < 5)
    (h : ∀ D h' ts e', Fr h₀ L h' m → News h₀ L h' ((D, rowK k (0, 1, 2, 3) ts e') :: news) → (∀ q ∈ news, q.1 < D) → Q (.ref D) { s with heap := h' }) :
    wpAny (model prog w) A (call (.builtin "sorted") [.ref l]) Q E s :=
  srt4 F N hm fun D h' e' z0 z1 z2 z3 u0 u1 u2 u3 q F' N' l9 => by
    have q2 := (fK_calm hk).symm.trans q
    injection q2 with a1 q2
    injection q2 with a2 q2
    injection q2 with a3 q2
    injection q2 with a4 _
    subst a1 a2 a3 a4
    exact h D h' (u0, u1, u2, u3) e' F' N' l9
theorem fr_know {h₀ h : Heap} {L : Addr} {m : Str → Option Value} {y : Str} {v : Value} (F : Fr h₀ L h m) (e : m y = some v) : Fr h₀ L h (fun z => if z = y then some v else m z) := by
  have q : (fun z => if z = y then some v else m z) = m := by
    funext z
    by_cases h : z = y
    · rw [if_pos h, h, e]
    · rw [if_neg h]
  rw [q]; exact F
theorem strs4 {vals : List Value} {a b c d : Str} (h : StrsAre vals [a, b, c, d]) : ∃ t0 t1 t2 t3, vals = [.str a t0, .str b t1, .str c t2, .str d t3] := by
  obtain ⟨t0, v0, rfl, h0⟩ := sinv h
  obtain ⟨t1, v1, rfl, h1⟩ := sinv h0
  obtain ⟨t2, v2, rfl, h2⟩ := sinv h1
  obtain ⟨t3, v3, rfl, h3⟩ := sinv h2
  obtain rfl := snil h3
  exact ⟨t0, t1, t2, t3, rfl⟩
/-- one of the 24 rows of the ledger -/
theorem row_of {k : Int} (hk : 0 ≤ k ∧ k < 5) {refs : List Value} {rl : List (Addr × Obj)} (hrw : RowsAre refs rl (rowsF [spAt k 0, spAt k 2, spAt k 3, spAt k 4])) {i : Nat} {v : Value} (hv : refs[i]? = some v) :
    ∃ r x ts e, v = .ref r ∧ x ∈ perms ∧ (r, rowK k x ts e) ∈ rl := by
  obtain ⟨r, vals, e, xs, rfl, hm, hs, hx⟩ := hrw.at_ hv
  obtain ⟨x, hp, rfl⟩ := rows_at hk hx
  obtain ⟨t0, t1, t2, t3, rfl⟩ := strs4 hs
  exact ⟨r, x, (t0, t1, t2, t3), e, rfl, hp, hm⟩
structure AtR (refs : List Value) (i : Int) (v : Value) : Prop where
  h : refs[i.toNat]? = some v
  a : 0 ≤ i
  b : i < 2 ^ 63
theorem ints_take : ∀ {vs : List Value} {xs : List Int} (n : Nat), IntsAre vs xs → IntsAre (vs.take n) (xs.take n)
  | _, _, 0, _ => .nil
  | _, _, _ + 1, .nil => .nil
  | _, _, n + 1, .cons x t r => .cons x t (ints_take n r)
theorem ints_drop : ∀ {vs : List Value} {xs : List Int} (n : Nat), IntsAre vs xs → IntsAre (vs.drop n) (xs.drop n)
  | _, _, 0, h => h
  | _, _, _ + 1, .nil => .nil
  | _, _, n + 1, .cons _ _ r => ints_drop n r
theorem nums_take (pl : List Int) : (numsL pl).take pl.length = pl.map numA := by
  unfold numsL
  rw [List.take_append_of_le_length (by simp), List.take_of_length_le (by simp)]
theorem nums_drop (pl : List Int) : (numsL pl).drop pl.length = pl.reverse.map numB := by
  unfold numsL
  rw [List.drop_append_of_le_length (by simp), List.drop_of_length_le (by simp), List.nil_append]
theorem numA_in (pl : List Int) : ∀ n ∈ pl.map numA, n = 20 ∨ n = 33 ∨ n = 44 ∨ n = 21 ∨ n = 34 ∨ n = 45 := fun n hn => by
  obtain ⟨p, _, rfl⟩ := List.mem_map.mp hn
  unfold numA
  split
  · simp
  split <;> simp
theorem numB_in (pl : List Int) : ∀ n ∈ pl.reverse.map numB, n = 20 ∨ n = 33 ∨ n = 44 ∨ n = 21 ∨ n = 34 ∨ n = 45 := fun n hn => by
  obtain ⟨p, _, rfl⟩ := List.mem_map.mp hn
  unfold numB
  split
  · simp
  split <;> simp
structure Bs (pl : List Int) (x g : F4) (b1 b2 : Bool) : Prop where
  a : belowF (sentF (pl.map numA) x) g = b1
  b : belowF x (sentF (pl.reverse.map numB) g) = b1
  c : decide (sentF (pl.map numA) x = (0, 1, 2, 3)) = b2
  d : belowF x (sentF (pl.reverse.map numB) (0, 1, 2, 3)) = b2
theorem bs_of {pl : List Int} (hpl : ∀ n ∈ pl, n = 0 ∨ n = 1 ∨ n = 2) {x g : F4} (hx : x ∈ perms) (hg : g ∈ perms) : ∃ b1 b2, Bs pl x g b1 b2 := by
  refine ⟨_, _, rfl, (adj pl hpl x hx g hg).symm, rfl, ?_⟩
  rw [← adj pl hpl x hx _ (by decide)]
  exact least0 _ (sentA_in pl hpl x hx)
section
variable {prog : Program} {w : World} {A : Around} {E : Value → Shared → Prop} {s : Shared} {env : Env} {h₀ : Heap} {x : Str} {body : List Stmt} {Q : Flow → Shared → Prop}
def LTurn (h₀ : Heap) (L : Addr) (led : List (Addr × Obj)) (J : (Str → Option Value) → Prop) (s₁ : Shared) (f : Flow) (s₂ : Shared) : Prop :=
  f = .next ∧ ∃ h' tk m', s₂ = { s₁ with heap := h', toks := tk } ∧ Fr h₀ L h' m' ∧ News h₀ L h' led ∧ J m'
/-- a for over a list of the ledger whose turns leave the ledger as it is -/
theorem for_loc {px : Pos} {l : Addr} {vs : List Value} {nn : Nat} {m₀ : Str → Option Value} {live₀ : List (Addr × Obj)} (J : Nat → (Str → Option Value) → Prop)
    (hh : A.handled = none) (hx : env.kindOf x = some .local) (hp : (env.scope.kind == .class || (env.scope.kind == .module && env.locals != env.globals)) = false)
    (F : Fr h₀ env.locals s.heap m₀) (N : News h₀ env.locals s.heap ((l, listOf vs.toArray nn) :: live₀)) (hj : J 0 m₀)
    (turn : ∀ i v m₁ h tk I oI E', vs[i]? = some v → J i m₁ → Fr h₀ env.locals h (fun y => if y = x then some v else m₁ y) → News h₀ env.locals h ((l, listOf vs.toArray nn) :: (I, oI) :: live₀) →
      wpAny (model prog w) A (execs body env) (LTurn h₀ env.locals ((l, listOf vs.toArray nn) :: (I, oI) :: live₀) (J (i + 1)) { s with heap := h, toks := tk }) E' { s with heap := h, toks := tk })
    (done : ∀ m₁ h tk, J vs.length m₁ → Fr h₀ env.locals h m₁ → News h₀ env.locals h ((l, listOf vs.toArray nn) :: live₀) → Q .next { s with heap := h, toks := tk }) :
    wpAny (model prog w) A (pyIter (.ref l)) (fun it s₂ => codeAny (model prog w) A (.forLoop (.Name x px) it body [] env) (fun r s' => match r with | .ok f => Q f s' | .error e => cameBackBy (model prog w) A env E e s') s₂) E s := by
  have hol : s.heap.get? l = some (listOf vs.toArray nn) := (N _ (.head _)).1
  have hls : s.heap.IsList l vs.toArray := ⟨_, hol, rfl, nn, rfl⟩
  have hne : l ≠ s.heap.objs.size := Nat.ne_of_lt (Heap.lt_size hol)
  refine wpAny_pyIter_list hls ?_
  have W := walks_obj (prog := prog) (w := w) hh s.heap.objs.size l hne vs nn
  have up : ∀ b o, s.heap.get? b = some o → (s.heap.push { cls := .type "list_iterator", data := .fields #[.ref l, .int 0 0] }).get? b = some o := fun b o e => Heap.get?_push_of_some _ e
  have hIL : env.locals ≠ s.heap.objs.size := Nat.ne_of_lt F.ns.lt
  have hI₀ : h₀.get? s.heap.objs.size = none := next_is_new F
  have offN : ∀ p ∈ (l, listOf vs.toArray nn) :: live₀, p.1 ≠ s.heap.objs.size := fun p hp => Nat.ne_of_lt (Heap.lt_size (N p hp).1)
  refine codeAny_forLoop_any
    (fun n s' => ∃ h' tk i m', s' = { s with heap := h', toks := tk } ∧ i ≤ vs.length ∧ n = vs.length + 1 - i ∧ (h'.IsListIter s.heap.objs.size l i ∧ h'.get? l = some (listOf vs.toArray nn)) ∧ Fr h₀ env.locals h' m' ∧
      News h₀ env.locals h' ((l, listOf vs.toArray nn) :: live₀) ∧ J i m') ?_ (vs.length + 1)
    ⟨_, s.toks, 0, m₀, rfl, Nat.zero_le _, rfl, ⟨⟨_, Heap.get?_push_size _ rfl, rfl, rfl⟩, up _ _ hol⟩, F.keeps up, N.grown up, hj⟩
  rintro n s' ⟨h', tk, i, m', rfl, hi, rfl, hst, F', N', hJ⟩
  by_cases hlt : i < vs.length
  · refine W.item i _ _ _ hlt hst fun v h₂ tk₂ hPv hst₂ hk₂ => ?_
    have F₂ : Fr h₀ env.locals h₂ m' := PyProof.Rows.LCg.fr_but F' hk₂ hIL hI₀
    have N₂ := PyProof.Rows.LCg.news_but N' hk₂ offN
    refine wpAny_of_eq (show letOwnedTupleGo (.Name x px) (.ref s.heap.objs.size) v = pure () from rfl) ?_
    refine wpAny_assign_Name (wpAny_storeName_local hx F₂.ns (fun h₃ hn₃ hs₃ => ?_) hp)
    have keep : ∀ b o, b ≠ env.locals → h₂.get? b = some o → h₃.get? b = some o := fun b o hb e => hs₃.extBut b o hb e
    obtain ⟨oI, heI, hoI⟩ := hst₂.1
    have F₃ : Fr h₀ env.locals h₃ (fun y => if y = x then some v else m' y) := ⟨hn₃, fun b o e => keep b o (Nat.ne_of_lt (Nat.lt_of_lt_of_le (Heap.lt_size e) F₂.above)) (F₂.keep b o e), F₂.above⟩
    have N₃ : News h₀ env.locals h₃ ((l, listOf vs.toArray nn) :: (s.heap.objs.size, oI) :: live₀) := fun p hp => by
      rcases List.mem_cons.mp hp with rfl | hp
      · exact ⟨keep _ _ (N₂ _ (.head _)).2.1 (N₂ _ (.head _)).1, (N₂ _ (.head _)).2⟩
      rcases List.mem_cons.mp hp with rfl | hp
      · exact ⟨keep _ _ (Ne.symm hIL) heI, Ne.symm hIL, hI₀⟩
      exact ⟨keep _ _ (N₂ _ (.tail _ hp)).2.1 (N₂ _ (.tail _ hp)).1, (N₂ _ (.tail _ hp)).2⟩
    refine wpAny_mono (turn i v m' h₃ _ _ oI _ hPv hJ F₃ N₃) (fun f s₄ h₄ => ?_) fun _ _ e => e
    obtain ⟨rfl, h₄, tk₄, m₄, rfl, F₄, N₄, hJ₄⟩ := h₄
    refine ⟨vs.length + 1 - (i + 1), by omega, h₄, tk₄, i + 1, m₄, rfl, hlt, rfl, ⟨⟨oI, (N₄ _ (.tail _ (.head _))).1, hoI⟩, (N₄ _ (.head _)).1⟩, F₄, fun p hp => ?_, hJ₄⟩
    rcases List.mem_cons.mp hp with rfl | hp
    · exact N₄ _ (.head _)
    exact N₄ _ (.tail _ (.tail _ hp))
  · obtain rfl : i = vs.length := Nat.le_antisymm hi (Nat.not_lt.mp hlt)
    refine W.done _ _ _ hst fun h₂ tk₂ hk₂ => wpAny_execs_nil ?_
    exact done m' h₂ tk₂ hJ (PyProof.Rows.LCg.fr_but F' hk₂ hIL hI₀) (PyProof.Rows.LCg.news_but N' hk₂ offN)
end
structure Knows (m : Str → Option Value) (num half goal gb calm cb : Value) : Prop where
  a : m (Str.ofString "numbers") = some num
  b : m (Str.ofString "half") = some half
  c : m (Str.ofString "goal") = some goal
  d : m (Str.ofString "goal_back") = some gb
  e : m (Str.ofString "calm") = some calm
  f : m (Str.ofString "calm_back") = some cb
theorem know_put {m : Str → Option Value} {a b : Str} {u : Option Value} {v : Value} (h : m a = some v) (ne : a ≠ b) : (fun y => if y = b then u else m y) a = some v := by
  show (if a = b then u else m a) = some v
  rw [if_neg ne, h]
theorem know_fr {h₀ h : Heap} {L : Addr} {m : Str → Option Value} {num half goal gb calm cb rv : Value} (F : Fr h₀ L h (fun y => if y = Str.ofString "row" then some rv else m y)) (k : Knows m num half goal gb calm cb) :
    Fr h₀ L h (fun y => if y = Str.ofString "numbers" then some num else if y = Str.ofString "half" then some half else if y = Str.ofString "goal" then some goal else if y = Str.ofString "goal_back" then some gb else if y = Str.ofString "calm" then some calm else if y = Str.ofString "calm_back" then some cb else if y = Str.ofString "row" then some rv else m y) := by
  have e : (fun y => if y = Str.ofString "numbers" then some num else if y = Str.ofString "half" then some half else if y = Str.ofString "goal" then some goal else if y = Str.ofString "goal_back" then some gb else if y = Str.ofString "calm" then some calm else if y = Str.ofString "calm_back" then some cb else if y = Str.ofString "row" then some rv else m y) = (fun y => if y = Str.ofString "row" then some rv else m y) := by
    funext y
    split
    · rename_i h; subst h; exact ((if_neg (by decide)).trans k.a).symm
    split
    · rename_i h; subst h; exact ((if_neg (by decide)).trans k.b).symm
    split
    · rename_i h; subst h; exact ((if_neg (by decide)).trans k.c).symm
    split
    · rename_i h; subst h; exact ((if_neg (by decide)).trans k.d).symm
    split
    · rename_i h; subst h; exact ((if_neg (by decide)).trans k.e).symm
    split
    · rename_i h; subst h; exact ((if_neg (by decide)).trans k.f).symm
    rfl
  rw [e]; exact F
end Mine
end
/-! SE -/
section
open PySem PySem.W PySem.Spec PySem.Calls PyProof.Rows PyProof.Rows.LCg
set_option maxRecDepth 100000
set_option maxHeartbeats 0
namespace Mine
theorem stageE {w : World} {loose : List Str} {p : Program} {mean : ExcName → Option Value} {mg mb : Str → Option Value}
  {dp un : Nat} {fr : Option (List Env)} {gd : Option (List Code)} {h₀ : Heap} {s : Shared} {Q : Flow → Shared → Prop} {E : Value → Shared → Prop} {L fa : Addr} {cd : Value} {m : Str → Option Value}
  {k tot : Int} {D7 D8 D D9 Dn sl pa ba R : Addr} {refs zs : List Value} {e e9 : Nat} {pl : List Int} {t1 t2 s0 s2 s3 s4 : Tok} {o5 : Obj} {ps : Array Value} {rl : List (Addr × Obj)}
  (T : Top p loose mean mg mb h₀)
  (F : Fr h₀ L s.heap (fun x => if x = Str.ofString "rows" then some (.ref R) else (fun y => if y = Str.ofString "numbers" then some (.ref Dn) else if y = Str.ofString "due" then some (.ref D8) else if y = Str.ofString "things" then some (.ref D7) else if y = Str.ofString "words" then some (.ref D) else if y = Str.ofString "signs" then some (.ref D9) else if y = Str.ofString "spelled" then some (.ref sl) else if y = Str.ofString "total" then some (.int tot t1) else if y = Str.ofString "half" then some (.int pl.length t2) else if y = Str.ofString "back" then some (.ref ba) else if y = Str.ofString "places" then some (.ref pa) else m y) x))
  (N : News h₀ L s.heap ((R, W.listOf refs.toArray e9) :: (rl ++ [(Dn, LCg.lst zs), (D7, W.listOf (List.toArray [.str (spAt k 0) s0, .str (spAt k 2) s2, .str (spAt k 3) s3, .str (spAt k 4) s4]) e), (117, tabObj ps), (L + 1 + 1 + 1 + 1 + 1, o5)])))
  (hrw : RowsAre refs rl (rowsF [spAt k 0, spAt k 2, spAt k 3, spAt k 4])) (hz : IntsAre zs (numsL pl))
  (hk : 0 ≤ k ∧ k < 5) (hpl : ∀ n ∈ pl, n = 0 ∨ n = 1 ∨ n = 2) (hlen : pl.length ≤ 9)
  (hdp : dp + 12 < recursionLimit) (hu : un + 100 < cLine)
  (hnext : ∀ (cr : Addr) (ts : Toks4) (e' : Nat) (m' : Str → Option Value) (h' : Heap) (tk : Nat), Fr h₀ L h' (fun y => if y = Str.ofString "calm" then some (.ref cr) else m' y) → News h₀ L h' [(cr, rowK k (0, 1, 2, 3) ts e'), (117, tabObj ps), (L + 1 + 1 + 1 + 1 + 1, o5)] → @Ne Nat (L + 1 + 1 + 1 + 1 + 1) cr →
    wpAny (model (RW.row.toRowW.prog) w) (Rm dp un fr gd) (execs (lawRec.body.drop 19) (envOfC (Str.ofString "law") lawRec.scope L fa cd)) Q E { s with heap := h', toks := tk }) :
   (KK w.params).In h₀ → wpAny (model (RW.row.toRowW.prog) w) (Rm dp un fr gd) (execs (lawRec.body.drop 16) (envOfC (Str.ofString "law") lawRec.scope L fa cd)) Q E s := by
  k_fill
  intro X₀
  have N1 : News h₀ L s.heap ((R, W.listOf refs.toArray e9) :: (Dn, LCg.lst zs) :: (D7, W.listOf (List.toArray [.str (spAt k 0) s0, .str (spAt k 2) s2, .str (spAt k 3) s3, .str (spAt k 4) s4]) e) :: (117, tabObj ps) :: (L + 1 + 1 + 1 + 1 + 1, o5) :: rl) := fun q hq => by
    rcases List.mem_cons.mp hq with rfl | hq
    · exact N _ (.head _)
    rcases List.mem_cons.mp hq with rfl | hq
    · exact N _ (.tail _ (List.mem_append_right _ (.head _)))
    rcases List.mem_cons.mp hq with rfl | hq
    · exact N _ (.tail _ (List.mem_append_right _ (.tail _ (.head _))))
    rcases List.mem_cons.mp hq with rfl | hq
    · exact N _ (.tail _ (List.mem_append_right _ (.tail _ (.tail _ (.head _)))))
    rcases List.mem_cons.mp hq with rfl | hq
    · exact N _ (.tail _ (List.mem_append_right _ (.tail _ (.tail _ (.tail _ (.head _))))))
    · exact N _ (.tail _ (List.mem_append_left _ hq))
  clear N
  have hix : 0 ≤ (tot.fdiv 5).fmod 24 ∧ (tot.fdiv 5).fmod 24 < 24 := ⟨Int.fmod_nonneg_of_pos _ (by decide), Int.fmod_lt_of_pos _ (by decide)⟩
  have hrn : refs.length = 24 := hrw.len.trans (rows_n hk)
  obtain ⟨v0, hv0⟩ : ∃ v, refs[((tot.fdiv 5).fmod 24).toNat]? = some v := ⟨_, List.getElem?_eq_getElem (show ((tot.fdiv 5).fmod 24).toNat < refs.length by rw [hrn]; omega)⟩
  obtain ⟨gr, gx, gts, ge, rfl, hgx, hgm⟩ := row_of hk hrw hv0
  have hat : AtR refs ((tot.fdiv 5).fmod 24) (.ref gr) := ⟨hv0, hix.1, by omega⟩
  clear hv0
  have N2 := newsC (N1 _ (.tail _ (.tail _ (.tail _ (.tail _ (.tail _ hgm)))))) N1
  clear N1
  have hzl : zs.length = 2 * pl.length := by
    rw [hz.length]
    simp [numsL]
    omega
  have hzsz : zs.toArray.size ≤ sizeLine := by
    rw [List.size_toArray, hzl, PySem.sizeLine_eq]
    omega
  have hzA : IntsAre (zs.take pl.length) (pl.map numA) := by
    have := ints_take pl.length hz
    rwa [nums_take] at this
  have hzB : IntsAre (zs.drop pl.length) (pl.reverse.map numB) := by
    have := ints_drop pl.length hz
    rwa [nums_drop] at this
  have hnA := numA_in pl
  have hnB := numB_in pl
  have hn9 := hnext
  clear hnext
  repeat (conv at hn9 in lawRec.scope => whnf)
  conv at hn9 in lawRec.body.drop 19 => whnf
  repeat (conv in lawRec.scope => whnf)
  conv in lawRec.body.drop 16 => whnf
  ((try clear mk0); have mk0 : Mark "execs cons"   := ⟨trivial⟩; (try clear mk1); have mk1 : Mark "execs nil"   := ⟨trivial⟩; (try clear mk2); have mk2 : Mark "exec For"   := ⟨trivial⟩; (try clear mk3); have mk3 : Mark "pyIter ref"   := ⟨trivial⟩; (try clear mk4); have mk4 : Mark "compareOp Eq ref ref"   := ⟨trivial⟩; (try clear mk5); have mk5 : Mark "compareOp NotEq bool bool"   := ⟨trivial⟩; (try clear mk6); have mk6 : Mark "call ref"   := ⟨trivial⟩; (try clear mk7); have mk7 : Mark "call builtin:sorted"   := ⟨trivial⟩; (try clear mk8); have mk8 : Mark "subscriptTail Name Slice ref ref"   := ⟨trivial⟩; (try clear mk9); have mk9 : Mark "subscriptTail"   := ⟨trivial⟩; repeat' (first | ((with_reducible refine unhalt (x := "execs cons") ?_); first | ((with_reducible show wpAny _ _ (execs (Stmt.Assign [Expr.Name (Str.ofString "line") _] _ _ :: _) _) _ _ _); (refine halt2 ?_)) | (clear mk0; walk1; all_goals (try (with_reducible refine addMark (x := "execs cons") fun mk0 => ?_)))) | ((with_reducible refine unhalt (x := "execs nil") ?_); first | ((with_reducible show wpAny _ _ (execs [] _) (LTurn _ _ _ _ _) _ _); (refine wpAny_execs_nil ?_); (refine halt2 ?_)) | (clear mk1; walk1; all_goals (try (with_reducible refine addMark (x := "execs nil") fun mk1 => ?_)))) | ((with_reducible refine unhalt (x := "exec For") ?_); first | ((refine wpAny_For ?_)) | (clear mk2; walk1; all_goals (try (with_reducible refine addMark (x := "exec For") fun mk2 => ?_)))) | ((with_reducible refine unhalt (x := "pyIter ref") ?_); first | ((refine halt2 ?_)) | (clear mk3; walk1; all_goals (try (with_reducible refine addMark (x := "pyIter ref") fun mk3 => ?_)))) | ((with_reducible refine unhalt (x := "compareOp Eq ref ref") ?_); first | ((refine' eqK (by k_asm) (by k_mem) (by k_mem) (by assumption) (by exact Bs.c (by assumption)) (by ktr_units) ?_); (k_whole)) | (clear mk4; walk1; all_goals (try (with_reducible refine addMark (x := "compareOp Eq ref ref") fun mk4 => ?_)))) | ((with_reducible refine unhalt (x := "compareOp NotEq bool bool") ?_); first | ((refine ne_same ?_)) | (clear mk5; walk1; all_goals (try (with_reducible refine addMark (x := "compareOp NotEq bool bool") fun mk5 => ?_)))) | ((with_reducible refine unhalt (x := "call ref") ?_); first | ((first | ((with_reducible show wpAny _ _ (call (Value.ref 141) _) _ _ _); (refine' sentK_use (by k_asm) (by k_asm) (by k_asm) (by k_asm) (by k_mem) (by k_mem) (by assumption) (by assumption) (by assumption) (by ktr_room) (by ktr_units) ?_); (k_whole); (intro cb cbts cbe hZ tkZ FZ NZ)) | ((with_reducible show wpAny _ _ (call (Value.ref 146) _) _ _ _); (refine' belowK_use (by k_asm) (by k_asm) (by k_asm) (by k_asm) (by k_mem) (by k_mem) (by assumption) (by (first | exact Bs.a (by assumption) | exact Bs.b (by assumption) | exact Bs.d (by assumption))) (by ktr_room) (by ktr_units) ?_); (k_whole); (intro hZ tkZ FZ NZ)) | ((refine halt2 ?_)))) | (clear mk6; walk1; all_goals (try (with_reducible refine addMark (x := "call ref") fun mk6 => ?_)))) | ((with_reducible refine unhalt (x := "call builtin:sorted") ?_); first | ((refine' sortK (by k_asm) (by k_asm) (by k_mem) (by assumption) ?_); (k_whole); (intro cr hZ cts ce FZ NZ lcr)) | (clear mk7; walk1; all_goals (try (with_reducible refine addMark (x := "call builtin:sorted") fun mk7 => ?_)))) | ((with_reducible refine unhalt (x := "subscriptTail Name Slice ref ref") ?_); first | ((refine' kms_slice_lit (by k_asm) (by k_asm) (by kmk_list) (by kmk_part) (by kmk_part) (by (first | exact pick_upN | exact pick_dnN)) ?_ (by with_unfolding_all rfl) (by (kmk_pure)) (by (assumption))); (k_whole); (intro D' h' F' N' l1)) | (clear mk8; walk1; all_goals (try (with_reducible refine addMark (x := "subscriptTail Name Slice ref ref") fun mk8 => ?_)))) | ((with_reducible refine unhalt (x := "subscriptTail") ?_); first | ((refine' item_refs (by exact News.isList (by k_asm) (by k_mem)) (by exact AtR.a (by assumption)) (by exact AtR.b (by assumption)) (by exact AtR.h (by assumption)) ?_ (by with_unfolding_all rfl)); (k_whole)) | (clear mk9; walk1; all_goals (try (with_reducible refine addMark (x := "subscriptTail") fun mk9 => ?_)))) | (k_unfold; (try dsimp only)) | (k_end; kc_close) | walk1 | (dsimp only; walk1) | (leave1; (try dsimp only)) | fail "no step"))
  unfold Halt2
  rename Fr _ _ _ _ => F5
  rename News _ _ _ _ => N5
  rename_i gb gbts gbe _ _ _ _ _ _ _ _
  have hcr5 : @Ne Nat (L + 1 + 1 + 1 + 1 + 1) cr := Nat.ne_of_lt (lcr (L + 1 + 1 + 1 + 1 + 1, o5) (by k_mem))
  have N6 : News h₀ L _ ((R, W.listOf refs.toArray e9) :: (gr, rowK k gx gts ge) :: (cr, rowK k (0, 1, 2, 3) cts ce) :: (gb, rowK k (sentF (pl.reverse.map numB) gx) gbts gbe) :: (cb, rowK k (sentF (pl.reverse.map numB) (0, 1, 2, 3)) cbts cbe) :: (Dn, LCg.lst zs) :: (117, tabObj ps) :: (L + 1 + 1 + 1 + 1 + 1, o5) :: rl) := fun q hq => N5 q (by
    rcases List.mem_cons.mp hq with rfl | hq
    · k_mem
    rcases List.mem_cons.mp hq with rfl | hq
    · k_mem
    rcases List.mem_cons.mp hq with rfl | hq
    · k_mem
    rcases List.mem_cons.mp hq with rfl | hq
    · k_mem
    rcases List.mem_cons.mp hq with rfl | hq
    · k_mem
    rcases List.mem_cons.mp hq with rfl | hq
    · k_mem
    rcases List.mem_cons.mp hq with rfl | hq
    · k_mem
    rcases List.mem_cons.mp hq with rfl | hq
    · k_mem
    repeat (first | exact hq | apply List.Mem.tail))
  refine for_loc (fun i m₁ => Knows m₁ (.ref Dn) (.int pl.length t2) (.ref gr) (.ref gb) (.ref cr) (.ref cb)) rfl rfl rfl F5 N6 ⟨rfl, rfl, rfl, rfl, rfl, rfl⟩ ?turn ?done
  case turn =>
    intro i v m₁ h tk I oI E' hv hkn F7 N7
    clear F5 N5 N6 hat
    obtain ⟨r, x, ts, e8, rfl, hx, hm⟩ := row_of hk hrw hv
    obtain ⟨b1, b2, hB⟩ := bs_of hpl hx hgx
    have F8 := know_fr F7 hkn
    have N8 := newsC (N7 _ (.tail _ (.tail _ (.tail _ (.tail _ (.tail _ (.tail _ (.tail _ (.tail _ (.tail _ hm)))))))))) N7
    clear F7 N7 hkn hv hm
    ((try clear mk0); have mk0 : Mark "execs cons"   := ⟨trivial⟩; (try clear mk1); have mk1 : Mark "execs nil"   := ⟨trivial⟩; (try clear mk2); have mk2 : Mark "exec For"   := ⟨trivial⟩; (try clear mk3); have mk3 : Mark "pyIter ref"   := ⟨trivial⟩; (try clear mk4); have mk4 : Mark "compareOp Eq ref ref"   := ⟨trivial⟩; (try clear mk5); have mk5 : Mark "compareOp NotEq bool bool"   := ⟨trivial⟩; (try clear mk6); have mk6 : Mark "call ref"   := ⟨trivial⟩; (try clear mk7); have mk7 : Mark "call builtin:sorted"   := ⟨trivial⟩; (try clear mk8); have mk8 : Mark "subscriptTail Name Slice ref ref"   := ⟨trivial⟩; (try clear mk9); have mk9 : Mark "subscriptTail"   := ⟨trivial⟩; repeat' (first | ((with_reducible refine unhalt (x := "execs cons") ?_); first | ((with_reducible show wpAny _ _ (execs (Stmt.Assign [Expr.Name (Str.ofString "line") _] _ _ :: _) _) _ _ _); (refine halt2 ?_)) | (clear mk0; walk1; all_goals (try (with_reducible refine addMark (x := "execs cons") fun mk0 => ?_)))) | ((with_reducible refine unhalt (x := "execs nil") ?_); first | ((with_reducible show wpAny _ _ (execs [] _) (LTurn _ _ _ _ _) _ _); (refine wpAny_execs_nil ?_); (refine halt2 ?_)) | (clear mk1; walk1; all_goals (try (with_reducible refine addMark (x := "execs nil") fun mk1 => ?_)))) | ((with_reducible refine unhalt (x := "exec For") ?_); first | ((refine wpAny_For ?_)) | (clear mk2; walk1; all_goals (try (with_reducible refine addMark (x := "exec For") fun mk2 => ?_)))) | ((with_reducible refine unhalt (x := "pyIter ref") ?_); first | ((refine halt2 ?_)) | (clear mk3; walk1; all_goals (try (with_reducible refine addMark (x := "pyIter ref") fun mk3 => ?_)))) | ((with_reducible refine unhalt (x := "compareOp Eq ref ref") ?_); first | ((refine' eqK (by k_asm) (by k_mem) (by k_mem) (by assumption) (by exact Bs.c (by assumption)) (by ktr_units) ?_); (k_whole)) | (clear mk4; walk1; all_goals (try (with_reducible refine addMark (x := "compareOp Eq ref ref") fun mk4 => ?_)))) | ((with_reducible refine unhalt (x := "compareOp NotEq bool bool") ?_); first | ((refine ne_same ?_)) | (clear mk5; walk1; all_goals (try (with_reducible refine addMark (x := "compareOp NotEq bool bool") fun mk5 => ?_)))) | ((with_reducible refine unhalt (x := "call ref") ?_); first | ((first | ((with_reducible show wpAny _ _ (call (Value.ref 141) _) _ _ _); (refine' sentK_use (by k_asm) (by k_asm) (by k_asm) (by k_asm) (by k_mem) (by k_mem) (by assumption) (by assumption) (by assumption) (by ktr_room) (by ktr_units) ?_); (k_whole); (intro cb cbts cbe hZ tkZ FZ NZ)) | ((with_reducible show wpAny _ _ (call (Value.ref 146) _) _ _ _); (refine' belowK_use (by k_asm) (by k_asm) (by k_asm) (by k_asm) (by k_mem) (by k_mem) (by assumption) (by (first | exact Bs.a (by assumption) | exact Bs.b (by assumption) | exact Bs.d (by assumption))) (by ktr_room) (by ktr_units) ?_); (k_whole); (intro hZ tkZ FZ NZ)) | ((refine halt2 ?_)))) | (clear mk6; walk1; all_goals (try (with_reducible refine addMark (x := "call ref") fun mk6 => ?_)))) | ((with_reducible refine unhalt (x := "call builtin:sorted") ?_); first | ((refine' sortK (by k_asm) (by k_asm) (by k_mem) (by assumption) ?_); (k_whole); (intro cr hZ cts ce FZ NZ lcr)) | (clear mk7; walk1; all_goals (try (with_reducible refine addMark (x := "call builtin:sorted") fun mk7 => ?_)))) | ((with_reducible refine unhalt (x := "subscriptTail Name Slice ref ref") ?_); first | ((refine' kms_slice_lit (by k_asm) (by k_asm) (by kmk_list) (by kmk_part) (by kmk_part) (by (first | exact pick_upN | exact pick_dnN)) ?_ (by with_unfolding_all rfl) (by (kmk_pure)) (by (assumption))); (k_whole); (intro D' h' F' N' l1)) | (clear mk8; walk1; all_goals (try (with_reducible refine addMark (x := "subscriptTail Name Slice ref ref") fun mk8 => ?_)))) | ((with_reducible refine unhalt (x := "subscriptTail") ?_); first | ((refine' item_refs (by exact News.isList (by k_asm) (by k_mem)) (by exact AtR.a (by assumption)) (by exact AtR.b (by assumption)) (by exact AtR.h (by assumption)) ?_ (by with_unfolding_all rfl)); (k_whole)) | (clear mk9; walk1; all_goals (try (with_reducible refine addMark (x := "subscriptTail") fun mk9 => ?_)))) | (k_unfold; (try dsimp only)) | (k_end; kc_close) | walk1 | (dsimp only; walk1) | (leave1; (try dsimp only)) | fail "no step"))
    unfold Halt2
    rename Fr _ _ _ _ => F9
    rename News _ _ _ _ => N9
    exact ⟨rfl, _, _, _, rfl, F9, fun p hp => N9 p (by repeat (first | exact hp | apply List.Mem.tail)), ⟨rfl, rfl, rfl, rfl, rfl, rfl⟩⟩
  case done =>
    intro m₁ h tk hkn F7 N7
    exact hn9 cr cts ce m₁ h tk (fr_know F7 hkn.e) (cb_drop N7 (sub1 (by k_mem) (sub1 (by k_mem) (sub1 (by k_mem) sub0)))) hcr5
end Mine
end
/-! SF -/
section
open PySem PySem.W PySem.Spec PySem.Calls PyProof.Rows PyProof.Rows.LCg
set_option maxRecDepth 100000
set_option maxHeartbeats 0
namespace Mine
theorem stageF {w : World} {loose : List Str} {p : Program} {mean : ExcName → Option Value} {mg mb : Str → Option Value}
  {dp un : Nat} {fr : Option (List Env)} {gd : Option (List Code)} {h₀ : Heap} {s : Shared} {Q : Flow → Shared → Prop} {E : Value → Shared → Prop} {L fa cr : Addr} {cd : Value} {m : Str → Option Value}
  {c0 c1 c2 c3 : Str} {k0 k1 k2 k3 : Tok} {ce : Nat} {o5 : Obj} {ps : Array Value}
  (T : Top p loose mean mg mb h₀)
  (F : Fr h₀ L s.heap (fun y => if y = Str.ofString "calm" then some (.ref cr) else m y))
  (N : News h₀ L s.heap [(cr, row4 c0 c1 c2 c3 k0 k1 k2 k3 ce), (117, tabObj ps), (L + 1 + 1 + 1 + 1 + 1, o5)])
  (d5 : o5.data = .cell none) (hcr : @Ne Nat (L + 1 + 1 + 1 + 1 + 1) cr) (l117 : @LT.lt Nat instLTNat 117 L)
  (hl3 : c3.length ≤ 64)
  (hdp : dp + 12 < recursionLimit) (hu : un + 100 < cLine)
  (hnext : ∀ (TD : Addr) (refs : List Value) (rl : List (Addr × Obj)) (m' : Str → Option Value) (h' : Heap) (tk : Nat), Fr h₀ L h' (fun y => if y = Str.ofString "told" then some (.ref TD) else m' y) → News h₀ L h' ((TD, LCg.lst refs) :: (117, tabObj ps) :: rl) → RowsI refs rl (toldT (six c0 c1 c2 c3)) →
    wpAny (model (RW.row.toRowW.prog) w) (Rm dp un fr gd) (execs (lawRec.body.drop 21) (envOfC (Str.ofString "law") lawRec.scope L fa cd)) Q E { s with heap := h', toks := tk }) :
   (KK w.params).In h₀ → wpAny (model (RW.row.toRowW.prog) w) (Rm dp un fr gd) (execs (lawRec.body.drop 19) (envOfC (Str.ofString "law") lawRec.scope L fa cd)) Q E s := by
  k_fill
  intro X₀
  have hn9 := hnext
  clear hnext
  repeat (conv at hn9 in lawRec.scope => whnf)
  conv at hn9 in lawRec.body.drop 21 => whnf
  repeat (conv in lawRec.scope => whnf)
  conv in lawRec.body.drop 19 => whnf
  ((try clear mk0); have mk0 : Mark "call ref"   := ⟨trivial⟩; (try clear mk1); have mk1 : Mark "exec Assign cons ListComp"   := ⟨trivial⟩; (try clear mk2); have mk2 : Mark "CellSrc"   := ⟨trivial⟩; (try clear mk3); have mk3 : Mark "eval ListComp"   := ⟨trivial⟩; (try clear mk4); have mk4 : Mark "CompEnd"   := ⟨trivial⟩; (try clear mk5); have mk5 : Mark "CompSrc"   := ⟨trivial⟩; repeat' (first | ((with_reducible refine unhalt (x := "call ref") ?_); first | ((with_reducible show wpAny _ _ (call (Value.ref 28) _) _ _ _); (with_unfolding_all refine' strcoll_use (by (k_asm)) (by (k_asm)) (by (k_asm)) (by (k_asm)) (by (ktr_room)) (by (ktr_units)) ?_); (k_whole); (intro t9 h9 tk9 F9 N9)) | (clear mk0; walk1; all_goals (try (with_reducible refine addMark (x := "call ref") fun mk0 => ?_)))) | ((with_reducible refine unhalt (x := "exec Assign cons ListComp") ?_); first | ((refine' Assign_cell (by k_asm) (by rfl) rfl (by rfl) (by rfl) (by rfl) (by decide) (by rfl) (by decide) (by rfl) (by rfl) ?_); (k_whole)) | (clear mk1; walk1; all_goals (try (with_reducible refine addMark (x := "exec Assign cons ListComp") fun mk1 => ?_)))) | ((with_reducible refine unhalt (x := "CellSrc") ?_); first | ((refine halt2 ?_)) | (clear mk2; walk1; all_goals (try (with_reducible refine addMark (x := "CellSrc") fun mk2 => ?_)))) | ((with_reducible refine unhalt (x := "eval ListComp") ?_); first | ((refine' LCg.ListComp_U (by k_asm) (by rfl) (by decide) (by rfl) (by decide) (by rfl) ?_); (k_whole)) | (clear mk3; walk1; all_goals (try (with_reducible refine addMark (x := "eval ListComp") fun mk3 => ?_)))) | ((with_reducible refine unhalt (x := "CompEnd") ?_); first | ((refine halt2 ?_)) | (clear mk4; walk1; all_goals (try (with_reducible refine addMark (x := "CompEnd") fun mk4 => ?_)))) | ((with_reducible refine unhalt (x := "CompSrc") ?_); first | ((refine halt2 ?_)) | (clear mk5; walk1; all_goals (try (with_reducible refine addMark (x := "CompSrc") fun mk5 => ?_)))) | (k_unfold; (try dsimp only)) | (k_end; kc_close) | walk1 | (dsimp only; walk1) | (leave1; (try dsimp only)) | fail "no step"))
  unfold Halt2
  rename Fr _ _ _ _ => F5
  rename News _ _ _ _ => N5
  rename_i tq _ _ _ _ DL _ lL _ oln dln
  have hsx : StrsAre [Value.str (Str.ofString "") s.toks, Value.str c0 k0, Value.str c1 k1, Value.str c2 k2, Value.str c3 k3, Value.str (Txt.mul c3 2) tq] (six c0 c1 c2 c3) := .cons _ _ (.cons _ _ (.cons _ _ (.cons _ _ (.cons _ _ (.cons _ _ .nil)))))
  have N6 : News h₀ L _ [(DL, W.listOf (List.toArray [Value.str (Str.ofString "") s.toks, Value.str c0 k0, Value.str c1 k1, Value.str c2 k2, Value.str c3 k3, Value.str (Txt.mul c3 2) tq]) 0), (L + 1 + 1 + 1 + 1 + 1, oln), (117, tabObj ps)] := cb_drop N5 (sub1 (by k_mem) (sub1 (by k_mem) (sub1 (by k_mem) sub0)))
  clear N5
  refine ⟨DL, _, 0, [(DL, W.listOf (List.toArray [Value.str (Str.ofString "") s.toks, Value.str c0 k0, Value.str c1 k1, Value.str c2 k2, Value.str c3 k3, Value.str (Txt.mul c3 2) tq]) 0), (L + 1 + 1 + 1 + 1 + 1, oln), (117, tabObj ps)], fun i ys live => ∃ rl, live = rl ++ [(DL, W.listOf (List.toArray [Value.str (Str.ofString "") s.toks, Value.str c0 k0, Value.str c1 k1, Value.str c2 k2, Value.str c3 k3, Value.str (Txt.mul c3 2) tq]) 0), (L + 1 + 1 + 1 + 1 + 1, oln), (117, tabObj ps)] ∧ RowsI ys rl ((toldT (six c0 c1 c2 c3)).take i) ∧ ∀ p ∈ rl, ∀ q ∈ [(DL, W.listOf (List.toArray [Value.str (Str.ofString "") s.toks, Value.str c0 k0, Value.str c1 k1, Value.str c2 k2, Value.str c3 k3, Value.str (Txt.mul c3 2) tq]) 0), (L + 1 + 1 + 1 + 1 + 1, oln), (117, tabObj ps)], p.1 ≠ q.1, rfl, F5, N6, .head _, ?sz, ⟨[], rfl, .nil, fun _ h => nomatch h⟩, ?hJl, ?turn, ?fin⟩
  case sz => exact Nat.le_of_ble_eq_true rfl
  case hJl =>
    rintro i ys live ⟨rl, rfl, hr, _⟩
    refine ⟨List.mem_append_right _ (.head _), ?_⟩
    rw [hr.len, List.length_take, PySem.sizeLine_eq]
    have : (toldT (six c0 c1 c2 c3)).length = 6 := rfl
    omega
  case turn =>
    rintro i ys live v I oI C oC D c oc h tk E' hv ⟨rl, rfl, hr, hoff⟩ hoc F8 N8 off
    obtain ⟨x, tx, rfl, hx⟩ := strs_at hsx (show [Value.str (Str.ofString "") s.toks, Value.str c0 k0, Value.str c1 k1, Value.str c2 k2, Value.str c3 k3, Value.str (Txt.mul c3 2) tq][i]? = some v by simpa using hv)
    have hxi : i < (six c0 c1 c2 c3).length := (List.getElem?_eq_some_iff.mp hx).1
    have hxe := getD_at hx
    clear F5 N6 hv hx
    have N9 : News h₀ L h ([(DL, W.listOf (List.toArray [Value.str (Str.ofString "") s.toks, Value.str c0 k0, Value.str c1 k1, Value.str c2 k2, Value.str c3 k3, Value.str (Txt.mul c3 2) tq]) 0), (L + 1 + 1 + 1 + 1 + 1, oln), (117, tabObj ps)] ++ ((c, oc) :: (I, oI) :: (C, oC) :: (D, LCg.lst ys) :: (c, oc) :: (rl ++ [(DL, W.listOf (List.toArray [Value.str (Str.ofString "") s.toks, Value.str c0 k0, Value.str c1 k1, Value.str c2 k2, Value.str c3 k3, Value.str (Txt.mul c3 2) tq]) 0), (L + 1 + 1 + 1 + 1 + 1, oln), (117, tabObj ps)]))) := fun p hp => by
      rcases List.mem_append.mp hp with hp | hp
      · exact N8 _ (.tail _ (.tail _ (.tail _ (.tail _ (List.mem_append_right _ hp)))))
      rcases List.mem_cons.mp hp with rfl | hp
      · exact N8 _ (.tail _ (.tail _ (.tail _ (.head _))))
      exact N8 _ hp
    simp only [List.cons_append, List.nil_append] at N9
    clear N8
    ((try clear mk0); have mk0 : Mark "call ref"   := ⟨trivial⟩; (try clear mk1); have mk1 : Mark "exec Assign cons ListComp"   := ⟨trivial⟩; (try clear mk2); have mk2 : Mark "CellSrc"   := ⟨trivial⟩; (try clear mk3); have mk3 : Mark "eval ListComp"   := ⟨trivial⟩; (try clear mk4); have mk4 : Mark "CompEnd"   := ⟨trivial⟩; (try clear mk5); have mk5 : Mark "CompSrc"   := ⟨trivial⟩; repeat' (first | ((with_reducible refine unhalt (x := "call ref") ?_); first | ((with_reducible show wpAny _ _ (call (Value.ref 28) _) _ _ _); (with_unfolding_all refine' strcoll_use (by (k_asm)) (by (k_asm)) (by (k_asm)) (by (k_asm)) (by (ktr_room)) (by (ktr_units)) ?_); (k_whole); (intro t9 h9 tk9 F9 N9)) | (clear mk0; walk1; all_goals (try (with_reducible refine addMark (x := "call ref") fun mk0 => ?_)))) | ((with_reducible refine unhalt (x := "exec Assign cons ListComp") ?_); first | ((refine' Assign_cell (by k_asm) (by rfl) rfl (by rfl) (by rfl) (by rfl) (by decide) (by rfl) (by decide) (by rfl) (by rfl) ?_); (k_whole)) | (clear mk1; walk1; all_goals (try (with_reducible refine addMark (x := "exec Assign cons ListComp") fun mk1 => ?_)))) | ((with_reducible refine unhalt (x := "CellSrc") ?_); first | ((refine halt2 ?_)) | (clear mk2; walk1; all_goals (try (with_reducible refine addMark (x := "CellSrc") fun mk2 => ?_)))) | ((with_reducible refine unhalt (x := "eval ListComp") ?_); first | ((refine' LCg.ListComp_U (by k_asm) (by rfl) (by decide) (by rfl) (by decide) (by rfl) ?_); (k_whole)) | (clear mk3; walk1; all_goals (try (with_reducible refine addMark (x := "eval ListComp") fun mk3 => ?_)))) | ((with_reducible refine unhalt (x := "CompEnd") ?_); first | ((refine halt2 ?_)) | (clear mk4; walk1; all_goals (try (with_reducible refine addMark (x := "CompEnd") fun mk4 => ?_)))) | ((with_reducible refine unhalt (x := "CompSrc") ?_); first | ((refine halt2 ?_)) | (clear mk5; walk1; all_goals (try (with_reducible refine addMark (x := "CompSrc") fun mk5 => ?_)))) | (k_unfold; (try dsimp only)) | (k_end; kc_close) | walk1 | (dsimp only; walk1) | (leave1; (try dsimp only)) | fail "no step"))
    unfold Halt2
    rename Fr _ _ _ _ => Fa
    rename News _ _ _ _ => Na
    refine LCg.CompSrc.ledger rfl Fa Na (.head _) (Nat.le_of_ble_eq_true rfl) ?_
    intro g'
    refine rest_same (fun j zs => IntsAre zs ((rowT (six c0 c1 c2 c3) i).take j)) .nil ?turn2 ?fin2
    case turn2 =>
      intro j zs v2 I2 oI2 C2 oC2 D2 m₂ h2 tk2 E2 hj hz hP hC hxr F10 N10 off10 ne10
      obtain ⟨y, ty, rfl, hy0⟩ := strs_at hsx (show [Value.str (Str.ofString "") s.toks, Value.str c0 k0, Value.str c1 k1, Value.str c2 k2, Value.str c3 k3, Value.str (Txt.mul c3 2) tq][j]? = some v2 by simpa using hP)
      have hy : AtS (six c0 c1 c2 c3) j y := ⟨hy0⟩
      clear Fa Na hP hy0
      ((try clear mk0); have mk0 : Mark "call ref"   := ⟨trivial⟩; (try clear mk1); have mk1 : Mark "exec Assign cons ListComp"   := ⟨trivial⟩; (try clear mk2); have mk2 : Mark "CellSrc"   := ⟨trivial⟩; (try clear mk3); have mk3 : Mark "eval ListComp"   := ⟨trivial⟩; (try clear mk4); have mk4 : Mark "CompEnd"   := ⟨trivial⟩; (try clear mk5); have mk5 : Mark "CompSrc"   := ⟨trivial⟩; repeat' (first | ((with_reducible refine unhalt (x := "call ref") ?_); first | ((with_reducible show wpAny _ _ (call (Value.ref 28) _) _ _ _); (with_unfolding_all refine' strcoll_use (by (k_asm)) (by (k_asm)) (by (k_asm)) (by (k_asm)) (by (ktr_room)) (by (ktr_units)) ?_); (k_whole); (intro t9 h9 tk9 F9 N9)) | (clear mk0; walk1; all_goals (try (with_reducible refine addMark (x := "call ref") fun mk0 => ?_)))) | ((with_reducible refine unhalt (x := "exec Assign cons ListComp") ?_); first | ((refine' Assign_cell (by k_asm) (by rfl) rfl (by rfl) (by rfl) (by rfl) (by decide) (by rfl) (by decide) (by rfl) (by rfl) ?_); (k_whole)) | (clear mk1; walk1; all_goals (try (with_reducible refine addMark (x := "exec Assign cons ListComp") fun mk1 => ?_)))) | ((with_reducible refine unhalt (x := "CellSrc") ?_); first | ((refine halt2 ?_)) | (clear mk2; walk1; all_goals (try (with_reducible refine addMark (x := "CellSrc") fun mk2 => ?_)))) | ((with_reducible refine unhalt (x := "eval ListComp") ?_); first | ((refine' LCg.ListComp_U (by k_asm) (by rfl) (by decide) (by rfl) (by decide) (by rfl) ?_); (k_whole)) | (clear mk3; walk1; all_goals (try (with_reducible refine addMark (x := "eval ListComp") fun mk3 => ?_)))) | ((with_reducible refine unhalt (x := "CompEnd") ?_); first | ((refine halt2 ?_)) | (clear mk4; walk1; all_goals (try (with_reducible refine addMark (x := "CompEnd") fun mk4 => ?_)))) | ((with_reducible refine unhalt (x := "CompSrc") ?_); first | ((refine halt2 ?_)) | (clear mk5; walk1; all_goals (try (with_reducible refine addMark (x := "CompSrc") fun mk5 => ?_)))) | (k_unfold; (try dsimp only)) | (k_end; kc_close) | walk1 | (dsimp only; walk1) | (leave1; (try dsimp only)) | fail "no step"))
      unfold Halt2
      exact LCg.CompEnd.intro (by assumption) (by assumption) _ (fun _ h => h) off10 (.inr ⟨_, .head _, rfl, _, rfl⟩) ⟨rfl, ints_next hz (rowT_at hy.h hxe)⟩
    case fin2 =>
      intro zs hz
      have e6 : (rowT (six c0 c1 c2 c3) i).take 6 = rowT (six c0 c1 c2 c3) i := rfl
      rw [show (List.toArray [Value.str (Str.ofString "") s.toks, Value.str c0 k0, Value.str c1 k1, Value.str c2 k2, Value.str c3 k3, Value.str (Txt.mul c3 2) tq]).size = 6 from rfl, e6] at hz
      clear Fa Na
      intro D3 h3 tk3 F11 N11 off11
      have o11 := off1_mem off11
      refine ⟨h3, _, (rl ++ [(D3, LCg.lst zs)]) ++ [(DL, W.listOf (List.toArray [Value.str (Str.ofString "") s.toks, Value.str c0 k0, Value.str c1 k1, Value.str c2 k2, Value.str c3 k3, Value.str (Txt.mul c3 2) tq]) 0), (L + 1 + 1 + 1 + 1 + 1, oln), (117, tabObj ps)], rfl, F11, fun p hp => ?_, fun p hp => ?_, rl ++ [(D3, LCg.lst zs)], rfl, ?_, ?_⟩
      · rcases List.mem_cons.mp hp with rfl | hp
        · exact N11 _ (by k_mem)
        rcases List.mem_cons.mp hp with rfl | hp
        · exact N11 _ (by k_mem)
        rcases List.mem_cons.mp hp with rfl | hp
        · exact N11 _ (by k_mem)
        rcases List.mem_cons.mp hp with rfl | hp
        · exact N11 _ (by k_mem)
        rcases List.mem_append.mp hp with hp | hp
        · rcases List.mem_append.mp hp with hp | hp
          · exact N11 p (.tail _ (.tail _ (.tail _ (.tail _ (.tail _ (.tail _ (.tail _ (.tail _ (.tail _ (List.mem_append_left _ hp))))))))))
          · rw [List.mem_singleton.mp hp]; exact N11 _ (.head _)
        · exact N11 p (.tail _ (.tail _ (.tail _ (.tail _ (.tail _ (.tail _ (.tail _ (.tail _ (.tail _ (List.mem_append_right _ hp))))))))))
      · rcases List.mem_append.mp hp with hp | hp
        · rcases List.mem_append.mp hp with hp | hp
          · exact off p (List.mem_append_left _ hp)
          · rw [List.mem_singleton.mp hp]
            exact ⟨Ne.symm (o11 (I, oI) (by k_mem)), Ne.symm (o11 (C, oC) (by k_mem)), Ne.symm (o11 (D, LCg.lst ys) (by k_mem)), Ne.symm (o11 (c, oc) (by k_mem))⟩
        · exact off p (List.mem_append_right _ hp)
      · rw [told_next hxi]
        exact hr.snoc hz
      · intro p hp q hq
        rcases List.mem_append.mp hp with hp | hp
        · exact hoff p hp q hq
        · rw [List.mem_singleton.mp hp]
          exact Ne.symm (o11 q (.tail _ (.tail _ (.tail _ (.tail _ (.tail _ (.tail _ (.tail _ (.tail _ (List.mem_append_right _ hq))))))))))
  case fin =>
    rintro ys live ⟨rl, rfl, hr, hoff⟩ TD h tk F8 N8 off8
    have e6 : (toldT (six c0 c1 c2 c3)).take 6 = toldT (six c0 c1 c2 c3) := rfl
    rw [show (List.toArray [Value.str (Str.ofString "") s.toks, Value.str c0 k0, Value.str c1 k1, Value.str c2 k2, Value.str c3 k3, Value.str (Txt.mul c3 2) tq]).size = 6 from rfl, e6] at hr
    refine hn9 TD ys rl _ h tk F8 (fun p hp => ?_) hr
    rcases List.mem_cons.mp hp with rfl | hp
    · exact N8 _ (.head _)
    rcases List.mem_cons.mp hp with rfl | hp
    · exact N8 _ (.tail _ (List.mem_append_right _ (.tail _ (.tail _ (.head _)))))
    · exact N8 _ (.tail _ (List.mem_append_left _ hp))
end Mine
end
/-! SG -/
section
open PySem PySem.W PySem.Spec PySem.Calls PyProof.Rows PyProof.Rows.LCg
set_option maxRecDepth 100000
set_option maxHeartbeats 0
namespace Mine
theorem in_false {prog : Program} {w : World} {A : Around} {E : Value → Shared → Prop} {s : Shared} {h₀ : Heap} {L l : Addr} {news : List (Addr × Obj)} {Q : Value → Shared → Prop} {vs : List Value} {n : Nat}
    (N : News h₀ L s.heap news) (hm : (l, W.listOf vs.toArray n) ∈ news) (hb : ∀ v ∈ vs, v = .bool false) (h : Q (.bool false) s) : wpAny (model prog w) A (compareOp .In (.bool true) (.ref l)) Q E s := by
  refine in_bools N hm (fun v hv => ⟨false, hb v hv⟩) ?_
  have e : anyV vs = false := by
    unfold anyV
    rw [List.any_eq_false]
    intro v hv
    rw [hb v hv]
    decide
  rw [e]; exact h
def dueT : List (List Int) := (List.range 6).map fun s => List.replicate s 1 ++ [0] ++ List.replicate (5 - s) (-1)
theorem eq_rowsI {prog : Program} {w : World} {A : Around} {E : Value → Shared → Prop} {s : Shared} {h₀ : Heap} {L a b : Addr} {news : List (Addr × Obj)} {Q : Value → Shared → Prop} {vs us : List Value} {rl rl2 : List (Addr × Obj)} {ls : List (List Int)} {n1 n2 : Nat}
    (N : News h₀ L s.heap news) (ha : (a, W.listOf vs.toArray n1) ∈ news) (hb : (b, W.listOf us.toArray n2) ∈ news) (h1 : RowsI vs rl ls) (h2 : RowsI us rl2 ls) (s1 : ∀ p ∈ rl, p ∈ news) (s2 : ∀ p ∈ rl2, p ∈ news) (hu : A.units + 64 < cLine)
    (h : Q (.bool true) s) : wpAny (model prog w) A (compareOp .Eq (.ref a) (.ref b)) Q E s := by
  have hlen : vs.length = us.length := h1.len.trans h2.len.symm
  have hall : ∀ n, ((List.range n).all fun _ => true) = true := fun n => List.all_eq_true.mpr fun _ _ => rfl
  refine SeqAt.eq_listAt (e := fun _ => true) ⟨_, (N _ ha).1, rfl, _, rfl⟩ ⟨_, (N _ hb).1, rfl, _, rfl⟩ (by simp [hlen]) (by omega) (fun j hj1 hj2 => ?_) (by rw [hall]; exact h)
  obtain ⟨r1, v1, e1, z1, q1, m1, i1, l1⟩ := h1.at_ (show vs[j]? = some (vs.toArray[j]) by simp at hj1 ⊢)
  obtain ⟨r2, v2, e2, z2, q2, m2, i2, l2⟩ := h2.at_ (show us[j]? = some (us.toArray[j]) by simp at hj2 ⊢)
  have ez : z1 = z2 := Option.some.inj (l1.symm.trans l2)
  subst ez
  rw [q1, q2]
  by_cases hr : r1 = r2
  · subst hr
    exact SeqAt.EqAt.same _
  have o1 := (N _ (s1 _ m1)).1
  have o2 := (N _ (s2 _ m2)).1
  have key : SeqAt.RcAt A.in1 s (.ref r1) (.ref r2) ((List.range v1.toArray.size).all fun _ => true) := by
    refine SeqAt.RcAt.lists (e := fun _ => true) ⟨_, o1, rfl, _, rfl⟩ ⟨_, o2, rfl, _, rfl⟩ (by simp [i1.length, i2.length]) ?_ (fun i hi1 hi2 => ?_)
    · show A.units + 1 < cLine
      omega
    · obtain ⟨x1, t1, p1, y1⟩ := ints_at i1 (show v1[i]? = some (v1.toArray[i]) by simp at hi1 ⊢)
      obtain ⟨x2, t2, p2, y2⟩ := ints_at i2 (show v2[i]? = some (v2.toArray[i]) by simp at hi2 ⊢)
      have ex : x1 = x2 := Option.some.inj (y1.symm.trans y2)
      subst ex
      rw [p1, p2]
      have := SeqAt.EqAt.int_int (A := A.in1.in1) (s := s) x1 t1 x1 t2
      simpa using this
  rw [hall] at key
  exact SeqAt.EqAt.of_refs hr key
theorem stageG {w : World} {loose : List Str} {p : Program} {mean : ExcName → Option Value} {mg mb : Str → Option Value}
  {dp un : Nat} {fr : Option (List Env)} {gd : Option (List Code)} {h₀ : Heap} {s : Shared} {Q : Flow → Shared → Prop} {E : Value → Shared → Prop} {L fa TD : Addr} {cd : Value} {m : Str → Option Value}
  {refs : List Value} {rl : List (Addr × Obj)} {xs6 : List Str} {ps : Array Value}
  (T : Top p loose mean mg mb h₀)
  (F : Fr h₀ L s.heap (fun y => if y = Str.ofString "told" then some (.ref TD) else m y))
  (N : News h₀ L s.heap ((TD, LCg.lst refs) :: (117, tabObj ps) :: rl)) (hrl : RowsI refs rl (toldT xs6)) (h6 : xs6.length = 6) (heq : toldT xs6 = dueT)
  (hdp : dp + 12 < recursionLimit) (hu : un + 100 < cLine)
  (hret : ∀ (m' : Str → Option Value) (h' : Heap) (tk : Nat), Fr h₀ L h' m' → News h₀ L h' [(117, tabObj ps)] → Q (.ret (.bool true)) { s with heap := h', toks := tk }) :
   (KK w.params).In h₀ → wpAny (model (RW.row.toRowW.prog) w) (Rm dp un fr gd) (execs (lawRec.body.drop 21) (envOfC (Str.ofString "law") lawRec.scope L fa cd)) Q E s := by
  k_fill
  intro X₀
  repeat (conv in lawRec.scope => whnf)
  conv in lawRec.body.drop 21 => whnf
  ((try clear mk0); have mk0 : Mark "compareOp In bool ref"   := ⟨trivial⟩; (try clear mk1); have mk1 : Mark "InEnd"   := ⟨trivial⟩; (try clear mk2); have mk2 : Mark "In2"   := ⟨trivial⟩; (try clear mk3); have mk3 : Mark "TwoSrc"   := ⟨trivial⟩; (try clear mk4); have mk4 : Mark "eval ListComp"   := ⟨trivial⟩; (try clear mk5); have mk5 : Mark "CompEnd"   := ⟨trivial⟩; (try clear mk6); have mk6 : Mark "CompSrc"   := ⟨trivial⟩; repeat' (first | ((with_reducible refine unhalt (x := "compareOp In bool ref") ?_); first | ((refine' in_false (by k_asm) (by k_mem) (by assumption) ?_); (k_whole)) | (clear mk0; walk1; all_goals (try (with_reducible refine addMark (x := "compareOp In bool ref") fun mk0 => ?_)))) | ((with_reducible refine unhalt (x := "InEnd") ?_); first | ((refine halt2 ?_)) | (clear mk1; walk1; all_goals (try (with_reducible refine addMark (x := "InEnd") fun mk1 => ?_)))) | ((with_reducible refine unhalt (x := "In2") ?_); first | ((refine halt2 ?_)) | (clear mk2; walk1; all_goals (try (with_reducible refine addMark (x := "In2") fun mk2 => ?_)))) | ((with_reducible refine unhalt (x := "TwoSrc") ?_); first | ((refine halt2 ?_)) | (clear mk3; walk1; all_goals (try (with_reducible refine addMark (x := "TwoSrc") fun mk3 => ?_)))) | ((with_reducible refine unhalt (x := "eval ListComp") ?_); first | ((with_reducible show wpAny _ _ (eval (PySem.Expr.ListComp _ [_, _] _ _) _) _ _ _); (refine' ListComp_two (by k_asm) rfl (by rfl) (by decide) (by rfl) (by decide) (by rfl) (by rfl) (by decide) ?_); (k_whole)) | ((with_reducible show wpAny _ _ (eval (PySem.Expr.ListComp _ [_] _ _) _) _ _ _); (refine' LCg.ListComp_U (by k_asm) (by rfl) (by decide) (by rfl) (by decide) (by rfl) ?_); (k_whole)) | (clear mk4; walk1; all_goals (try (with_reducible refine addMark (x := "eval ListComp") fun mk4 => ?_)))) | ((with_reducible refine unhalt (x := "CompEnd") ?_); first | ((refine halt2 ?_)) | (clear mk5; walk1; all_goals (try (with_reducible refine addMark (x := "CompEnd") fun mk5 => ?_)))) | ((with_reducible refine unhalt (x := "CompSrc") ?_); first | ((refine halt2 ?_)) | (clear mk6; walk1; all_goals (try (with_reducible refine addMark (x := "CompSrc") fun mk6 => ?_)))) | (k_unfold; (try dsimp only)) | (k_end; kc_close) | walk1 | (dsimp only; walk1) | (leave1; (try dsimp only)) | fail "no step"))
  unfold Halt2
  rename Fr _ _ _ _ => F5
  rename News _ _ _ _ => N5
  have hr6 : refs.length = 6 := by rw [hrl.len]; simp [toldT, h6]
  refine ⟨TD, refs.toArray, refs.length, (TD, LCg.lst refs) :: (117, tabObj ps) :: rl, fun i ys live => live = (TD, LCg.lst refs) :: (117, tabObj ps) :: rl ∧ (∀ y ∈ ys, y = .bool false) ∧ ys.length = 6 * i, rfl, F5, N5, List.mem_cons.mpr (.inl rfl), ⟨rfl, (fun _ h => nomatch h), rfl⟩, ?_, ?_, ?_⟩
  · rintro i ys live ⟨rfl, _, _⟩
    exact List.mem_cons.mpr (.inl rfl)
  · rintro i ys live v I oI C oC D m₂ h tk E' hv ⟨rfl, hys, hyl⟩ hC hx F2 N2 off ne
    obtain ⟨r, vals, e9, zs, rfl, hmem, hz, hzs⟩ := hrl.at_ (show refs[i]? = some v by simpa using hv)
    have hzl : vals.length = 6 := by
      rw [hz.length]
      obtain ⟨j, _, rfl⟩ := List.mem_map.mp (List.mem_of_getElem? hzs)
      simp [rowT, h6]
    have hi : i < 6 := by
      have := (List.getElem?_eq_some_iff.mp hzs).1
      simpa [toldT, h6] using this
    clear F5 N5 hv hzs
    ((try clear mk0); have mk0 : Mark "compareOp In bool ref"   := ⟨trivial⟩; (try clear mk1); have mk1 : Mark "InEnd"   := ⟨trivial⟩; (try clear mk2); have mk2 : Mark "In2"   := ⟨trivial⟩; (try clear mk3); have mk3 : Mark "TwoSrc"   := ⟨trivial⟩; (try clear mk4); have mk4 : Mark "eval ListComp"   := ⟨trivial⟩; (try clear mk5); have mk5 : Mark "CompEnd"   := ⟨trivial⟩; (try clear mk6); have mk6 : Mark "CompSrc"   := ⟨trivial⟩; repeat' (first | ((with_reducible refine unhalt (x := "compareOp In bool ref") ?_); first | ((refine' in_false (by k_asm) (by k_mem) (by assumption) ?_); (k_whole)) | (clear mk0; walk1; all_goals (try (with_reducible refine addMark (x := "compareOp In bool ref") fun mk0 => ?_)))) | ((with_reducible refine unhalt (x := "InEnd") ?_); first | ((refine halt2 ?_)) | (clear mk1; walk1; all_goals (try (with_reducible refine addMark (x := "InEnd") fun mk1 => ?_)))) | ((with_reducible refine unhalt (x := "In2") ?_); first | ((refine halt2 ?_)) | (clear mk2; walk1; all_goals (try (with_reducible refine addMark (x := "In2") fun mk2 => ?_)))) | ((with_reducible refine unhalt (x := "TwoSrc") ?_); first | ((refine halt2 ?_)) | (clear mk3; walk1; all_goals (try (with_reducible refine addMark (x := "TwoSrc") fun mk3 => ?_)))) | ((with_reducible refine unhalt (x := "eval ListComp") ?_); first | ((with_reducible show wpAny _ _ (eval (PySem.Expr.ListComp _ [_, _] _ _) _) _ _ _); (refine' ListComp_two (by k_asm) rfl (by rfl) (by decide) (by rfl) (by decide) (by rfl) (by rfl) (by decide) ?_); (k_whole)) | ((with_reducible show wpAny _ _ (eval (PySem.Expr.ListComp _ [_] _ _) _) _ _ _); (refine' LCg.ListComp_U (by k_asm) (by rfl) (by decide) (by rfl) (by decide) (by rfl) ?_); (k_whole)) | (clear mk4; walk1; all_goals (try (with_reducible refine addMark (x := "eval ListComp") fun mk4 => ?_)))) | ((with_reducible refine unhalt (x := "CompEnd") ?_); first | ((refine halt2 ?_)) | (clear mk5; walk1; all_goals (try (with_reducible refine addMark (x := "CompEnd") fun mk5 => ?_)))) | ((with_reducible refine unhalt (x := "CompSrc") ?_); first | ((refine halt2 ?_)) | (clear mk6; walk1; all_goals (try (with_reducible refine addMark (x := "CompSrc") fun mk6 => ?_)))) | (k_unfold; (try dsimp only)) | (k_end; kc_close) | walk1 | (dsimp only; walk1) | (leave1; (try dsimp only)) | fail "no step"))
    unfold Halt2
    refine ⟨h, _, 6, fun j v => vals.toArray[j]? = some v, fun j ys live => live = (TD, LCg.lst refs) :: (117, tabObj ps) :: rl ∧ (∀ y ∈ ys, y = .bool false) ∧ ys.length = 6 * i + j ∧ j ≤ 6, ys, _, rfl, F2, N2, off, ⟨rfl, hys, hyl, by omega⟩, by rw [PySem.sizeLine_eq]; omega, ?_, ?_, .inl ⟨r, vals.toArray, e9, rfl, by rw [List.size_toArray, hzl], fun _ _ h => h, ?_⟩, ?_⟩
    · rintro j ys live ⟨_, _, hl, hj⟩
      rw [PySem.sizeLine_eq]
      omega
    · rintro ys live ⟨h1, h2, h3, _⟩
      exact ⟨h1, h2, by omega⟩
    · rintro j ys live ⟨rfl, _, _⟩
      exact .tail _ (.tail _ hmem)
    · rintro j ys2 live2 v2 J oJ oC2 m3 h3 tk3 E3 hj ⟨rfl, hys2, hyl2, hj6⟩ hP hC3 hrow hspot F4 N4 off4 ne4
      obtain ⟨n, t, rfl, _⟩ := ints_at hz (show vals[j]? = some v2 by simpa using hP)
      clear F2 N2 hP
      ((try clear mk0); have mk0 : Mark "compareOp In bool ref"   := ⟨trivial⟩; (try clear mk1); have mk1 : Mark "InEnd"   := ⟨trivial⟩; (try clear mk2); have mk2 : Mark "In2"   := ⟨trivial⟩; (try clear mk3); have mk3 : Mark "TwoSrc"   := ⟨trivial⟩; (try clear mk4); have mk4 : Mark "eval ListComp"   := ⟨trivial⟩; (try clear mk5); have mk5 : Mark "CompEnd"   := ⟨trivial⟩; (try clear mk6); have mk6 : Mark "CompSrc"   := ⟨trivial⟩; repeat' (first | ((with_reducible refine unhalt (x := "compareOp In bool ref") ?_); first | ((refine' in_false (by k_asm) (by k_mem) (by assumption) ?_); (k_whole)) | (clear mk0; walk1; all_goals (try (with_reducible refine addMark (x := "compareOp In bool ref") fun mk0 => ?_)))) | ((with_reducible refine unhalt (x := "InEnd") ?_); first | ((refine halt2 ?_)) | (clear mk1; walk1; all_goals (try (with_reducible refine addMark (x := "InEnd") fun mk1 => ?_)))) | ((with_reducible refine unhalt (x := "In2") ?_); first | ((refine halt2 ?_)) | (clear mk2; walk1; all_goals (try (with_reducible refine addMark (x := "In2") fun mk2 => ?_)))) | ((with_reducible refine unhalt (x := "TwoSrc") ?_); first | ((refine halt2 ?_)) | (clear mk3; walk1; all_goals (try (with_reducible refine addMark (x := "TwoSrc") fun mk3 => ?_)))) | ((with_reducible refine unhalt (x := "eval ListComp") ?_); first | ((with_reducible show wpAny _ _ (eval (PySem.Expr.ListComp _ [_, _] _ _) _) _ _ _); (refine' ListComp_two (by k_asm) rfl (by rfl) (by decide) (by rfl) (by decide) (by rfl) (by rfl) (by decide) ?_); (k_whole)) | ((with_reducible show wpAny _ _ (eval (PySem.Expr.ListComp _ [_] _ _) _) _ _ _); (refine' LCg.ListComp_U (by k_asm) (by rfl) (by decide) (by rfl) (by decide) (by rfl) ?_); (k_whole)) | (clear mk4; walk1; all_goals (try (with_reducible refine addMark (x := "eval ListComp") fun mk4 => ?_)))) | ((with_reducible refine unhalt (x := "CompEnd") ?_); first | ((refine halt2 ?_)) | (clear mk5; walk1; all_goals (try (with_reducible refine addMark (x := "CompEnd") fun mk5 => ?_)))) | ((with_reducible refine unhalt (x := "CompSrc") ?_); first | ((refine halt2 ?_)) | (clear mk6; walk1; all_goals (try (with_reducible refine addMark (x := "CompSrc") fun mk6 => ?_)))) | (k_unfold; (try dsimp only)) | (k_end; kc_close) | walk1 | (dsimp only; walk1) | (leave1; (try dsimp only)) | fail "no step"))
      unfold Halt2
      refine ⟨h3, _, _, rfl, F4, N4, off4, rfl, fun y hy => ?_, by rw [List.length_append, hyl2]; rfl, by omega⟩
      rcases List.mem_append.mp hy with hy | hy
      · exact hys2 y hy
      · exact List.mem_singleton.mp hy
  · rintro ys live ⟨rfl, hys, hyl⟩ D h tk F2 N2 off2
    clear F5 N5
    ((try clear mk0); have mk0 : Mark "compareOp In bool ref"   := ⟨trivial⟩; (try clear mk1); have mk1 : Mark "InEnd"   := ⟨trivial⟩; (try clear mk2); have mk2 : Mark "In2"   := ⟨trivial⟩; (try clear mk3); have mk3 : Mark "TwoSrc"   := ⟨trivial⟩; (try clear mk4); have mk4 : Mark "eval ListComp"   := ⟨trivial⟩; (try clear mk5); have mk5 : Mark "CompEnd"   := ⟨trivial⟩; (try clear mk6); have mk6 : Mark "CompSrc"   := ⟨trivial⟩; repeat' (first | ((with_reducible refine unhalt (x := "compareOp In bool ref") ?_); first | ((refine' in_false (by k_asm) (by k_mem) (by assumption) ?_); (k_whole)) | (clear mk0; walk1; all_goals (try (with_reducible refine addMark (x := "compareOp In bool ref") fun mk0 => ?_)))) | ((with_reducible refine unhalt (x := "InEnd") ?_); first | ((refine halt2 ?_)) | (clear mk1; walk1; all_goals (try (with_reducible refine addMark (x := "InEnd") fun mk1 => ?_)))) | ((with_reducible refine unhalt (x := "In2") ?_); first | ((refine halt2 ?_)) | (clear mk2; walk1; all_goals (try (with_reducible refine addMark (x := "In2") fun mk2 => ?_)))) | ((with_reducible refine unhalt (x := "TwoSrc") ?_); first | ((refine halt2 ?_)) | (clear mk3; walk1; all_goals (try (with_reducible refine addMark (x := "TwoSrc") fun mk3 => ?_)))) | ((with_reducible refine unhalt (x := "eval ListComp") ?_); first | ((with_reducible show wpAny _ _ (eval (PySem.Expr.ListComp _ [_, _] _ _) _) _ _ _); (refine' ListComp_two (by k_asm) rfl (by rfl) (by decide) (by rfl) (by decide) (by rfl) (by rfl) (by decide) ?_); (k_whole)) | ((with_reducible show wpAny _ _ (eval (PySem.Expr.ListComp _ [_] _ _) _) _ _ _); (refine' LCg.ListComp_U (by k_asm) (by rfl) (by decide) (by rfl) (by decide) (by rfl) ?_); (k_whole)) | (clear mk4; walk1; all_goals (try (with_reducible refine addMark (x := "eval ListComp") fun mk4 => ?_)))) | ((with_reducible refine unhalt (x := "CompEnd") ?_); first | ((refine halt2 ?_)) | (clear mk5; walk1; all_goals (try (with_reducible refine addMark (x := "CompEnd") fun mk5 => ?_)))) | ((with_reducible refine unhalt (x := "CompSrc") ?_); first | ((refine halt2 ?_)) | (clear mk6; walk1; all_goals (try (with_reducible refine addMark (x := "CompSrc") fun mk6 => ?_)))) | (k_unfold; (try dsimp only)) | (k_end; kc_close) | walk1 | (dsimp only; walk1) | (leave1; (try dsimp only)) | fail "no step"))
    unfold Halt2
    rename Fr _ _ _ _ => F6
    rename News _ _ _ _ => N6
    rename IsRange _ _ _ _ _ _ _ _ => hR
    refine LCg.CompSrc.range (n := 6) rfl F6 N6 hR rfl rfl (Nat.le_of_ble_eq_true rfl) ?_
    intro g'
    refine rest_inv (n := 6) (fun j zs live => ∃ rl2, live = rl2 ++ ((D, LCg.lst ys) :: (TD, LCg.lst refs) :: (117, tabObj ps) :: rl) ∧ RowsI zs rl2 (dueT.take j)) ?turn3 ?fin3 _ 0 [] _ (Nat.zero_add _) ⟨[], rfl, .nil⟩
    case turn3 =>
      rintro j zs live v I oI C oC D2 m₂ h2 tk2 E2 hj ⟨rl2, rfl, hr2⟩ ⟨t, rfl⟩ hC hx F7 N7 off7 ne7
      clear F6 N6 hR
      have hc : j = 0 ∨ j = 1 ∨ j = 2 ∨ j = 3 ∨ j = 4 ∨ j = 5 := by omega
      rcases hc with rfl | rfl | rfl | rfl | rfl | rfl
      · replace hx : m₂ (Str.ofString "spot") = some (.int 0 t) := hx
        ((try clear mk0); have mk0 : Mark "compareOp In bool ref"   := ⟨trivial⟩; (try clear mk1); have mk1 : Mark "InEnd"   := ⟨trivial⟩; (try clear mk2); have mk2 : Mark "In2"   := ⟨trivial⟩; (try clear mk3); have mk3 : Mark "TwoSrc"   := ⟨trivial⟩; (try clear mk4); have mk4 : Mark "eval ListComp"   := ⟨trivial⟩; (try clear mk5); have mk5 : Mark "CompEnd"   := ⟨trivial⟩; (try clear mk6); have mk6 : Mark "CompSrc"   := ⟨trivial⟩; repeat' (first | ((with_reducible refine unhalt (x := "compareOp In bool ref") ?_); first | ((refine' in_false (by k_asm) (by k_mem) (by assumption) ?_); (k_whole)) | (clear mk0; walk1; all_goals (try (with_reducible refine addMark (x := "compareOp In bool ref") fun mk0 => ?_)))) | ((with_reducible refine unhalt (x := "InEnd") ?_); first | ((refine halt2 ?_)) | (clear mk1; walk1; all_goals (try (with_reducible refine addMark (x := "InEnd") fun mk1 => ?_)))) | ((with_reducible refine unhalt (x := "In2") ?_); first | ((refine halt2 ?_)) | (clear mk2; walk1; all_goals (try (with_reducible refine addMark (x := "In2") fun mk2 => ?_)))) | ((with_reducible refine unhalt (x := "TwoSrc") ?_); first | ((refine halt2 ?_)) | (clear mk3; walk1; all_goals (try (with_reducible refine addMark (x := "TwoSrc") fun mk3 => ?_)))) | ((with_reducible refine unhalt (x := "eval ListComp") ?_); first | ((with_reducible show wpAny _ _ (eval (PySem.Expr.ListComp _ [_, _] _ _) _) _ _ _); (refine' ListComp_two (by k_asm) rfl (by rfl) (by decide) (by rfl) (by decide) (by rfl) (by rfl) (by decide) ?_); (k_whole)) | ((with_reducible show wpAny _ _ (eval (PySem.Expr.ListComp _ [_] _ _) _) _ _ _); (refine' LCg.ListComp_U (by k_asm) (by rfl) (by decide) (by rfl) (by decide) (by rfl) ?_); (k_whole)) | (clear mk4; walk1; all_goals (try (with_reducible refine addMark (x := "eval ListComp") fun mk4 => ?_)))) | ((with_reducible refine unhalt (x := "CompEnd") ?_); first | ((refine halt2 ?_)) | (clear mk5; walk1; all_goals (try (with_reducible refine addMark (x := "CompEnd") fun mk5 => ?_)))) | ((with_reducible refine unhalt (x := "CompSrc") ?_); first | ((refine halt2 ?_)) | (clear mk6; walk1; all_goals (try (with_reducible refine addMark (x := "CompSrc") fun mk6 => ?_)))) | (k_unfold; (try dsimp only)) | (k_end; kc_close) | walk1 | (dsimp only; walk1) | (leave1; (try dsimp only)) | fail "no step"))
        unfold Halt2
        rename Fr _ _ _ _ => F8
        rename News _ _ _ _ => N8
        rename_i Dz hz lz
        refine LCg.CompEnd.intro F8 N8 ((rl2 ++ [(Dz, W.listOf (List.toArray ?vals0) 0)]) ++ ((D, LCg.lst ys) :: (TD, LCg.lst refs) :: (117, tabObj ps) :: rl)) ?sub ?off trivial ⟨rl2 ++ [(Dz, W.listOf (List.toArray ?vals0) 0)], rfl, ?rows⟩
        case sub =>
          intro p hp
          rcases List.mem_cons.mp hp with rfl | hp
          · k_mem
          rcases List.mem_cons.mp hp with rfl | hp
          · k_mem
          rcases List.mem_cons.mp hp with rfl | hp
          · k_mem
          rcases List.mem_append.mp hp with hp | hp
          · rcases List.mem_append.mp hp with hp | hp
            · have hp2 := List.mem_append_left ((D, LCg.lst ys) :: (TD, LCg.lst refs) :: (117, tabObj ps) :: rl) hp
              repeat (first | exact hp2 | apply List.Mem.tail)
            · rw [List.mem_singleton.mp hp]; exact .head _
          · have hp2 := List.mem_append_right rl2 hp
            repeat (first | exact hp2 | apply List.Mem.tail)
        case off =>
          refine LCg.Off3.of fun p hp => ?_
          rcases List.mem_append.mp hp with hp | hp
          · rcases List.mem_append.mp hp with hp | hp
            · exact LCg.Off3.mem off7 p (List.mem_append_left _ hp)
            · rw [List.mem_singleton.mp hp]
              exact ⟨Nat.ne_of_gt (by omega), Nat.ne_of_gt (by omega), Nat.ne_of_gt (by omega)⟩
          · exact LCg.Off3.mem off7 p (List.mem_append_right _ hp)
        case rows => exact hr2.snoc (xs := [0, -1, -1, -1, -1, -1]) (.cons _ _ (.cons _ _ (.cons _ _ (.cons _ _ (.cons _ _ (.cons _ _ .nil))))))
      · replace hx : m₂ (Str.ofString "spot") = some (.int 1 t) := hx
        ((try clear mk0); have mk0 : Mark "compareOp In bool ref"   := ⟨trivial⟩; (try clear mk1); have mk1 : Mark "InEnd"   := ⟨trivial⟩; (try clear mk2); have mk2 : Mark "In2"   := ⟨trivial⟩; (try clear mk3); have mk3 : Mark "TwoSrc"   := ⟨trivial⟩; (try clear mk4); have mk4 : Mark "eval ListComp"   := ⟨trivial⟩; (try clear mk5); have mk5 : Mark "CompEnd"   := ⟨trivial⟩; (try clear mk6); have mk6 : Mark "CompSrc"   := ⟨trivial⟩; repeat' (first | ((with_reducible refine unhalt (x := "compareOp In bool ref") ?_); first | ((refine' in_false (by k_asm) (by k_mem) (by assumption) ?_); (k_whole)) | (clear mk0; walk1; all_goals (try (with_reducible refine addMark (x := "compareOp In bool ref") fun mk0 => ?_)))) | ((with_reducible refine unhalt (x := "InEnd") ?_); first | ((refine halt2 ?_)) | (clear mk1; walk1; all_goals (try (with_reducible refine addMark (x := "InEnd") fun mk1 => ?_)))) | ((with_reducible refine unhalt (x := "In2") ?_); first | ((refine halt2 ?_)) | (clear mk2; walk1; all_goals (try (with_reducible refine addMark (x := "In2") fun mk2 => ?_)))) | ((with_reducible refine unhalt (x := "TwoSrc") ?_); first | ((refine halt2 ?_)) | (clear mk3; walk1; all_goals (try (with_reducible refine addMark (x := "TwoSrc") fun mk3 => ?_)))) | ((with_reducible refine unhalt (x := "eval ListComp") ?_); first | ((with_reducible show wpAny _ _ (eval (PySem.Expr.ListComp _ [_, _] _ _) _) _ _ _); (refine' ListComp_two (by k_asm) rfl (by rfl) (by decide) (by rfl) (by decide) (by rfl) (by rfl) (by decide) ?_); (k_whole)) | ((with_reducible show wpAny _ _ (eval (PySem.Expr.ListComp _ [_] _ _) _) _ _ _); (refine' LCg.ListComp_U (by k_asm) (by rfl) (by decide) (by rfl) (by decide) (by rfl) ?_); (k_whole)) | (clear mk4; walk1; all_goals (try (with_reducible refine addMark (x := "eval ListComp") fun mk4 => ?_)))) | ((with_reducible refine unhalt (x := "CompEnd") ?_); first | ((refine halt2 ?_)) | (clear mk5; walk1; all_goals (try (with_reducible refine addMark (x := "CompEnd") fun mk5 => ?_)))) | ((with_reducible refine unhalt (x := "CompSrc") ?_); first | ((refine halt2 ?_)) | (clear mk6; walk1; all_goals (try (with_reducible refine addMark (x := "CompSrc") fun mk6 => ?_)))) | (k_unfold; (try dsimp only)) | (k_end; kc_close) | walk1 | (dsimp only; walk1) | (leave1; (try dsimp only)) | fail "no step"))
        unfold Halt2
        rename Fr _ _ _ _ => F8
        rename News _ _ _ _ => N8
        rename_i Dz hz lz
        refine LCg.CompEnd.intro F8 N8 ((rl2 ++ [(Dz, W.listOf (List.toArray ?vals1) 0)]) ++ ((D, LCg.lst ys) :: (TD, LCg.lst refs) :: (117, tabObj ps) :: rl)) ?sub ?off trivial ⟨rl2 ++ [(Dz, W.listOf (List.toArray ?vals1) 0)], rfl, ?rows⟩
        case sub =>
          intro p hp
          rcases List.mem_cons.mp hp with rfl | hp
          · k_mem
          rcases List.mem_cons.mp hp with rfl | hp
          · k_mem
          rcases List.mem_cons.mp hp with rfl | hp
          · k_mem
          rcases List.mem_append.mp hp with hp | hp
          · rcases List.mem_append.mp hp with hp | hp
            · have hp2 := List.mem_append_left ((D, LCg.lst ys) :: (TD, LCg.lst refs) :: (117, tabObj ps) :: rl) hp
              repeat (first | exact hp2 | apply List.Mem.tail)
            · rw [List.mem_singleton.mp hp]; exact .head _
          · have hp2 := List.mem_append_right rl2 hp
            repeat (first | exact hp2 | apply List.Mem.tail)
        case off =>
          refine LCg.Off3.of fun p hp => ?_
          rcases List.mem_append.mp hp with hp | hp
          · rcases List.mem_append.mp hp with hp | hp
            · exact LCg.Off3.mem off7 p (List.mem_append_left _ hp)
            · rw [List.mem_singleton.mp hp]
              exact ⟨Nat.ne_of_gt (by omega), Nat.ne_of_gt (by omega), Nat.ne_of_gt (by omega)⟩
          · exact LCg.Off3.mem off7 p (List.mem_append_right _ hp)
        case rows => exact hr2.snoc (xs := [1, 0, -1, -1, -1, -1]) (.cons _ _ (.cons _ _ (.cons _ _ (.cons _ _ (.cons _ _ (.cons _ _ .nil))))))
      · replace hx : m₂ (Str.ofString "spot") = some (.int 2 t) := hx
        ((try clear mk0); have mk0 : Mark "compareOp In bool ref"   := ⟨trivial⟩; (try clear mk1); have mk1 : Mark "InEnd"   := ⟨trivial⟩; (try clear mk2); have mk2 : Mark "In2"   := ⟨trivial⟩; (try clear mk3); have mk3 : Mark "TwoSrc"   := ⟨trivial⟩; (try clear mk4); have mk4 : Mark "eval ListComp"   := ⟨trivial⟩; (try clear mk5); have mk5 : Mark "CompEnd"   := ⟨trivial⟩; (try clear mk6); have mk6 : Mark "CompSrc"   := ⟨trivial⟩; repeat' (first | ((with_reducible refine unhalt (x := "compareOp In bool ref") ?_); first | ((refine' in_false (by k_asm) (by k_mem) (by assumption) ?_); (k_whole)) | (clear mk0; walk1; all_goals (try (with_reducible refine addMark (x := "compareOp In bool ref") fun mk0 => ?_)))) | ((with_reducible refine unhalt (x := "InEnd") ?_); first | ((refine halt2 ?_)) | (clear mk1; walk1; all_goals (try (with_reducible refine addMark (x := "InEnd") fun mk1 => ?_)))) | ((with_reducible refine unhalt (x := "In2") ?_); first | ((refine halt2 ?_)) | (clear mk2; walk1; all_goals (try (with_reducible refine addMark (x := "In2") fun mk2 => ?_)))) | ((with_reducible refine unhalt (x := "TwoSrc") ?_); first | ((refine halt2 ?_)) | (clear mk3; walk1; all_goals (try (with_reducible refine addMark (x := "TwoSrc") fun mk3 => ?_)))) | ((with_reducible refine unhalt (x := "eval ListComp") ?_); first | ((with_reducible show wpAny _ _ (eval (PySem.Expr.ListComp _ [_, _] _ _) _) _ _ _); (refine' ListComp_two (by k_asm) rfl (by rfl) (by decide) (by rfl) (by decide) (by rfl) (by rfl) (by decide) ?_); (k_whole)) | ((with_reducible show wpAny _ _ (eval (PySem.Expr.ListComp _ [_] _ _) _) _ _ _); (refine' LCg.ListComp_U (by k_asm) (by rfl) (by decide) (by rfl) (by decide) (by rfl) ?_); (k_whole)) | (clear mk4; walk1; all_goals (try (with_reducible refine addMark (x := "eval ListComp") fun mk4 => ?_)))) | ((with_reducible refine unhalt (x := "CompEnd") ?_); first | ((refine halt2 ?_)) | (clear mk5; walk1; all_goals (try (with_reducible refine addMark (x := "CompEnd") fun mk5 => ?_)))) | ((with_reducible refine unhalt (x := "CompSrc") ?_); first | ((refine halt2 ?_)) | (clear mk6; walk1; all_goals (try (with_reducible refine addMark (x := "CompSrc") fun mk6 => ?_)))) | (k_unfold; (try dsimp only)) | (k_end; kc_close) | walk1 | (dsimp only; walk1) | (leave1; (try dsimp only)) | fail "no step"))
        unfold Halt2
        rename Fr _ _ _ _ => F8
        rename News _ _ _ _ => N8
        rename_i Dz hz lz
        refine LCg.CompEnd.intro F8 N8 ((rl2 ++ [(Dz, W.listOf (List.toArray ?vals2) 0)]) ++ ((D, LCg.lst ys) :: (TD, LCg.lst refs) :: (117, tabObj ps) :: rl)) ?sub ?off trivial ⟨rl2 ++ [(Dz, W.listOf (List.toArray ?vals2) 0)], rfl, ?rows⟩
        case sub =>
          intro p hp
          rcases List.mem_cons.mp hp with rfl | hp
          · k_mem
          rcases List.mem_cons.mp hp with rfl | hp
          · k_mem
          rcases List.mem_cons.mp hp with rfl | hp
          · k_mem
          rcases List.mem_append.mp hp with hp | hp
          · rcases List.mem_append.mp hp with hp | hp
            · have hp2 := List.mem_append_left ((D, LCg.lst ys) :: (TD, LCg.lst refs) :: (117, tabObj ps) :: rl) hp
              repeat (first | exact hp2 | apply List.Mem.tail)
            · rw [List.mem_singleton.mp hp]; exact .head _
          · have hp2 := List.mem_append_right rl2 hp
            repeat (first | exact hp2 | apply List.Mem.tail)
        case off =>
          refine LCg.Off3.of fun p hp => ?_
          rcases List.mem_append.mp hp with hp | hp
          · rcases List.mem_append.mp hp with hp | hp
            · exact LCg.Off3.mem off7 p (List.mem_append_left _ hp)
            · rw [List.mem_singleton.mp hp]
              exact ⟨Nat.ne_of_gt (by omega), Nat.ne_of_gt (by omega), Nat.ne_of_gt (by omega)⟩
          · exact LCg.Off3.mem off7 p (List.mem_append_right _ hp)
        case rows => exact hr2.snoc (xs := [1, 1, 0, -1, -1, -1]) (.cons _ _ (.cons _ _ (.cons _ _ (.cons _ _ (.cons _ _ (.cons _ _ .nil))))))
      · replace hx : m₂ (Str.ofString "spot") = some (.int 3 t) := hx
        ((try clear mk0); have mk0 : Mark "compareOp In bool ref"   := ⟨trivial⟩; (try clear mk1); have mk1 : Mark "InEnd"   := ⟨trivial⟩; (try clear mk2); have mk2 : Mark "In2"   := ⟨trivial⟩; (try clear mk3); have mk3 : Mark "TwoSrc"   := ⟨trivial⟩; (try clear mk4); have mk4 : Mark "eval ListComp"   := ⟨trivial⟩; (try clear mk5); have mk5 : Mark "CompEnd"   := ⟨trivial⟩; (try clear mk6); have mk6 : Mark "CompSrc"   := ⟨trivial⟩; repeat' (first | ((with_reducible refine unhalt (x := "compareOp In bool ref") ?_); first | ((refine' in_false (by k_asm) (by k_mem) (by assumption) ?_); (k_whole)) | (clear mk0; walk1; all_goals (try (with_reducible refine addMark (x := "compareOp In bool ref") fun mk0 => ?_)))) | ((with_reducible refine unhalt (x := "InEnd") ?_); first | ((refine halt2 ?_)) | (clear mk1; walk1; all_goals (try (with_reducible refine addMark (x := "InEnd") fun mk1 => ?_)))) | ((with_reducible refine unhalt (x := "In2") ?_); first | ((refine halt2 ?_)) | (clear mk2; walk1; all_goals (try (with_reducible refine addMark (x := "In2") fun mk2 => ?_)))) | ((with_reducible refine unhalt (x := "TwoSrc") ?_); first | ((refine halt2 ?_)) | (clear mk3; walk1; all_goals (try (with_reducible refine addMark (x := "TwoSrc") fun mk3 => ?_)))) | ((with_reducible refine unhalt (x := "eval ListComp") ?_); first | ((with_reducible show wpAny _ _ (eval (PySem.Expr.ListComp _ [_, _] _ _) _) _ _ _); (refine' ListComp_two (by k_asm) rfl (by rfl) (by decide) (by rfl) (by decide) (by rfl) (by rfl) (by decide) ?_); (k_whole)) | ((with_reducible show wpAny _ _ (eval (PySem.Expr.ListComp _ [_] _ _) _) _ _ _); (refine' LCg.ListComp_U (by k_asm) (by rfl) (by decide) (by rfl) (by decide) (by rfl) ?_); (k_whole)) | (clear mk4; walk1; all_goals (try (with_reducible refine addMark (x := "eval ListComp") fun mk4 => ?_)))) | ((with_reducible refine unhalt (x := "CompEnd") ?_); first | ((refine halt2 ?_)) | (clear mk5; walk1; all_goals (try (with_reducible refine addMark (x := "CompEnd") fun mk5 => ?_)))) | ((with_reducible refine unhalt (x := "CompSrc") ?_); first | ((refine halt2 ?_)) | (clear mk6; walk1; all_goals (try (with_reducible refine addMark (x := "CompSrc") fun mk6 => ?_)))) | (k_unfold; (try dsimp only)) | (k_end; kc_close) | walk1 | (dsimp only; walk1) | (leave1; (try dsimp only)) | fail "no step"))
        unfold Halt2
        rename Fr _ _ _ _ => F8
        rename News _ _ _ _ => N8
        rename_i Dz hz lz
        refine LCg.CompEnd.intro F8 N8 ((rl2 ++ [(Dz, W.listOf (List.toArray ?vals3) 0)]) ++ ((D, LCg.lst ys) :: (TD, LCg.lst refs) :: (117, tabObj ps) :: rl)) ?sub ?off trivial ⟨rl2 ++ [(Dz, W.listOf (List.toArray ?vals3) 0)], rfl, ?rows⟩
        case sub =>
          intro p hp
          rcases List.mem_cons.mp hp with rfl | hp
          · k_mem
          rcases List.mem_cons.mp hp with rfl | hp
          · k_mem
          rcases List.mem_cons.mp hp with rfl | hp
          · k_mem
          rcases List.mem_append.mp hp with hp | hp
          · rcases List.mem_append.mp hp with hp | hp
            · have hp2 := List.mem_append_left ((D, LCg.lst ys) :: (TD, LCg.lst refs) :: (117, tabObj ps) :: rl) hp
              repeat (first | exact hp2 | apply List.Mem.tail)
            · rw [List.mem_singleton.mp hp]; exact .head _
          · have hp2 := List.mem_append_right rl2 hp
            repeat (first | exact hp2 | apply List.Mem.tail)
        case off =>
          refine LCg.Off3.of fun p hp => ?_
          rcases List.mem_append.mp hp with hp | hp
          · rcases List.mem_append.mp hp with hp | hp
            · exact LCg.Off3.mem off7 p (List.mem_append_left _ hp)
            · rw [List.mem_singleton.mp hp]
              exact ⟨Nat.ne_of_gt (by omega), Nat.ne_of_gt (by omega), Nat.ne_of_gt (by omega)⟩
          · exact LCg.Off3.mem off7 p (List.mem_append_right _ hp)
        case rows => exact hr2.snoc (xs := [1, 1, 1, 0, -1, -1]) (.cons _ _ (.cons _ _ (.cons _ _ (.cons _ _ (.cons _ _ (.cons _ _ .nil))))))
      · replace hx : m₂ (Str.ofString "spot") = some (.int 4 t) := hx
        ((try clear mk0); have mk0 : Mark "compareOp In bool ref"   := ⟨trivial⟩; (try clear mk1); have mk1 : Mark "InEnd"   := ⟨trivial⟩; (try clear mk2); have mk2 : Mark "In2"   := ⟨trivial⟩; (try clear mk3); have mk3 : Mark "TwoSrc"   := ⟨trivial⟩; (try clear mk4); have mk4 : Mark "eval ListComp"   := ⟨trivial⟩; (try clear mk5); have mk5 : Mark "CompEnd"   := ⟨trivial⟩; (try clear mk6); have mk6 : Mark "CompSrc"   := ⟨trivial⟩; repeat' (first | ((with_reducible refine unhalt (x := "compareOp In bool ref") ?_); first | ((refine' in_false (by k_asm) (by k_mem) (by assumption) ?_); (k_whole)) | (clear mk0; walk1; all_goals (try (with_reducible refine addMark (x := "compareOp In bool ref") fun mk0 => ?_)))) | ((with_reducible refine unhalt (x := "InEnd") ?_); first | ((refine halt2 ?_)) | (clear mk1; walk1; all_goals (try (with_reducible refine addMark (x := "InEnd") fun mk1 => ?_)))) | ((with_reducible refine unhalt (x := "In2") ?_); first | ((refine halt2 ?_)) | (clear mk2; walk1; all_goals (try (with_reducible refine addMark (x := "In2") fun mk2 => ?_)))) | ((with_reducible refine unhalt (x := "TwoSrc") ?_); first | ((refine halt2 ?_)) | (clear mk3; walk1; all_goals (try (with_reducible refine addMark (x := "TwoSrc") fun mk3 => ?_)))) | ((with_reducible refine unhalt (x := "eval ListComp") ?_); first | ((with_reducible show wpAny _ _ (eval (PySem.Expr.ListComp _ [_, _] _ _) _) _ _ _); (refine' ListComp_two (by k_asm) rfl (by rfl) (by decide) (by rfl) (by decide) (by rfl) (by rfl) (by decide) ?_); (k_whole)) | ((with_reducible show wpAny _ _ (eval (PySem.Expr.ListComp _ [_] _ _) _) _ _ _); (refine' LCg.ListComp_U (by k_asm) (by rfl) (by decide) (by rfl) (by decide) (by rfl) ?_); (k_whole)) | (clear mk4; walk1; all_goals (try (with_reducible refine addMark (x := "eval ListComp") fun mk4 => ?_)))) | ((with_reducible refine unhalt (x := "CompEnd") ?_); first | ((refine halt2 ?_)) | (clear mk5; walk1; all_goals (try (with_reducible refine addMark (x := "CompEnd") fun mk5 => ?_)))) | ((with_reducible refine unhalt (x := "CompSrc") ?_); first | ((refine halt2 ?_)) | (clear mk6; walk1; all_goals (try (with_reducible refine addMark (x := "CompSrc") fun mk6 => ?_)))) | (k_unfold; (try dsimp only)) | (k_end; kc_close) | walk1 | (dsimp only; walk1) | (leave1; (try dsimp only)) | fail "no step"))
        unfold Halt2
        rename Fr _ _ _ _ => F8
        rename News _ _ _ _ => N8
        rename_i Dz hz lz
        refine LCg.CompEnd.intro F8 N8 ((rl2 ++ [(Dz, W.listOf (List.toArray ?vals4) 0)]) ++ ((D, LCg.lst ys) :: (TD, LCg.lst refs) :: (117, tabObj ps) :: rl)) ?sub ?off trivial ⟨rl2 ++ [(Dz, W.listOf (List.toArray ?vals4) 0)], rfl, ?rows⟩
        case sub =>
          intro p hp
          rcases List.mem_cons.mp hp with rfl | hp
          · k_mem
          rcases List.mem_cons.mp hp with rfl | hp
          · k_mem
          rcases List.mem_cons.mp hp with rfl | hp
          · k_mem
          rcases List.mem_append.mp hp with hp | hp
          · rcases List.mem_append.mp hp with hp | hp
            · have hp2 := List.mem_append_left ((D, LCg.lst ys) :: (TD, LCg.lst refs) :: (117, tabObj ps) :: rl) hp
              repeat (first | exact hp2 | apply List.Mem.tail)
            · rw [List.mem_singleton.mp hp]; exact .head _
          · have hp2 := List.mem_append_right rl2 hp
            repeat (first | exact hp2 | apply List.Mem.tail)
        case off =>
          refine LCg.Off3.of fun p hp => ?_
          rcases List.mem_append.mp hp with hp | hp
          · rcases List.mem_append.mp hp with hp | hp
            · exact LCg.Off3.mem off7 p (List.mem_append_left _ hp)
            · rw [List.mem_singleton.mp hp]
              exact ⟨Nat.ne_of_gt (by omega), Nat.ne_of_gt (by omega), Nat.ne_of_gt (by omega)⟩
          · exact LCg.Off3.mem off7 p (List.mem_append_right _ hp)
        case rows => exact hr2.snoc (xs := [1, 1, 1, 1, 0, -1]) (.cons _ _ (.cons _ _ (.cons _ _ (.cons _ _ (.cons _ _ (.cons _ _ .nil))))))
      · replace hx : m₂ (Str.ofString "spot") = some (.int 5 t) := hx
        ((try clear mk0); have mk0 : Mark "compareOp In bool ref"   := ⟨trivial⟩; (try clear mk1); have mk1 : Mark "InEnd"   := ⟨trivial⟩; (try clear mk2); have mk2 : Mark "In2"   := ⟨trivial⟩; (try clear mk3); have mk3 : Mark "TwoSrc"   := ⟨trivial⟩; (try clear mk4); have mk4 : Mark "eval ListComp"   := ⟨trivial⟩; (try clear mk5); have mk5 : Mark "CompEnd"   := ⟨trivial⟩; (try clear mk6); have mk6 : Mark "CompSrc"   := ⟨trivial⟩; repeat' (first | ((with_reducible refine unhalt (x := "compareOp In bool ref") ?_); first | ((refine' in_false (by k_asm) (by k_mem) (by assumption) ?_); (k_whole)) | (clear mk0; walk1; all_goals (try (with_reducible refine addMark (x := "compareOp In bool ref") fun mk0 => ?_)))) | ((with_reducible refine unhalt (x := "InEnd") ?_); first | ((refine halt2 ?_)) | (clear mk1; walk1; all_goals (try (with_reducible refine addMark (x := "InEnd") fun mk1 => ?_)))) | ((with_reducible refine unhalt (x := "In2") ?_); first | ((refine halt2 ?_)) | (clear mk2; walk1; all_goals (try (with_reducible refine addMark (x := "In2") fun mk2 => ?_)))) | ((with_reducible refine unhalt (x := "TwoSrc") ?_); first | ((refine halt2 ?_)) | (clear mk3; walk1; all_goals (try (with_reducible refine addMark (x := "TwoSrc") fun mk3 => ?_)))) | ((with_reducible refine unhalt (x := "eval ListComp") ?_); first | ((with_reducible show wpAny _ _ (eval (PySem.Expr.ListComp _ [_, _] _ _) _) _ _ _); (refine' ListComp_two (by k_asm) rfl (by rfl) (by decide) (by rfl) (by decide) (by rfl) (by rfl) (by decide) ?_); (k_whole)) | ((with_reducible show wpAny _ _ (eval (PySem.Expr.ListComp _ [_] _ _) _) _ _ _); (refine' LCg.ListComp_U (by k_asm) (by rfl) (by decide) (by rfl) (by decide) (by rfl) ?_); (k_whole)) | (clear mk4; walk1; all_goals (try (with_reducible refine addMark (x := "eval ListComp") fun mk4 => ?_)))) | ((with_reducible refine unhalt (x := "CompEnd") ?_); first | ((refine halt2 ?_)) | (clear mk5; walk1; all_goals (try (with_reducible refine addMark (x := "CompEnd") fun mk5 => ?_)))) | ((with_reducible refine unhalt (x := "CompSrc") ?_); first | ((refine halt2 ?_)) | (clear mk6; walk1; all_goals (try (with_reducible refine addMark (x := "CompSrc") fun mk6 => ?_)))) | (k_unfold; (try dsimp only)) | (k_end; kc_close) | walk1 | (dsimp only; walk1) | (leave1; (try dsimp only)) | fail "no step"))
        unfold Halt2
        rename Fr _ _ _ _ => F8
        rename News _ _ _ _ => N8
        rename_i Dz hz lz
        refine LCg.CompEnd.intro F8 N8 ((rl2 ++ [(Dz, W.listOf (List.toArray ?vals5) 0)]) ++ ((D, LCg.lst ys) :: (TD, LCg.lst refs) :: (117, tabObj ps) :: rl)) ?sub ?off trivial ⟨rl2 ++ [(Dz, W.listOf (List.toArray ?vals5) 0)], rfl, ?rows⟩
        case sub =>
          intro p hp
          rcases List.mem_cons.mp hp with rfl | hp
          · k_mem
          rcases List.mem_cons.mp hp with rfl | hp
          · k_mem
          rcases List.mem_cons.mp hp with rfl | hp
          · k_mem
          rcases List.mem_append.mp hp with hp | hp
          · rcases List.mem_append.mp hp with hp | hp
            · have hp2 := List.mem_append_left ((D, LCg.lst ys) :: (TD, LCg.lst refs) :: (117, tabObj ps) :: rl) hp
              repeat (first | exact hp2 | apply List.Mem.tail)
            · rw [List.mem_singleton.mp hp]; exact .head _
          · have hp2 := List.mem_append_right rl2 hp
            repeat (first | exact hp2 | apply List.Mem.tail)
        case off =>
          refine LCg.Off3.of fun p hp => ?_
          rcases List.mem_append.mp hp with hp | hp
          · rcases List.mem_append.mp hp with hp | hp
            · exact LCg.Off3.mem off7 p (List.mem_append_left _ hp)
            · rw [List.mem_singleton.mp hp]
              exact ⟨Nat.ne_of_gt (by omega), Nat.ne_of_gt (by omega), Nat.ne_of_gt (by omega)⟩
          · exact LCg.Off3.mem off7 p (List.mem_append_right _ hp)
        case rows => exact hr2.snoc (xs := [1, 1, 1, 1, 1, 0]) (.cons _ _ (.cons _ _ (.cons _ _ (.cons _ _ (.cons _ _ (.cons _ _ .nil))))))
    case fin3 =>
      rintro zs live ⟨rl2, rfl, hr2⟩ D3 h3 tk3 F7 N7 off7
      clear F6 N6 hR
      ((try clear mk0); have mk0 : Mark "compareOp In bool ref"   := ⟨trivial⟩; (try clear mk1); have mk1 : Mark "InEnd"   := ⟨trivial⟩; (try clear mk2); have mk2 : Mark "In2"   := ⟨trivial⟩; (try clear mk3); have mk3 : Mark "TwoSrc"   := ⟨trivial⟩; (try clear mk4); have mk4 : Mark "eval ListComp"   := ⟨trivial⟩; (try clear mk5); have mk5 : Mark "CompEnd"   := ⟨trivial⟩; (try clear mk6); have mk6 : Mark "CompSrc"   := ⟨trivial⟩; repeat' (first | ((with_reducible refine unhalt (x := "compareOp In bool ref") ?_); first | ((refine' in_false (by k_asm) (by k_mem) (by assumption) ?_); (k_whole)) | (clear mk0; walk1; all_goals (try (with_reducible refine addMark (x := "compareOp In bool ref") fun mk0 => ?_)))) | ((with_reducible refine unhalt (x := "InEnd") ?_); first | ((refine halt2 ?_)) | (clear mk1; walk1; all_goals (try (with_reducible refine addMark (x := "InEnd") fun mk1 => ?_)))) | ((with_reducible refine unhalt (x := "In2") ?_); first | ((refine halt2 ?_)) | (clear mk2; walk1; all_goals (try (with_reducible refine addMark (x := "In2") fun mk2 => ?_)))) | ((with_reducible refine unhalt (x := "TwoSrc") ?_); first | ((refine halt2 ?_)) | (clear mk3; walk1; all_goals (try (with_reducible refine addMark (x := "TwoSrc") fun mk3 => ?_)))) | ((with_reducible refine unhalt (x := "eval ListComp") ?_); first | ((with_reducible show wpAny _ _ (eval (PySem.Expr.ListComp _ [_, _] _ _) _) _ _ _); (refine' ListComp_two (by k_asm) rfl (by rfl) (by decide) (by rfl) (by decide) (by rfl) (by rfl) (by decide) ?_); (k_whole)) | ((with_reducible show wpAny _ _ (eval (PySem.Expr.ListComp _ [_] _ _) _) _ _ _); (refine' LCg.ListComp_U (by k_asm) (by rfl) (by decide) (by rfl) (by decide) (by rfl) ?_); (k_whole)) | (clear mk4; walk1; all_goals (try (with_reducible refine addMark (x := "eval ListComp") fun mk4 => ?_)))) | ((with_reducible refine unhalt (x := "CompEnd") ?_); first | ((refine halt2 ?_)) | (clear mk5; walk1; all_goals (try (with_reducible refine addMark (x := "CompEnd") fun mk5 => ?_)))) | ((with_reducible refine unhalt (x := "CompSrc") ?_); first | ((refine halt2 ?_)) | (clear mk6; walk1; all_goals (try (with_reducible refine addMark (x := "CompSrc") fun mk6 => ?_)))) | (k_unfold; (try dsimp only)) | (k_end; kc_close) | walk1 | (dsimp only; walk1) | (leave1; (try dsimp only)) | fail "no step"))
      have e6 : dueT.take 6 = dueT := rfl
      rw [e6] at hr2
      rw [heq] at hrl
      refine eq_rowsI (n1 := refs.length) (n2 := zs.length) N7 (by k_dflt exact .tail _ (List.mem_append_right _ (.tail _ (.head _)))) (by k_dflt exact .head _) hrl hr2 (fun p hp => .tail _ (List.mem_append_right _ (.tail _ (.tail _ (.tail _ hp))))) (fun p hp => .tail _ (List.mem_append_left _ hp)) ?_ ?_
      · show un + 64 < cLine
        omega
      · exact hret _ h3 _ F7 (fun p hp => by rw [List.mem_singleton.mp hp]; exact N7 _ (.tail _ (List.mem_append_right _ (.tail _ (.tail _ (.head _))))))
end Mine
end
/-! Rest -/
section
open PySem PySem.W PySem.Spec PySem.Calls PyProof.Rows
set_option maxRecDepth 100000
set_option maxHeartbeats 1000000
namespace Mine
theorem due_drop (k : Int) (pl : List Int) : (dueS k pl).drop (2 * pl.length) = [spAt k 0, spAt k 2, spAt k 3, spAt k 4, Str.ofString ""] := by
  unfold dueS
  rw [List.append_assoc, List.drop_append, List.drop_of_length_le (by simp; omega), show 2 * pl.length - (pl.map (opS (spAt k 0)) ++ pl.reverse.map (opS (spAt k 1))).length = 0 by simp; omega]
  rfl
theorem strs5 {vals : List Value} {a b c d e : Str} (h : StrsAre vals [a, b, c, d, e]) : ∃ t0 t1 t2 t3 t4, vals = [.str a t0, .str b t1, .str c t2, .str d t3, .str e t4] := by
  obtain ⟨t0, v0, rfl, h0⟩ := sinv h
  obtain ⟨t1, v1, rfl, h1⟩ := sinv h0
  obtain ⟨t2, v2, rfl, h2⟩ := sinv h1
  obtain ⟨t3, v3, rfl, h3⟩ := sinv h2
  obtain ⟨t4, v4, rfl, h4⟩ := sinv h3
  obtain rfl := snil h4
  exact ⟨t0, t1, t2, t3, t4, rfl⟩
theorem told_due {k : Int} (h : 0 ≤ k ∧ k < 5) : toldT (six (fK k 0) (fK k 1) (fK k 2) (fK k 3)) = dueT := by
  rcases five h with rfl | rfl | rfl | rfl | rfl <;> decide +kernel
theorem restB {w : World} {loose : List Str} {p : Program} {mean : ExcName → Option Value} {mg mb : Str → Option Value}
  {dp un : Nat} {fr : Option (List Env)} {gd : Option (List Code)} {h₀ : Heap} {s : Shared} {Q : Flow → Shared → Prop} {E : Value → Shared → Prop} {L fa : Addr} {cd : Value} {m : Str → Option Value}
  {k tot : Int} {pa ba sl D D9 lx ld sx lpb : Addr} {vp vb ys : List Value} {e1 e2 e3 : Nat} {pl : List Int} {t1 t2 s0 s1 s2 s3 s4 u1 u2 u3 u4 u5 u6 : Tok} {o1 oLex o3 o4 o5 : Obj} {ps : Array Value}
  (T : Top p loose mean mg mb h₀)
  (F : Fr h₀ L s.heap (fun y => if y = Str.ofString "words" then some (.ref D) else if y = Str.ofString "signs" then some (.ref D9) else if y = Str.ofString "spelled" then some (.ref sl) else if y = Str.ofString "total" then some (.int tot t1) else if y = Str.ofString "half" then some (.int pl.length t2) else if y = Str.ofString "back" then some (.ref ba) else if y = Str.ofString "places" then some (.ref pa) else m y))
  (N : News h₀ L s.heap [(D, LCg.lst ys), (ld, lexD w.params (.ref sx) lpb (lineN k pl (2 * pl.length + 5)) u1 u2 u3 u4 u5 u6), (lx, instObj 66 ld), (117, tabObj ps), (sl, W.listOf (List.toArray [.str (spAt k 0) s0, .str (spAt k 1) s1, .str (spAt k 2) s2, .str (spAt k 3) s3, .str (spAt k 4) s4]) e3), (ba, W.listOf vb.toArray e2), (pa, W.listOf vp.toArray e1), (L + 1 + 1 + 1 + 1 + 1, o5), (L + 1 + 1 + 1 + 1, o4), (L + 1 + 1 + 1, o3), (L + 1 + 1, oLex), (L + 1, o1)])
  (d2 : oLex.data = .cell (some (.ref lx)))
  (hk : 0 ≤ k ∧ k < 5) (hpl : ∀ n ∈ pl, n = 0 ∨ n = 1 ∨ n = 2) (hplr : ∀ n ∈ pl.reverse, n = 0 ∨ n = 1 ∨ n = 2) (hlen : pl.length ≤ 9) (hlenr : pl.reverse.length ≤ 9) (hvp : IntsAre vp pl) (hvb : IntsAre vb pl.reverse) (hys : StrsAre ys (dueS k pl))
  (hdp : dp + 12 < recursionLimit) (hu : un + 100 < cLine)
  (d1 : o1.data = .cell (some (.ref (handA k)))) (d3 : o3.data = .cell none) (d4 : o4.data = .cell none) (d5 : o5.data = .cell none)
  (lc : @LT.lt Nat instLTNat (L + 1 + 1 + 1 + 1 + 1) pa ∧ @LT.lt Nat instLTNat pa ba) (lD : @Ne Nat (L + 1 + 1 + 1) D) (l117 : @LT.lt Nat instLTNat 117 L)
  (hret : ∀ (m' : Str → Option Value) (h' : Heap) (tk : Nat), Fr h₀ L h' m' → News h₀ L h' [(117, tabObj ps)] → Q (.ret (.bool true)) { s with heap := h', toks := tk })
  (X₀ : (KK w.params).In h₀) : wpAny (model (RW.row.toRowW.prog) w) (Rm dp un fr gd) (execs (lawRec.body.drop 8) (envOfC (Str.ofString "law") lawRec.scope L fa cd)) Q E s := by
  have hyl : ys.length = 2 * pl.length + 5 := by
    rw [hys.len_eq]
    simp [dueS]
    omega
  have hyd := strs_drop (2 * pl.length) hys
  rw [due_drop] at hyd
  obtain ⟨r0, r1, r2, r3, r4, hyd⟩ := strs5 hyd
  refine stageB T F N d2 hk hpl hplr hlen hlenr hvp hvb hys hdp hu ?_ X₀
  intro D8 D7 e h1 tk1 F1 N1 l1
  refine stageC T F1 N1 d3 d1 ⟨lc.1, lc.2, l1⟩ lD l117 hk hpl hplr hlenr hlen hvp hvb hys hdp hu ?_ X₀
  intro Dn zs h2 tk2 F2 N2 hz hoff
  refine stageD T F2 N2 d4 hoff l1 l117 hk hlen hyl hyd hdp hu ?_ X₀
  intro R refs rl e9 h3 tk3 F3 N3 hrw
  refine stageE T F3 N3 hrw hz hk hpl hlen hdp hu ?_ X₀
  intro cr ts e' m' h4 tk4 F4 N4 hcr
  refine stageF T F4 N4 d5 hcr l117 (fK_len hk) hdp hu ?_ X₀
  intro TD refs2 rl2 m2 h5 tk5 F5 N5 hrl
  exact stageG T F5 N5 hrl rfl (told_due hk) hdp hu (fun m' h' tk F N => hret m' h' tk F N) X₀
end Mine
end
/-! SA -/
section
open PySem PySem.W PySem.Spec PySem.Calls PyProof.Rows
set_option maxRecDepth 100000
set_option maxHeartbeats 0
namespace Mine
abbrev sgnL (pl : List Int) : List Str := List.map (opS (Str.ofString "<")) pl ++ List.map (opS (Str.ofString ">")) pl.reverse ++ [Str.ofString "\\" ++ ⟨#[60]⟩, Str.ofString "\\" ++ ⟨#[34]⟩, Str.ofString "\\" ++ ⟨#[13]⟩, Str.ofString "\\" ++ ⟨#[10]⟩]
abbrev pageS (pl : List Int) : Str := Txt.join (Str.ofString " ") (sgnL pl) ++ Str.ofString " "
theorem opS_len {x : Str} (h : x.length ≤ 1) (n : Int) : (opS x n).length ≤ 3 := by
  have e1 : (x ++ x).length = x.length + x.length := by simp [len_cps, Str.cps_append]
  have e2 : (x ++ x ++ Str.ofString "=").length = x.length + x.length + 1 := by
    have e3 : (Str.ofString "=").cps.toList.length = 1 := by decide
    simp only [len_cps, Str.cps_append, Array.toList_append, List.length_append, e3]
  unfold opS
  split
  · omega
  split
  · omega
  · omega
theorem sum_le3 : ∀ l : List Str, (∀ x ∈ l, x.length ≤ 3) → (l.map (·.length)).sum ≤ 3 * l.length
  | [], _ => Nat.zero_le _
  | x :: r, h => by
    have h1 := h x (.head _)
    have h2 := sum_le3 r fun y hy => h y (.tail _ hy)
    simp only [List.map_cons, List.sum_cons, List.length_cons]
    omega
theorem sgn_le {pl : List Int} : ∀ x ∈ sgnL pl, x.length ≤ 3 := fun x hx => by
  rcases List.mem_append.mp hx with hx | hx
  · rcases List.mem_append.mp hx with hx | hx
    · obtain ⟨n, _, rfl⟩ := List.mem_map.mp hx
      exact opS_len (by decide) n
    · obtain ⟨n, _, rfl⟩ := List.mem_map.mp hx
      exact opS_len (by decide) n
  · simp only [List.mem_cons, List.not_mem_nil, or_false] at hx
    rcases hx with rfl | rfl | rfl | rfl <;> decide
theorem sgn_n (pl : List Int) : (sgnL pl).length = pl.length + pl.length + 4 := by simp [sgnL]; omega
theorem sgn_sum {pl : List Int} (h : pl.length ≤ 9) : ((sgnL pl).map (·.length)).sum ≤ 66 := by
  have h1 := sum_le3 (sgnL pl) sgn_le
  rw [sgn_n] at h1
  omega
theorem sgn_ok {pl : List Int} (h : pl.length ≤ 9) : ((sgnL pl).map (·.length)).sum + (sgnL pl).length * (Str.ofString " ").length ≤ 16777216 := by
  have h1 := sgn_sum h
  rw [sgn_n, show (Str.ofString " ").length = 1 by decide]
  omega
theorem join_len {pl : List Int} (h : pl.length ≤ 9) : (Txt.join (Str.ofString " ") (sgnL pl)).length ≤ 88 := by
  have h0 := StrLaws.join_length_le (Str.ofString " ") (sgnL pl)
  have h1 := sgn_sum h
  rw [sgn_n, show (Str.ofString " ").length = 1 by decide] at h0
  have e : Txt.join (Str.ofString " ") (sgnL pl) = Str.join (Str.ofString " ") (sgnL pl) := StrLaws.glued_eq_join _ _
  rw [e]
  omega
theorem page_fit {pl : List Int} (h : pl.length ≤ 9) : (Txt.join (Str.ofString " ") (sgnL pl)).length + (Str.ofString " ").length ≤ sizeLine := by
  have h1 := join_len h
  rw [show (Str.ofString " ").length = 1 by decide, PySem.sizeLine_eq]
  omega
theorem page_len {pl : List Int} (h : pl.length ≤ 9) : (pageS pl).length ≤ 10000 := by
  have h1 := join_len h
  have h2 : (Str.ofString " ").cps.toList.length = 1 := by decide
  have e : (pageS pl).length = (Txt.join (Str.ofString " ") (sgnL pl)).length + 1 := by
    simp only [len_cps, Str.cps_append, Array.toList_append, List.length_append, h2]
  omega
theorem escK_len {k : Int} (h : 0 ≤ k ∧ k < 5) (x : Str) : (escK k x).length ≤ 6 * x.length := by
  have hc : k = 0 ∨ k = 1 ∨ k = 2 ∨ k = 3 ∨ k = 4 := by omega
  rcases hc with rfl | rfl | rfl | rfl | rfl <;> exact esc_len (by decide +kernel) x
theorem page_len2 {pl : List Int} (h : pl.length ≤ 9) : (pageS pl).length ≤ 89 := by
  have h1 := join_len h
  have h2 : (Str.ofString " ").cps.toList.length = 1 := by decide
  have e : (pageS pl).length = (Txt.join (Str.ofString " ") (sgnL pl)).length + 1 := by
    simp only [len_cps, Str.cps_append, Array.toList_append, List.length_append, h2]
  omega
theorem esc_fit {k : Int} {pl : List Int} (h : 0 ≤ k ∧ k < 5) (hl : pl.length ≤ 9) : (escK k (pageS pl)).length ≤ 10000 := by
  have h1 := escK_len h (pageS pl)
  have h2 := page_len2 hl
  omega
theorem lit4 : (Str.ofString "<\"\r\n").cps.toList = [60, 34, 13, 10] := by decide
theorem mem_mid {α : Type} {a b c x : α} {l r : List α} (h : x ∈ l ++ r) : x ∈ l ++ (a :: b :: c :: r) := by
  rcases List.mem_append.mp h with h | h
  · exact List.mem_append_left _ h
  · exact List.mem_append_right _ (.tail _ (.tail _ (.tail _ h)))
theorem line_succ {k : Int} {pl : List Int} {i : Nat} {b : Bool} {c : Nat} {r : List Nat} (hc : (chunks k pl)[i]? = some (b, c, r)) : lineN k pl (i + 1) = rcN c (lineN k pl i) := by
  unfold lineN
  rw [List.take_add_one, hc]
  simp [List.foldl_append]
theorem line_last {k : Int} {pl : List Int} {i : Nat} (hi : (chunks k pl).length ≤ i) : lineN k pl (i + 1) = lineN k pl i := by
  unfold lineN
  rw [List.take_of_length_le hi, List.take_of_length_le (Nat.le_succ_of_le hi)]
theorem words_succ {k : Int} {pl : List Int} {i : Nat} {b : Bool} {c : Nat} {r : List Nat} (hc : (chunks k pl)[i]? = some (b, c, r)) : (wordsD k pl).take (i + 1) = (wordsD k pl).take i ++ [txt (c :: r)] := by
  have hlt : i < ((chunks k pl).map wordC).length := by
    rw [List.length_map]
    exact (List.getElem?_eq_some_iff.mp hc).1
  rw [List.take_add_one]
  congr 1
  unfold wordsD
  rw [List.getElem?_append_left hlt, List.getElem?_map, hc]
  rfl
theorem words_last {k : Int} {pl : List Int} {i : Nat} (hi : i = (chunks k pl).length) : (wordsD k pl).take (i + 1) = (wordsD k pl).take i ++ [Str.ofString ""] := by
  rw [List.take_add_one]
  congr 1
  unfold wordsD
  rw [hi, List.getElem?_append_right (by rw [List.length_map]; exact Nat.le_refl _)]
  simp
theorem spS_eq {k : Int} (h : 0 ≤ k ∧ k < 5) : spS k = [spAt k 0, spAt k 1, spAt k 2, spAt k 3, spAt k 4] := by
  rcases five h with rfl | rfl | rfl | rfl | rfl <;> rfl
theorem stageA {w : World} {loose : List Str} {p : Program} {mean : ExcName → Option Value} {mg mb : Str → Option Value}
  {dp un : Nat} {fr : Option (List Env)} {gd : Option (List Code)} {h₀ : Heap} {s : Shared} {Q : Flow → Shared → Prop} {E : Value → Shared → Prop} {L fa : Addr} {cd : Value} {m : Str → Option Value}
  {k tot : Int} {pa ba sl : Addr} {vp vb vsp : List Value} {e1 e2 e3 : Nat} {pl : List Int} {t1 t2 : Tok} {o1 o2 o3 o4 o5 : Obj}
  (T : Top p loose mean mg mb h₀) (C : CodeHd h₀ 121 117)
  (F : Fr h₀ L s.heap (fun y => if y = Str.ofString "spelled" then some (.ref sl) else if y = Str.ofString "total" then some (.int tot t1) else if y = Str.ofString "half" then some (.int pl.length t2) else if y = Str.ofString "back" then some (.ref ba) else if y = Str.ofString "places" then some (.ref pa) else m y))
  (N : News h₀ L s.heap [(sl, W.listOf vsp.toArray e3), (ba, W.listOf vb.toArray e2), (pa, W.listOf vp.toArray e1), (L + 1 + 1 + 1 + 1 + 1, o5), (L + 1 + 1 + 1 + 1, o4), (L + 1 + 1 + 1, o3), (L + 1 + 1, o2), (L + 1, o1), (117, tabObj #[])])
  (d5 : o5.data = .cell none) (d4 : o4.data = .cell none) (d3 : o3.data = .cell none) (d2 : o2.data = .cell none) (d1 : o1.data = .cell (some (.ref (handA k))))
  (hk : 0 ≤ k ∧ k < 5) (hpl : ∀ n ∈ pl, n = 0 ∨ n = 1 ∨ n = 2) (hplr : ∀ n ∈ pl.reverse, n = 0 ∨ n = 1 ∨ n = 2) (hlen : pl.length ≤ 9) (hlenr : pl.reverse.length ≤ 9) (hvp : IntsAre vp pl) (hvb : IntsAre vb pl.reverse) (hvsp : StrsAre vsp (spS k))
  (l117 : @LT.lt Nat instLTNat 117 L) (lp : @LT.lt Nat instLTNat (L + 1 + 1 + 1 + 1 + 1) pa ∧ @LT.lt Nat instLTNat pa ba) (lsl : @Ne Nat (L + 1 + 1) sl ∧ @Ne Nat sl 117)
  (hdp : dp + 12 < recursionLimit) (hu : un + 100 < cLine)
  (hret : ∀ (ps : Array Value) (m' : Str → Option Value) (h' : Heap) (tk : Nat), Fr h₀ L h' m' → News h₀ L h' [(117, tabObj ps)] → Q (.ret (.bool true)) { s with heap := h', toks := tk }) :
   (KK w.params).In h₀ → wpAny (model (RW.row.toRowW.prog) w) (Rm dp un fr gd) (execs (lawRec.body.drop 5) (envOfC (Str.ofString "law") lawRec.scope L fa cd)) Q E s := by
  k_fill
  intro X₀
  have hH : FnAt (handA k) h₀ := by
    have hc : k = 0 ∨ k = 1 ∨ k = 2 ∨ k = 3 ∨ k = 4 := by omega
    rcases hc with rfl | rfl | rfl | rfl | rfl
    · exact ⟨_, _, _, _, X₀ 87 _ (by k_is)⟩
    · exact ⟨_, _, _, _, X₀ 94 _ (by k_is)⟩
    · exact ⟨_, _, _, _, X₀ 101 _ (by k_is)⟩
    · exact ⟨_, _, _, _, X₀ 108 _ (by k_is)⟩
    · exact ⟨_, _, _, _, X₀ 115 _ (by k_is)⟩
  have hrest := @restB w loose p mean mg mb dp un fr gd h₀
  conv at hrest in lawRec.body.drop 8 => whnf
  repeat (conv at hrest in lawRec.scope => whnf)
  repeat (conv in lawRec.scope => whnf)
  conv in lawRec.body.drop 5 => whnf
  ((try clear mk0); have mk0 : Mark "call ref"   := ⟨trivial⟩; (try clear mk1); have mk1 : Mark "binaryOp Add ref ref"   := ⟨trivial⟩; (try clear mk2); have mk2 : Mark "pyIter str"   := ⟨trivial⟩; (try clear mk3); have mk3 : Mark "binaryOp Add str str"   := ⟨trivial⟩; (try clear mk4); have mk4 : Mark "CompSrc"   := ⟨trivial⟩; (try clear mk5); have mk5 : Mark "callWith ref"   := ⟨trivial⟩; (try clear mk6); have mk6 : Mark "FnAt"   := ⟨trivial⟩; (try clear mk7); have mk7 : Mark "call builtin:str.join"   := ⟨trivial⟩; repeat' (first | ((with_reducible refine unhalt (x := "call ref") ?_); first | ((first | ((with_reducible show wpAny _ _ (call (Value.ref 134) _) _ _ _); (refine' ops_use (by k_asm) (by k_asm) (by k_asm) (by k_asm) (by k_mem) (by assumption) (by assumption) (by (first | assumption | omega)) (by exact Nat.le_of_ble_eq_true rfl) (by ktr_room) (by ktr_units) ?_); (k_whole); (intro D9 ys9 h9 tk9 S9 F9 N9 d9)) | ((with_reducible show wpAny _ _ (call (Value.ref (handA _)) _) _ _ _); (refine' handcall_use (by k_asm) (by k_asm) (by k_asm) (by k_asm) (by exact page_len (by assumption)) (by assumption) (by ktr_room) (by ktr_units) ?_); (k_whole); (intro t9 h9 tk9 F9 N9)) | ((refine halt2 ?_)))) | (clear mk0; walk1; all_goals (try (with_reducible refine addMark (x := "call ref") fun mk0 => ?_)))) | ((with_reducible refine unhalt (x := "binaryOp Add ref ref") ?_); first | ((with_reducible show wpAny _ _ (binaryOp _ (Value.ref _) (Value.ref _)) _ _ _); (refine' add_strs (by k_asm) (by k_asm) (by k_mem) (by k_mem) (by assumption) (by (first | assumption | exact .cons _ _ (.cons _ _ (.cons _ _ (.cons _ _ .nil))))) (by (simp only [List.length_map, List.length_append, List.length_cons, List.length_nil]; omega)) ?_); (k_whole); (intro D9 us9 h9 F9 N9 l9 S9); (k_lt l9)) | (clear mk1; walk1; all_goals (try (with_reducible refine addMark (x := "binaryOp Add ref ref") fun mk1 => ?_)))) | ((with_reducible refine unhalt (x := "pyIter str") ?_); first | ((refine' src_text (fun c => Str.ofString "\\" ++ ⟨#[c]⟩) rfl (by k_asm) (by k_asm) (by exact Nat.le_of_ble_eq_true rfl) ?_ ?_); (all_goals (first | (intro D9 ys9 n9 h9 tk9 F9 N9 d9 S9; rw [lit4] at S9; simp only [List.map_cons, List.map_nil] at S9) | (intro C9 c9 u9 s9 m9 E9 n9 v9; refine halt2 ?_)))) | (clear mk2; walk1; all_goals (try (with_reducible refine addMark (x := "pyIter str") fun mk2 => ?_)))) | ((with_reducible refine unhalt (x := "binaryOp Add str str") ?_); first | ((refine PyProof.Rows.add_str (hsz := (by (first | exact page_fit (by assumption) | (show _ + 1 ≤ sizeLine; rw [PySem.sizeLine_eq]; exact Nat.le_of_ble_eq_true rfl)))) ?_); (intro t8 tk8)) | (clear mk3; walk1; all_goals (try (with_reducible refine addMark (x := "binaryOp Add str str") fun mk3 => ?_)))) | ((with_reducible refine unhalt (x := "CompSrc") ?_); first | ((refine halt2 ?_)) | (clear mk4; walk1; all_goals (try (with_reducible refine addMark (x := "CompSrc") fun mk4 => ?_)))) | ((with_reducible refine unhalt (x := "callWith ref") ?_); first | ((with_reducible show wpAny _ _ (callWith _ (Value.ref (handA _)) _ _ _) _ _ _); (refine callWith_F (FnAt.fr (by assumption) (by k_asm)) ?_)) | (clear mk5; walk1; all_goals (try (with_reducible refine addMark (x := "callWith ref") fun mk5 => ?_)))) | ((with_reducible refine unhalt (x := "FnAt") ?_); first | ((exact FnAt.fr (by assumption) (by k_asm))) | (clear mk6; walk1; all_goals (try (with_reducible refine addMark (x := "FnAt") fun mk6 => ?_)))) | ((with_reducible refine unhalt (x := "call builtin:str.join") ?_); first | ((refine' join_list (by exact News.isList (by k_asm) (by k_mem)) (by (rw [List.toList_toArray]; assumption)) (by exact sgn_ok (by assumption)) ?_); (intro t8 tk8)) | (clear mk7; walk1; all_goals (try (with_reducible refine addMark (x := "call builtin:str.join") fun mk7 => ?_)))) | (k_unfold; (try dsimp only)) | (k_end; kc_close) | walk1 | (dsimp only; walk1) | (leave1; (try dsimp only)) | fail "no step"))
  · unfold Halt2
    walk1
    walk1
    walk1
    refine PyProof.Rows.add_str (hsz := by (show _ + 1 ≤ sizeLine; rw [PySem.sizeLine_eq]; exact Nat.le_of_ble_eq_true rfl)) ?_
    intro t8 tk8
    exact ⟨⟨_, rfl⟩, _, _, rfl, fun _ _ e => e⟩
  unfold Halt2
  rename Fr _ _ _ _ => F1
  rename News _ _ _ _ => N1
  refine' lexer_ok (news := [(sl, W.listOf vsp.toArray e3), (ba, W.listOf vb.toArray e2), (pa, W.listOf vp.toArray e1), (L + 1 + 1 + 1 + 1 + 1, o5), (L + 1 + 1 + 1 + 1, o4), (L + 1 + 1 + 1, o3), (L + 1 + 1, o2), (L + 1, o1)]) T F1 (cb_drop N1 ?sub) ?hx ?h117 C ?hd ?hu ?hret X₀
  case sub => exact sub1 (by k_mem) (sub1 (by k_mem) (sub1 (by k_mem) (sub1 (by k_mem) (sub1 (by k_mem) (sub1 (by k_mem) (sub1 (by k_mem) (sub1 (by k_mem) (sub1 (by k_mem) sub0))))))))
  case hd => ktr_room
  case hu => ktr_units
  case hx => exact esc_fit hk hlen
  case h117 => k_all
  intro lx ld lpb sx sd spb fI c' cell sl2 ofn oc ocl vsc tq e9 vs9 ps u1 u2 u3 u4 u5 u6 v1 v2 v3 v4 v5 v6 v7 h9 tk9 hPc hfn hd1 hd2 hd3 hS F2 N2 hord
  have LK : LexK w lx ld lpb sx sd fI c' cell sl2 ofn oc ocl := ⟨hord.2, hPc, hfn, ⟨_, _, hd1, hd2⟩, hd3⟩
  obtain ⟨hlt, hoa, hob, hoc, hod, hoe, hof, hog, hoh, hoi⟩ := hord
  replace hlt := allLt_of hlt
  simp only [AllLt, and_true] at hlt
  simp only [List.cons_append, List.nil_append] at N2
  clear F1 N1
  ((try clear mk0); have mk0 : Mark "call ref"   := ⟨trivial⟩; (try clear mk1); have mk1 : Mark "binaryOp Add ref ref"   := ⟨trivial⟩; (try clear mk2); have mk2 : Mark "pyIter str"   := ⟨trivial⟩; (try clear mk3); have mk3 : Mark "binaryOp Add str str"   := ⟨trivial⟩; (try clear mk4); have mk4 : Mark "CompSrc"   := ⟨trivial⟩; (try clear mk5); have mk5 : Mark "callWith ref"   := ⟨trivial⟩; (try clear mk6); have mk6 : Mark "FnAt"   := ⟨trivial⟩; (try clear mk7); have mk7 : Mark "call builtin:str.join"   := ⟨trivial⟩; repeat' (first | ((with_reducible refine unhalt (x := "call ref") ?_); first | ((first | ((with_reducible show wpAny _ _ (call (Value.ref 134) _) _ _ _); (refine' ops_use (by k_asm) (by k_asm) (by k_asm) (by k_asm) (by k_mem) (by assumption) (by assumption) (by (first | assumption | omega)) (by exact Nat.le_of_ble_eq_true rfl) (by ktr_room) (by ktr_units) ?_); (k_whole); (intro D9 ys9 h9 tk9 S9 F9 N9 d9)) | ((with_reducible show wpAny _ _ (call (Value.ref (handA _)) _) _ _ _); (refine' handcall_use (by k_asm) (by k_asm) (by k_asm) (by k_asm) (by exact page_len (by assumption)) (by assumption) (by ktr_room) (by ktr_units) ?_); (k_whole); (intro t9 h9 tk9 F9 N9)) | ((refine halt2 ?_)))) | (clear mk0; walk1; all_goals (try (with_reducible refine addMark (x := "call ref") fun mk0 => ?_)))) | ((with_reducible refine unhalt (x := "binaryOp Add ref ref") ?_); first | ((with_reducible show wpAny _ _ (binaryOp _ (Value.ref _) (Value.ref _)) _ _ _); (refine' add_strs (by k_asm) (by k_asm) (by k_mem) (by k_mem) (by assumption) (by (first | assumption | exact .cons _ _ (.cons _ _ (.cons _ _ (.cons _ _ .nil))))) (by (simp only [List.length_map, List.length_append, List.length_cons, List.length_nil]; omega)) ?_); (k_whole); (intro D9 us9 h9 F9 N9 l9 S9); (k_lt l9)) | (clear mk1; walk1; all_goals (try (with_reducible refine addMark (x := "binaryOp Add ref ref") fun mk1 => ?_)))) | ((with_reducible refine unhalt (x := "pyIter str") ?_); first | ((refine' src_text (fun c => Str.ofString "\\" ++ ⟨#[c]⟩) rfl (by k_asm) (by k_asm) (by exact Nat.le_of_ble_eq_true rfl) ?_ ?_); (all_goals (first | (intro D9 ys9 n9 h9 tk9 F9 N9 d9 S9; rw [lit4] at S9; simp only [List.map_cons, List.map_nil] at S9) | (intro C9 c9 u9 s9 m9 E9 n9 v9; refine halt2 ?_)))) | (clear mk2; walk1; all_goals (try (with_reducible refine addMark (x := "pyIter str") fun mk2 => ?_)))) | ((with_reducible refine unhalt (x := "binaryOp Add str str") ?_); first | ((refine PyProof.Rows.add_str (hsz := (by (first | exact page_fit (by assumption) | (show _ + 1 ≤ sizeLine; rw [PySem.sizeLine_eq]; exact Nat.le_of_ble_eq_true rfl)))) ?_); (intro t8 tk8)) | (clear mk3; walk1; all_goals (try (with_reducible refine addMark (x := "binaryOp Add str str") fun mk3 => ?_)))) | ((with_reducible refine unhalt (x := "CompSrc") ?_); first | ((refine halt2 ?_)) | (clear mk4; walk1; all_goals (try (with_reducible refine addMark (x := "CompSrc") fun mk4 => ?_)))) | ((with_reducible refine unhalt (x := "callWith ref") ?_); first | ((with_reducible show wpAny _ _ (callWith _ (Value.ref (handA _)) _ _ _) _ _ _); (refine callWith_F (FnAt.fr (by assumption) (by k_asm)) ?_)) | (clear mk5; walk1; all_goals (try (with_reducible refine addMark (x := "callWith ref") fun mk5 => ?_)))) | ((with_reducible refine unhalt (x := "FnAt") ?_); first | ((exact FnAt.fr (by assumption) (by k_asm))) | (clear mk6; walk1; all_goals (try (with_reducible refine addMark (x := "FnAt") fun mk6 => ?_)))) | ((with_reducible refine unhalt (x := "call builtin:str.join") ?_); first | ((refine' join_list (by exact News.isList (by k_asm) (by k_mem)) (by (rw [List.toList_toArray]; assumption)) (by exact sgn_ok (by assumption)) ?_); (intro t8 tk8)) | (clear mk7; walk1; all_goals (try (with_reducible refine addMark (x := "call builtin:str.join") fun mk7 => ?_)))) | (k_unfold; (try dsimp only)) | (k_end; kc_close) | walk1 | (dsimp only; walk1) | (leave1; (try dsimp only)) | fail "no step"))
  unfold Halt2
  rename Fr _ _ _ _ => F3
  rename News _ _ _ _ => N3
  rename IsRange _ _ _ _ _ _ _ _ => hR
  rename_i hA oLex Fo No dLex hB tkB t1r u1r v1r keepr
  clear Fo No keepr
  refine LCg.CompSrc.range (n := 2 * pl.length + 5) rfl F3 N3 hR ?small ?hn ?hsz ?_
  case small => exact small_one (by omega) (by omega) (by omega) (by omega)
  case hn => rw [rangeSize_nat]; omega
  case hsz => rw [PySem.sizeLine_eq]; omega
  intro g'
  refine rest_inv (n := 2 * pl.length + 5) (fun i ys live => ∃ e vs z1 z5, live = lexL w.params lx ld lpb sx sd spb fI c' cell sl2 ofn oc ocl e vs (lineN k pl i) z1 u2 u3 u4 z5 u6 v1 v2 v3 v4 v5 v6 v7 ++
      [(117, tabObj ps), (sl, W.listOf vsp.toArray e3), (ba, W.listOf vb.toArray e2), (pa, W.listOf vp.toArray e1), (L + 1 + 1 + 1 + 1 + 1, o5), (L + 1 + 1 + 1 + 1, o4), (L + 1 + 1 + 1, o3), (L + 1 + 1, oLex), (L + 1, o1)] ∧
    StrsAre vs ((remC k pl i).map sg).reverse ∧ vs.length ≤ 1000000 ∧ StrsAre ys ((wordsD k pl).take i)) ?turn ?fin _ 0 [] _ (Nat.zero_add _) ⟨e9, vs9, u1, u5, rfl, ?s1, ?s2, .nil⟩
  case s1 =>
    have e := signs_page hk pl hpl
    exact e ▸ hS
  case s2 =>
    have h1 := hS.len_eq
    have h2 := esc_fit hk hlen
    rw [h1, List.length_reverse, signs_length]
    exact Nat.le_trans h2 (by omega)
  case fin =>
    rintro ys live ⟨e, vs, z1, z5, rfl, hvs, hlv, hys⟩
    intro D h tk F5 N5 off
    simp only [List.cons_append, List.nil_append] at N5 off
    have hw : (wordsD k pl).take (2 * pl.length + 5) = wordsD k pl := List.take_of_length_le (by simp [wordsD, chunks_n])
    rw [hw, words_due hk pl hpl] at hys
    obtain ⟨s0, s1, s2, s3, s4, rfl⟩ := strs5 (show StrsAre vsp [spAt k 0, spAt k 1, spAt k 2, spAt k 3, spAt k 4] from spS_eq hk ▸ hvsp)
    have NB : News h₀ L h [(D, LCg.lst ys), (ld, lexD w.params (.ref sx) lpb (lineN k pl (2 * pl.length + 5)) z1 u2 u3 u4 z5 u6), (lx, instObj 66 ld), (117, tabObj ps), (sl, W.listOf (List.toArray [.str (spAt k 0) s0, .str (spAt k 1) s1, .str (spAt k 2) s2, .str (spAt k 3) s3, .str (spAt k 4) s4]) e3), (ba, W.listOf vb.toArray e2), (pa, W.listOf vp.toArray e1), (L + 1 + 1 + 1 + 1 + 1, o5), (L + 1 + 1 + 1 + 1, o4), (L + 1 + 1 + 1, o3), (L + 1 + 1, oLex), (L + 1, o1)] :=
      cb_drop N5 (sub1 (by k_mem) (sub1 (by k_mem) (sub1 (by k_mem) (sub1 (by k_mem) (sub1 (by k_mem) (sub1 (by k_mem) (sub1 (by k_mem) (sub1 (by k_mem) (sub1 (by k_mem) (sub1 (by k_mem) (sub1 (by k_mem) (sub1 (by k_mem) sub0))))))))))))
    refine hrest T F5 NB dLex hk hpl hplr hlen hlenr hvp hvb hys hdp hu d1 d3 d4 d5 lp ?lD l117 (fun m' h' tk F N => hret ps m' h' tk F N) X₀
    case lD => exact fun e => off1_mem off (L + 1 + 1 + 1, o3) (by k_mem) e
  case turn =>
    rintro i ys live v I oI C9 oC D m₂ h tk E' hlt2 ⟨e, vs, z1, z5, rfl, hvs, hlv, hys⟩ hP hC hx2 F5 N5 off ne
    clear N3 F3
    simp only [List.cons_append, List.nil_append] at N5 off
    have off0 := off
    simp only [LCg.Off3, and_true] at off
    ((try clear mk0); have mk0 : Mark "call ref"   := ⟨trivial⟩; (try clear mk1); have mk1 : Mark "binaryOp Add ref ref"   := ⟨trivial⟩; (try clear mk2); have mk2 : Mark "pyIter str"   := ⟨trivial⟩; (try clear mk3); have mk3 : Mark "binaryOp Add str str"   := ⟨trivial⟩; (try clear mk4); have mk4 : Mark "CompSrc"   := ⟨trivial⟩; (try clear mk5); have mk5 : Mark "callWith ref"   := ⟨trivial⟩; (try clear mk6); have mk6 : Mark "FnAt"   := ⟨trivial⟩; (try clear mk7); have mk7 : Mark "call builtin:str.join"   := ⟨trivial⟩; repeat' (first | ((with_reducible refine unhalt (x := "call ref") ?_); first | ((first | ((with_reducible show wpAny _ _ (call (Value.ref 134) _) _ _ _); (refine' ops_use (by k_asm) (by k_asm) (by k_asm) (by k_asm) (by k_mem) (by assumption) (by assumption) (by (first | assumption | omega)) (by exact Nat.le_of_ble_eq_true rfl) (by ktr_room) (by ktr_units) ?_); (k_whole); (intro D9 ys9 h9 tk9 S9 F9 N9 d9)) | ((with_reducible show wpAny _ _ (call (Value.ref (handA _)) _) _ _ _); (refine' handcall_use (by k_asm) (by k_asm) (by k_asm) (by k_asm) (by exact page_len (by assumption)) (by assumption) (by ktr_room) (by ktr_units) ?_); (k_whole); (intro t9 h9 tk9 F9 N9)) | ((refine halt2 ?_)))) | (clear mk0; walk1; all_goals (try (with_reducible refine addMark (x := "call ref") fun mk0 => ?_)))) | ((with_reducible refine unhalt (x := "binaryOp Add ref ref") ?_); first | ((with_reducible show wpAny _ _ (binaryOp _ (Value.ref _) (Value.ref _)) _ _ _); (refine' add_strs (by k_asm) (by k_asm) (by k_mem) (by k_mem) (by assumption) (by (first | assumption | exact .cons _ _ (.cons _ _ (.cons _ _ (.cons _ _ .nil))))) (by (simp only [List.length_map, List.length_append, List.length_cons, List.length_nil]; omega)) ?_); (k_whole); (intro D9 us9 h9 F9 N9 l9 S9); (k_lt l9)) | (clear mk1; walk1; all_goals (try (with_reducible refine addMark (x := "binaryOp Add ref ref") fun mk1 => ?_)))) | ((with_reducible refine unhalt (x := "pyIter str") ?_); first | ((refine' src_text (fun c => Str.ofString "\\" ++ ⟨#[c]⟩) rfl (by k_asm) (by k_asm) (by exact Nat.le_of_ble_eq_true rfl) ?_ ?_); (all_goals (first | (intro D9 ys9 n9 h9 tk9 F9 N9 d9 S9; rw [lit4] at S9; simp only [List.map_cons, List.map_nil] at S9) | (intro C9 c9 u9 s9 m9 E9 n9 v9; refine halt2 ?_)))) | (clear mk2; walk1; all_goals (try (with_reducible refine addMark (x := "pyIter str") fun mk2 => ?_)))) | ((with_reducible refine unhalt (x := "binaryOp Add str str") ?_); first | ((refine PyProof.Rows.add_str (hsz := (by (first | exact page_fit (by assumption) | (show _ + 1 ≤ sizeLine; rw [PySem.sizeLine_eq]; exact Nat.le_of_ble_eq_true rfl)))) ?_); (intro t8 tk8)) | (clear mk3; walk1; all_goals (try (with_reducible refine addMark (x := "binaryOp Add str str") fun mk3 => ?_)))) | ((with_reducible refine unhalt (x := "CompSrc") ?_); first | ((refine halt2 ?_)) | (clear mk4; walk1; all_goals (try (with_reducible refine addMark (x := "CompSrc") fun mk4 => ?_)))) | ((with_reducible refine unhalt (x := "callWith ref") ?_); first | ((with_reducible show wpAny _ _ (callWith _ (Value.ref (handA _)) _ _ _) _ _ _); (refine callWith_F (FnAt.fr (by assumption) (by k_asm)) ?_)) | (clear mk5; walk1; all_goals (try (with_reducible refine addMark (x := "callWith ref") fun mk5 => ?_)))) | ((with_reducible refine unhalt (x := "FnAt") ?_); first | ((exact FnAt.fr (by assumption) (by k_asm))) | (clear mk6; walk1; all_goals (try (with_reducible refine addMark (x := "FnAt") fun mk6 => ?_)))) | ((with_reducible refine unhalt (x := "call builtin:str.join") ?_); first | ((refine' join_list (by exact News.isList (by k_asm) (by k_mem)) (by (rw [List.toList_toArray]; assumption)) (by exact sgn_ok (by assumption)) ?_); (intro t8 tk8)) | (clear mk7; walk1; all_goals (try (with_reducible refine addMark (x := "call builtin:str.join") fun mk7 => ?_)))) | (k_unfold; (try dsimp only)) | (k_end; kc_close) | walk1 | (dsimp only; walk1) | (leave1; (try dsimp only)) | fail "no step"))
    unfold Halt2
    dsimp only [List.cons_append, List.nil_append]
    have NT : News h₀ L h (lexL w.params lx ld lpb sx sd spb fI c' cell sl2 ofn oc ocl e vs (lineN k pl i) z1 u2 u3 u4 z5 u6 v1 v2 v3 v4 v5 v6 v7 ++
        ((I, oI) :: (C9, oC) :: (D, LCg.lst ys) :: [(117, tabObj ps), (sl, W.listOf vsp.toArray e3), (ba, W.listOf vb.toArray e2), (pa, W.listOf vp.toArray e1), (L + 1 + 1 + 1 + 1 + 1, o5), (L + 1 + 1 + 1 + 1, o4), (L + 1 + 1 + 1, o3), (L + 1 + 1, oLex), (L + 1, o1)])) := fun x hx => by
      rcases List.mem_append.mp hx with hx | hx
      · exact N5 x (.tail _ (.tail _ (.tail _ (List.mem_append_left _ hx))))
      rcases List.mem_cons.mp hx with rfl | hx
      · exact N5 _ (.head _)
      rcases List.mem_cons.mp hx with rfl | hx
      · exact N5 _ (.tail _ (.head _))
      rcases List.mem_cons.mp hx with rfl | hx
      · exact N5 _ (.tail _ (.tail _ (.head _)))
      exact N5 x (.tail _ (.tail _ (.tail _ (List.mem_append_right (lexL w.params lx ld lpb sx sd spb fI c' cell sl2 ofn oc ocl e vs (lineN k pl i) z1 u2 u3 u4 z5 u6 v1 v2 v3 v4 v5 v6 v7) hx))))
    refine' wpAny_call (tok_ok (ks := remC k pl i) T F5 NT LK ?hrest hvs hlv ?hd ?hu (rem_form hk pl hpl i) ?hnil ?htok X₀)
    case hd => ktr_room
    case hu => ktr_units
    case hrest =>
      intro x hx hm
      have offm := LCg.Off3.mem off0
      obtain ⟨q, hq, e9⟩ : ∃ q ∈ lexL w.params lx ld lpb sx sd spb fI c' cell sl2 ofn oc ocl e vs (lineN k pl i) z1 u2 u3 u4 z5 u6 v1 v2 v3 v4 v5 v6 v7, q.1 = x.1 := List.mem_map.mp hm
      have hql := offm q (List.mem_append_left _ hq)
      rcases List.mem_cons.mp hx with rfl | hx
      · exact hql.1 e9
      rcases List.mem_cons.mp hx with rfl | hx
      · exact hql.2.1 e9
      rcases List.mem_cons.mp hx with rfl | hx
      · exact hql.2.2 e9
      have lo : @LT.lt Nat instLTNat x.1 cell := by
        simp only [List.mem_cons, List.not_mem_nil, or_false] at hx
        rcases hx with rfl | rfl | rfl | rfl | rfl | rfl | rfl | rfl | rfl <;> (dsimp only; omega)
      have hi : @LE.le Nat instLENat cell q.1 := by
        simp only [List.mem_cons, List.not_mem_nil, or_false] at hq
        rcases hq with rfl | rfl | rfl | rfl | rfl | rfl | rfl | rfl | rfl <;> (dsimp only; omega)
      exact absurd (e9 ▸ hi : @LE.le Nat instLENat cell x.1) (Nat.not_le.mpr lo)
    case hnil =>
      intro h0 e' vs' z1' z5' t' h' tk' hs' F7 N7
      have hi := rem_nil hk pl hpl i h0
      have hi2 : i = (chunks k pl).length := by rw [chunks_n] at hi ⊢; omega
      have hl := line_last (pl := pl) (k := k) (i := i) hi
      have hw := words_last hi2
      have hrem : remC k pl (i + 1) = [] := by
        unfold remC
        rw [List.drop_eq_nil_of_le (Nat.le_succ_of_le hi)]; rfl
      rw [← hl] at N7
      refine LCg.CompEnd.intro F7 N7 (lexL w.params lx ld lpb sx sd spb fI c' cell sl2 ofn oc ocl e' vs' (lineN k pl (i + 1)) z1' u2 u3 u4 z5' u6 v1 v2 v3 v4 v5 v6 v7 ++ [(117, tabObj ps), (sl, W.listOf vsp.toArray e3), (ba, W.listOf vb.toArray e2), (pa, W.listOf vp.toArray e1), (L + 1 + 1 + 1 + 1 + 1, o5), (L + 1 + 1 + 1 + 1, o4), (L + 1 + 1 + 1, o3), (L + 1 + 1, oLex), (L + 1, o1)]) (sub1 (List.mem_append_right _ (.head _)) (sub1 (List.mem_append_right _ (.tail _ (.head _))) (sub1 (List.mem_append_right _ (.tail _ (.tail _ (.head _)))) fun x hx => mem_mid hx))) off0 trivial ⟨e', vs', z1', z5', rfl, ?_, ?_, ?_⟩
      · rw [hrem]; exact hs'
      · rw [hs'.len_eq]; exact Nat.zero_le _
      · rw [hw]; exact kct_snoc hys
    case htok =>
      rintro c r r' ⟨⟨b, hc⟩, rfl⟩ e' vs' z1' z5' t' h' tk' hs' hl' F7 N7
      have hl := line_succ hc
      have hw := words_succ hc
      rw [← hl] at N7
      refine LCg.CompEnd.intro F7 N7 (lexL w.params lx ld lpb sx sd spb fI c' cell sl2 ofn oc ocl e' vs' (lineN k pl (i + 1)) z1' u2 u3 u4 z5' u6 v1 v2 v3 v4 v5 v6 v7 ++ [(117, tabObj ps), (sl, W.listOf vsp.toArray e3), (ba, W.listOf vb.toArray e2), (pa, W.listOf vp.toArray e1), (L + 1 + 1 + 1 + 1 + 1, o5), (L + 1 + 1 + 1 + 1, o4), (L + 1 + 1 + 1, o3), (L + 1 + 1, oLex), (L + 1, o1)]) (sub1 (List.mem_append_right _ (.head _)) (sub1 (List.mem_append_right _ (.tail _ (.head _))) (sub1 (List.mem_append_right _ (.tail _ (.tail _ (.head _)))) fun x hx => mem_mid hx))) off0 trivial ⟨e', vs', z1', z5', rfl, hs', hl', ?_⟩
      rw [hw]; exact kct_snoc hys
end Mine
end
/-! WL -/
section
open PySem PySem.W PySem.Spec PySem.Calls PyProof.Rows
set_option maxRecDepth 100000
set_option maxHeartbeats 0
namespace Mine
theorem off1_of {D : Addr} : ∀ {l : List (Addr × Obj)}, (∀ p ∈ l, p.1 ≠ D) → LCg.Off1 D l
  | [], _ => trivial
  | _ :: _, h => ⟨h _ (.head _), off1_of fun p hp => h p (.tail _ hp)⟩
theorem fr_swap {h₀ h : Heap} {L : Addr} {m : Str → Option Value} {A B C D : Str} {a b c d : Option Value} (F : Fr h₀ L h (fun y => if y = A then a else if y = B then b else if y = C then c else if y = D then d else m y)) (ne : C ≠ D) :
    Fr h₀ L h (fun y => if y = A then a else if y = B then b else if y = D then d else if y = C then c else m y) := by
  have e : (fun y => if y = A then a else if y = B then b else if y = D then d else if y = C then c else m y) = (fun y => if y = A then a else if y = B then b else if y = C then c else if y = D then d else m y) := by
    funext y
    by_cases hc : y = C
    · subst hc
      simp [ne]
    · simp [hc]
  rw [e]; exact F
theorem pl_in (xs : List Int) : ∀ n ∈ List.map (fun k' : Int => k'.fmod 3) xs ++ [1, 0, 2], n = 0 ∨ n = 1 ∨ n = 2 := fun n hn => by
  rcases List.mem_append.mp hn with hn | hn
  · obtain ⟨k, _, rfl⟩ := List.mem_map.mp hn
    have h1 : 0 ≤ k.fmod 3 := Int.fmod_nonneg_of_pos _ (by decide)
    have h2 : k.fmod 3 < 3 := Int.fmod_lt_of_pos _ (by decide)
    omega
  · simp only [List.mem_cons, List.not_mem_nil, or_false] at hn
    rcases hn with rfl | rfl | rfl <;> simp
theorem len9 (l : List Int) (h : l.length ≤ 6) : (l ++ [1, 0, 2]).length ≤ 9 := by
  rw [List.length_append]; exact Nat.add_le_add_right h 3
theorem tryit.tw10154463363249124373 : True := trivial
theorem tryit.tw10337542907684842192 : True := trivial
theorem tryit.tw10390790367908188466 : True := trivial
theorem tryit.tw10447619870913373666 : True := trivial
theorem tryit.tw10449561813808838935 : True := trivial
theorem tryit.tw10550415907392431363 : True := trivial
theorem tryit.tw10849550577524796972 : True := trivial
theorem tryit.tw10898509900728437321 : True := trivial
theorem tryit.tw1096981810551151883 : True := trivial
theorem tryit.tw11038894895420181317 : True := trivial
theorem tryit.tw11182336026999490290 : True := trivial
theorem tryit.tw11401146456728798002 : True := trivial
theorem tryit.tw11473065030165575497 : True := trivial
theorem tryit.tw11605896720232442756 : True := trivial
theorem tryit.tw11703006441253606559 : True := trivial
theorem tryit.tw11758864872980664875 : True := trivial
theorem tryit.tw11965089898730565231 : True := trivial
theorem tryit.tw12352613093711107654 : True := trivial
theorem tryit.tw12406145768478555067 : True := trivial
theorem tryit.tw12502947891531572930 : True := trivial
theorem tryit.tw12601263769089828903 : True := trivial
theorem tryit.tw12667795865353867099 : True := trivial
theorem tryit.tw13023387703994170132 : True := trivial
theorem tryit.tw1312829307909587325 : True := trivial
theorem tryit.tw13197785301215425574 : True := trivial
theorem tryit.tw1322181661881621070 : True := trivial
theorem tryit.tw13264839945266910639 : True := trivial
theorem tryit.tw13340075000136761935 : True := trivial
theorem tryit.tw13466738832978646297 : True := trivial
theorem tryit.tw1366585869966357294 : True := trivial
theorem tryit.tw13665893455198899299 : True := trivial
theorem tryit.tw13733174604466988654 : True := trivial
theorem tryit.tw14075048411866398150 : True := trivial
theorem tryit.tw14088432224309636490 : True := trivial
theorem tryit.tw14773549225084002266 : True := trivial
theorem tryit.tw14814292797195934227 : True := trivial
theorem tryit.tw14897881548144854277 : True := trivial
theorem tryit.tw15013294736744364491 : True := trivial
theorem tryit.tw15104012128354752277 : True := trivial
theorem tryit.tw15164844153586446845 : True := trivial
theorem tryit.tw15180008802316059794 : True := trivial
theorem tryit.tw1560599313936076287 : True := trivial
theorem tryit.tw1578902042200037577 : True := trivial
theorem tryit.tw15821657068813217781 : True := trivial
theorem tryit.tw15822792526298124437 : True := trivial
theorem tryit.tw16117150345725148322 : True := trivial
theorem tryit.tw16133374839487860238 : True := trivial
theorem tryit.tw16294645430268270660 : True := trivial
theorem tryit.tw16313338259329414888 : True := trivial
theorem tryit.tw16388120478672692667 : True := trivial
theorem tryit.tw16401450869972462790 : True := trivial
theorem tryit.tw16411946554565487419 : True := trivial
theorem tryit.tw16701392650664896755 : True := trivial
theorem tryit.tw16867506928312146547 : True := trivial
theorem tryit.tw16891165354237883738 : True := trivial
theorem tryit.tw16938389394646304972 : True := trivial
theorem tryit.tw17066909165208452378 : True := trivial
theorem tryit.tw17105729510870644509 : True := trivial
theorem tryit.tw17189205115400454342 : True := trivial
theorem tryit.tw17394668420235403072 : True := trivial
theorem tryit.tw17464133085261543883 : True := trivial
theorem tryit.tw17491003741329480620 : True := trivial
theorem tryit.tw17746120862969850897 : True := trivial
theorem tryit.tw17788289779695574952 : True := trivial
theorem tryit.tw17857993378976982146 : True := trivial
theorem tryit.tw17868449040469172827 : True := trivial
theorem tryit.tw17996592586205301191 : True := trivial
theorem tryit.tw18030962842151695509 : True := trivial
theorem tryit.tw18092158652302378572 : True := trivial
theorem tryit.tw18399518425903795270 : True := trivial
theorem tryit.tw18415953764567911577 : True := trivial
theorem tryit.tw2181276044443466678 : True := trivial
theorem tryit.tw2267155213306566416 : True := trivial
theorem tryit.tw2364432800427253669 : True := trivial
theorem tryit.tw2384544949695494316 : True := trivial
theorem tryit.tw2392466533344275380 : True := trivial
theorem tryit.tw2589913574303758135 : True := trivial
theorem tryit.tw2642193711430124105 : True := trivial
theorem tryit.tw2650090882601106663 : True := trivial
theorem tryit.tw2761068088995021153 : True := trivial
theorem tryit.tw2859037907589676683 : True := trivial
theorem tryit.tw2949292297446291619 : True := trivial
theorem tryit.tw3135221046901735694 : True := trivial
theorem tryit.tw329505270631082650 : True := trivial
theorem tryit.tw3423615271199349340 : True := trivial
theorem tryit.tw3457410307621751173 : True := trivial
theorem tryit.tw3598235093673713345 : True := trivial
theorem tryit.tw3839203201879059052 : True := trivial
theorem tryit.tw3924522475312357737 : True := trivial
theorem tryit.tw400291766259433437 : True := trivial
theorem tryit.tw4072940700495382736 : True := trivial
theorem tryit.tw4231667676090342733 : True := trivial
theorem tryit.tw4373499310992506429 : True := trivial
theorem tryit.tw4529664789418418692 : True := trivial
theorem tryit.tw4548469495024353190 : True := trivial
theorem tryit.tw4646294787248019248 : True := trivial
theorem tryit.tw4694192718036623109 : True := trivial
theorem tryit.tw5162751109262246459 : True := trivial
theorem tryit.tw5236019794824836736 : True := trivial
theorem tryit.tw5333898161128795432 : True := trivial
theorem tryit.tw5459379236122208641 : True := trivial
theorem tryit.tw5475697719505268879 : True := trivial
theorem tryit.tw5476149362015466637 : True := trivial
theorem tryit.tw5491933330813411822 : True := trivial
theorem tryit.tw5654313159084627007 : True := trivial
theorem tryit.tw5858580302681091121 : True := trivial
theorem tryit.tw5916415864482627059 : True := trivial
theorem tryit.tw6037051057223156666 : True := trivial
theorem tryit.tw6047151846595573514 : True := trivial
theorem tryit.tw6054316255415469087 : True := trivial
theorem tryit.tw6194307971722059914 : True := trivial
theorem tryit.tw632437154256788784 : True := trivial
theorem tryit.tw651212179410668706 : True := trivial
theorem tryit.tw6664589725367637747 : True := trivial
theorem tryit.tw6688690417506561861 : True := trivial
theorem tryit.tw6913754630171773596 : True := trivial
theorem tryit.tw7105792070553325831 : True := trivial
theorem tryit.tw7227051436535586853 : True := trivial
theorem tryit.tw7355689570899368991 : True := trivial
theorem tryit.tw739929825227535330 : True := trivial
theorem tryit.tw7529013775199951622 : True := trivial
theorem tryit.tw758940959361647940 : True := trivial
theorem tryit.tw7801966795464268576 : True := trivial
theorem tryit.tw782545902993539357 : True := trivial
theorem tryit.tw7937606648298796605 : True := trivial
theorem tryit.tw812912644236283741 : True := trivial
theorem tryit.tw8293709197149320019 : True := trivial
theorem tryit.tw8335349642419860552 : True := trivial
theorem tryit.tw83888532478381352 : True := trivial
theorem tryit.tw844448669805083495 : True := trivial
theorem tryit.tw8452676397291900107 : True := trivial
theorem tryit.tw8698495803936429993 : True := trivial
theorem tryit.tw8742559059521967205 : True := trivial
theorem tryit.tw9001879859876309045 : True := trivial
theorem tryit.tw9024006445606205853 : True := trivial
theorem tryit.tw9157976214336090677 : True := trivial
theorem tryit.tw9191595395376401766 : True := trivial
theorem tryit.tw9650837870716631823 : True := trivial
theorem tryit.tw9675813268071409482 : True := trivial
theorem tryit.tw9797949682758359005 : True := trivial
theorem tryit.tw9870850326262523932 : True := trivial
theorem tryit.tw8258141134550702722 : True := trivial
theorem tryit.tw2160705134280490541 : True := trivial
theorem tryit.tw11178815512924386145 : True := trivial
set_option Elab.async true in
theorem tryit : PySem.Challenge.rw_to0047_01.Holds := by
  show RW.Holds
  w_on
  o_law
  o_head (kmHook KK (nat_lit 2 :: nat_lit 3 :: nat_lit 27 :: nat_lit 28 :: nat_lit 41 :: nat_lit 42 :: nat_lit 48 :: nat_lit 49 :: nat_lit 55 :: nat_lit 56 :: nat_lit 64 :: nat_lit 65 :: nat_lit 66 :: nat_lit 67 :: nat_lit 68 :: nat_lit 71 :: nat_lit 86 :: nat_lit 87 :: nat_lit 93 :: nat_lit 94 :: nat_lit 100 :: nat_lit 101 :: nat_lit 107 :: nat_lit 108 :: nat_lit 114 :: nat_lit 115 :: nat_lit 121 :: nat_lit 122 :: nat_lit 128 :: nat_lit 129 :: nat_lit 133 :: nat_lit 134 :: nat_lit 140 :: nat_lit 141 :: nat_lit 145 :: nat_lit 146 :: nat_lit 150 :: nat_lit 151 :: []) (fun P => keep_as P) [117])
  (case hw => w_witness2)
  have hA := @stageA
  conv at hA in lawRec.body.drop 5 => whnf
  repeat (conv at hA in lawRec.scope => whnf)
  k_go0
  all_goals try k_fold
  ((try clear mk0); have mk0 : Mark "execs cons"   := ⟨trivial⟩; (try clear mk1); have mk1 : Mark "call ref"   := ⟨trivial⟩; repeat' (first | ((with_reducible refine unhalt (x := "execs cons") ?_); first | ((with_reducible show wpAny _ _ (execs (Stmt.Assign [Expr.Name (Str.ofString "signs") _] _ _ :: _) _) _ _ _); (refine halt2 ?_)) | (clear mk0; walk1; all_goals (try (with_reducible refine addMark (x := "execs cons") fun mk0 => ?_)))) | ((with_reducible refine unhalt (x := "call ref") ?_); first | ((with_reducible show wpAny _ _ (call (Value.ref 129) _) _ _ _); (refine' hand_use (by k_asm) (by k_asm) (by k_asm) (by k_asm) (by exact ⟨Int.fmod_nonneg_of_pos _ (by decide), Int.fmod_lt_of_pos _ (by decide)⟩) (by ktr_room) (by ktr_units) ?_); (k_whole); (intro tq slq vsq hq tkq hsq Fq Nq neq); (have oa := off1_of fun p hp => (neq p hp).1); (have ob := off1_of fun p hp => (neq p hp).2); (clear neq); (simp only [LCg.Off1, and_true] at oa ob)) | (clear mk1; walk1; all_goals (try (with_reducible refine addMark (x := "call ref") fun mk1 => ?_)))) | (k_unfold; (try dsimp only)) | (k_end; kc_close) | walk1 | (dsimp only; walk1) | (leave1; (try dsimp only)) | fail "no step"))
  unfold Halt2
  rename Fr _ _ _ _ => F5
  rename News _ _ _ _ => N5
  rename IntsAre _ (List.reverse _) => hib
  rename IntsAre _ (_ ++ [1, 0, 2]) => hia
  rename StrsAre _ _ => hsp
  rename Top _ _ _ _ _ _ => T5
  rename Frag.In _ _ => X5
  rename CodeHd _ _ _ => C5
  have F6 := fr_swap F5 (by decide)
  have eh : ∀ xs : List Int, (((List.map (fun k' : Int => k'.fmod 3) xs).length + (1 + 1 + 1) : Nat) : Int) = ((List.map (fun k' : Int => k'.fmod 3) xs ++ [1, 0, 2]).length : Int) := fun xs => by simp
  rw [eh] at F6
  clear F5
  refine' hA ?T ?C ?F ?NA ?d5 ?d4 ?d3 ?d2 ?d1 ?hk ?hpl ?hplr ?hlen ?hlenr ?hia ?hib ?hsp ?l117 ?lp ?lsl ?hdp ?hu ?hret ?X
  case T => exact T5
  case C => exact C5
  case F => exact F6
  case NA => exact cb_drop N5 (sub1 (.tail _ (.head _)) (sub1 (.tail _ (.tail _ (.tail _ (.head _)))) (sub1 (.tail _ (.tail _ (.tail _ (.tail _ (.head _))))) (sub1 (.tail _ (.tail _ (.tail _ (.tail _ (.tail _ (.tail _ (.tail _ (.tail _ (.tail _ (.head _)))))))))) (sub1 (.tail _ (.tail _ (.tail _ (.tail _ (.tail _ (.tail _ (.tail _ (.tail _ (.tail _ (.tail _ (.head _))))))))))) (sub1 (.tail _ (.tail _ (.tail _ (.tail _ (.tail _ (.tail _ (.tail _ (.tail _ (.tail _ (.tail _ (.tail _ (.head _)))))))))))) (sub1 (.tail _ (.tail _ (.tail _ (.tail _ (.tail _ (.tail _ (.tail _ (.tail _ (.tail _ (.tail _ (.tail _ (.tail _ (.head _))))))))))))) (sub1 (.tail _ (.tail _ (.tail _ (.tail _ (.tail _ (.tail _ (.tail _ (.tail _ (.tail _ (.tail _ (.tail _ (.tail _ (.tail _ (.head _)))))))))))))) (sub1 (.tail _ (.tail _ (.tail _ (.tail _ (.tail _ (.tail _ (.tail _ (.tail _ (.tail _ (.tail _ (.tail _ (.tail _ (.tail _ (.tail _ (.head _))))))))))))))) sub0)))))))))
  case hia => exact hia
  case hib => exact hib
  case hsp => exact hsp
  case X => exact X5
  case hk => exact ⟨Int.fmod_nonneg_of_pos _ (by decide), Int.fmod_lt_of_pos _ (by decide)⟩
  case hpl => exact pl_in _
  case hplr => exact fun n hn => pl_in _ n (List.mem_reverse.mp hn)
  case d5 => k_dflt assumption
  case d4 => k_dflt assumption
  case d3 => k_dflt assumption
  case d2 => k_dflt assumption
  case d1 => k_dflt assumption
  case hlen => exact len9 _ (by simp only [List.length_map, List.length_take]; exact Nat.min_le_left _ _)
  case hlenr => rw [List.length_reverse]; exact len9 _ (by simp only [List.length_map, List.length_take]; exact Nat.min_le_left _ _)
  case l117 => assumption
  case lp => refine ⟨?_, ?_⟩ <;> omega
  case lsl => refine ⟨?_, ?_⟩ <;> omega
  case hdp => ktr_room
  case hu => ktr_units
  case hret =>
    intro ps m' h' tk F9 N9
    clear hA
    ((try clear mk0); have mk0 : Mark "execs cons"   := ⟨trivial⟩; (try clear mk1); have mk1 : Mark "call ref"   := ⟨trivial⟩; repeat' (first | ((with_reducible refine unhalt (x := "execs cons") ?_); first | ((with_reducible show wpAny _ _ (execs (Stmt.Assign [Expr.Name (Str.ofString "signs") _] _ _ :: _) _) _ _ _); (refine halt2 ?_)) | (clear mk0; walk1; all_goals (try (with_reducible refine addMark (x := "execs cons") fun mk0 => ?_)))) | ((with_reducible refine unhalt (x := "call ref") ?_); first | ((with_reducible show wpAny _ _ (call (Value.ref 129) _) _ _ _); (refine' hand_use (by k_asm) (by k_asm) (by k_asm) (by k_asm) (by exact ⟨Int.fmod_nonneg_of_pos _ (by decide), Int.fmod_lt_of_pos _ (by decide)⟩) (by ktr_room) (by ktr_units) ?_); (k_whole); (intro tq slq vsq hq tkq hsq Fq Nq neq); (have oa := off1_of fun p hp => (neq p hp).1); (have ob := off1_of fun p hp => (neq p hp).2); (clear neq); (simp only [LCg.Off1, and_true] at oa ob)) | (clear mk1; walk1; all_goals (try (with_reducible refine addMark (x := "call ref") fun mk1 => ?_)))) | (k_unfold; (try dsimp only)) | (k_end; kc_close) | walk1 | (dsimp only; walk1) | (leave1; (try dsimp only)) | fail "no step"))
end Mine
end
theorem PySem.Challenge.cw_to0047_01_holds : PySem.Challenge.rw_to0047_01.Holds :=
  Mine.tryit
